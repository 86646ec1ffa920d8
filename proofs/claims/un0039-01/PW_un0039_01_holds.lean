import PyProof.Rows.All
import Wide.All
import OpenK.AllK
import Wide.FinOn
import Lean
import PySem.Challenge.RW_un0039_01
open PySem PySem.W PyProof.Rows PySem.Calls
set_option Elab.async false
set_option linter.unusedVariables false
set_option maxRecDepth 100000
set_option maxHeartbeats 8000000
namespace Mine
section
theorem noRaise {α : Type} {M : Model} {A : Around} {t : Sem α} {Q : α → Shared → Prop} {E : Value → Shared → Prop} {s : Shared} (h : wpAny M A t Q (fun _ _ => False) s) : wpAny M A t Q E s := wpAny_mono h (fun _ _ x => x) fun _ _ x => x.elim

section
variable {prog : Program} {w : World} {A : Around} {E : Value → Shared → Prop} {s : Shared} {env : Env} {h₀ : Heap} {target : Expr} {body : List Stmt} {Q : Flow → Shared → Prop}

/-- a loop over known items by what holds between its turns; the ledger keeps its addresses -/
theorem itemsInv {ws : List (Addr × String)} {keep : List (Addr × Obj)} {xs : List Itm} {m₀ : Str → Option Value} {news : List (Addr × Obj)} (J : Nat → (Str → Option Value) → List (Addr × Obj) → Prop)
    (hws : ∀ p ∈ news, ∀ q ∈ ws, p.1 ≠ q.1) (hkeep : ∀ i m nx, J i m nx → SubL keep nx) (h0 : J 0 m₀ news)
    (step : ∀ i a m₁ news₁ v h tk, xs[i]? = some a → J i m₁ news₁ → news₁.map (·.1) = news.map (·.1) → a.Is v h → Fr h₀ env.locals h m₁ → AllObj ws (fun its => News h₀ env.locals h (its ++ news₁) →
      wpAny (model prog w) A (assign target env v) (fun _ s₂ => wpAny (model prog w) A (execs body env) (InvPostN h₀ env.locals (J (i + 1)) its (news.map (·.1)) { s with heap := h, toks := tk } Q) E s₂) E { s with heap := h, toks := tk }))
    (done : ∀ m₁ news₁ h tk, J xs.length m₁ news₁ → Fr h₀ env.locals h m₁ → News h₀ env.locals h news₁ → Q .next { s with heap := h, toks := tk }) :
    ItemsRest prog w A E h₀ env target body Q s ws keep xs m₀ news := by
  have hobj : ∀ (ws : List (Addr × String)) (k k' : List (Addr × Obj) → Prop), (∀ its, its.map (·.1) = ws.map (·.1) → k its → k' its) → AllObj ws k → AllObj ws k' := by
    intro ws
    induction ws with
    | nil => intro k k' h x; exact h [] rfl x
    | cons w r ih =>
      intro k k' h x o ho
      exact ih _ _ (fun its e y => h _ (by simp [e]) y) (x o ho)
  suffices ∀ j m₁ news₁, j ≤ xs.length → news₁.map (·.1) = news.map (·.1) → J j m₁ news₁ → ItemsRest prog w A E h₀ env target body Q s ws keep (xs.drop j) m₁ news₁ from this 0 m₀ news (Nat.zero_le _) rfl h0
  intro j
  obtain ⟨n, hn⟩ : ∃ n, n = xs.length - j := ⟨_, rfl⟩
  induction n generalizing j with
  | zero =>
    intro m₁ news₁ hj ha hJ
    have : j = xs.length := by omega
    subst this
    rw [List.drop_length]
    exact fun h tk F N => done m₁ news₁ h tk hJ F N
  | succ n ih =>
    intro m₁ news₁ hj ha hJ
    have hlt : j < xs.length := by omega
    rw [List.drop_eq_getElem_cons hlt]
    intro v h tk hv F
    refine hobj ws _ _ (fun its hits k N => ?_) (step j xs[j] m₁ news₁ v h tk (List.getElem?_eq_getElem hlt) hJ ha hv F)
    refine wpAny_mono (k N) (fun _ s₂ h₂ => wpAny_mono h₂ (fun f s₃ p => ?_) fun _ _ e => e) fun _ _ e => e
    have fin : InvEndN h₀ env.locals (J (j + 1)) its (news.map (·.1)) { s with heap := h, toks := tk } s₃ → UnrEndW h₀ env.locals { s with heap := h, toks := tk } its (fun m' n' => SubL keep n' ∧ ItemsRest prog w A E h₀ env target body Q s ws keep (xs.drop (j + 1)) m' n') s₃ := by
      rintro ⟨h', tk', m', news', nx, e, F', N', hn', ho', ha', hJ'⟩
      refine ⟨h', tk', m', nx, e, F', fun p hp => ?_, fun p hp q hq e => ?_, hkeep _ _ _ hJ', ih (j + 1) (by omega) m' nx hlt ha' hJ'⟩
      · rcases List.mem_append.mp hp with hp | hp
        · exact N' p (ho' p hp)
        · exact N' p (hn' p hp)
      · have h1 : p.1 ∈ news.map (·.1) := by rw [← ha']; exact List.mem_map_of_mem hp
        have h2 : q.1 ∈ ws.map (·.1) := by rw [← hits]; exact List.mem_map_of_mem hq
        obtain ⟨p', hp', e1⟩ := List.mem_map.mp h1
        obtain ⟨q', hq', e2⟩ := List.mem_map.mp h2
        exact hws p' hp' q' hq' (by rw [e1, e2, e])
    cases f with
    | ret v => exact p
    | brk => exact p
    | next => exact fin p
    | cont => exact fin p

/-- the iterator of a list of the ledger, made without a raise; the turns may raise -/
theorem listTurns {E' : Value → Shared → Prop} {l : Addr} {lo : Obj} {vs : List Value} {n : Nat} {m₀ : Str → Option Value} {news : List (Addr × Obj)}
    (hh : A.handled = none) (F : Fr h₀ env.locals s.heap m₀) (N : News h₀ env.locals s.heap news) (hm : (l, lo) ∈ news) (hc : lo.cls = .type "list") (hd : lo.data = .seq vs.toArray n)
    (rest₀ : ∀ I : Addr, (∀ p ∈ news, p.1 < I) → ItemsRest prog w A E h₀ env target body Q s [(I, "list_iterator")] [(l, lo)] (vs.map .val) m₀ news) :
    wpAny (model prog w) A (pyIter (.ref l)) (fun it s₂ => TurnsAt prog w A h₀ env target body Q E it s₂) E' s := by
  have hl := N _ hm
  have hL : s.heap.IsList l vs.toArray := ⟨lo, hl.1, hc, n, hd⟩
  have hlt : l < s.heap.objs.size := Heap.lt_size hl.1
  refine wpAny_pyIter_list hL ?_
  have one : ∀ b, b ∈ [s.heap.objs.size] → b = s.heap.objs.size := fun b hb => List.mem_singleton.mp hb
  refine ktu_core (tk0 := s.toks) (keep := [(l, lo)]) (KTurns.ofWalks (Walks.list hh s.heap.objs.size l (Nat.ne_of_lt hlt) vs.toArray) fun i v s Q E st q => letGo_listiter st.1 q) (by simp)
    (fun i v h hp => ⟨.val v, by have hp' : vs.toArray[i]? = some v := hp; simpa using hp', rfl⟩)
    (fun i h st => by obtain ⟨o, ho, hc', _⟩ := st.1; exact ⟨[(s.heap.objs.size, o)], ⟨⟨rfl, hc'⟩, trivial⟩, fun p hp => by rw [List.mem_singleton.mp hp]; exact ho⟩)
    (fun b hb => by have e : b = s.heap.objs.size := by simpa using hb
                    rw [e]; exact ⟨List.mem_cons_self .., next_is_new F⟩)
    (fun b hb => by simpa using hb)
    (fun b hb => by have e : b = s.heap.objs.size ∨ b = l := by simpa using hb
                    rcases e with e | e
                    · exact .inl (by simp [e])
                    · exact .inr ⟨lo, by simp [e]⟩)
    (fun hI => ?_) (fun p hp hI => absurd (Heap.lt_size (N p hp).1) (one _ hI ▸ Nat.lt_irrefl _)) ⟨⟨_, Heap.get?_push_size _ rfl, rfl, rfl⟩, hL.at fun o e => Heap.get?_push_of_some _ e⟩
    (F.push _) (fun p hp => ⟨Heap.get?_push_of_some _ (N p hp).1, (N p hp).2⟩) ⟨hm, trivial⟩ (rest₀ _ fun p hp => Heap.lt_size (N p hp).1)
  rcases List.mem_cons.mp hI with e | hI
  · exact absurd F.ns.lt (e ▸ Nat.lt_irrefl _)
  · exact hl.2.1 (List.mem_singleton.mp hI).symm

/-- a for over a list of the ledger -/
theorem forList {E' : Value → Shared → Prop} {l : Addr} {lo : Obj} {vs : List Value} {n : Nat} {m₀ : Str → Option Value} {news : List (Addr × Obj)} (J : Nat → (Str → Option Value) → List (Addr × Obj) → Prop)
    (hh : A.handled = none) (F : Fr h₀ env.locals s.heap m₀) (N : News h₀ env.locals s.heap news) (hm : (l, lo) ∈ news) (hc : lo.cls = .type "list") (hd : lo.data = .seq vs.toArray n)
    (hkeep : ∀ i m nx, J i m nx → (l, lo) ∈ nx) (h0 : J 0 m₀ news)
    (step : ∀ i v I o m₁ news₁ h tk, vs[i]? = some v → o.cls = .type "list_iterator" → (∀ p ∈ news, p.1 < I) → J i m₁ news₁ → news₁.map (·.1) = news.map (·.1) → Fr h₀ env.locals h m₁ → News h₀ env.locals h ((I, o) :: news₁) →
      wpAny (model prog w) A (assign target env v) (fun _ s₂ => wpAny (model prog w) A (execs body env) (InvPostN h₀ env.locals (J (i + 1)) [(I, o)] (news.map (·.1)) { s with heap := h, toks := tk } Q) E s₂) E { s with heap := h, toks := tk })
    (done : ∀ m₁ news₁ h tk, J vs.length m₁ news₁ → Fr h₀ env.locals h m₁ → News h₀ env.locals h news₁ → Q .next { s with heap := h, toks := tk }) :
    wpAny (model prog w) A (pyIter (.ref l)) (fun it s₂ => TurnsAt prog w A h₀ env target body Q E it s₂) E' s := by
  refine listTurns hh F N hm hc hd fun I hI => itemsInv J (fun p hp q hq => ?_) (fun i m nx h => ⟨hkeep i m nx h, trivial⟩) h0 ?_ (by simpa using done)
  · have := List.mem_singleton.mp hq; subst this; exact Nat.ne_of_lt (hI p hp)
  · intro i a m₁ news₁ v h tk ha hJ hadr hv F₁ o ho N₁
    have : vs[i]? = some v := by
      rw [List.getElem?_map] at ha
      cases hx : vs[i]? with
      | none => rw [hx] at ha; cases ha
      | some u => rw [hx] at ha; cases ha; exact congrArg some hv.symm
    exact step i v I o m₁ news₁ h tk this ho hI hJ hadr F₁ N₁

/-- a for over a tuple of the ledger -/
theorem forTup {l : Addr} {lo : Obj} {vs : List Value} {n : Nat} {m₀ : Str → Option Value} {news : List (Addr × Obj)} (J : Nat → (Str → Option Value) → List (Addr × Obj) → Prop)
    (hh : A.handled = none) (F : Fr h₀ env.locals s.heap m₀) (N : News h₀ env.locals s.heap news) (hm : (l, lo) ∈ news) (hc : lo.cls = .type "tuple") (hd : lo.data = .seq vs.toArray n)
    (hkeep : ∀ i m nx, J i m nx → (l, lo) ∈ nx) (h0 : J 0 m₀ news)
    (step : ∀ i v I o m₁ news₁ h tk, vs[i]? = some v → o.cls = .type "tuple_iterator" → (∀ p ∈ news, p.1 < I) → J i m₁ news₁ → news₁.map (·.1) = news.map (·.1) → Fr h₀ env.locals h m₁ → News h₀ env.locals h ((I, o) :: news₁) →
      wpAny (model prog w) A (assign target env v) (fun _ s₂ => wpAny (model prog w) A (execs body env) (InvPostN h₀ env.locals (J (i + 1)) [(I, o)] (news.map (·.1)) { s with heap := h, toks := tk } Q) E s₂) E { s with heap := h, toks := tk })
    (done : ∀ m₁ news₁ h tk, J vs.length m₁ news₁ → Fr h₀ env.locals h m₁ → News h₀ env.locals h news₁ → Q .next { s with heap := h, toks := tk }) :
    wpAny (model prog w) A (pyIter (.ref l)) (fun it s₂ => TurnsAt prog w A h₀ env target body Q E it s₂) E s := by
  refine iter_tupTurns hh F N hm hc hd fun I hI => itemsInv J (fun p hp q hq => ?_) (fun i m nx h => ⟨hkeep i m nx h, trivial⟩) h0 ?_ (by simpa using done)
  · have := List.mem_singleton.mp hq; subst this; exact Nat.ne_of_lt (hI p hp)
  · intro i a m₁ news₁ v h tk ha hJ hadr hv F₁ o ho N₁
    have : vs[i]? = some v := by
      rw [List.getElem?_map] at ha
      cases hx : vs[i]? with
      | none => rw [hx] at ha; cases ha
      | some u => rw [hx] at ha; cases ha; exact congrArg some hv.symm
    exact step i v I o m₁ news₁ h tk this ho hI hJ hadr F₁ N₁

/-- the frame's map with a name shown -/
theorem frShow {L : Addr} {h : Heap} {m : Str → Option Value} (F : Fr h₀ L h m) (x : Str) {v : Value} (hx : m x = some v) : Fr h₀ L h (fun y => if y = x then some v else m y) := by
  have : (fun y => if y = x then some v else m y) = m := by
    funext y
    by_cases e : y = x
    · rw [if_pos e, e, hx]
    · rw [if_neg e]
  rw [this]; exact F
end
theorem nameIt {news : List (Addr × Obj)} {D : Addr} (h : ∀ p ∈ news, p.1 < D) : ∃ D', D' = D ∧ ∀ p ∈ news, p.1 < D' := ⟨D, rfl, h⟩
section
variable {h₀ : Heap} {L : Addr} {h : Heap} {m : Str → Option Value}
theorem frShow2 (F : Fr h₀ L h m) (x y : Str) {v u : Value} (hx : m x = some v) (hy : m y = some u) : Fr h₀ L h (fun z => if z = x then some v else if z = y then some u else m z) :=
  frShow (frShow F y hy) x (by by_cases e : x = y <;> simp_all)
theorem frShow3 (F : Fr h₀ L h m) (x y z : Str) {v u w : Value} (hx : m x = some v) (hy : m y = some u) (hz : m z = some w) : Fr h₀ L h (fun n => if n = x then some v else if n = y then some u else if n = z then some w else m n) :=
  frShow (frShow2 F y z hy hz) x (by by_cases e : x = y <;> by_cases e' : x = z <;> simp_all)
theorem frShow4 (F : Fr h₀ L h m) (x y z t : Str) {v u w o : Value} (hx : m x = some v) (hy : m y = some u) (hz : m z = some w) (ht : m t = some o) : Fr h₀ L h (fun n => if n = x then some v else if n = y then some u else if n = z then some w else if n = t then some o else m n) :=
  frShow (frShow3 F y z t hy hz ht) x (by by_cases e : x = y <;> by_cases e' : x = z <;> by_cases e'' : x = t <;> simp_all)
end
theorem ne_of_lts {news : List (Addr × Obj)} {D : Addr} (h : ∀ p ∈ news, p.1 < D) : ∀ p ∈ news, p.1 ≠ D := fun p hp => Nat.ne_of_lt (h p hp)
theorem sizeLine_ge : 100000 ≤ sizeLine := by rw [sizeLine_eq]; decide
/-- a call that no contract meets: the walk stops there -/
def Stuck (P : Prop) : Prop := P
theorem Stuck.out {P : Prop} (h : Stuck P) : P := h
end
section
theorem issub_nested_str {prog : Program} {w : World} {A : Around} {E : Value → Shared → Prop} {s : Shared} {k : Value} {dep : Int} {tk : Tok} {Q : Fin → Shared → Prop} (hk : k = .int dep tk) (hq : Q (.done (.ret (.bool true))) s) :
    wpAny (model prog w) A (Builtin.«issubclass.nested» ⟨[.type "str", .type "str", k], []⟩) Q E s := by
  subst hk
  have h1 : typeOf (.type "str") = pure (.type "type") := PySem.F.isi_meta_str
  have h2 := PySem.F.sub_str_str
  repeat (any_goals (first | assumption | wp_step))
theorem issub_nested_meets {tk : Tok} {dep : Int} : Meets (Builtin.«issubclass.nested» ⟨[.type "str", .type "str", .int dep tk], []⟩) (fun _ R s => R (.ok (.ret (.bool true))) s) :=
  fun _ _ _ _ _ hs => issub_nested_str rfl hs
theorem kind_issub_nested : builtinKind "issubclass.nested" = none := by decide +kernel
theorem plain_issub_nested : plainId "issubclass.nested" = true := by decide +kernel
theorem args_issub_nested (a b c : Value) : argsOk "issubclass.nested" ⟨[a, b, c], []⟩ := by unfold argsOk; kernel_rfl
theorem issub_nested_tuple {prog : Program} {w : World} {A : Around} {E : Value → Shared → Prop} {s : Shared} {tp : Addr} {rest cs : List Value} {k : Value} {tk : Tok} {Q : Fin → Shared → Prop} (hk : k = .int 0 tk)
    (htp : s.heap.get? tp = some { cls := .type "tuple", data := .seq cs.toArray }) (hcs : cs = .type "str" :: rest) (hq : ∀ tk', Q (.done (.ret (.bool true))) { s with toks := tk' }) :
    wpAny (model prog w) A (Builtin.«issubclass.nested» ⟨[.type "str", .ref tp, k], []⟩) Q E s := by
  subst hk
  obtain ⟨h, g, d, t, os⟩ := s
  have hT2 : (⟨h, g, d, t, os⟩ : Shared).TypeIs (.ref tp) "tuple" := ⟨_, htp, rfl⟩
  have f1 := PySem.F.isi_sub_tuple
  repeat (any_goals (first | assumption | wp_step))
  refine wpAny_arrayLoop ?_
  simp only [Option.getD_some, List.toList_toArray]
  subst hcs
  rw [List.forIn_cons]
  refine wpAny_bind (wpAny_bind (call_function_meets kind_issub_nested plain_issub_nested PySem.F.entry_issubclass_nested (args_issub_nested _ _ _) issub_nested_meets ?_))
  show wpAny _ _ (truthy (.bool true) >>= _) _ _ _
  refine wpAny_bind (m := truthy (.bool true)) (wpAny_pure ?_)
  repeat (any_goals (first | exact hq _ | assumption | wp_step))
theorem call_issub {prog : Program} {w : World} {A : Around} {E : Value → Shared → Prop} {s : Shared} {tp : Addr} {rest : List Value} {Q : Value → Shared → Prop}
    (htp : s.heap.get? tp = some { cls := .type "tuple", data := .seq (.type "str" :: rest).toArray }) (hq : ∀ tk', Q (.bool true) { s with toks := tk' }) :
    wpAny (model prog w) A (call (.builtin "issubclass") [.type "str", .ref tp]) Q E s :=
  call_issubclass (S := fun _ R s => s.heap.get? tp = some { cls := .type "tuple", data := .seq (.type "str" :: rest).toArray } ∧ ∀ tk', R (.ok (.ret (.bool true))) { s with toks := tk' })
    (fun _ _ _ _ _ hs => issubclass_outer (issub_nested_tuple rfl hs.1 rfl hs.2)) ⟨htp, hq⟩
end
section
def dedupL (xs : List Str) : List Str := xs.foldl (fun acc x => if x ∈ acc then acc else acc ++ [x]) []
theorem dedupL_snoc (xs : List Str) (x : Str) : dedupL (xs ++ [x]) = if x ∈ dedupL xs then dedupL xs else dedupL xs ++ [x] := by
  unfold dedupL; rw [List.foldl_append]; rfl
theorem dedupL_len (xs : List Str) : (dedupL xs).length ≤ xs.length := by
  have : ∀ (xs acc : List Str), (xs.foldl (fun acc x => if x ∈ acc then acc else acc ++ [x]) acc).length ≤ acc.length + xs.length := by
    intro xs
    induction xs with
    | nil => intro acc; simp
    | cons x r ih =>
      intro acc
      rw [List.foldl_cons]
      refine Nat.le_trans (ih _) ?_
      split <;> simp <;> omega
  have h := this xs []
  rw [List.length_nil, Nat.zero_add] at h
  exact h
theorem any_beq_mem {xs : List Str} {x : Str} : (xs.any fun y => y == x) = true ↔ x ∈ xs := by
  rw [List.any_eq_true]
  constructor
  · rintro ⟨y, hy, e⟩; rw [← eq_of_beq e]; exact hy
  · intro h; exact ⟨x, h, by simp⟩
end
section
/-- an exception in flight: its object, its traceback's entry -/
structure Fly (h : Heap) (e tb : Addr) (X : String) (fl : Value) : Prop where
  there : ∃ ob vs otb tvs, h.get? e = some ob ∧ ob.cls = .type X ∧ ob.data = .fields vs ∧ vs[1]? = some (.ref tb) ∧ h.get? tb = some otb ∧ otb.data = .fields tvs ∧ tvs[3]? = some fl ∧ tb ≠ e
/-- all stays but the frames' slots and what is new -/
def KeepBut (S : List Addr) (g h : Heap) : Prop := (∀ b o, g.get? b = some o → b ∉ S → h.get? b = some o) ∧ ∀ b o, g.get? b = some o → b ∈ S → ∃ sl, h.get? b = some { o with slots := sl }
theorem KeepBut.trans {S : List Addr} {g h k : Heap} (x : KeepBut S g h) (y : KeepBut S h k) : KeepBut S g k :=
  ⟨fun b o e n => y.1 b o (x.1 b o e n) n, fun b o e n => let ⟨_, e1⟩ := x.2 b o e n; let ⟨sl, e2⟩ := y.2 b _ e1 n; ⟨sl, e2⟩⟩
theorem KeepBut.of_keeps {S : List Addr} {g h : Heap} (k : ∀ b o, g.get? b = some o → h.get? b = some o) : KeepBut S g h := ⟨fun b o e _ => k b o e, fun b o e _ => ⟨o.slots, k b o e⟩⟩
section
variable {M : Model} {A : Around} {E : Value → Shared → Prop} {s : Shared} {env : Env} {outer : List Env} {L e tb : Addr} {X : String} {base : Heap}
theorem note_new2 {h : Heap} {Q : Unit → Shared → Prop} (hfr : A.frames = some (env :: outer)) (hl : s.heap.FunFrames base (env :: outer)) (hf : env.frame = some L) (hx : Heap.NewExc h s.heap e X)
    (k : ∀ h' tb, Fly h' e tb X (rawInt L) → s.heap.get? tb = none → KeepBut ((env :: outer).filterMap (·.frame)) h h' → Q () { s with heap := h' }) :
    wpAny M A (noteFrame (.ref e) env) Q E s := by
  obtain ⟨oe, tt, he, hcls, hd⟩ := hx.there
  have hS : ∀ b, b ∈ (env :: outer).filterMap (·.frame) → b ≠ e := fun b hb q => by
    obtain ⟨_, o, ho, hn⟩ := hl.mem hb
    rw [q, he] at ho; injection ho with ho; subst ho; exact hn _ hd
  unfold noteFrame
  simp only [hf]
  refine wpAny_bind (wpAny_field he hd (x := .none) rfl ?_)
  rw [if_neg (by decide)]
  refine wpAny_bind (wpAny_frameOf_fun hfr hl hf fun h₁ hs₁ => ?_)
  refine wpAny_bind (wpAny_entryPlaceOf fun pl hpl => ?_)
  unfold EntryCells.newEntry newFields
  refine wpAny_bind (wpAny_newObj_type ?_ (hpl.sizeOk5 _ _ _ _ _))
  have he₁ : h₁.get? e = some oe := (hs₁.2.1 e fun q => hS e q rfl).trans he
  have he₂ := Heap.get?_push_of_some (h := h₁) { cls := .type "traceback", dict := none, data := .fields ([Value.none, .ref L, .none, rawInt L, .none] ++ (if pl.isEmpty then List.replicate 6 Value.none else pl)).toArray } he₁
  refine wpAny_setField he₂ hd (by simp) ?_
  have hTe : h₁.objs.size ≠ e := Nat.ne_of_gt (Heap.lt_size he₁)
  have hd₃ := Obj.data_mapFields hd (·.setIfInBounds 1 (Value.ref h₁.objs.size))
  refine k _ h₁.objs.size ⟨_, _, { cls := .type "traceback", dict := none, data := .fields ([Value.none, .ref L, .none, rawInt L, .none] ++ (if pl.isEmpty then List.replicate 6 Value.none else pl)).toArray }, _, Heap.get?_update_self _ he₂ (Obj.isFreed_of_fields hd₃), ?_, hd₃, ?_, ?_, rfl, ?_, hTe⟩ (Heap.get?_none_of_le (by rw [hs₁.1]; exact Nat.le_refl _)) ⟨fun b o hb hn => ?_, fun b o hb hm => ?_⟩
  · obtain ⟨c, d, dt, sl⟩ := oe; cases dt <;> exact hcls
  · simp
  · rw [Heap.get?_update_other _ _ (Ne.symm hTe)]
    exact Heap.get?_push_size h₁ rfl
  · simp
  · have hbe : b ≠ e := fun q => by rw [q, hx.new] at hb; cases hb
    rw [Heap.get?_update_other _ _ (Ne.symm hbe)]
    exact Heap.get?_push_of_some _ ((hs₁.2.1 b hn).trans (hx.keeps b o hb))
  · obtain ⟨sl, e1⟩ := hs₁.2.2 b o (hx.keeps b o hb)
    refine ⟨sl, ?_⟩
    rw [Heap.get?_update_other _ _ (Ne.symm (hS b hm))]
    exact Heap.get?_push_of_some _ e1
theorem Fly.flight {h : Heap} {fl : Value} (x : Fly s.heap e tb X fl) (f : Option Addr) {Q : Unit → Shared → Prop} (hn : h.get? tb = none)
    (k : ∀ h', Fly h' e tb X (f.elim .none fun f => rawInt f) → (∀ b o, h.get? b = some o → s.heap.get? b = some o → h'.get? b = some o) → (∀ b o, s.heap.get? b = some o → b ≠ tb → h'.get? b = some o) → Q () { s with heap := h' }) :
    wpAny M A (setFlight (.ref e) f) Q E s := by
  obtain ⟨ob, vs, otb, tvs, he, hc, hd, h1, ht, htd, h3, hne⟩ := x.there
  have hsz : 3 < tvs.size := (Array.getElem?_eq_some_iff.mp h3).1
  unfold setFlight
  refine wpAny_bind (wpAny_field he hd h1 ?_)
  rw [if_pos (show (Value.ref tb != Value.none) = true from by simp)]
  refine wpAny_setField ht htd hsz (k _ ⟨ob, vs, _, _, (Heap.get?_update_other _ _ hne).trans he, hc, hd, h1, Heap.get?_update_self _ ht (Obj.isFreed_of_fields (Obj.data_mapFields htd _)), Obj.data_mapFields htd _, by simp [Array.getElem?_setIfInBounds, hsz], hne⟩ (fun b o e1 e2 => ?_) fun b o e1 e2 => (Heap.get?_update_other _ _ (Ne.symm e2)).trans e1)
  have : b ≠ tb := fun q => by rw [q, hn] at e1; cases e1
  exact (Heap.get?_update_other _ _ (Ne.symm this)).trans e2
theorem Fly.back {fl : Value} (x : Fly s.heap e tb X fl) {h : Heap} (hn : h.get? tb = none) (f : Option Addr) (hf : env.frame = f)
    (k : ∀ h', Fly h' e tb X (f.elim .none fun f => rawInt f) → (∀ b o, s.heap.get? b = some o → b ≠ tb → h'.get? b = some o) → E (.ref e) { s with heap := h' }) : cameBackBy M A env E (.ref e) s := by
  unfold cameBackBy
  obtain ⟨ob, vs, otb, tvs, he, hc, hd, h1, ht, htd, h3, hne⟩ := x.there
  refine wpAny_bind (wpAny_field he hd h1 ?_)
  rw [if_neg (show ¬ (Value.ref tb == Value.none) = true from by simp)]
  subst hf
  exact x.flight _ hn fun h' x' _ kk => k h' x' kk
end
section
variable {prog : Program} {w : World} {A : Around} {E : Value → Shared → Prop} {s : Shared} {env : Env} {outer : List Env} {L e : Addr} {X : String} {base : Heap}
/-- a ValueError raised in a loop of the try's body, met by the try's own clause -/
theorem caughtV {h : Heap} {x : Str} {np : Pos} {b₀ : Stmt} {suite : List Stmt} {pos : Pos} {rest : List ExceptHandler} {Q : Flow → Shared → Prop}
    (hfr : A.frames = some (env :: outer)) (hl : s.heap.FunFrames base (env :: outer)) (hf : env.frame = some L) (hx : Heap.NewExc h s.heap e "ValueError")
    (hname : ∀ h', KeepBut ((env :: outer).filterMap (·.frame)) h h' → ∀ Q : Value → Shared → Prop, Q (.type "ValueError") { s with heap := h' } → wpAny (model prog w) (A.mark (some (.ref e))) (eval (.Name x np) env) Q (fun _ _ => False) { s with heap := h' })
    (k : ∀ h', KeepBut ((env :: outer).filterMap (·.frame)) h h' → wpAny (model prog w) (A.mark (some (.ref e))) (execs (b₀ :: suite) env) Q (fun _ _ => False) { s with heap := h' }) :
    notedBy (model prog w) A env (cameBackBy (model prog w) A env (fun e s₁ => wpAny (model prog w) A (noteFrame e env) (fun _ s₂ => wpAny (model prog w) A (setFlight e none) (fun _ s₃ => wpAny (model prog w) A (handleBy e env (.ExceptHandler (some (.Name x np)) none (b₀ :: suite) pos :: rest)) Q E s₃) E s₂) E s₁)) (.ref e) s := by
  unfold notedBy
  refine note_new2 hfr hl hf hx fun h₁ tb F₁ ht K₁ => ?_
  have hth : h.get? tb = none := by
    cases q : h.get? tb with
    | none => rfl
    | some o => rw [hx.keeps _ _ q] at ht; cases ht
  have K2 : ∀ {g g' : Heap}, KeepBut ((env :: outer).filterMap (·.frame)) h g → (∀ b o, g.get? b = some o → b ≠ tb → g'.get? b = some o) → KeepBut ((env :: outer).filterMap (·.frame)) h g' := by
    intro g g' K kk
    refine ⟨fun b o e n => kk b o (K.1 b o e n) fun q => ?_, fun b o e n => ?_⟩
    · rw [q, hth] at e; cases e
    · obtain ⟨sl, e1⟩ := K.2 b o e n
      exact ⟨sl, kk b _ e1 fun q => by rw [q, hth] at e; cases e⟩
  refine F₁.back (h := h) hth _ hf fun h₂ F₂ kk₂ => ?_
  obtain ⟨ob, vs, otb, tvs, he, hc, hd, h1, htb, htd, h3, hne⟩ := F₂.there
  refine wpAny_noteFrame_inFlight hf he hd h1 htb htd h3 ?_
  refine F₂.flight (h := h) none hth fun h₃ F₃ _ kk₃ => ?_
  have K₃ := K2 (K2 K₁ kk₂) kk₃
  obtain ⟨ob, vs, otb, tvs, he, hc, hd, h1, htb, htd, h3, hne⟩ := F₃.there
  refine wpAny_handleBy_builtin (X := "ValueError") (T := "ValueError") (b := true) (isSubtype_of_subB (by decide +kernel)) (isSubtype_of_subB (by decide +kernel)) (isSubtype_of_subB (by decide +kernel)) ?_
  refine wpAny_mono (hname h₃ K₃ (fun c s₁ => c = .type "ValueError" ∧ s₁ = { s with heap := h₃ }) ⟨rfl, rfl⟩) (fun c s₁ q => ?_) fun _ _ q => q.elim
  obtain ⟨rfl, rfl⟩ := q
  refine ⟨rfl, ⟨ob, he, hc⟩, ?_⟩
  rw [if_pos rfl]
  refine F₃.flight (h := h) none hth fun h₄ F₄ _ kk₄ => ?_
  exact wpAny_mono (k h₄ (K2 K₃ kk₄)) (fun _ _ q => q) fun _ _ q => q.elim
end
end
section
/-- what is left when each of the first is taken once out of the second; none if one is not there -/
def rmAll : List Str → List Str → Option (List Str)
  | [], t => some t
  | x :: r, t => if x ∈ t then rmAll r (t.erase x) else none
def cmpF (xs ys : List Str) : Bool := rmAll (dedupL xs) (dedupL ys) == some []
theorem rmAll_append (xs ys t : List Str) : rmAll (xs ++ ys) t = (rmAll xs t).bind (rmAll ys) := by
  induction xs generalizing t with
  | nil => rfl
  | cons x r ih =>
    simp only [List.cons_append, rmAll]
    split
    · exact ih _
    · rfl
theorem strs_at {x : Str} : ∀ {vs : List Value} {ts : List Str}, StrsAre vs ts → x ∈ ts → ∃ j, ∃ hj : j < vs.length, isStrOf x vs[j] = true ∧ (∀ m (hm : m < vs.length), m < j → isStrOf x vs[m] = false) ∧ StrsAre (vs.eraseIdx j) (ts.erase x)
  | _, _, .nil, h => by cases h
  | _, _, .cons (vs := vs) (ys := ts) y t h, hx => by
    by_cases e : y = x
    · subst e
      refine ⟨0, Nat.zero_lt_succ _, by simp [isStrOf], fun m _ hm => absurd hm (Nat.not_lt_zero _), ?_⟩
      simpa using h
    · have hx' : x ∈ ts := by
        rcases List.mem_cons.mp hx with q | q
        · exact absurd q.symm e
        · exact q
      obtain ⟨j, hj, h1, h2, h3⟩ := strs_at h hx'
      refine ⟨j + 1, Nat.succ_lt_succ hj, by simpa using h1, fun m hm hlt => ?_, ?_⟩
      · rcases m with _ | m
        · simp [isStrOf, e]
        · simpa using h2 m (Nat.lt_of_succ_lt_succ hm) (Nat.lt_of_succ_lt_succ hlt)
      · have : (y :: ts).erase x = y :: ts.erase x := by rw [List.erase_cons_tail (by simpa using e)]
        rw [this]
        exact .cons y t h3
theorem strs_off {x : Str} {vs : List Value} {ts : List Str} (h : StrsAre vs ts) (hx : x ∉ ts) : ∀ m (hm : m < vs.length), isStrOf x vs[m] = false := fun m hm => by
  obtain ⟨y, t, e, hy⟩ := h.item m vs[m] (List.getElem?_eq_getElem hm)
  rw [e]
  have : y ≠ x := fun q => hx (q ▸ List.mem_of_getElem? hy)
  simpa [isStrOf] using this
section
variable {prog : Program} {w : World} {A : Around} {E : Value → Shared → Prop} {s : Shared} {h₀ : Heap} {L D : Addr} {m : Str → Option Value} {pre post : List (Addr × Obj)} {vs : List Value} {ts : List Str} {n : Nat} {x : Str} {t : Tok}
theorem remove_hit {Q : Value → Shared → Prop} (F : Fr h₀ L s.heap m) (N : News h₀ L s.heap (pre ++ (D, listOf vs.toArray n) :: post)) (h1 : ∀ p ∈ pre, p.1 ≠ D) (h2 : ∀ p ∈ post, p.1 ≠ D) (S : StrsAre vs ts) (hz : vs.toArray.size ≤ sizeLine) (hx : x ∈ ts)
    (k : ∀ h' vs', Fr h₀ L h' m → StrsAre vs' (ts.erase x) → News h₀ L h' (pre ++ (D, listOf vs'.toArray (n + 1)) :: post) → Q .none { s with heap := h' }) :
    wpAny (model prog w) A (call (.builtin "list.remove") [.ref D, .str x t]) Q E s := by
  have z := N (D, listOf vs.toArray n) (List.mem_append.mpr (.inr (.head _)))
  obtain ⟨j, hj, a, b, c⟩ := strs_at S hx
  have e : Obj.mapSeq (fun xs => xs.eraseIdxIfInBounds j) (listOf vs.toArray n) = listOf (vs.eraseIdx j).toArray (n + 1) := by
    show Obj.mk _ _ _ _ = Obj.mk _ _ _ _
    have : vs.toArray.eraseIdxIfInBounds j = (vs.eraseIdx j).toArray := by simp
    simp only [this]
    have hne : (vs.eraseIdx j).length ≠ vs.length := by rw [List.length_eraseIdx_of_lt hj]; omega
    simp [hne]
  obtain ⟨F', N'⟩ := news_upd (f := Obj.mapSeq fun xs => xs.eraseIdxIfInBounds j) F N h1 h2 e rfl
  exact call_meets PySem.F.slot_list_remove ⟨_, z.1, rfl⟩ PySem.F.entry_list_remove (PySem.F.args_list_remove_2 _ _)
    (MeetsSeq.list_remove D vs.toArray n (.str x t) (isStrOf x) (fun y hy => eq_isStrOf x t S y (by simpa using hy)) j (by simpa using hj) (by simpa using a) (fun i hi hlt => by simpa using b i (by simpa using hi) hlt) hz) ⟨z.1, k _ _ F' c N'⟩
theorem remove_miss {Q : Value → Shared → Prop} (hh : A.handled = none) (N : News h₀ L s.heap (pre ++ (D, listOf vs.toArray n) :: post)) (S : StrsAre vs ts) (hx : x ∉ ts)
    (k : ∀ h' tk e, Heap.NewExc s.heap h' e "ValueError" → E (.ref e) { s with heap := h', toks := tk }) :
    wpAny (model prog w) A (call (.builtin "list.remove") [.ref D, .str x t]) Q E s := by
  have z := N (D, listOf vs.toArray n) (List.mem_append.mpr (.inr (.head _)))
  exact call_meets PySem.F.slot_list_remove ⟨_, z.1, rfl⟩ PySem.F.entry_list_remove (PySem.F.args_list_remove_2 _ _)
    (MeetsSeq.list_remove_none D vs.toArray n (.str x t) (isStrOf x) (fun y hy => eq_isStrOf x t S y (by simpa using hy)) (fun i hi => by simpa using strs_off S hx i (by simpa using hi))) ⟨z.1, hh, k⟩
end
theorem rmAll_none {l t ts : List Str} {i : Nat} {x : Str} (hr : rmAll (l.take i) t = some ts) (hx : l[i]? = some x) (hn : x ∉ ts) : rmAll l t = none := by
  have hlt : i < l.length := by
    rcases Nat.lt_or_ge i l.length with h | h
    · exact h
    · rw [List.getElem?_eq_none h] at hx; cases hx
  have e : l = l.take i ++ x :: l.drop (i + 1) := by
    have e1 := (List.take_append_drop i l).symm
    rw [List.drop_eq_getElem_cons hlt] at e1
    have e2 : l[i] = x := by rw [List.getElem?_eq_getElem hlt] at hx; exact Option.some.inj hx
    rw [e2] at e1
    exact e1
  rw [e, rmAll_append, hr]
  show (if x ∈ ts then _ else none) = none
  rw [if_neg hn]
theorem cmpF_false {xs ys : List Str} (h : rmAll (dedupL xs) (dedupL ys) = none) : false = cmpF xs ys := by unfold cmpF; rw [h]; rfl
theorem cmpF_some {xs ys ts : List Str} {vs : List Value} (h : rmAll (dedupL xs) (dedupL ys) = some ts) (S : StrsAre vs ts) : (!!vs.toArray.isEmpty) = cmpF xs ys := by
  unfold cmpF
  rw [h]
  cases S with
  | nil => rfl
  | cons y t S => simp
end
section
section
variable {prog : Program} {w : World} {A A₀ : Around} {s : Shared} {K : Frag} {L : Addr} {h₀ base : Heap} {m mg mb : Str → Option Value} {news : List (Addr × Obj)} {p : Program} {loose : List Str} {mean : ExcName → Option Value}
/-- a def is entered; its end may be told straight, past the ground's keeping -/
theorem code_raw {env : Env} {outer : List Env} {R : Result → Shared → Prop} {name qual : Str} {params : Arguments} {body : List Stmt} {scope : Scope} {dV kV doc pm cdv ct oc : Value} {an od : Option Addr} {osl : Array (Option Value)} {f : Addr} {args : Args} {binds : List (Str × Value)}
    (B : Below A₀ base outer h₀) (F : Fr h₀ L s.heap m) (X₀ : K.In h₀) (N : News h₀ L s.heap news) (T : Top p loose mean mg mb h₀) (hA : A.frames = some (env :: outer)) (hf : env.frame = some L) (hke : env.scope.kind = .function)
    (ho : K.lookup f = some ⟨oc, od, .func (fnOf name qual params body scope dV kV doc pm an cdv ct), osl⟩) (hcd : codeIn K cdv qual = true) (hroom : A.depth < recursionLimit)
    (hbind : BindsTo s (fnOf name qual params body scope dV kV doc pm an cdv ct) args binds) (hloc : ∀ y ∈ binds, scope.names.lookup y.1 = some .local)
    (h : ∀ g L' h₁, Fr h₀ L g m → Fr g L' h₁ (fun y => binds.reverse.lookup y) → News g L' h₁ news → Below A base (env :: outer) g → K.In g → Top p loose mean mg mb g →
      wpAny (model prog w) (A.deeper (envOf qual scope L' f cdv)) (execs body (envOf qual scope L' f cdv))
        (fun fl s' => LeaveK h₀ L m g R (match fl with | .ret v => v | _ => .none) s' ∨ R (.ok (.ret (match fl with | .ret v => v | _ => .none))) s')
        (fun e s' => wpAny (model prog w) (A.deeper (envOf qual scope L' f cdv)) (leaving (envOf qual scope L' f cdv) e) (fun _ s'' => R (.error e) s'') (fun e' s'' => R (.error e') s'') s')
        { s with heap := h₁, toks := s.toks + binds.length })
    (hco : scope.isCoroutine = false) (hgen : scope.isGenerator = false) (hk : scope.kind = .function)
    (hcell : ∀ x ∈ scope.names, x.2 ≠ .cell) : codeAny (model prog w) A (.call (.ref f) args) R s := by
  obtain ⟨FG, BG, st, lv⟩ := groundX (R := R) B F N hA hf hke
  refine codeAny_call_def (fd := fnOf name qual params body scope dV kV doc pm an cdv ct) (body := body) (binds := binds) hroom ((X₀.keeps F.keep) _ _ ho) rfl (T.nolimit.keeps F.keep) (codeRec_of (X₀.keeps F.keep) hcd) rfl hbind hcell hloc (fun h₁ hns hk₁ => ?_) hco hgen hk
  exact wpAny_mono (h _ s.heap.objs.size h₁ FG ⟨hns, fun b o e => hk₁ b o (of_hideAll _ e), Nat.le_of_eq (hideAll_size _ _)⟩
    (fun p hp => ⟨hk₁ _ _ (N p hp).1, Nat.ne_of_lt (Heap.lt_size (N p hp).1), hideAll_none _ (List.mem_map_of_mem hp)⟩) BG (X₀.keeps st) (T.keeps st)) (fun fl s' hl => hl.elim (lv _ _) id) fun _ _ y => y
end
section
variable {prog : Program} {w : World} {A : Around} {E E₁ : Value → Shared → Prop} {s : Shared} {env : Env} {h₀ : Heap} {target : Expr} {body : List Stmt} {Q : Flow → Shared → Prop}
/-- a for whose turns may raise -/
theorem For_turnsR {iter : Expr} {pos : Pos} (hE : ∀ e s', E₁ e s' → notedBy (model prog w) A env (cameBackBy (model prog w) A env E) e s')
    (h : wpAny (model prog w) A (eval iter env) (fun xv s₁ => wpAny (model prog w) A (pyIter xv) (fun it s₂ => TurnsAt prog w A h₀ env target body Q E₁ it s₂) (fun _ _ => False) s₁) (fun _ _ => False) s)
    (hs : ∀ x, foldedSetIterable iter env x = pure x := by intro _; rfl) :
    wpAny (model prog w) A (exec (.For target iter body [] pos) env) Q E s := by
  refine wpAny_For (wpAny_mono h (fun xv s₁ h₁ => wpAny_mono h₁ (fun it s₂ h₂ => ?_) fun _ _ e => e.elim) fun _ _ e => e.elim) hs
  obtain ⟨I, fp, wr, n, P, Md, St, m, news, J, rfl, W, hLf, hwr, hnw, hst, F, N, h0, step, hQ⟩ := h₂
  exact ktu_loop (R := fun r s' => match r with | .ok f => Q f s' | .error e => cameBackBy (model prog w) A env E e s') W hLf hwr hnw hst F N J h0
    (fun i v m₁ news₁ h₁ tk₁ own a b c d e f g st F₁ N₁ => wpAny_mono (step i v m₁ news₁ h₁ tk₁ own a b c d e f g st F₁ N₁) (fun _ _ x => wpAny_mono x (fun _ _ y => y) hE) hE) hQ
end
theorem allLt_all {D : Addr} : ∀ {l : List (Addr × Obj)}, AllLt D l → ∀ p ∈ l, p.1 < D
  | [], _, _, h => nomatch h
  | _ :: _, x, p, h => by
    rcases List.mem_cons.mp h with rfl | h
    · exact x.1
    · exact allLt_all x.2 p h
theorem nameA {D : Addr} {l : List (Addr × Obj)} (_ : AllLt D l) : ∃ D' : Addr, D' = D := ⟨D, rfl⟩
theorem nameN {a b : Nat} (_ : a < b) : ∃ a' : Nat, a' = a := ⟨a, rfl⟩
section
variable {g h h' hB h₀ : Heap} {L L' : Addr} {m m' : Str → Option Value} {S : List Addr} {l news : List (Addr × Obj)}
theorem fr_keepBut (F : Fr g L h m) (K : KeepBut S h h') (hS : ∀ b ∈ S, g.get? b = none) : Fr g L h' m := by
  obtain ⟨oL, es, ep, hL, hd, hk, hf⟩ := F.ns
  refine ⟨?_, fun b o e => K.1 b o (F.keep b o e) (fun q => by rw [hS b q] at e; cases e), F.above⟩
  by_cases q : L ∈ S
  · obtain ⟨sl, e⟩ := K.2 L oL hL q
    exact ⟨_, es, ep, e, hd, hk, hf⟩
  · exact ⟨_, es, ep, K.1 L oL hL q, hd, hk, hf⟩
theorem news_keepBut (N : News g L h l) (K : KeepBut S h h') (off : ∀ p ∈ l, p.1 ∉ S) : News g L h' l := fun p hp => ⟨K.1 _ _ (N p hp).1 (off p hp), (N p hp).2⟩
theorem fr_hide (F : Fr g L' h m) (L : Addr) : Fr (g.hide L) L' h m := ⟨F.ns, fun b o e => F.keep b o (Heap.of_hide e), by rw [Heap.hide_size]; exact F.above⟩
theorem hide_none {b : Addr} (e : g.get? b = none) (L : Addr) : (g.hide L).get? b = none := by
  cases q : (g.hide L).get? b with
  | none => rfl
  | some o => rw [Heap.of_hide q] at e; cases e
theorem news_hide (N : News g L' h l) (L : Addr) : News (g.hide L) L' h l := fun p hp => ⟨(N p hp).1, (N p hp).2.1, hide_none (N p hp).2.2 L⟩
theorem hide_some {b : Addr} {o : Obj} (e : g.get? b = some o) (n : b ≠ L) : (g.hide L).get? b = some o := (Heap.hide_ne g n).trans e
/-- back to the caller: its frame may have turned in its slots alone -/
theorem outL (FG : Fr h₀ L g m) (N₀ : News h₀ L h news) (hk : ∀ b o, (g.hide L).get? b = some o → hB.get? b = some o) (hL : ∀ oL, g.get? L = some oL → ∃ sl, hB.get? L = some { oL with slots := sl }) (hn : ∀ p ∈ news, hB.get? p.1 = some p.2) :
    Fr h₀ L hB m ∧ News h₀ L hB news := by
  obtain ⟨oL, es, ep, e, hd, hk', hf⟩ := FG.ns
  obtain ⟨sl, e'⟩ := hL oL e
  refine ⟨⟨⟨_, es, ep, e', hd, hk', hf⟩, fun b o q => hk b o (hide_some (FG.keep b o q) fun n => ?_), FG.above⟩, fun p hp => ⟨hn p hp, (N₀ p hp).2⟩⟩
  exact absurd (Heap.lt_size q) (Nat.not_lt.mpr (n ▸ FG.above))
end
end
section
theorem Stuck.use {P : Prop} (h : P) : Stuck P := h
namespace FK
def bound : Obj := { cls := .type "builtin_function_or_method", data := .fields #[.builtin "dict.fromkeys", .type "dict"] }
theorem type_fk : typeOf (.builtin "dict.fromkeys") = pure (.type "classmethod_descriptor") := by show builtinType _ = _; rw [builtinType_eq_fast]; kernel_rfl
theorem entry_fk : entryFor table "dict.fromkeys" = some Builtin.«dict.fromkeys» := entryFor_of_tree (by kernel_rfl)
theorem entry_fkl : entryFor table "dict.fromkeys.loop" = some Builtin.«dict.fromkeys.loop» := entryFor_of_tree (by kernel_rfl)
theorem plain_fkl : plainId "dict.fromkeys.loop" = true := by decide +kernel
theorem quiet_fk {as : Args} : (Code.builtin "dict.fromkeys" as).quiet = true := Code.quiet_builtin _ (by decide +kernel)
theorem type_dict : isType (.type "dict") = pure true := by first | rfl | kernel_rfl | (unfold isType; rw [isSubtype_type]; kernel_rfl)
theorem owner_fk : (kfb_private% "ownerAndName") "dict.fromkeys" = ("dict", "fromkeys") := by first | decide +kernel | kernel_rfl
section
variable {prog : Program} {w : World} {M : Model} {A : Around} {E : Value → Shared → Prop} {s : Shared} {K : Frag} {h₀ : Heap} {L : Addr} {m : PySem.Str → Option Value} {news : List (Addr × Obj)}
theorem run_get {P : Fin → Shared → Prop} (h : P (.done (.ret (.ref s.heap.objs.size))) { s with heap := s.heap.push bound }) :
    wpAny M A (Builtin.«classmethod_descriptor.__get__» ⟨[.builtin "dict.fromkeys", .none, .type "dict"], []⟩) P E s := by
  unfold Builtin.«classmethod_descriptor.__get__»
  refine wpAny_bind (wpAny_of_eq (a := (.builtin "dict.fromkeys", none, some (.type "dict"))) (by first | rfl | kernel_rfl) ?_)
  simp only [owner_fk]
  refine wpAny_bind (wpAny_of_eq (a := .type "dict") rfl ?_)
  refine wpAny_bind (wpAny_of_eq (a := true) type_dict ?_)
  refine KFB.if_not rfl ?_
  refine wpAny_bind (wpAny_of_eq (a := true) PySem.F.kt_sub_dict ?_)
  refine KFB.if_not rfl ?_
  exact wpAny_bind (wpAny_newObj_type (wpAny_pure h))
theorem getm {pl : Sem Bool} {Q : Value × List Value → Shared → Prop} (F : Fr h₀ L s.heap m) (N : News h₀ L s.heap news) (X₀ : K.In h₀)
    (e : findCls K (.type "dict") (.type "type") (PySem.Str.ofString "fromkeys") = some (.get (.builtin "classmethod_descriptor.__get__") (.builtin "dict.fromkeys") .none (.type "dict")))
    (h : ∀ x h', Fr h₀ L h' m → News h₀ L h' ((x, bound) :: news) → (∀ p ∈ news, p.1 < x) → Q (.ref x, []) { s with heap := h', toks := s.toks + 1 }) :
    wpAny (model prog w) A (getMethod (.type "dict") (PySem.Str.ofString "fromkeys") pl) Q E s := by
  have X := X₀.keeps F.keep
  have hstub : opaqueClassAbove (.type "dict") = pure none := by unfold opaqueClassAbove; dsimp only; rw [show Manifest.isStub "dict" = false by decide +kernel]; rfl
  have ht : typeOf (.type "dict") = pure (.type "type") := by first | rfl | kernel_rfl
  have L0 : Looks (model prog w) s.heap (typeOf (.type "dict")) (.type "type") := Looks.of_pure ht
  have hg : findIn K (.type "type") "__getattribute__" = some (some (.builtin "type.__getattribute__")) := type_tga
  unfold getMethod specialOf
  refine wpAny_bind (wpAny_bind (L0.here ((looks_findIn X hg).here ?_)))
  dsimp only
  rw [if_pos canon_tga]
  refine wpAny_bind (wpAny_mono (Q := fun v => Q (v, [])) (E := E) ?_ (fun _ _ z => wpAny_pure z) fun _ _ z => z)
  have LO : Looks (model prog w) s.heap (opaqueClassAbove (.type "dict")) none := Looks.of_pure hstub
  refine cls_open X LO L0 hg (looks_hook X (r := none) (by rfl)) (by show subIn K _ _ = _; rfl) e ?_
  show wpAny _ _ (holding [.builtin "dict.fromkeys"] (call (.builtin "classmethod_descriptor.__get__") [.builtin "dict.fromkeys", .none, .type "dict"]) >>= fun v => ret v) _ _ _
  refine wpAny_bind (wpAny_holding (wpAny_call_entry KFB.slot_get type_fk KFB.entry_get (run_get ⟨_, rfl, wpAny_pure (wpAny_pure (h _ _ (F.push _) (News.push F N _) fun p hp => Heap.lt_size (N p hp).1))⟩) (KFB.args_get _ _ _)))
def StandsAt (x : Addr) (h : Heap) : Prop := h.get? x = some bound
theorem at_of {x : Addr} {h : Heap} (N : News h₀ L h news) (hm : (x, bound) ∈ news) : StandsAt x h := N.get hm
theorem callWith_fields {pos : Pos} {u : Addr} {first : List Value} {args : List (Bool × Sem Value)} {Q : Value → Shared → Prop} (hplain : args.any (·.1) = false)
    (h : wpAny M A (evalArgs (.ref u) true args []) (fun x s₁ => StandsAt u s₁.heap ∧ wpAny M A (call (.ref u) (first ++ x.pos) x.kw) Q E s₁) E s) : wpAny M A (callWith pos (.ref u) first args []) Q E s := by
  unfold callWith
  refine wpAny_bind (wpAny_holding (wpAny_mono h (fun x s₁ h₁ => wpAny_bind (wpAny_standAt ?_)) fun _ _ x => x))
  obtain ⟨ho, hcall⟩ := h₁
  simp only [hplain, List.any_nil, Bool.or_false]
  refine wpAny_bind (m := keeperOf (.ref u)) ?_
  unfold keeperOf
  refine wpAny_bind (wpAny_load ho ?_)
  simp only [bound, show (Value.type "builtin_function_or_method" != Value.type "method") = true by decide, show (Value.type "builtin_function_or_method" == Value.type "builtin_function_or_method" || Value.type "builtin_function_or_method" == Value.type "method-wrapper") = true by decide, if_true]
  refine wpAny_pure ?_
  exact wpAny_bind (wpAny_mono hcall (fun r s₂ hr => wpAny_bind (wpAny_holding (wpAny_point (wpAny_pure hr)))) fun _ _ x => x)
theorem callWith_bound {pos : Pos} {u : Addr} {first : List Value} {env : Env} {e : Expr} {rest : List Expr} {Q : Value → Shared → Prop} (_N : News h₀ L s.heap news) (_hm : (u, bound) ∈ news)
    (h : wpAny M A (spliced (backTo pos (starEach (e :: rest) env))) (fun vs s₁ => StandsAt u s₁.heap ∧ wpAny M A (call (.ref u) (first ++ vs)) Q E s₁) E s)
    (he : starEach (e :: rest) env = (false, eval e env) :: starEach rest env := by rfl) (hplain : (backTo pos (starEach rest env)).any (·.1) = false := by rfl) :
    wpAny M A (callWith pos (.ref u) first (backTo pos (starEach (e :: rest) env)) []) Q E s := by
  rw [he] at h ⊢
  refine callWith_fields (by show (false || (backTo pos (starEach rest env)).any (·.1)) = false; rw [hplain]; rfl) ?_
  exact evalArgs_plain h
theorem check_fk {v : Value} : checkBoundCall "dict.fromkeys" ⟨[.type "dict", v], []⟩ = pure () := by first | kernel_rfl | rfl
/-- dict() -/
theorem typeCall0 : checkTypeCall "dict" ⟨[], []⟩ = pure () := by kernel_rfl
theorem newCall0 : checkBuiltinCall "dict.__new__" ⟨[.type "dict"], []⟩ = pure () := by kernel_rfl
theorem code_new {Q₁ : Value → Shared → Prop} (h : Q₁ (.ref s.heap.objs.size) { s with heap := s.heap.push { cls := .type "dict", data := .dict #[] } }) :
    codeAny (model prog w) A (.call (.builtin "dict.__new__") ⟨[.type "dict"], []⟩) (wants Q₁ E) s := by
  refine codeAny_call_builtin F.kt_plain_dict_new F.kt_entry_dict_new (wpAny_of_eq newCall0 ?_)
  have hsub := F.kt_sub_dict
  have hmro := F.kt_mro_dict
  obtain ⟨hp, g, d, tk, os⟩ := s
  unfold Builtin.«dict.__new__»
  wp_walk
  exact h
theorem call_dict0 {Q : Value → Shared → Prop}
    (h : Q (.ref s.heap.objs.size) { s with heap := s.heap.push { cls := .type "dict", data := .dict #[] } }) :
    wpAny (model prog w) A (call (.type "dict") []) Q E s := by
  refine callType_codes (Q₁ := fun obj s₁ => obj = .ref s.heap.objs.size ∧ s₁ = { s with heap := s.heap.push { cls := .type "dict", data := .dict #[] } }) F.kt_called_dict typeCall0 F.entry_dict_init (code_new ⟨rfl, rfl⟩) ?_
  rintro obj s₁ ⟨rfl, rfl⟩
  have hnew : (s.heap.push { cls := .type "dict", data := .dict #[] }).DictOf (PySem.strKind prog w) s.heap.objs.size [] := Heap.DictOf.new s.heap
  refine ⟨hnew.typeIs, F.args_dict_init_1 _, ?_⟩
  unfold Builtin.«dict.__init__»
  refine wpAny_bind ?_
  unfold Builtin.Dict.selfAndRest
  refine wpAny_bind (wpAny_notOrdered_dict hnew.typeIs ?_)
  show wpAny _ _ (pure (s.heap.objs.size, ([] : List Value))) _ _ _
  refine wpAny_pure ?_
  show wpAny _ _ (Builtin.Dict.addKeywords s.heap.objs.size [] >>= _) _ _ _
  exact wpAny_bind (wpAny_pure (wpAny_pure ⟨rfl, h⟩))
/-- the pairs that fromkeys makes -/
def kvs (xs : List Str) : List (Str × Value) := (dedupL xs).map fun k => (k, Value.none)
theorem kvs_snoc (xs : List Str) (x : Str) : stored (kvs xs) x Value.none = kvs (xs ++ [x]) := by
  unfold kvs stored
  have e : (((dedupL xs).map fun k => (k, Value.none)).any fun kv => decide (kv.1 = x)) = decide (x ∈ dedupL xs) := by
    rw [Bool.eq_iff_iff, List.any_eq_true, decide_eq_true_iff]
    constructor
    · rintro ⟨q, hq, hx⟩
      obtain ⟨k, hk, rfl⟩ := List.mem_map.mp hq
      have hx := of_decide_eq_true hx
      exact hx ▸ hk
    · intro h
      exact ⟨_, List.mem_map.mpr ⟨x, h, rfl⟩, decide_eq_true rfl⟩
  rw [e, dedupL_snoc]
  by_cases h : x ∈ dedupL xs
  · rw [decide_eq_true h, if_pos rfl, if_pos h, List.map_map]
    refine List.map_congr_left fun k _ => ?_
    show (if k = x then (k, Value.none) else (k, Value.none)) = _
    split <;> rfl
  · rw [decide_eq_false h, if_neg (by decide), if_neg h, List.map_append]
    rfl
theorem kvs_fst (xs : List Str) : (kvs xs).map (·.1) = dedupL xs := by
  unfold kvs; rw [List.map_map]; exact List.map_id' _
theorem kvs_len (xs : List Str) : (kvs xs).length ≤ xs.length := by unfold kvs; rw [List.length_map]; exact dedupL_len xs
theorem loop {l I D : Addr} {vs : List Value} {n : Nat} {xs : List Str} {R : Result → Shared → Prop} (hh : A.handled = none) (hm : (l, listOf vs.toArray n) ∈ news) (S : StrsAre vs xs) (hx : xs.length ≤ 1000)
    (hnD : ∀ p ∈ news, p.1 ≠ D) (hnI : ∀ p ∈ news, p.1 ≠ I) (hDI : D ≠ I)
    (hR : ∀ h' tk' o, Fr h₀ L h' m → News h₀ L h' ((D, o) :: news) → o.IsDictOf (PySem.strKind prog w) (kvs xs) → R (.ok (.ret (.ref D))) { s with heap := h', toks := tk' }) :
    ∀ (r i : Nat) (h : Heap) (tk : Nat) (o oI : Obj), vs.length - i = r → i ≤ vs.length → Fr h₀ L h m → News h₀ L h ((D, o) :: (I, oI) :: news) → o.IsDictOf (PySem.strKind prog w) (kvs (xs.take i)) → h.IsListIter I l i →
      codeAny (model prog w) A (.builtin "dict.fromkeys.loop" ⟨[.ref D, .ref I, .none], []⟩) R { s with heap := h, toks := tk } := by
  have hlI : l ≠ I := hnI _ hm
  have W := Walks.list (prog := prog) (w := w) (A := A.in1) hh I l hlI vs.toArray
  have hsz : vs.toArray.size = vs.length := List.size_toArray ..
  intro r
  induction r with
  | zero =>
    intro i h tk o oI hr hi F N hd hit
    have hin : i = vs.length := by omega
    have nD := N _ (.head _)
    have nI := N _ (.tail _ (.head _))
    have Nn : News h₀ L h news := fun p hp => N p (.tail _ (.tail _ hp))
    refine codeAny_builtin entry_fkl ?_
    rw [Around.under_plainId plain_fkl _]
    show wpAny _ A.in1 (pyNext (.ref I) >>= _) _ _ _
    refine wpAny_bind (W.done _ _ _ ⟨by rw [hsz, ← hin]; exact hit, Nn.isList hm⟩ fun h' tk' hk' => ?_)
    refine wpAny_pure (hR _ _ o (kmb_fr F hk' nI.2.1 nI.2.2) (fun p hp => ?_) (by rw [hin, List.take_of_length_le (Nat.le_of_eq S.length.symm)] at hd; exact hd))
    rcases List.mem_cons.mp hp with rfl | hp
    · exact ⟨hk' _ _ (fun q => hDI (List.mem_singleton.mp q)) nD.1, nD.2⟩
    · exact kmb_news Nn hk' hnI p hp
  | succ r ih =>
    intro i h tk o oI hr hi F N hd hit
    have hlt : i < vs.length := by omega
    have nD := N _ (.head _)
    have nI := N _ (.tail _ (.head _))
    have Nn : News h₀ L h news := fun p hp => N p (.tail _ (.tail _ hp))
    refine codeAny_builtin entry_fkl ?_
    rw [Around.under_plainId plain_fkl _]
    show wpAny _ A.in1 (pyNext (.ref I) >>= _) _ _ _
    refine wpAny_bind (W.item i _ _ _ (by rw [hsz]; exact hlt) ⟨hit, Nn.isList hm⟩ fun v h' tk' hP hst' hk' => ?_)
    have hv : vs[i]? = some v := by simpa using hP
    obtain ⟨x, t, rfl, hxi⟩ := S.item i v hv
    obtain ⟨oI', hoI', hoc, hod⟩ := id hst'.1
    have F1 := kmb_fr F hk' nI.2.1 nI.2.2
    have N1 := kmb_news Nn hk' hnI
    have gD := hk' D _ (fun q => hDI (List.mem_singleton.mp q)) nD.1
    have T1 : h'.DictOf (PySem.strKind prog w) D (kvs (xs.take i)) := Heap.dictOf_iff.mpr ⟨o, gD, hd⟩
    show wpAny _ A.in1 (typeOf (.ref D) >>= _) _ _ _
    refine wpAny_bind (wpAny_typeOf T1.typeIs ?_)
    refine wpAny_bind ?_
    show wpAny _ A.in1 (pure D) _ _ _
    refine wpAny_pure ?_
    refine wpAny_bind (wpAny_holding ?_)
    show wpAny _ A.in1 (dictSet D _ _) _ _ _
    refine wpAny_dictSet_pairs (strKind_is prog w x t) T1 (fun h2 hd2 hs2 => ?_) (Nat.le_trans (kvs_len _) (Nat.le_trans (show (xs.take i).length ≤ 1000 by rw [List.length_take]; omega) (Nat.le_trans (show 1000 ≤ 100000 by decide) sizeLine_ge)))
    rw [kvs_snoc] at hd2
    have ht : xs.take (i + 1) = xs.take i ++ [x] := by rw [List.take_add_one, hxi]; rfl
    rw [← ht] at hd2
    obtain ⟨o2, go2, hdo2⟩ := Heap.dictOf_iff.mp hd2
    refine wpAny_pure ⟨plainId_quiet plain_fkl _, ih (i + 1) h2 _ o2 oI' (by omega) hlt (ksk_fr F1 hs2 nD.2.1 nD.2.2) (fun p hp => ?_) hdo2 ⟨oI', (hs2.2 I hDI.symm).trans hoI', hoc, hod⟩⟩
    rcases List.mem_cons.mp hp with rfl | hp
    · exact ⟨go2, nD.2⟩
    · rcases List.mem_cons.mp hp with rfl | hp
      · exact ⟨(hs2.2 I hDI.symm).trans hoI', nI.2⟩
      · exact ksk_news N1 hs2 hnD p hp
theorem tree {l : Addr} {vs : List Value} {n : Nat} {xs : List Str} {Q : Value → Shared → Prop} {x : Addr} (hh : A.handled = none) (F : Fr h₀ L s.heap m) (N : News h₀ L s.heap news) (hx0 : (x, bound) ∈ news) (hm : (l, listOf vs.toArray n) ∈ news) (S : StrsAre vs xs) (hx : xs.length ≤ 1000)
    (h : ∀ d o h' tk', Fr h₀ L h' m → News h₀ L h' ((d, o) :: news) → (∀ p ∈ news, p.1 < d) → o.IsDictOf (PySem.strKind prog w) (kvs xs) → Q (.ref d) { s with heap := h', toks := tk' }) :
    wpAny (model prog w) A (call (.ref x) [.ref l]) Q E s := by
  refine wpAny_call (codeAny_of_tree ?_)
  show wpAny _ A.in1 (callAny (.ref x) ⟨[.ref l], []⟩) _ _ s
  simp only [callAny]
  refine wpAny_bind (wpAny_load (at_of N hx0) ?_)
  simp only [bound, show (Value.type "builtin_function_or_method" == Value.type "method" || Value.type "builtin_function_or_method" == Value.type "builtin_function_or_method" || Value.type "builtin_function_or_method" == Value.type "method-wrapper") = true by decide, if_true]
  refine KFB.if_so (by decide) ?_
  refine wpAny_bind (wpAny_of_eq (a := ()) check_fk ?_)
  refine wpAny_bind (wpAny_pure (wpAny_pure ?_))
  refine ⟨quiet_fk, codeAny_builtin entry_fk ?_⟩
  unfold Builtin.«dict.fromkeys»
  refine wpAny_bind (wpAny_of_eq (a := true) type_dict ?_)
  refine KFB.if_not rfl ?_
  refine wpAny_bind (wpAny_of_eq (a := true) PySem.F.kt_sub_dict ?_)
  refine KFB.if_not rfl ?_
  refine KFB.if_not rfl ?_
  refine wpAny_bind (wpAny_rule ?_)
  refine wpAny_bind (wpAny_pure ?_)
  show wpAny _ _ (call (.type "dict") >>= _) _ _ _
  refine wpAny_bind (call_dict0 ?_)
  have F1 := F.push { cls := .type "dict", data := .dict #[] }
  have N1 := News.push F N { cls := .type "dict", data := .dict #[] }
  have T1 : (s.heap.push { cls := .type "dict", data := .dict #[] }).DictOf (PySem.strKind prog w) s.heap.objs.size [] := Heap.DictOf.new s.heap
  have l1 := N1.isList (.tail _ hm)
  refine wpAny_holding ?_
  refine wpAny_bind (wpAny_typeOf l1.typeIs ?_)
  refine wpAny_bind (wpAny_typeOf T1.typeIs ?_)
  refine KFB.if_not (by decide) ?_
  refine wpAny_bind (wpAny_typeOf T1.typeIs ?_)
  refine KFB.if_not (by decide) ?_
  refine wpAny_bind (wpAny_pyIter_list l1 ?_)
  refine wpAny_pure ⟨plainId_quiet plain_fkl _, ?_⟩
  have F2 := F1.push { cls := .type "list_iterator", data := .fields #[.ref l, .int 0 0] }
  have N2 := News.push F1 N1 { cls := .type "list_iterator", data := .fields #[.ref l, .int 0 0] }
  have hne : s.heap.objs.size ≠ (s.heap.push { cls := .type "dict", data := .dict #[] }).objs.size := Nat.ne_of_lt (Heap.lt_size (N1 _ (.head _)).1)
  have N3 : News h₀ L ((s.heap.push { cls := .type "dict", data := .dict #[] }).push { cls := .type "list_iterator", data := .fields #[.ref l, .int 0 0] }) ((s.heap.objs.size, { cls := .type "dict", data := .dict #[] }) :: ((s.heap.push { cls := .type "dict", data := .dict #[] }).objs.size, { cls := .type "list_iterator", data := .fields #[.ref l, .int 0 0] }) :: news) := fun p hp => N2 p (by
    rcases List.mem_cons.mp hp with rfl | hp
    · exact .tail _ (.head _)
    · rcases List.mem_cons.mp hp with rfl | hp
      · exact .head _
      · exact .tail _ (.tail _ hp))
  have d0 : Obj.IsDictOf (PySem.strKind prog w) ({ cls := .type "dict", data := .dict #[] } : Obj) (kvs (xs.take 0)) := ⟨#[], 0, ⟨rfl, rfl, rfl⟩, rfl, fun _ he => by simp at he, Pairs.nil, List.nodup_nil⟩
  refine loop (s := s) (D := s.heap.objs.size) (xs := xs) hh hm S hx N.apart (fun p hp => N1.apart p (.tail _ hp)) hne (fun h1 tk1 o F1 N1 hd => ?_) _ 0 _ _ _ _ rfl (Nat.zero_le _) F2 N3 d0 ⟨_, (N2 _ (.head _)).1, rfl, rfl⟩
  exact h _ o _ _ F1 N1 (fun p hp => Heap.lt_size (N p hp).1) hd
end
end FK
end
section
namespace MapK
theorem slot_next : Slot "map" "__next__" "map.__next__" :=
  .of (owner := "map") (n := "__next__") (by rw [typeLookup_type, builtinLookup_eq_fast]; kernel_rfl) (by decide +kernel) (by decide +kernel) (by decide +kernel)
    (by first | exact .inl (by decide +kernel) | exact .inr (by decide +kernel)) (by rw [isSubtype_type]; kernel_rfl)
theorem slot_iter : Slot "map" "__iter__" "map.__iter__" :=
  .of (owner := "map") (n := "__iter__") (by rw [typeLookup_type, builtinLookup_eq_fast]; kernel_rfl) (by decide +kernel) (by decide +kernel) (by decide +kernel)
    (by first | exact .inl (by decide +kernel) | exact .inr (by decide +kernel)) (by rw [isSubtype_type]; kernel_rfl)
theorem slot_init : Slot "map" "__init__" "object.__init__" :=
  .of (owner := "object") (n := "__init__") (by rw [typeLookup_type, builtinLookup_eq_fast]; kernel_rfl) (by decide +kernel) (by decide +kernel) (by decide +kernel)
    (by first | exact .inl (by decide +kernel) | exact .inr (by decide +kernel)) (by rw [isSubtype_type]; kernel_rfl)
theorem args_iter (a : Value) : argsOk "map.__iter__" ⟨[a], []⟩ := by unfold argsOk; kernel_rfl
theorem args_next (a : Value) : argsOk "map.__next__" ⟨[a], []⟩ := by unfold argsOk; kernel_rfl
theorem entry_next : entryFor table "map.__next__" = some Builtin.«map.__next__» := entryFor_of_tree (by kernel_rfl)
theorem entry_iter : entryFor table "map.__iter__" = some Builtin.«dict_keyiterator.__iter__» :=
  entryFor_alias (id' := "dict_keyiterator.__iter__") (by kernel_rfl) (by first | rfl | decide +kernel | (unfold String.splitOn; simp +decide [String.splitOnAux])) (by decide +kernel) (by kernel_rfl)
theorem mro_map : mroOf (.type "map") = pure [.type "map", .type "object"] := by rw [mroOf_type]; kernel_rfl
theorem lookup_new : typeLookup (.type "map") "__new__" = pure (some (.builtin "map.__new__")) := by rw [typeLookup_type, builtinLookup_eq_fast]; kernel_rfl
theorem called : TypeCalled "map" "map.__new__" "object.__init__" :=
  ⟨by decide +kernel, by decide +kernel, ⟨_, _, mro_map⟩, madeBy_type mro_map lookup_new (by decide +kernel), by decide +kernel, by rw [isSubtype_type]; kernel_rfl, slot_init⟩
theorem typeCall_2 (a b : Value) : checkTypeCall "map" ⟨[a, b], []⟩ = pure () := by kernel_rfl
theorem newCall_2 (a b : Value) : checkBuiltinCall "map.__new__" ⟨[.type "map", a, b], []⟩ = pure () := by kernel_rfl
theorem entry_new : entryFor table "map.__new__" = some Builtin.«map.__new__» := entryFor_of_tree (by kernel_rfl)
theorem sub_map : isSubtype (.type "map") (.type "map") = pure true := by rw [isSubtype_type]; kernel_rfl
theorem no_len : typeLookup (.type "map") "__len__" = pure none := by rw [typeLookup_type, builtinLookup_eq_fast]; kernel_rfl
theorem no_hint : typeLookup (.type "map") "__length_hint__" = pure none := by rw [typeLookup_type, builtinLookup_eq_fast]; kernel_rfl
abbrev liO (l : Addr) : Obj := { cls := .type "list_iterator", data := .fields #[.ref l, .int 0 0] }
abbrev tuO (a : Array Value) : Obj := { cls := .type "tuple", data := .seq a }
abbrev maO (TI : Addr) (f : Value) : Obj := { cls := .type "map", data := .fields #[.ref TI, f] }
abbrev h1 (h : Heap) (l : Addr) : Heap := h.push (liO l)
abbrev h2 (h : Heap) (l : Addr) : Heap := (h1 h l).push (tuO #[.ref h.objs.size])
abbrev h3 (h : Heap) (l : Addr) (f : Value) : Heap := (h2 h l).push (maO (h1 h l).objs.size f)
theorem meets_new (f : Value) (l : Addr) (xs : Array Value) :
    Meets (Builtin.«map.__new__» ⟨[.type "map", f, .ref l], []⟩) (fun _ R s => s.heap.IsList l xs ∧
      R (.ok (.ret (.ref (h2 s.heap l).objs.size))) { s with heap := h3 s.heap l f }) :=
  .of_wp fun prog w A R s h => by
    obtain ⟨hp, g, d, tk, os⟩ := s; obtain ⟨hl1, h⟩ := h
    have hsub := sub_map
    have hL1 : Heap.IsList (Shared.heap ⟨hp, g, d, tk, os⟩) l xs := hl1
    wp_walk using wpAny_pyIter_list hL1
    exact ⟨_, rfl, h⟩
section
variable {prog : Program} {w : World} {M : Model} {A : Around} {E : Value → Shared → Prop} {s : Shared} {h₀ : Heap} {L : Addr} {m : PySem.Str → Option Value} {news : List (Addr × Obj)}
theorem make {f : Value} {l : Addr} {xs : Array Value} {Q : Value → Shared → Prop} (F : Fr h₀ L s.heap m) (N : News h₀ L s.heap news) (hl : s.heap.IsList l xs)
    (h : ∀ I T Z h', Fr h₀ L h' m → News h₀ L h' ((Z, maO T f) :: (T, tuO #[.ref I]) :: (I, liO l) :: news) → (∀ p ∈ news, p.1 < I) → I < T → T < Z → Q (.ref Z) { s with heap := h' }) :
    wpAny (model prog w) A (call (.type "map") [f, .ref l]) Q E s := by
  refine callType_new called (by decide) (typeCall_2 _ _) (newCall_2 _ _) (fun obj => PySem.F.args_object_init_3 obj _ _) entry_new (meets_new f l xs) ⟨hl, ?_⟩
  have F1 := F.push (liO l)
  have N1 := News.push F N (liO l)
  have F2 := F1.push (tuO #[.ref s.heap.objs.size])
  have N2 := News.push F1 N1 (tuO #[.ref s.heap.objs.size])
  have N3 := News.push F2 N2 (maO (h1 s.heap l).objs.size f)
  exact ⟨⟨_, N3.get (.head _), rfl⟩, h _ _ _ _ (F2.push _) N3 (fun p hp => Heap.lt_size (N p hp).1) (Heap.lt_size (N1 _ (.head _)).1) (Heap.lt_size (N2 _ (.head _)).1)⟩
theorem pyIter_map {Z T : Addr} {f : Value} {Q : Value → Shared → Prop} (hz : s.heap.get? Z = some (maO T f)) (h : Q (.ref Z) s) : wpAny (model prog w) A (pyIter (.ref Z)) Q E s := by
  have hT : s.TypeIs (.ref Z) "map" := ⟨_, hz, rfl⟩
  refine wpAny_pyIter_slot hT slot_iter (wpAny_call_entry slot_iter hT entry_iter ?_ (args_iter _))
  show wpAny _ _ (ret (.ref Z)) _ _ s
  exact wpAny_pure ⟨_, rfl, "map", _, hT, slot_next.lookup, h⟩
theorem next_item {Z T I l : Addr} {f v : Value} {i : Nat} {xs : Array Value} {Q : Value → Shared → Prop} (hz : s.heap.get? Z = some (maO T f)) (ht : s.heap.get? T = some (tuO #[.ref I])) (hi : s.heap.IsListIter I l i) (hl : s.heap.IsList l xs) (hv : xs[i]? = some v)
    (hIZ : Z ≠ I)
    (h : ∀ h', h'.IsListIter I l (i + 1) → Heap.SameBut I s.heap h' → wpAny (model prog w) A (call f [v]) Q E { s with heap := h' }) :
    wpAny (model prog w) A (Builtin.«map.__next__» ⟨[.ref Z], []⟩) (fun fin s' => ∃ v, fin = .done (.ret v) ∧ Q v s') E s := by
  show wpAny _ _ (field (.ref Z) 0 >>= _) _ _ _
  refine wpAny_bind (wpAny_field hz rfl (x := .ref T) rfl ?_)
  refine wpAny_bind (wpAny_seqItems ht rfl ?_)
  refine wpAny_bind ?_
  simp only [List.forIn_toArray, List.forIn_cons, List.forIn_nil]
  refine wpAny_bind (wpAny_bind (wpAny_holding ?_))
  refine wpAny_nextOf_list_item hi hl hv fun h' hi' hs' => ?_
  refine wpAny_pure (wpAny_pure ?_)
  have hz' : h'.get? Z = some (maO T f) := (hs'.2 Z hIZ).trans hz
  show wpAny _ _ (field (.ref Z) 1 >>= _) _ _ _
  refine wpAny_bind (wpAny_field hz' rfl (x := f) rfl ?_)
  refine wpAny_bind (wpAny_holding ?_)
  refine wpAny_mono (h h' hi' hs') (fun r s' hr => ?_) fun _ _ x => x
  exact wpAny_bind (wpAny_letGo (wpAny_pure ⟨r, rfl, hr⟩))
theorem next_end {Z T I l : Addr} {f : Value} {i : Nat} {xs : Array Value} {Q : Fin → Shared → Prop} (hh : A.handled = none) (hz : s.heap.get? Z = some (maO T f)) (ht : s.heap.get? T = some (tuO #[.ref I])) (hi : s.heap.IsListIter I l i) (hl : s.heap.IsList l xs) (hv : xs[i]? = none)
    (hE : ∀ h' e, Heap.ExtBut I s.heap h' → (∃ o, h'.get? e = some o ∧ o.cls = .type "StopIteration") → E (.ref e) { s with heap := h' }) :
    wpAny (model prog w) A (Builtin.«map.__next__» ⟨[.ref Z], []⟩) Q E s := by
  show wpAny _ _ (field (.ref Z) 0 >>= _) _ _ _
  refine wpAny_bind (wpAny_field hz rfl (x := .ref T) rfl ?_)
  refine wpAny_bind (wpAny_seqItems ht rfl ?_)
  refine wpAny_bind ?_
  simp only [List.forIn_toArray, List.forIn_cons, List.forIn_nil]
  refine wpAny_bind (wpAny_bind (wpAny_holding ?_))
  exact wpAny_nextOf_list_end hh hi hl hv fun h' e hs' he => hE h' e hs' he
theorem pyNext_item {Z T I l : Addr} {f v : Value} {i : Nat} {xs : Array Value} {Q : Option Value → Shared → Prop} (hz : s.heap.get? Z = some (maO T f)) (ht : s.heap.get? T = some (tuO #[.ref I])) (hi : s.heap.IsListIter I l i) (hl : s.heap.IsList l xs) (hv : xs[i]? = some v)
    (hIZ : Z ≠ I)
    (h : ∀ E h', h'.IsListIter I l (i + 1) → Heap.SameBut I s.heap h' → wpAny (model prog w) A.in1 (call f [v]) (fun r s' => Q (some r) s') E { s with heap := h' }) :
    wpAny (model prog w) A (pyNext (.ref Z)) Q E s := by
  have hT : s.TypeIs (.ref Z) "map" := ⟨_, hz, rfl⟩
  unfold pyNext
  exact wpAny_bind (wpAny_attempt (wpAny_callSpecial?_slot (name := Str.ofString "__next__") hT slot_next
    (wpAny_call_entry slot_next hT entry_next (next_item hz ht hi hl hv hIZ fun h' a b => wpAny_mono (h _ h' a b) (fun r s' hr => wpAny_pure hr) fun _ _ x => x) (args_next _))))
theorem pyNext_end {Z T I l : Addr} {f : Value} {i : Nat} {xs : Array Value} {Q : Option Value → Shared → Prop} (hh : A.handled = none) (hz : s.heap.get? Z = some (maO T f)) (ht : s.heap.get? T = some (tuO #[.ref I])) (hi : s.heap.IsListIter I l i) (hl : s.heap.IsList l xs) (hv : xs[i]? = none)
    (hQ : ∀ h', Heap.ExtBut I s.heap h' → Q none { s with heap := h' }) :
    wpAny (model prog w) A (pyNext (.ref Z)) Q E s := by
  have hT : s.TypeIs (.ref Z) "map" := ⟨_, hz, rfl⟩
  unfold pyNext
  refine wpAny_bind (wpAny_attempt (wpAny_callSpecial?_slot (name := Str.ofString "__next__") hT slot_next
    (wpAny_call_entry slot_next hT entry_next (next_end hh hz ht hi hl hv fun h' e hk he => ?_) (args_next _))))
  obtain ⟨o, ho, hc⟩ := he
  refine wpAny_bind (wpAny_isInstance (T := "StopIteration") (b := true) ⟨o, ho, hc⟩ isSubtype_stop ?_)
  exact wpAny_pure (hQ _ hk)
abbrev liS (acc : Array Value) (c : Nat) : Obj := { cls := .type "list", dict := none, data := .seq acc c, slots := #[] }
theorem ext_loop {R : Result → Shared → Prop} {P : Nat → Value → Prop} {S Z T I l : Addr} {f : Value} {xs : Array Value} {n : Nat} {res : Value} (hh : A.handled = none) (hm : (l, W.listOf xs n) ∈ news) (hn : xs.size ≤ sizeLine)
    (dSZ : S ≠ Z) (dST : S ≠ T) (dSI : S ≠ I) (dZI : Z ≠ I) (dTI : T ≠ I) (dS : ∀ p ∈ news, p.1 ≠ S) (dI : ∀ p ∈ news, p.1 ≠ I)
    (turn : ∀ (i : Nat) (v : Value) (h : Heap) (tk : Nat) (nx : List (Addr × Obj)) (Q : Value → Shared → Prop) (E : Value → Shared → Prop), xs[i]? = some v → Fr h₀ L h m → News h₀ L h nx →
      (∀ r h' tk', Fr h₀ L h' m → News h₀ L h' nx → P i r → Q r { s with heap := h', toks := tk' }) → wpAny (model prog w) A.in1.in1 (call f [v]) Q E { s with heap := h, toks := tk })
    (hR : ∀ h' tk' acc c, Fr h₀ L h' m → News h₀ L h' ((S, liS acc c) :: news) → ItemsOf P acc xs.size → R (.ok (.ret res)) { s with heap := h', toks := tk' }) :
    ∀ (k i : Nat) (h : Heap) (tk : Nat) (acc : Array Value) (c : Nat) (oI : Obj), xs.size - i = k → i ≤ xs.size → Fr h₀ L h m → News h₀ L h ((S, liS acc c) :: (Z, maO T f) :: (T, tuO #[.ref I]) :: (I, oI) :: news) → h.IsListIter I l i → ItemsOf P acc i →
      codeAny (model prog w) A (.builtin "list.extend.loop" ⟨[.ref S, .ref Z, res], []⟩) R { s with heap := h, toks := tk } := by
  intro k
  induction k with
  | zero =>
    intro i h tk acc c oI hk hi F N hit hacc
    have hin : i = xs.size := by omega
    subst hin
    have nS := N _ (.head _)
    have nZ := N _ (.tail _ (.head _))
    have nT := N _ (.tail _ (.tail _ (.head _)))
    have nI := N _ (.tail _ (.tail _ (.tail _ (.head _))))
    have Nn : News h₀ L h news := fun p hp => N p (.tail _ (.tail _ (.tail _ (.tail _ hp))))
    refine codeAny_builtin PySem.F.entry_extend_loop ?_
    rw [Around.under_plainId PySem.F.plain_extend_loop _]
    show wpAny _ A.in1 (pyNext (.ref Z) >>= _) _ _ _
    refine wpAny_bind (pyNext_end hh nZ.1 nT.1 hit (Nn.isList hm) (Array.getElem?_eq_none (Nat.le_refl _)) fun h' hx => ?_)
    have hk' : ∀ b o, b ∉ [I] → h.get? b = some o → h'.get? b = some o := fun b o hb e => hx b o (fun q => hb (by rw [q]; exact .head _)) e
    refine wpAny_pure (hR _ _ acc c (kmb_fr F hk' nI.2.1 nI.2.2) (fun p hp => ?_) hacc)
    rcases List.mem_cons.mp hp with rfl | hp
    · exact ⟨hk' _ _ (fun q => dSI (List.mem_singleton.mp q)) nS.1, nS.2⟩
    · exact kmb_news Nn hk' dI p hp
  | succ k ih =>
    intro i h tk acc c oI hk hi F N hit hacc
    have hlt : i < xs.size := by omega
    have nS := N _ (.head _)
    have nZ := N _ (.tail _ (.head _))
    have nT := N _ (.tail _ (.tail _ (.head _)))
    have nI := N _ (.tail _ (.tail _ (.tail _ (.head _))))
    have Nn : News h₀ L h news := fun p hp => N p (.tail _ (.tail _ (.tail _ (.tail _ hp))))
    refine codeAny_builtin PySem.F.entry_extend_loop ?_
    rw [Around.under_plainId PySem.F.plain_extend_loop _]
    show wpAny _ A.in1 (pyNext (.ref Z) >>= _) _ _ _
    refine wpAny_bind (pyNext_item nZ.1 nT.1 hit (Nn.isList hm) (Array.getElem?_eq_getElem hlt) dZI fun E' h' hit' hs => ?_)
    obtain ⟨oI', hoI', hoc, hod⟩ := id hit'
    have F1 := ksk_fr F hs nI.2.1 nI.2.2
    have N1 : News h₀ L h' ((S, liS acc c) :: (Z, maO T f) :: (T, tuO #[.ref I]) :: (I, oI') :: news) := fun p hp => by
      rcases List.mem_cons.mp hp with rfl | hp
      · exact ⟨(hs.2 _ dSI).trans nS.1, nS.2⟩
      · rcases List.mem_cons.mp hp with rfl | hp
        · exact ⟨(hs.2 _ dZI).trans nZ.1, nZ.2⟩
        · rcases List.mem_cons.mp hp with rfl | hp
          · exact ⟨(hs.2 _ dTI).trans nT.1, nT.2⟩
          · rcases List.mem_cons.mp hp with rfl | hp
            · exact ⟨hoI', nI.2⟩
            · exact ksk_news Nn hs dI p hp
    refine turn i _ h' tk _ _ _ (Array.getElem?_eq_getElem hlt) F1 N1 fun r h2 tk2 F2 N2 hP => ?_
    have gS := N2.get (.head _)
    show wpAny _ A.in1 (updateSeq S (·.push r) >>= _) _ _ _
    refine wpAny_bind ?_
    have s3 := Heap.SameBut.update h2 S (Obj.mapSeq (·.push r))
    refine wpAny_updateSeq gS rfl (wpAny_pure ⟨plainId_quiet PySem.F.plain_extend_loop _, ?_⟩) (by rw [hacc.1]; omega) (by show (acc.push r).size ≤ sizeLine + 1; rw [Array.size_push, hacc.1]; omega)
    obtain ⟨c3, g3⟩ : ∃ c3, (h2.update S (Obj.mapSeq (·.push r))).get? S = some (liS (acc.push r) c3) := ⟨_, Heap.get?_update_self _ gS rfl⟩
    refine ih (i + 1) _ _ (acc.push r) c3 oI' (by omega) hlt (ksk_fr F2 s3 nS.2.1 nS.2.2) (fun p hp => ?_) ⟨oI', (s3.2 I dSI.symm).trans (N2.get (.tail _ (.tail _ (.tail _ (.head _))))), hoc, hod⟩ (hacc.push hP)
    rcases List.mem_cons.mp hp with rfl | hp
    · exact ⟨g3, nS.2⟩
    · rcases List.mem_cons.mp hp with rfl | hp
      · exact ⟨(s3.2 _ dSZ.symm).trans (N2.get (.tail _ (.head _))), nZ.2⟩
      · rcases List.mem_cons.mp hp with rfl | hp
        · exact ⟨(s3.2 _ dST.symm).trans (N2.get (.tail _ (.tail _ (.head _)))), nT.2⟩
        · rcases List.mem_cons.mp hp with rfl | hp
          · exact ⟨(s3.2 _ dSI.symm).trans (N2.get (.tail _ (.tail _ (.tail _ (.head _))))), nI.2⟩
          · exact ksk_news (fun q hq => N2 q (.tail _ (.tail _ (.tail _ (.tail _ hq))))) s3 dS p hp
theorem collect_map {P : Nat → Value → Prop} {Q : List Value → Shared → Prop} {Z T I l : Addr} {f : Value} {xs : Array Value} {n : Nat} (hh : A.handled = none) (hm : (l, W.listOf xs n) ∈ news) (hn : xs.size ≤ sizeLine)
    (F : Fr h₀ L s.heap m) (N : News h₀ L s.heap ((Z, maO T f) :: (T, tuO #[.ref I]) :: (I, liO l) :: news)) (dZI : Z ≠ I) (dTI : T ≠ I) (dI : ∀ p ∈ news, p.1 ≠ I)
    (turn : ∀ (i : Nat) (v : Value) (h : Heap) (tk : Nat) (nx : List (Addr × Obj)) (Q : Value → Shared → Prop) (E : Value → Shared → Prop), xs[i]? = some v → Fr h₀ L h m → News h₀ L h nx →
      (∀ r h' tk', Fr h₀ L h' m → News h₀ L h' nx → P i r → Q r { s with heap := h', toks := tk' }) → wpAny (model prog w) A.in1.in1 (call f [v]) Q E { s with heap := h, toks := tk })
    (hQ : ∀ h' tk' acc, Fr h₀ L h' m → News h₀ L h' news → ItemsOf P acc xs.size → Q acc.toList { s with heap := h', toks := tk' }) :
    wpAny (model prog w) A (collect (.ref Z)) Q E s := by
  have nZ := N _ (.head _)
  have Nn : News h₀ L s.heap news := fun p hp => N p (.tail _ (.tail _ (.tail _ hp)))
  have lt : ∀ {c o}, s.heap.get? c = some o → s.heap.objs.size ≠ c := fun e => Nat.ne_of_gt (Heap.lt_size e)
  have hSZ : s.heap.objs.size ≠ Z := lt nZ.1
  have hST : s.heap.objs.size ≠ T := lt (N.get (.tail _ (.head _)))
  have hSI : s.heap.objs.size ≠ I := lt (N.get (.tail _ (.tail _ (.head _))))
  have F1 := F.push { cls := .type "list", data := .seq ([] : List Value).toArray }
  have N1 := News.push F N { cls := .type "list", data := .seq ([] : List Value).toArray }
  have hT : Shared.TypeIs { s with heap := s.heap.push { cls := .type "list", data := .seq ([] : List Value).toArray } } (.ref Z) "map" := ⟨_, N1.get (.tail _ (.head _)), rfl⟩
  unfold collect
  refine wpAny_bind (wpAny_runValue (codeAny_builtin PySem.F.entry_proto_collect ?_))
  rw [Around.under_plainId PySem.F.plain_proto_collect _]
  show wpAny _ A.in1 (newList [] >>= fun l => again (.builtin "list.__iadd__" ⟨[l, .ref Z], []⟩)) _ _ s
  refine wpAny_bind (wpAny_newObj_type ?_)
  refine wpAny_pure ⟨plainId_quiet PySem.F.plain_list_iadd _, codeAny_builtin PySem.F.entry_list_iadd ?_⟩
  rw [Around.under_plainId PySem.F.plain_list_iadd _]
  show wpAny _ A.in1 (Builtin.List.listExtendWith (.ref s.heap.objs.size) (.ref Z) (.ref s.heap.objs.size)) _ _ _
  unfold Builtin.List.listExtendWith
  refine wpAny_bind (wpAny_typeOf hT ?_)
  have h1 : Builtin.List.listSameRef (.ref s.heap.objs.size) (.ref Z) = false := by simp [Builtin.List.listSameRef, hSZ]
  have h2 : (Value.type "map" == Value.type "list") = false := by decide
  have h3 : (Value.type "map" == Value.type "tuple") = false := by decide
  simp only [h1, h2, h3, Bool.or_false, Bool.false_eq_true, if_false]
  refine wpAny_bind (pyIter_map (N1.get (.tail _ (.head _))) ?_)
  refine wpAny_bind (wpAny_holding ?_)
  unfold Builtin.List.listLengthHint
  refine wpAny_bind (wpAny_specialOf hT no_len ?_)
  show wpAny _ A.in1 (specialOf (Value.ref Z) (Str.ofString "__length_hint__") >>= _) _ _ _
  refine wpAny_bind (wpAny_specialOf hT no_hint ?_)
  refine wpAny_pure ?_
  show wpAny _ A.in1 (rule "list.extend.makes-room" >>= fun _ => Builtin.List.listTouch (.ref s.heap.objs.size) >>= fun _ =>
    again (.builtin "list.extend.loop" ⟨[.ref s.heap.objs.size, .ref Z, .ref s.heap.objs.size], []⟩)) _ _ _
  refine wpAny_bind (wpAny_rule ?_)
  have hS₁ : (s.heap.push { cls := .type "list", data := .seq ([] : List Value).toArray }).get? s.heap.objs.size = some { cls := .type "list", data := .seq ([] : List Value).toArray } := Heap.get?_push_size _ rfl
  refine wpAny_bind ?_
  show wpAny _ A.in1 (updateSeq s.heap.objs.size (·.push .none) >>= fun _ => updateSeq s.heap.objs.size (·.pop)) _ _ _
  refine wpAny_bind (wpAny_updateSeq hS₁ rfl ?_)
  have hS₂ := Heap.get?_update_self (Obj.mapSeq (·.push Value.none)) hS₁ rfl
  refine wpAny_updateSeq hS₂ rfl ?_
  have hS₃ := Heap.get?_update_self (Obj.mapSeq (·.pop)) hS₂ rfl
  have s2 := Heap.SameBut.update (s.heap.push { cls := .type "list", data := .seq ([] : List Value).toArray }) s.heap.objs.size (Obj.mapSeq (·.push Value.none))
  have s3 := Heap.SameBut.update ((s.heap.push { cls := .type "list", data := .seq ([] : List Value).toArray }).update s.heap.objs.size (Obj.mapSeq (·.push Value.none))) s.heap.objs.size (Obj.mapSeq (·.pop))
  have nS := N1 _ (.head _)
  have F3 := ksk_fr (ksk_fr F1 s2 nS.2.1 nS.2.2) s3 nS.2.1 nS.2.2
  have N3 : News h₀ L _ ((Z, maO T f) :: (T, tuO #[.ref I]) :: (I, liO l) :: news) := ksk_news (ksk_news (fun p hp => N1 p (.tail _ hp)) s2 (fun p hp => (lt (N.get hp)).symm)) s3 (fun p hp => (lt (N.get hp)).symm)
  obtain ⟨c3, hS₄⟩ : ∃ c3, (((s.heap.push { cls := .type "list", data := .seq ([] : List Value).toArray }).update s.heap.objs.size (Obj.mapSeq (·.push Value.none))).update s.heap.objs.size (Obj.mapSeq (·.pop))).get? s.heap.objs.size = some (liS #[] c3) := ⟨_, hS₃⟩
  have N4 : News h₀ L _ ((s.heap.objs.size, liS #[] c3) :: (Z, maO T f) :: (T, tuO #[.ref I]) :: (I, liO l) :: news) := fun p hp => (List.mem_cons.mp hp).elim (fun e => by rw [e]; exact ⟨hS₄, nS.2⟩) (fun hp => N3 p hp)
  refine wpAny_pure ⟨plainId_quiet PySem.F.plain_extend_loop _, ext_loop (s := s) (P := P) hh hm hn hSZ hST hSI dZI dTI (fun p hp => (lt (Nn.get hp)).symm) dI turn ?_ _ 0 _ _ #[] _ _ rfl (Nat.zero_le _) F3 N4 ⟨_, N3.get (.tail _ (.tail _ (.head _))), rfl, rfl⟩ (ItemsOf.nil P)⟩
  · intro h' tk' acc c F' N' ha
    show wpAny _ A (load s.heap.objs.size >>= _) _ _ _
    refine wpAny_bind (wpAny_load (N'.get (.head _)) ?_)
    exact wpAny_pure (hQ h' tk' acc F' (fun p hp => N' p (.tail _ hp)) ha)
theorem tuple_map {P : Nat → Value → Prop} {Q : Value → Shared → Prop} {Z T I l : Addr} {f : Value} {xs : Array Value} {n : Nat} (hh : A.handled = none) (hm : (l, W.listOf xs n) ∈ news) (hn : xs.size ≤ sizeLine)
    (F : Fr h₀ L s.heap m) (N : News h₀ L s.heap ((Z, maO T f) :: (T, tuO #[.ref I]) :: (I, liO l) :: news)) (lIT : I < T) (lTZ : T < Z) (dI : ∀ p ∈ news, p.1 ≠ I)
    (turn : ∀ (i : Nat) (v : Value) (h : Heap) (tk : Nat) (nx : List (Addr × Obj)) (Q : Value → Shared → Prop) (E : Value → Shared → Prop), xs[i]? = some v → Fr h₀ L h m → News h₀ L h nx →
      (∀ r h' tk', Fr h₀ L h' m → News h₀ L h' nx → P i r → Q r { s with heap := h', toks := tk' }) → wpAny (model prog w) A.in1.in1.in1.in1 (call f [v]) Q E { s with heap := h, toks := tk })
    (hQ : ∀ r h' tk' acc, Fr h₀ L h' m → News h₀ L h' ((r, tuO acc) :: news) → (∀ p ∈ news, p.1 < r) → ItemsOf P acc xs.size → Q (.ref r) { s with heap := h', toks := tk' }) :
    wpAny (model prog w) A (call (.type "tuple") [.ref Z]) Q E s := by
  refine callType_codes (Q₁ := fun obj s₁ => s₁.TypeIs obj "tuple" ∧ Q obj s₁) PySem.F.called_tuple (PySem.F.typeCall_tuple_1 _) PySem.F.entry_object_init ?_ fun obj s₁ h₁ =>
    ⟨h₁.1, PySem.F.args_object_init_2 obj _, object_init_meets PySem.F.called_tuple.init.lookup PySem.F.called_tuple.made (by decide) prog w A.in1 _ s₁ ⟨h₁.1, rfl, h₁.2⟩⟩
  refine codeAny_of_tree ?_
  show wpAny _ A.in1.in1 (do checkBuiltinCall "tuple.__new__" ⟨[.type "tuple", .ref Z], []⟩; again (.builtin "tuple.__new__" ⟨[.type "tuple", .ref Z], []⟩)) _ _ s
  refine wpAny_bind (wpAny_of_eq (PySem.F.newCall_tuple_1 _) (wpAny_pure ⟨plainId_quiet PySem.F.plain_tuple_new _, codeAny_builtin PySem.F.entry_tuple_new ?_⟩))
  rw [Around.under_plainId PySem.F.plain_tuple_new _]
  have hsub := sub_tuple_self
  have hinit := init_tuple_lookup
  have hmh := madeHere_tuple
  have hTI : s.TypeIs (.ref Z) "map" := ⟨_, N.get (.head _), rfl⟩
  have key : ∀ {Q' : List Value → Shared → Prop} {E' : Value → Shared → Prop}, (∀ h' tk' acc, Fr h₀ L h' m → News h₀ L h' news → ItemsOf P acc xs.size → Q' acc.toList { s with heap := h', toks := tk' }) → wpAny (model prog w) A.in1.in1 (collect (.ref Z)) Q' E' s := fun k =>
    collect_map (A := A.in1.in1) hh hm hn F N (Nat.ne_of_gt (Nat.lt_trans lIT lTZ)) (Nat.ne_of_gt lIT) dI turn k
  wp_walk using wpAny_typeOf hTI, key
  intro h' tk' acc F' N' hacc
  show wpAny _ _ (Builtin.Tuple.tupleExact acc.toList.toArray >>= fun v => ret v) _ _ _
  unfold Builtin.Tuple.tupleExact
  refine wpAny_bind (wpAny_newObj_type ?_ (by show acc.toList.toArray.size ≤ sizeLine; simp only [Array.toArray_toList]; rw [hacc.1]; exact hn))
  refine wpAny_pure ?_
  have e : acc.toList.toArray = acc := by simp
  rw [e]
  have N2 := News.push F' N' (tuO acc)
  exact ⟨⟨_, N2.get (.head _), rfl⟩, hQ _ _ _ acc (F'.push _) N2 (fun p hp => Heap.lt_size (N' p hp).1) hacc⟩
theorem two {x y : Str} {acc : Array Value} (h : ItemsOf (fun i r => ∃ z t, [x, y][i]? = some z ∧ r = Value.str z t) acc 2) : ∃ a b, acc = #[Value.str x a, Value.str y b] := by
  obtain ⟨l⟩ := acc
  rcases l with _ | ⟨a, _ | ⟨b, _ | ⟨c, r⟩⟩⟩
  · exact absurd h.1 (by simp)
  · exact absurd h.1 (by simp)
  · obtain ⟨z, t, e, rfl⟩ := h.2 0 a rfl
    obtain ⟨z', t', e', rfl⟩ := h.2 1 b rfl
    cases e; cases e'
    exact ⟨t, t', rfl⟩
  · exact absurd h.1 (by simp)
end
end MapK
theorem ne_of_lts1 {a : Addr} {news : List (Addr × Obj)} (h : ∀ p ∈ news, p.1 < a) : ∀ p ∈ news, p.1 ≠ a + 1 := fun p hp => Nat.ne_of_lt (Nat.lt_succ_of_lt (h p hp))
theorem ne_of_lts2 {a : Addr} {news : List (Addr × Obj)} (h : ∀ p ∈ news, p.1 < a) : ∀ p ∈ news, p.1 ≠ a + 1 + 1 := fun p hp => Nat.ne_of_lt (Nat.lt_succ_of_lt (Nat.lt_succ_of_lt (h p hp)))
end
section
namespace CK
open LCg (NsObj ns_obj lst lst_snoc fr_but news_but)
abbrev tests (env : Env) (ifs : List Expr) : Sem Bool := forIn ifs true fun c r => if r = true then do let ok ← isTrue c env (eval c env); pure (ForInStep.yield ok) else pure (ForInStep.yield r)
/-- what a comprehension walks over: a value whose iterator can be walked n times, as long as S stands in the ledger -/
structure Src (prog : Program) (w : World) (A : Around) (h₀ : Heap) (L : Addr) (xv : Value) (n : Nat) (P : Nat → Value → Prop) (S : List (Addr × Obj) → Prop) (s₁ : Shared) (oI : Obj) (fp : List Addr) (St : Nat → Heap → Prop) : Prop where
  iter : ∀ (E Q : Value → Shared → Prop), Q (.ref s₁.heap.objs.size) { s₁ with heap := s₁.heap.push oI } → wpAny (model prog w) A (pyIter xv) Q E s₁
  walks : Walks prog w A s₁.heap.objs.size fp [s₁.heap.objs.size] n P St
  start : St 0 (s₁.heap.push oI)
  here : ∀ i h, St i h → ∃ o, h.get? s₁.heap.objs.size = some o
  move : ∀ i (h h' : Heap) o nw, St i h → h.get? s₁.heap.objs.size = some o → h'.get? s₁.heap.objs.size = some o → (∀ b o, h₀.get? b = some o → h'.get? b = some o) → News h₀ L h' nw → S nw → St i h'
  lt : ∀ b ∈ fp, b < s₁.heap.objs.size + 1
  free : oI.isFreed = false
section
variable {prog : Program} {w : World} {A : Around} {E : Value → Shared → Prop} {s : Shared} {h₀ : Heap} {L : Addr} {m : Str → Option Value} {env : Env} {news : List (Addr × Obj)}
theorem srcList {ax : Addr} {o : Obj} {its : Array Value} {k : Nat} (hh : A.handled = none) (N : News h₀ L s.heap news) (hm : (ax, o) ∈ news) (hc : o.cls = .type "list") (hd : o.data = .seq its k) :
    Src prog w A h₀ L (.ref ax) its.size (fun i v => its[i]? = some v) (fun nw => (ax, o) ∈ nw) s { cls := .type "list_iterator", data := .fields #[.ref ax, .int 0 0] } [s.heap.objs.size, ax] (fun i h => h.IsListIter s.heap.objs.size ax i ∧ h.IsList ax its) := by
  have hl : s.heap.IsList ax its := ⟨o, N.get hm, hc, k, hd⟩
  have hlt : ax < s.heap.objs.size := Heap.lt_size (N.get hm)
  refine ⟨fun E Q q => wpAny_pyIter_list hl q, Walks.list hh _ ax (Nat.ne_of_lt hlt) its, ⟨⟨_, Heap.get?_push_size _ rfl, rfl, rfl⟩, hl.push _⟩, fun i h st => by obtain ⟨o, e, _⟩ := st.1; exact ⟨o, e⟩, ?_, ?_, rfl⟩
  · intro i h h' oI nw st e e' _ N' hS
    obtain ⟨o', q, r⟩ := st.1
    rw [e] at q; cases q
    exact ⟨⟨oI, e', r⟩, ⟨o, N'.get hS, hc, k, hd⟩⟩
  · intro b hb
    rcases List.mem_cons.mp hb with rfl | hb
    · exact Nat.lt_succ_self _
    · rw [List.mem_singleton.mp hb]; exact Nat.lt_succ_of_lt hlt
theorem srcTuple {ax : Addr} {o : Obj} {its : Array Value} {k : Nat} (hh : A.handled = none) (N : News h₀ L s.heap news) (hm : (ax, o) ∈ news) (hc : o.cls = .type "tuple") (hd : o.data = .seq its k) :
    Src prog w A h₀ L (.ref ax) its.size (fun i v => its[i]? = some v) (fun nw => (ax, o) ∈ nw) s { cls := .type "tuple_iterator", data := .fields #[.ref ax, .int 0 0] } [s.heap.objs.size, ax] (fun i h => h.IsTupleIter s.heap.objs.size ax i ∧ h.IsTuple ax its) := by
  have hl : s.heap.IsTuple ax its := ⟨o, N.get hm, hc, k, hd⟩
  have hlt : ax < s.heap.objs.size := Heap.lt_size (N.get hm)
  refine ⟨fun E Q q => wpAny_pyIter_tuple hl q, Walks.tuple hh _ ax (Nat.ne_of_lt hlt) its, ⟨⟨_, Heap.get?_push_size _ rfl, rfl, rfl⟩, hl.push _⟩, fun i h st => by obtain ⟨o, e, _⟩ := st.1; exact ⟨o, e⟩, ?_, ?_, rfl⟩
  · intro i h h' oI nw st e e' _ N' hS
    obtain ⟨o', q, r⟩ := st.1
    rw [e] at q; cases q
    exact ⟨⟨oI, e', r⟩, ⟨o, N'.get hS, hc, k, hd⟩⟩
  · intro b hb
    rcases List.mem_cons.mp hb with rfl | hb
    · exact Nat.lt_succ_self _
    · rw [List.mem_singleton.mp hb]; exact Nat.lt_succ_of_lt hlt
theorem srcRange {r : Addr} {a b : Int} {t u v : Tok} {n : Nat} (hh : A.handled = none) (hr : IsRange s.heap r a b 1 t u v) (hsm : Builtin.Range.small a b 1 = true) (hn : Builtin.Range.rangeSize a b 1 = ((n : Nat) : Int)) :
    ∃ oI, Src prog w A h₀ L (.ref r) n (fun i v => ∃ t, v = .int (a + (i : Int)) t) (fun _ => True) s oI [s.heap.objs.size] (fun i h => IsRangeIter h s.heap.objs.size (a + (i : Nat) * 1) ((n : Int) - (i : Nat)) 1) := by
  refine ⟨_, fun E Q q => wpAny_pyIter_range hr hsm q, LCg.range_walks hh a n, by show IsRangeIter _ _ _ _ _; rw [hn]; simpa using Heap.get?_push_size _ rfl, fun i h st => ⟨_, st⟩, fun i h h' o nw st e e' a b _ => LCg.range_st (L := L) (h₀ := h₀) i h h' o nw st e e' a b trivial, ?_, rfl⟩
  intro b hb
  rw [List.mem_singleton.mp hb]; exact Nat.lt_succ_self _
end
/-- where a turn ends: the same iterator, frame and list, and a ledger that keeps the invariant -/
def EndL (h₀ : Heap) (L : Addr) (m : Str → Option Value) (s : Shared) (I : Addr) (oI : Obj) (C : Addr) (oC : Obj) (D : Addr) (S : List (Addr × Obj) → Prop) (J : List Value → List (Addr × Obj) → Prop) (zs ys : List Value) (s₂ : Shared) : Prop :=
  ∃ h' tk news', s₂ = { s with heap := h', toks := tk } ∧ Fr h₀ L h' m ∧ News h₀ L h' ((I, oI) :: (C, oC) :: (D, lst zs) :: news') ∧ (∀ p ∈ news', p.1 ≠ I ∧ p.1 ≠ C ∧ p.1 ≠ D) ∧ S news' ∧ J ys news'
theorem EndL.intro {h₀ : Heap} {L I C D : Addr} {m : Str → Option Value} {s : Shared} {oI oC : Obj} {S : List (Addr × Obj) → Prop} {J : List Value → List (Addr × Obj) → Prop} {zs ys : List Value} {h' : Heap} {tk : Nat} {all : List (Addr × Obj)}
    (F : Fr h₀ L h' m) (N : News h₀ L h' all) (news' : List (Addr × Obj)) (sub : ∀ p ∈ (I, oI) :: (C, oC) :: (D, lst zs) :: news', p ∈ all) (off : ∀ p ∈ news', p.1 ≠ I ∧ p.1 ≠ C ∧ p.1 ≠ D) (hS : S news') (r : J ys news') :
    EndL h₀ L m s I oI C oC D S J zs ys { s with heap := h', toks := tk } := ⟨h', tk, news', rfl, F, fun p hp => N p (sub p hp), off, hS, r⟩
/-- where a turn ends: the same iterator, frame and list and cell, and a ledger that keeps the invariant -/
def EndC (h₀ : Heap) (L : Addr) (m : Str → Option Value) (s : Shared) (I : Addr) (oI : Obj) (C : Addr) (oC : Obj) (D : Addr) (c : Addr) (oc : Obj) (S : List (Addr × Obj) → Prop) (J : List Value → List (Addr × Obj) → Prop) (zs ys : List Value) (s₂ : Shared) : Prop :=
  ∃ h' tk news', s₂ = { s with heap := h', toks := tk } ∧ Fr h₀ L h' m ∧ News h₀ L h' ((I, oI) :: (C, oC) :: (D, lst zs) :: (c, oc) :: news') ∧ (∀ p ∈ news', p.1 ≠ I ∧ p.1 ≠ C ∧ p.1 ≠ D ∧ p.1 ≠ c) ∧ S news' ∧ J ys news'
theorem EndC.intro {h₀ : Heap} {L I C D : Addr} {c : Addr} {m : Str → Option Value} {s : Shared} {oI oC oc : Obj} {S : List (Addr × Obj) → Prop} {J : List Value → List (Addr × Obj) → Prop} {zs ys : List Value} {h' : Heap} {tk : Nat} {all : List (Addr × Obj)}
    (F : Fr h₀ L h' m) (N : News h₀ L h' all) (news' : List (Addr × Obj)) (sub : ∀ p ∈ (I, oI) :: (C, oC) :: (D, lst zs) :: (c, oc) :: news', p ∈ all) (off : ∀ p ∈ news', p.1 ≠ I ∧ p.1 ≠ C ∧ p.1 ≠ D ∧ p.1 ≠ c) (hS : S news') (r : J ys news') :
    EndC h₀ L m s I oI C oC D c oc S J zs ys { s with heap := h', toks := tk } := ⟨h', tk, news', rfl, F, fun p hp => N p (sub p hp), off, hS, r⟩
section
variable {prog : Program} {w : World} {A : Around} {E : Value → Shared → Prop} {s : Shared} {h₀ : Heap} {L : Addr} {m : Str → Option Value} {env : Env} {news : List (Addr × Obj)}
theorem blockL {elt iter : Expr} {ifs : List Expr} {x : Str} {px : Pos} {scope : Scope} {cl : List (Str × Addr)} {pos : Pos} {s₁ : Shared} {xv : Value} {oI : Obj} {fp : List Addr} {n : Nat} {P : Nat → Value → Prop} {St : Nat → Heap → Prop} {S : List (Addr × Obj) → Prop}
    {J : Nat → List Value → List (Addr × Obj) → Prop} {RR : Value → Addr → Result → Shared → Prop}
    (W : Src prog w A h₀ L xv n P S s₁ oI fp St) (hsz : n ≤ sizeLine)
    (hcell : ∀ y ∈ scope.names, y.2 ≠ .cell) (hkind : scope.kind = .function) (hx : scope.names.lookup x = some .local)
    (F : Fr h₀ L s₁.heap m) (N : News h₀ L s₁.heap news) (hS : S news) (hJ : J 0 [] news)
    (turn : ∀ i v I oI C oC D m₂ ys news h tk (E' : Value → Shared → Prop), i < n → P i v → ys.length ≤ i → J i ys news → S news → NsObj oC m₂ → m₂ x = some v → Fr h₀ L h m → News h₀ L h ((I, oI) :: (C, oC) :: (D, lst ys) :: news) →
      (∀ p ∈ news, p.1 ≠ I ∧ p.1 ≠ C ∧ p.1 ≠ D) → I ≠ C → I ≠ D → C ≠ D →
      wpAny (model prog w) A (tests (compEnvC scope cl C env) ifs) (fun ok s₃ => if ok = true then
        wpAny (model prog w) A (eval elt (compEnvC scope cl C env)) (fun y => EndL h₀ L m { s₁ with heap := h, toks := tk } I oI C oC D S (J (i + 1)) ys (ys ++ [y])) E' s₃
        else EndL h₀ L m { s₁ with heap := h, toks := tk } I oI C oC D S (J (i + 1)) ys ys s₃) E' { s₁ with heap := h, toks := tk })
    (hRR : ∀ D C h tk m' ys news', Fr h₀ L h m → News h₀ L h ((D, lst ys) :: news') → (∀ p ∈ news', p.1 ≠ D) → h.Ns C m' → h₀.get? C = none → h₀.get? D = none → C ≠ L → D ≠ L → C ≠ D → (∀ p ∈ news', p.1 ≠ C) → J n ys news' → RR (.ref D) C (.ok .next) { s₁ with heap := h, toks := tk }) :
    wpAny (model prog w) A (pyIter xv) (fun it s₂ => wpAny (model prog w) A (newList []) (fun acc s₃ => wpAny (model prog w) A (newFunctionEnv scope env.globals cl [] env.qual none .none (some env)) (fun cenv s₄ =>
      codeAny (model prog w) A (.compStart (.ListComp elt [⟨.Name x px, iter, ifs, 0⟩] scope pos) 0 it acc { cenv with scope := relabel scope env }) (RR acc cenv.locals) s₄) E s₃) E s₂) E s₁ := by
  obtain ⟨Wi, Ww, Ws, Wh, Wm, Wl, Wf⟩ := W
  refine Wi _ _ ?_
  clear Wi
  generalize hI0 : s₁.heap.objs.size = I at *
  have F₁ : Fr h₀ L (s₁.heap.push oI) m := F.push _
  have N₁ : News h₀ L (s₁.heap.push oI) news := N.grown fun b o e => Heap.get?_push_of_some _ e
  have gI : (s₁.heap.push oI).get? I = some oI := hI0 ▸ Heap.get?_push_size _ Wf
  have hLI : L ≠ I := hI0 ▸ Nat.ne_of_lt F.ns.lt
  have fresh1 : ∀ a, I ≤ a → h₀.get? a = none := fun a ha => by
    cases e : h₀.get? a with
    | none => rfl
    | some o' => exact absurd (Heap.lt_size (F.keep a o' e)) (by rw [hI0]; exact Nat.not_lt.mpr ha)
  have hsz1 : (s₁.heap.push oI).objs.size = I + 1 := by rw [Heap.size_push, hI0]
  have offI : ∀ p ∈ news, p.1 < I := fun p hp => hI0 ▸ Heap.lt_size (N p hp).1
  generalize hB : s₁.heap.push oI = B at F₁ N₁ gI hsz1 ⊢
  have hst : St 0 B := hB ▸ Ws
  refine wpAny_newObj_type (wpAny_newFunctionEnv hcell (by intro y hy; simp at hy) (fun h₁ hns₁ hsb₁ => ?_) hkind)
  dsimp only at hns₁ hsb₁ ⊢
  generalize hH2 : B.push { cls := .type "list", dict := none, data := .seq ([] : List Value).toArray } = H2 at hns₁ hsb₁ ⊢
  have hC : H2.objs.size = B.objs.size + 1 := by rw [← hH2, Heap.size_push]
  have hDC : B.objs.size ≠ H2.objs.size := by rw [hC]; exact Nat.ne_of_lt (Nat.lt_succ_self _)
  have below : ∀ b, b < B.objs.size → b ≠ H2.objs.size ∧ b ≠ B.objs.size := fun b hb => ⟨by rw [hC]; exact Nat.ne_of_lt (Nat.lt_succ_of_lt hb), Nat.ne_of_lt hb⟩
  have hfp : ∀ b ∈ fp, b < B.objs.size := fun b hb => by rw [hsz1]; exact Wl b hb
  have hDf : B.objs.size ∉ fp := fun hm => Nat.lt_irrefl _ (hfp _ hm)
  have hCf : H2.objs.size ∉ fp := fun hm => by have := hfp _ hm; rw [hC] at this; exact Nat.lt_irrefl _ (Nat.lt_of_succ_lt this)
  have hIlt : I < B.objs.size := by rw [hsz1]; exact Nat.lt_succ_self _
  have old : ∀ b o, B.get? b = some o → h₁.get? b = some o := fun b o e => hsb₁.extBut b o (below b (Heap.lt_size e)).1 (Heap.get?_push_of_some _ (hH2 ▸ Heap.get?_push_of_some _ e))
  have hacc : h₁.get? B.objs.size = some (lst []) := hsb₁.extBut _ _ hDC (Heap.get?_push_of_some _ (hH2 ▸ Heap.get?_push_size _ rfl))
  have hst₁ : St 0 h₁ := Ww.frame _ _ _ hst fun b _ o e => old b o e
  have hD₀ : h₀.get? B.objs.size = none := fresh1 _ (Nat.le_of_lt hIlt)
  have hC₀ : h₀.get? H2.objs.size = none := fresh1 _ (by rw [hC]; exact Nat.le_succ_of_le (Nat.le_of_lt hIlt))
  have hI₀ : h₀.get? I = none := fresh1 _ (Nat.le_refl _)
  have hLlt : L < B.objs.size := F₁.ns.lt
  have hDL : B.objs.size ≠ L := Ne.symm (below L hLlt).2
  have hCL : H2.objs.size ≠ L := Ne.symm (below L hLlt).1
  have hCI : I ≠ H2.objs.size := (below I hIlt).1
  have hDI : I ≠ B.objs.size := (below I hIlt).2
  have off₀ : ∀ p ∈ news, p.1 ≠ I ∧ p.1 ≠ H2.objs.size ∧ p.1 ≠ B.objs.size := fun p hp => ⟨Nat.ne_of_lt (offI p hp), below _ (Nat.lt_trans (offI p hp) hIlt)⟩
  have loop : ∀ s₃ : Shared, s₃ = { s₁ with heap := h₁, toks := s₁.toks + ([] : List (Str × Value)).length } →
      codeAny (model prog w) A (.compLoop (.ListComp elt [⟨.Name x px, iter, ifs, 0⟩] scope pos) 0 (.ref I) (.ref B.objs.size) (compEnvC scope cl H2.objs.size env))
        (RR (.ref B.objs.size) H2.objs.size) s₃ := by
    rintro s₃ rfl
    refine codeAny_compLoop_tests
      (fun k s' => ∃ h' tk i ys m' news', s' = { s₁ with heap := h', toks := tk } ∧ i ≤ n ∧ k = n + 1 - i ∧ ys.length ≤ i ∧ St i h' ∧ Fr h₀ L h' m ∧ h'.Ns H2.objs.size m' ∧ News h₀ L h' ((B.objs.size, lst ys) :: news') ∧
        (∀ p ∈ news', p.1 ≠ I ∧ p.1 ≠ H2.objs.size ∧ p.1 ≠ B.objs.size) ∧ S news' ∧ J i ys news') ?_ (n + 1)
      ⟨h₁, _, 0, [], _, news, rfl, Nat.zero_le _, rfl, Nat.le_refl _, hst₁, F₁.keeps old, hns₁, fun p hp => ?_, off₀, hS, hJ⟩
    · rintro k s' ⟨h', tk, i, ys, m', news', rfl, hi, rfl, hyl, hst', F', hn', N', off', hS', R'⟩
      by_cases hlt : i < n
      · refine Ww.item i _ _ _ hlt hst' fun v h₂ tk₂ hPv hst₂ hk₂ => ?_
        refine wpAny_assign_Name (wpAny_storeName_local (lookup_relabel_local hx) (hn'.at' fun o e => hk₂ _ o (by simpa using Ne.symm hCI) e) (fun h₃ hn₃ hs₃ => ?_) (by simp [compEnvC, relabel, hkind]))
        have hst₃ : St (i + 1) h₃ := Ww.frame _ _ _ hst₂ fun b hb o e => hs₃.extBut b o (fun q => hCf (by have q' : b = H2.objs.size := q; rw [← q']; exact hb)) e
        obtain ⟨oI', heI⟩ := Wh _ _ hst₃
        obtain ⟨oC, heC, hoC⟩ := ns_obj hn₃
        have F₃ : Fr h₀ L h₃ m := (fr_but F' hk₂ hLI hI₀).change hs₃ hCL hC₀
        have N₂ : News h₀ L h₂ ((B.objs.size, lst ys) :: news') := news_but N' hk₂ fun p hp => by
          rcases List.mem_cons.mp hp with rfl | hp
          · exact Ne.symm hDI
          · exact (off' p hp).1
        have N₃ : News h₀ L h₃ ((I, oI') :: (H2.objs.size, oC) :: (B.objs.size, lst ys) :: news') := fun p hp => by
          rcases List.mem_cons.mp hp with rfl | hp
          · exact ⟨heI, Ne.symm hLI, hI₀⟩
          · rcases List.mem_cons.mp hp with rfl | hp
            · exact ⟨heC, hCL, hC₀⟩
            · have z := N₂ p hp
              refine ⟨hs₃.extBut _ _ ?_ z.1, z.2⟩
              rcases List.mem_cons.mp hp with rfl | hp
              · exact hDC
              · exact (off' p hp).2.1
        have step : ∀ tkx zs s₅, EndL h₀ L m { s₁ with heap := h₃, toks := tkx } I oI' H2.objs.size oC B.objs.size S (J (i + 1)) ys zs s₅ → ∃ h' tk news', s₅ = { s₁ with heap := h', toks := tk } ∧ St (i + 1) h' ∧ Fr h₀ L h' m ∧ h'.Ns H2.objs.size (fun y => if y = x then some v else m' y) ∧ News h₀ L h' ((B.objs.size, lst ys) :: news') ∧ (∀ p ∈ news', p.1 ≠ I ∧ p.1 ≠ H2.objs.size ∧ p.1 ≠ B.objs.size) ∧ S news' ∧ J (i + 1) zs news' := by
          rintro tkx zs s₅ ⟨h₅, tk₅, news₅, rfl, F₅, N₅, off₅, hS₅, R₅⟩
          have zI := (N₅ (I, oI') List.mem_cons_self).1
          have zC := (N₅ (H2.objs.size, oC) (List.mem_cons_of_mem _ List.mem_cons_self)).1
          have N₅' : News h₀ L h₅ ((B.objs.size, lst ys) :: news₅) := fun p hp => N₅ p (List.mem_cons_of_mem _ (List.mem_cons_of_mem _ hp))
          refine ⟨h₅, tk₅, news₅, rfl, ?_, F₅, hoC.ns zC, N₅', off₅, hS₅, R₅⟩
          have mv := Wm (i + 1) h₃ h₅ oI' news₅ hst₃
          exact mv heI zI F₅.keep (fun p hp => N₅' p (.tail _ hp)) hS₅
        refine wpAny_mono (turn i v I oI' H2.objs.size oC B.objs.size _ ys news' h₃ _ _ hlt hPv hyl R' hS' hoC (by simp) F₃ N₃ off' hCI hDI (Ne.symm hDC)) (fun ok s₄ h₄ => ?_) fun _ _ e => e
        split at h₄
        · rename_i hok
          rw [if_pos hok]
          refine wpAny_mono h₄ (fun y s₅ h₅ => ?_) fun _ _ e => e
          obtain ⟨h₆, tk₆, news₆, rfl, hst₆, F₆, hn₆, N₆, off₆, hS₆, R₆⟩ := step _ _ _ h₅
          have zD := (N₆ (B.objs.size, lst ys) List.mem_cons_self).1
          refine append_at (hsz := by show ys.toArray.size ≤ sizeLine; rw [List.size_toArray]; exact Nat.le_trans hyl (Nat.le_trans hi hsz)) zD fun h₇ hs₇ hD₇ => ?_
          refine ⟨n + 1 - (i + 1), by omega, h₇, tk₆, i + 1, ys ++ [y], _, news₆, rfl, hlt, rfl, by rw [List.length_append, List.length_singleton]; omega, Ww.frame _ _ _ hst₆ fun b hb o e => hs₇.extBut b o (fun q => hDf (q ▸ hb)) e, F₆.change hs₇ hDL hD₀,
            hn₆.sameBut hs₇ (Ne.symm hDC), fun p hp => ?_, off₆, hS₆, R₆⟩
          rcases List.mem_cons.mp hp with rfl | hp
          · exact ⟨hD₇.trans (congrArg some (lst_snoc ys y)), hDL, hD₀⟩
          · exact ⟨hs₇.extBut _ _ (off₆ p hp).2.2 (N₆ p (.tail _ hp)).1, (N₆ p (.tail _ hp)).2⟩
        · rename_i hok
          rw [if_neg hok]
          obtain ⟨h₆, tk₆, news₆, rfl, hst₆, F₆, hn₆, N₆, off₆, hS₆, R₆⟩ := step _ _ _ h₄
          exact ⟨n + 1 - (i + 1), by omega, h₆, tk₆, i + 1, ys, _, news₆, rfl, hlt, rfl, by omega, hst₆, F₆, hn₆, N₆, off₆, hS₆, R₆⟩
      · obtain rfl : i = n := Nat.le_antisymm hi (Nat.not_lt.mp hlt)
        refine Ww.done _ _ _ hst' fun h₂ tk₂ hk₂ => ?_
        exact hRR _ _ h₂ tk₂ _ ys news' (fr_but F' hk₂ hLI hI₀) (news_but N' hk₂ fun p hp => by
          rcases List.mem_cons.mp hp with rfl | hp
          · exact Ne.symm hDI
          · exact (off' p hp).1) (fun p hp => (off' p hp).2.2) (hn'.at' fun o e => hk₂ _ o (by simpa using Ne.symm hCI) e) hC₀ hD₀ hCL hDL (Ne.symm hDC) (fun p hp => (off' p hp).2.1) R'
    · rcases List.mem_cons.mp hp with rfl | hp
      · exact ⟨hacc, hDL, hD₀⟩
      · exact ⟨old _ _ (N₁ p hp).1, (N₁ p hp).2⟩
  exact codeAny_compStart_list (loop _ rfl) (Ww.self 0 _ _ _ hst₁ (loop _ rfl))
theorem blockC {elt iter : Expr} {ifs : List Expr} {x : Str} {px : Pos} {scope : Scope} {cl : List (Str × Addr)} {pos : Pos} {s₁ : Shared} {xv : Value} {oI : Obj} {fp : List Addr} {n : Nat} {P : Nat → Value → Prop} {St : Nat → Heap → Prop} {S : List (Addr × Obj) → Prop}
    {J : Nat → List Value → List (Addr × Obj) → Prop} {RR : Value → Addr → Result → Shared → Prop}
    (W : Src prog w A h₀ L xv n P S s₁ oI fp St) (hsz : n ≤ sizeLine)
    (hpc : ∀ h, pushCells h scope.names = h.push { cls := .type "cell", data := .cell none }) (hcf : ∀ a, cellsFrom a scope.names cl = (x, a) :: cl) (hkind : scope.kind = .function) (hx : (relabel scope env).names.lookup x = some .cell)
    (F : Fr h₀ L s₁.heap m) (N : News h₀ L s₁.heap news) (hS : S news) (hJ : J 0 [] news)
    (turn : ∀ i v I oI C oC D c oc ys news h tk (E' : Value → Shared → Prop), i < n → P i v → ys.length ≤ i → J i ys news → S news → oc.data = .cell (some v) → Fr h₀ L h m → News h₀ L h ((I, oI) :: (C, oC) :: (D, lst ys) :: (c, oc) :: news) →
      (∀ p ∈ news, p.1 ≠ I ∧ p.1 ≠ C ∧ p.1 ≠ D ∧ p.1 ≠ c) → I < D → D < C → C < c →
      wpAny (model prog w) A (tests (compEnvC scope ((x, c) :: cl) C env) ifs) (fun ok s₃ => if ok = true then
        wpAny (model prog w) A (eval elt (compEnvC scope ((x, c) :: cl) C env)) (fun y => EndC h₀ L m { s₁ with heap := h, toks := tk } I oI C oC D c oc S (J (i + 1)) ys (ys ++ [y])) E' s₃
        else EndC h₀ L m { s₁ with heap := h, toks := tk } I oI C oC D c oc S (J (i + 1)) ys ys s₃) E' { s₁ with heap := h, toks := tk })
    (hRR : ∀ D C h tk m' ys news', Fr h₀ L h m → News h₀ L h ((D, lst ys) :: news') → (∀ p ∈ news', p.1 ≠ D) → h.Ns C m' → h₀.get? C = none → h₀.get? D = none → C ≠ L → D ≠ L → C ≠ D → (∀ p ∈ news', p.1 ≠ C) → J n ys news' → RR (.ref D) C (.ok .next) { s₁ with heap := h, toks := tk }) :
    wpAny (model prog w) A (pyIter xv) (fun it s₂ => wpAny (model prog w) A (newList []) (fun acc s₃ => wpAny (model prog w) A (newFunctionEnv scope env.globals cl [] env.qual none .none (some env)) (fun cenv s₄ =>
      codeAny (model prog w) A (.compStart (.ListComp elt [⟨.Name x px, iter, ifs, 0⟩] scope pos) 0 it acc { cenv with scope := relabel scope env }) (RR acc cenv.locals) s₄) E s₃) E s₂) E s₁ := by
  obtain ⟨Wi, Ww, Ws, Wh, Wm, Wl, Wf⟩ := W
  refine Wi _ _ ?_
  clear Wi
  generalize hI0 : s₁.heap.objs.size = I at *
  have F₁ : Fr h₀ L (s₁.heap.push oI) m := F.push _
  have N₁ : News h₀ L (s₁.heap.push oI) news := N.grown fun b o e => Heap.get?_push_of_some _ e
  have gI : (s₁.heap.push oI).get? I = some oI := hI0 ▸ Heap.get?_push_size _ Wf
  have hLI : L ≠ I := hI0 ▸ Nat.ne_of_lt F.ns.lt
  have fresh1 : ∀ a, I ≤ a → h₀.get? a = none := fun a ha => by
    cases e : h₀.get? a with
    | none => rfl
    | some o' => exact absurd (Heap.lt_size (F.keep a o' e)) (by rw [hI0]; exact Nat.not_lt.mpr ha)
  have hsz1 : (s₁.heap.push oI).objs.size = I + 1 := by rw [Heap.size_push, hI0]
  have offI : ∀ p ∈ news, p.1 < I := fun p hp => hI0 ▸ Heap.lt_size (N p hp).1
  generalize hB : s₁.heap.push oI = B at F₁ N₁ gI hsz1 ⊢
  have hst : St 0 B := hB ▸ Ws
  refine wpAny_newObj_type ?_
  generalize hH2 : B.push { cls := .type "list", dict := none, data := .seq ([] : List Value).toArray } = H2
  unfold newFunctionEnv
  simp only [Option.isSome_some, if_true]
  refine wpAny_bind (wpAny_alloc ?_)
  refine wpAny_bind (wpAny_layCells _ (fun name kind cells => by cases hkc : kind == NameKind.cell <;> simp [hkc]) _ _ _ _ ?_)
  rw [hpc, hcf]
  refine wpAny_bind (wpAny_pure ?_)
  refine wpAny_pure ?_
  dsimp only
  have hC : H2.objs.size = B.objs.size + 1 := by rw [← hH2, Heap.size_push]
  generalize hH3 : H2.push { cls := .type "dict", data := .dict #[] } = H3
  have hc : H3.objs.size = B.objs.size + 1 + 1 := by rw [← hH3, Heap.size_push, hC]
  have nsC : H3.Ns H2.objs.size (fun _ => none) := hH3 ▸ Heap.Ns.new H2 (.type "dict")
  generalize hH4 : H3.push { cls := .type "cell", data := .cell none } = h₁
  have hns₁ : h₁.Ns H2.objs.size (fun _ => none) := hH4 ▸ nsC.keeps fun b o e => Heap.get?_push_of_some _ e
  have gc : h₁.get? H3.objs.size = some { cls := .type "cell", data := .cell none } := hH4 ▸ Heap.get?_push_size _ rfl
  have hDC : B.objs.size ≠ H2.objs.size := by rw [hC]; exact Nat.ne_of_lt (Nat.lt_succ_self _)
  have hCc : H2.objs.size ≠ H3.objs.size := by rw [hC, hc]; exact Nat.ne_of_lt (Nat.lt_succ_self _)
  have hDc : B.objs.size ≠ H3.objs.size := by rw [hc]; exact Nat.ne_of_lt (Nat.lt_succ_of_lt (Nat.lt_succ_self _))
  have below : ∀ b, b < B.objs.size → b ≠ H2.objs.size ∧ b ≠ B.objs.size ∧ b ≠ H3.objs.size := fun b hb => ⟨by rw [hC]; exact Nat.ne_of_lt (Nat.lt_succ_of_lt hb), Nat.ne_of_lt hb, by rw [hc]; exact Nat.ne_of_lt (Nat.lt_succ_of_lt (Nat.lt_succ_of_lt hb))⟩
  have hfp : ∀ b ∈ fp, b < B.objs.size := fun b hb => by rw [hsz1]; exact Wl b hb
  have hDf : B.objs.size ∉ fp := fun hm => Nat.lt_irrefl _ (hfp _ hm)
  have hCf : H2.objs.size ∉ fp := fun hm => by have := hfp _ hm; rw [hC] at this; exact Nat.lt_irrefl _ (Nat.lt_of_succ_lt this)
  have hcf' : H3.objs.size ∉ fp := fun hm => by have := hfp _ hm; rw [hc] at this; exact Nat.lt_irrefl _ (Nat.lt_of_succ_lt (Nat.lt_of_succ_lt this))
  have hIlt : I < B.objs.size := by rw [hsz1]; exact Nat.lt_succ_self _
  have old : ∀ b o, B.get? b = some o → h₁.get? b = some o := fun b o e => hH4 ▸ Heap.get?_push_of_some _ (hH3 ▸ Heap.get?_push_of_some _ (hH2 ▸ Heap.get?_push_of_some _ e))
  have hacc : h₁.get? B.objs.size = some (lst []) := hH4 ▸ Heap.get?_push_of_some _ (hH3 ▸ Heap.get?_push_of_some _ (hH2 ▸ Heap.get?_push_size _ rfl))
  have hst₁ : St 0 h₁ := Ww.frame _ _ _ hst fun b _ o e => old b o e
  have hD₀ : h₀.get? B.objs.size = none := fresh1 _ (Nat.le_of_lt hIlt)
  have hC₀ : h₀.get? H2.objs.size = none := fresh1 _ (by rw [hC]; exact Nat.le_succ_of_le (Nat.le_of_lt hIlt))
  have hI₀ : h₀.get? I = none := fresh1 _ (Nat.le_refl _)
  have hLlt : L < B.objs.size := F₁.ns.lt
  have hDL : B.objs.size ≠ L := Ne.symm (below L hLlt).2.1
  have hCL : H2.objs.size ≠ L := Ne.symm (below L hLlt).1
  have hcL : H3.objs.size ≠ L := Ne.symm (below L hLlt).2.2
  have hc₀ : h₀.get? H3.objs.size = none := fresh1 _ (by rw [hc]; exact Nat.le_succ_of_le (Nat.le_succ_of_le (Nat.le_of_lt hIlt)))
  have hcI : I ≠ H3.objs.size := (below I hIlt).2.2
  have hCI : I ≠ H2.objs.size := (below I hIlt).1
  have hDI : I ≠ B.objs.size := (below I hIlt).2.1
  have off₀ : ∀ p ∈ news, p.1 ≠ I ∧ p.1 ≠ H2.objs.size ∧ p.1 ≠ B.objs.size ∧ p.1 ≠ H3.objs.size := fun p hp => ⟨Nat.ne_of_lt (offI p hp), below _ (Nat.lt_trans (offI p hp) hIlt)⟩
  obtain ⟨oC₁, heC₁, hoC₁⟩ := ns_obj hns₁
  have loop : ∀ s₃ : Shared, s₃ = { s₁ with heap := h₁, toks := s₁.toks } →
      codeAny (model prog w) A (.compLoop (.ListComp elt [⟨.Name x px, iter, ifs, 0⟩] scope pos) 0 (.ref I) (.ref B.objs.size) (compEnvC scope ((x, H3.objs.size) :: cl) H2.objs.size env))
        (RR (.ref B.objs.size) H2.objs.size) s₃ := by
    rintro s₃ rfl
    refine codeAny_compLoop_tests
      (fun k s' => ∃ h' tk i ys oC oc v₀ news', s' = { s₁ with heap := h', toks := tk } ∧ i ≤ n ∧ k = n + 1 - i ∧ ys.length ≤ i ∧ St i h' ∧ Fr h₀ L h' m ∧ (∃ mC, NsObj oC mC) ∧ oc.data = .cell v₀ ∧ News h₀ L h' ((B.objs.size, lst ys) :: (H2.objs.size, oC) :: (H3.objs.size, oc) :: news') ∧
        (∀ p ∈ news', p.1 ≠ I ∧ p.1 ≠ H2.objs.size ∧ p.1 ≠ B.objs.size ∧ p.1 ≠ H3.objs.size) ∧ S news' ∧ J i ys news') ?_ (n + 1)
      ⟨h₁, _, 0, [], oC₁, { cls := .type "cell", data := .cell none }, none, news, rfl, Nat.zero_le _, rfl, Nat.le_refl _, hst₁, F₁.keeps old, ⟨_, hoC₁⟩, rfl, fun p hp => ?_, off₀, hS, hJ⟩
    · rintro k s' ⟨h', tk, i, ys, oC, oc, v₀, news', rfl, hi, rfl, hyl, hst', F', ⟨mC, hoC⟩, hoc, N', off', hS', R'⟩
      by_cases hlt : i < n
      · refine Ww.item i _ _ _ hlt hst' fun v h₂ tk₂ hPv hst₂ hk₂ => ?_
        have N₂ : News h₀ L h₂ ((B.objs.size, lst ys) :: (H2.objs.size, oC) :: (H3.objs.size, oc) :: news') := news_but N' hk₂ fun p hp => by
          rcases List.mem_cons.mp hp with rfl | hp
          · exact Ne.symm hDI
          · rcases List.mem_cons.mp hp with rfl | hp
            · exact Ne.symm hCI
            · rcases List.mem_cons.mp hp with rfl | hp
              · exact Ne.symm hcI
              · exact (off' p hp).1
        refine wpAny_assign_Name (wpAny_storeName_cell (c := H3.objs.size) (v₀ := v₀) hkind hx (by simp [compEnvC]) ⟨oc, N₂.get (.tail _ (.tail _ (.head _))), hoc⟩ (fun h₃ hcv hs₃ => ?_))
        have hst₃ : St (i + 1) h₃ := Ww.frame _ _ _ hst₂ fun b hb o e => hs₃.extBut b o (fun q => hcf' (by have q' : b = H3.objs.size := q; rw [← q']; exact hb)) e
        obtain ⟨oI', heI⟩ := Wh _ _ hst₃
        obtain ⟨oc', hec, hoc'⟩ := hcv
        have F₃ : Fr h₀ L h₃ m := (fr_but F' hk₂ hLI hI₀).change hs₃ hcL hc₀
        have N₃ : News h₀ L h₃ ((I, oI') :: (H2.objs.size, oC) :: (B.objs.size, lst ys) :: (H3.objs.size, oc') :: news') := fun p hp => by
          rcases List.mem_cons.mp hp with rfl | hp
          · exact ⟨heI, Ne.symm hLI, hI₀⟩
          · rcases List.mem_cons.mp hp with rfl | hp
            · have z := N₂ (H2.objs.size, oC) (.tail _ (.head _))
              exact ⟨hs₃.extBut _ _ hCc z.1, z.2⟩
            · rcases List.mem_cons.mp hp with rfl | hp
              · have z := N₂ (B.objs.size, lst ys) (.head _)
                exact ⟨hs₃.extBut _ _ hDc z.1, z.2⟩
              · rcases List.mem_cons.mp hp with rfl | hp
                · exact ⟨hec, hcL, hc₀⟩
                · have z := N₂ p (.tail _ (.tail _ (.tail _ hp)))
                  exact ⟨hs₃.extBut _ _ (off' p hp).2.2.2 z.1, z.2⟩
        have step : ∀ tkx zs s₅, EndC h₀ L m { s₁ with heap := h₃, toks := tkx } I oI' H2.objs.size oC B.objs.size H3.objs.size oc' S (J (i + 1)) ys zs s₅ → ∃ h' tk news', s₅ = { s₁ with heap := h', toks := tk } ∧ St (i + 1) h' ∧ Fr h₀ L h' m ∧ News h₀ L h' ((B.objs.size, lst ys) :: (H2.objs.size, oC) :: (H3.objs.size, oc') :: news') ∧ (∀ p ∈ news', p.1 ≠ I ∧ p.1 ≠ H2.objs.size ∧ p.1 ≠ B.objs.size ∧ p.1 ≠ H3.objs.size) ∧ S news' ∧ J (i + 1) zs news' := by
          rintro tkx zs s₅ ⟨h₅, tk₅, news₅, rfl, F₅, N₅, off₅, hS₅, R₅⟩
          have zI := (N₅ (I, oI') List.mem_cons_self).1
          have N₅' : News h₀ L h₅ ((B.objs.size, lst ys) :: (H2.objs.size, oC) :: (H3.objs.size, oc') :: news₅) := fun p hp => by
            rcases List.mem_cons.mp hp with rfl | hp
            · exact N₅ _ (.tail _ (.tail _ (.head _)))
            · rcases List.mem_cons.mp hp with rfl | hp
              · exact N₅ _ (.tail _ (.head _))
              · exact N₅ _ (.tail _ (.tail _ (.tail _ hp)))
          refine ⟨h₅, tk₅, news₅, rfl, ?_, F₅, N₅', off₅, hS₅, R₅⟩
          have mv := Wm (i + 1) h₃ h₅ oI' news₅ hst₃
          exact mv heI zI F₅.keep (fun p hp => N₅' p (.tail _ (.tail _ (.tail _ hp)))) hS₅
        refine wpAny_mono (turn i v I oI' H2.objs.size oC B.objs.size H3.objs.size oc' ys news' h₃ _ _ hlt hPv hyl R' hS' hoc' F₃ N₃ (fun p hp => ⟨(off' p hp).1, (off' p hp).2.1, (off' p hp).2.2.1, (off' p hp).2.2.2⟩) hIlt (by rw [hC]; exact Nat.lt_succ_self _) (by rw [hC, hc]; exact Nat.lt_succ_self _)) (fun ok s₄ h₄ => ?_) fun _ _ e => e
        split at h₄
        · rename_i hok
          rw [if_pos hok]
          refine wpAny_mono h₄ (fun y s₅ h₅ => ?_) fun _ _ e => e
          obtain ⟨h₆, tk₆, news₆, rfl, hst₆, F₆, N₆, off₆, hS₆, R₆⟩ := step _ _ _ h₅
          have zD := (N₆ (B.objs.size, lst ys) List.mem_cons_self).1
          refine append_at (hsz := by show ys.toArray.size ≤ sizeLine; rw [List.size_toArray]; exact Nat.le_trans hyl (Nat.le_trans hi hsz)) zD fun h₇ hs₇ hD₇ => ?_
          refine ⟨n + 1 - (i + 1), by omega, h₇, tk₆, i + 1, ys ++ [y], oC, oc', _, news₆, rfl, hlt, rfl, by rw [List.length_append, List.length_singleton]; omega, Ww.frame _ _ _ hst₆ fun b hb o e => hs₇.extBut b o (fun q => hDf (q ▸ hb)) e, F₆.change hs₇ hDL hD₀,
            ⟨mC, hoC⟩, hoc', fun p hp => ?_, off₆, hS₆, R₆⟩
          rcases List.mem_cons.mp hp with rfl | hp
          · exact ⟨hD₇.trans (congrArg some (lst_snoc ys y)), hDL, hD₀⟩
          · have z := N₆ p (.tail _ hp)
            refine ⟨hs₇.extBut _ _ ?_ z.1, z.2⟩
            rcases List.mem_cons.mp hp with rfl | hp
            · exact Ne.symm hDC
            · rcases List.mem_cons.mp hp with rfl | hp
              · exact Ne.symm hDc
              · exact (off₆ p hp).2.2.1
        · rename_i hok
          rw [if_neg hok]
          obtain ⟨h₆, tk₆, news₆, rfl, hst₆, F₆, N₆, off₆, hS₆, R₆⟩ := step _ _ _ h₄
          exact ⟨n + 1 - (i + 1), by omega, h₆, tk₆, i + 1, ys, oC, oc', _, news₆, rfl, hlt, rfl, by omega, hst₆, F₆, ⟨mC, hoC⟩, hoc', N₆, off₆, hS₆, R₆⟩
      · obtain rfl : i = n := Nat.le_antisymm hi (Nat.not_lt.mp hlt)
        refine Ww.done _ _ _ hst' fun h₂ tk₂ hk₂ => ?_
        have N₂ : News h₀ L h₂ ((B.objs.size, lst ys) :: (H2.objs.size, oC) :: (H3.objs.size, oc) :: news') := news_but N' hk₂ fun p hp => by
          rcases List.mem_cons.mp hp with rfl | hp
          · exact Ne.symm hDI
          · rcases List.mem_cons.mp hp with rfl | hp
            · exact Ne.symm hCI
            · rcases List.mem_cons.mp hp with rfl | hp
              · exact Ne.symm hcI
              · exact (off' p hp).1
        exact hRR _ _ h₂ tk₂ _ ys news' (fr_but F' hk₂ hLI hI₀) (fun p hp => by
          rcases List.mem_cons.mp hp with rfl | hp
          · exact N₂ _ (.head _)
          · exact N₂ _ (.tail _ (.tail _ (.tail _ hp)))) (fun p hp => (off' p hp).2.2.1) (hoC.ns (N₂.get (.tail _ (.head _)))) hC₀ hD₀ hCL hDL (Ne.symm hDC) (fun p hp => (off' p hp).2.1) R'
    · rcases List.mem_cons.mp hp with rfl | hp
      · exact ⟨hacc, hDL, hD₀⟩
      · rcases List.mem_cons.mp hp with rfl | hp
        · exact ⟨heC₁, hCL, hC₀⟩
        · rcases List.mem_cons.mp hp with rfl | hp
          · exact ⟨gc, hcL, hc₀⟩
          · exact ⟨old _ _ (N₁ p hp).1, (N₁ p hp).2⟩
  exact codeAny_compStart_list (loop _ rfl) (Ww.self 0 _ _ _ hst₁ (loop _ rfl))
def OkL (prog : Program) (w : World) (A : Around) (h₀ : Heap) (L : Addr) (m : Str → Option Value) (env : Env) (elt : Expr) (ifs : List Expr) (x : Str) (scope : Scope) (cl : List (Str × Addr)) (Fin : Shared → List Value → List (Addr × Obj) → Prop) (xv : Value) (s₁ : Shared) : Prop :=
  ∃ (n : Nat) (P : Nat → Value → Prop) (S : List (Addr × Obj) → Prop) (oI : Obj) (fp : List Addr) (St : Nat → Heap → Prop) (J : Nat → List Value → List (Addr × Obj) → Prop) (news : List (Addr × Obj)),
    Src prog w A h₀ L xv n P S s₁ oI fp St ∧ n ≤ sizeLine ∧ Fr h₀ L s₁.heap m ∧ News h₀ L s₁.heap news ∧ S news ∧ J 0 [] news ∧
    (∀ i v I oI C oC D m₂ ys news h tk (E' : Value → Shared → Prop), i < n → P i v → ys.length ≤ i → J i ys news → S news → NsObj oC m₂ → m₂ x = some v → Fr h₀ L h m → News h₀ L h ((I, oI) :: (C, oC) :: (D, lst ys) :: news) →
      (∀ p ∈ news, p.1 ≠ I ∧ p.1 ≠ C ∧ p.1 ≠ D) → I ≠ C → I ≠ D → C ≠ D →
      wpAny (model prog w) A (tests (compEnvC scope cl C env) ifs) (fun ok s₃ => if ok = true then
        wpAny (model prog w) A (eval elt (compEnvC scope cl C env)) (fun y => EndL h₀ L m { s₁ with heap := h, toks := tk } I oI C oC D S (J (i + 1)) ys (ys ++ [y])) E' s₃
        else EndL h₀ L m { s₁ with heap := h, toks := tk } I oI C oC D S (J (i + 1)) ys ys s₃) E' { s₁ with heap := h, toks := tk }) ∧
    (∀ ys news, J n ys news → Fin s₁ ys news)
theorem OkL.intro {elt : Expr} {ifs : List Expr} {x : Str} {scope : Scope} {cl : List (Str × Addr)} {Fin : Shared → List Value → List (Addr × Obj) → Prop} {xv : Value} {s₁ : Shared}
    {n : Nat} {P : Nat → Value → Prop} {S : List (Addr × Obj) → Prop} {oI : Obj} {fp : List Addr} {St : Nat → Heap → Prop} (J : Nat → List Value → List (Addr × Obj) → Prop)
    (W : Src prog w A h₀ L xv n P S s₁ oI fp St) (hsz : n ≤ sizeLine) (F : Fr h₀ L s₁.heap m) (N : News h₀ L s₁.heap news) (hS : S news) (hJ : J 0 [] news)
    (turn : ∀ i v I oI C oC D m₂ ys news h tk (E' : Value → Shared → Prop), i < n → P i v → ys.length ≤ i → J i ys news → S news → NsObj oC m₂ → m₂ x = some v → Fr h₀ L h m → News h₀ L h ((I, oI) :: (C, oC) :: (D, lst ys) :: news) →
      (∀ p ∈ news, p.1 ≠ I ∧ p.1 ≠ C ∧ p.1 ≠ D) → I ≠ C → I ≠ D → C ≠ D →
      wpAny (model prog w) A (tests (compEnvC scope cl C env) ifs) (fun ok s₃ => if ok = true then
        wpAny (model prog w) A (eval elt (compEnvC scope cl C env)) (fun y => EndL h₀ L m { s₁ with heap := h, toks := tk } I oI C oC D S (J (i + 1)) ys (ys ++ [y])) E' s₃
        else EndL h₀ L m { s₁ with heap := h, toks := tk } I oI C oC D S (J (i + 1)) ys ys s₃) E' { s₁ with heap := h, toks := tk })
    (fin : ∀ ys news, J n ys news → Fin s₁ ys news) : OkL prog w A h₀ L m env elt ifs x scope cl Fin xv s₁ := ⟨n, P, S, oI, fp, St, J, news, W, hsz, F, N, hS, hJ, turn, fin⟩
def FinEL (h₀ : Heap) (L : Addr) (m : Str → Option Value) (Q : Value → Shared → Prop) (s : Shared) (ys : List Value) (news : List (Addr × Obj)) : Prop :=
  ∀ D h tk, Fr h₀ L h m → News h₀ L h ((D, lst ys) :: news) → (∀ p ∈ news, p.1 ≠ D) → Q (.ref D) { s with heap := h, toks := tk }
def FinAL (h₀ : Heap) (L : Addr) (m : Str → Option Value) (y : Str) (Q : Flow → Shared → Prop) (s : Shared) (ys : List Value) (news : List (Addr × Obj)) : Prop :=
  ∀ D h tk, Fr h₀ L h (fun z => if z = y then some (.ref D) else m z) → News h₀ L h ((D, lst ys) :: news) → (∀ p ∈ news, p.1 ≠ D) → Q .next { s with heap := h, toks := tk }
theorem evalL {elt iter : Expr} {ifs : List Expr} {x : Str} {px : Pos} {scope : Scope} {cl : List (Str × Addr)} {pos : Pos} {Q : Value → Shared → Prop} (F₀ : Fr h₀ L s.heap m)
    (hclos : closureFor scope env = pure cl) (hcell : ∀ y ∈ scope.names, y.2 ≠ .cell) (hkind : scope.kind = .function) (hx : scope.names.lookup x = some .local)
    (hnames : ∀ y ∈ scope.names, y.2 = .local → scope.names.lookup y.1 = some .local)
    (h : wpAny (model prog w) A (eval iter env) (OkL prog w A h₀ L m env elt ifs x scope cl (FinEL h₀ L m Q)) E s)
    (hs : ∀ x, foldedSetIterable iter env x = pure x := by intro _; rfl) :
    wpAny (model prog w) A (eval (.ListComp elt [⟨.Name x px, iter, ifs, 0⟩] scope pos) env) Q E s := by
  rw [eval_ListComp]
  refine wpAny_comprehension_free (use := none) rfl hs hclos hkind hnames (wpAny_mono h (fun xv s₁ h₁ => ?_) fun _ _ e => e)
  obtain ⟨n, P, S, oI, fp, St, J, news, W, hsz, F, N, hS, hJ, turn, fin⟩ := h₁
  refine blockL W hsz hcell hkind hx F N hS hJ turn ?_
  intro D C h tk m' ys news' F' N' o1 hn hC₀ hD₀ hCL hDL hCD offC r
  refine ⟨m', hn, fun h'' hs'' => fin ys news' r D h'' tk (F'.change hs'' hCL hC₀) (fun p hp => ?_) o1⟩
  refine ⟨hs''.extBut _ _ ?_ (N' p hp).1, (N' p hp).2⟩
  rcases List.mem_cons.mp hp with rfl | hp
  · exact Ne.symm hCD
  · exact offC p hp
theorem assignL {elt iter : Expr} {ifs : List Expr} {x y : Str} {px py : Pos} {scope : Scope} {cl : List (Str × Addr)} {pos spos : Pos} {Q : Flow → Shared → Prop} (F₀ : Fr h₀ L s.heap m) (hLe : env.locals = L)
    (hsw : swapsWith (.ListComp elt [⟨.Name x px, iter, ifs, 0⟩] scope pos) (some (.Name y py)) spos.line env = pure true)
    (hclos : closureFor scope env = pure cl) (hcell : ∀ y ∈ scope.names, y.2 ≠ .cell) (hkind : scope.kind = .function) (hx : scope.names.lookup x = some .local)
    (hnames : ∀ z ∈ scope.names, z.2 = .local → scope.names.lookup z.1 = some .local)
    (hy : env.kindOf y = some .local) (hp : (env.scope.kind == .class || (env.scope.kind == .module && env.locals != env.globals)) = false)
    (h : wpAny (model prog w) A (eval iter env) (OkL prog w A h₀ L m env elt ifs x scope cl (FinAL h₀ L m y Q)) E s)
    (hs : ∀ x, foldedSetIterable iter env x = pure x := by intro _; rfl) :
    wpAny (model prog w) A (exec (.Assign [.Name y py] (.ListComp elt [⟨.Name x px, iter, ifs, 0⟩] scope pos) spos) env) Q E s := by
  subst hLe
  rw [exec_Assign_Name_used _ _ _ _ hsw]
  refine wpAny_bind (wpAny_standAt (wpAny_bind ?_))
  show wpAny _ A (do let _ ← comprehension (.ListComp elt [⟨.Name x px, iter, ifs, 0⟩] scope pos) scope env _ (newList []) false (eval iter env) (some (assign (.Name y py) env))) _ _ s
  refine wpAny_bind (wpAny_mono (wpAny_comprehension_free (use := some (assign (.Name y py) env)) (Q := fun _ s' => Q .next s') rfl hs hclos hkind hnames
    (wpAny_mono h (fun xv s₁ h₁ => ?_) fun _ _ e => e)) (fun _ s' hq => wpAny_pure (wpAny_pure hq)) fun _ _ e => e)
  obtain ⟨n, P, S, oI, fp, St, J, news, W, hsz, F, N, hS, hJ, turn, fin⟩ := h₁
  refine blockL W hsz hcell hkind hx F N hS hJ turn ?_
  intro D C h' tk m' ys news' F' N' o1 hn hC₀ hD₀ hCL hDL hCD offC r
  show wpAny _ A (assign (.Name y py) env (.ref D)) _ _ _
  refine wpAny_assign_Name (wpAny_storeName_local hy F'.ns (fun h₂ hn₂ hs₂ => ?_) hp)
  have hL₀ : h₀.get? env.locals = none := Heap.get?_none_of_le F'.above
  have F₂ : Fr h₀ env.locals h₂ (fun z => if z = y then some (.ref D) else m z) := ⟨hn₂, fun b o e => hs₂.extBut b o (fun q => by rw [q, hL₀] at e; cases e) (F'.keep b o e), F'.above⟩
  refine ⟨m', hn.sameBut hs₂ hCL, fun h'' hs'' => fin ys news' r D h'' _ (F₂.change hs'' hCL hC₀) (fun p hp => ?_) o1⟩
  have z : h₂.get? p.1 = some p.2 := hs₂.extBut _ _ (N' p hp).2.1 (N' p hp).1
  refine ⟨hs''.extBut _ _ ?_ z, (N' p hp).2⟩
  rcases List.mem_cons.mp hp with rfl | hp
  · exact Ne.symm hCD
  · exact offC p hp
def OkC (prog : Program) (w : World) (A : Around) (h₀ : Heap) (L : Addr) (m : Str → Option Value) (env : Env) (elt : Expr) (ifs : List Expr) (x : Str) (scope : Scope) (cl : List (Str × Addr)) (Fin : Shared → List Value → List (Addr × Obj) → Prop) (xv : Value) (s₁ : Shared) : Prop :=
  ∃ (n : Nat) (P : Nat → Value → Prop) (S : List (Addr × Obj) → Prop) (oI : Obj) (fp : List Addr) (St : Nat → Heap → Prop) (J : Nat → List Value → List (Addr × Obj) → Prop) (news : List (Addr × Obj)),
    Src prog w A h₀ L xv n P S s₁ oI fp St ∧ n ≤ sizeLine ∧ Fr h₀ L s₁.heap m ∧ News h₀ L s₁.heap news ∧ S news ∧ J 0 [] news ∧
    (∀ i v I oI C oC D c oc ys news h tk (E' : Value → Shared → Prop), i < n → P i v → ys.length ≤ i → J i ys news → S news → oc.data = .cell (some v) → Fr h₀ L h m → News h₀ L h ((I, oI) :: (C, oC) :: (D, lst ys) :: (c, oc) :: news) →
      (∀ p ∈ news, p.1 ≠ I ∧ p.1 ≠ C ∧ p.1 ≠ D ∧ p.1 ≠ c) → I < D → D < C → C < c →
      wpAny (model prog w) A (tests (compEnvC scope ((x, c) :: cl) C env) ifs) (fun ok s₃ => if ok = true then
        wpAny (model prog w) A (eval elt (compEnvC scope ((x, c) :: cl) C env)) (fun y => EndC h₀ L m { s₁ with heap := h, toks := tk } I oI C oC D c oc S (J (i + 1)) ys (ys ++ [y])) E' s₃
        else EndC h₀ L m { s₁ with heap := h, toks := tk } I oI C oC D c oc S (J (i + 1)) ys ys s₃) E' { s₁ with heap := h, toks := tk }) ∧
    (∀ ys news, J n ys news → Fin s₁ ys news)
theorem OkC.intro {elt : Expr} {ifs : List Expr} {x : Str} {scope : Scope} {cl : List (Str × Addr)} {Fin : Shared → List Value → List (Addr × Obj) → Prop} {xv : Value} {s₁ : Shared}
    {n : Nat} {P : Nat → Value → Prop} {S : List (Addr × Obj) → Prop} {oI : Obj} {fp : List Addr} {St : Nat → Heap → Prop} (J : Nat → List Value → List (Addr × Obj) → Prop)
    (W : Src prog w A h₀ L xv n P S s₁ oI fp St) (hsz : n ≤ sizeLine) (F : Fr h₀ L s₁.heap m) (N : News h₀ L s₁.heap news) (hS : S news) (hJ : J 0 [] news)
    (turn : ∀ i v I oI C oC D c oc ys news h tk (E' : Value → Shared → Prop), i < n → P i v → ys.length ≤ i → J i ys news → S news → oc.data = .cell (some v) → Fr h₀ L h m → News h₀ L h ((I, oI) :: (C, oC) :: (D, lst ys) :: (c, oc) :: news) →
      (∀ p ∈ news, p.1 ≠ I ∧ p.1 ≠ C ∧ p.1 ≠ D ∧ p.1 ≠ c) → I < D → D < C → C < c →
      wpAny (model prog w) A (tests (compEnvC scope ((x, c) :: cl) C env) ifs) (fun ok s₃ => if ok = true then
        wpAny (model prog w) A (eval elt (compEnvC scope ((x, c) :: cl) C env)) (fun y => EndC h₀ L m { s₁ with heap := h, toks := tk } I oI C oC D c oc S (J (i + 1)) ys (ys ++ [y])) E' s₃
        else EndC h₀ L m { s₁ with heap := h, toks := tk } I oI C oC D c oc S (J (i + 1)) ys ys s₃) E' { s₁ with heap := h, toks := tk })
    (fin : ∀ ys news, J n ys news → Fin s₁ ys news) : OkC prog w A h₀ L m env elt ifs x scope cl Fin xv s₁ := ⟨n, P, S, oI, fp, St, J, news, W, hsz, F, N, hS, hJ, turn, fin⟩
def FinEC (h₀ : Heap) (L : Addr) (m : Str → Option Value) (Q : Value → Shared → Prop) (s : Shared) (ys : List Value) (news : List (Addr × Obj)) : Prop :=
  ∀ D h tk, Fr h₀ L h m → News h₀ L h ((D, lst ys) :: news) → (∀ p ∈ news, p.1 ≠ D) → Q (.ref D) { s with heap := h, toks := tk }
def FinAC (h₀ : Heap) (L : Addr) (m : Str → Option Value) (y : Str) (Q : Flow → Shared → Prop) (s : Shared) (ys : List Value) (news : List (Addr × Obj)) : Prop :=
  ∀ D h tk, Fr h₀ L h (fun z => if z = y then some (.ref D) else m z) → News h₀ L h ((D, lst ys) :: news) → (∀ p ∈ news, p.1 ≠ D) → Q .next { s with heap := h, toks := tk }
theorem evalC {elt iter : Expr} {ifs : List Expr} {x : Str} {px : Pos} {scope : Scope} {cl : List (Str × Addr)} {pos : Pos} {Q : Value → Shared → Prop} (F₀ : Fr h₀ L s.heap m)
    (hclos : closureFor scope env = pure cl) (hpc : ∀ h, pushCells h scope.names = h.push { cls := .type "cell", data := .cell none }) (hcf : ∀ a, cellsFrom a scope.names cl = (x, a) :: cl) (hkind : scope.kind = .function) (hx : (relabel scope env).names.lookup x = some .cell)
    (hnames : ∀ y ∈ scope.names, y.2 = .local → scope.names.lookup y.1 = some .local)
    (h : wpAny (model prog w) A (eval iter env) (OkC prog w A h₀ L m env elt ifs x scope cl (FinEC h₀ L m Q)) E s)
    (hs : ∀ x, foldedSetIterable iter env x = pure x := by intro _; rfl) :
    wpAny (model prog w) A (eval (.ListComp elt [⟨.Name x px, iter, ifs, 0⟩] scope pos) env) Q E s := by
  rw [eval_ListComp]
  refine wpAny_comprehension_free (use := none) rfl hs hclos hkind hnames (wpAny_mono h (fun xv s₁ h₁ => ?_) fun _ _ e => e)
  obtain ⟨n, P, S, oI, fp, St, J, news, W, hsz, F, N, hS, hJ, turn, fin⟩ := h₁
  refine blockC W hsz hpc hcf hkind hx F N hS hJ turn ?_
  intro D C h tk m' ys news' F' N' o1 hn hC₀ hD₀ hCL hDL hCD offC r
  refine ⟨m', hn, fun h'' hs'' => fin ys news' r D h'' tk (F'.change hs'' hCL hC₀) (fun p hp => ?_) o1⟩
  refine ⟨hs''.extBut _ _ ?_ (N' p hp).1, (N' p hp).2⟩
  rcases List.mem_cons.mp hp with rfl | hp
  · exact Ne.symm hCD
  · exact offC p hp
theorem assignC {elt iter : Expr} {ifs : List Expr} {x y : Str} {px py : Pos} {scope : Scope} {cl : List (Str × Addr)} {pos spos : Pos} {Q : Flow → Shared → Prop} (F₀ : Fr h₀ L s.heap m) (hLe : env.locals = L)
    (hsw : swapsWith (.ListComp elt [⟨.Name x px, iter, ifs, 0⟩] scope pos) (some (.Name y py)) spos.line env = pure true)
    (hclos : closureFor scope env = pure cl) (hpc : ∀ h, pushCells h scope.names = h.push { cls := .type "cell", data := .cell none }) (hcf : ∀ a, cellsFrom a scope.names cl = (x, a) :: cl) (hkind : scope.kind = .function) (hx : (relabel scope env).names.lookup x = some .cell)
    (hnames : ∀ z ∈ scope.names, z.2 = .local → scope.names.lookup z.1 = some .local)
    (hy : env.kindOf y = some .local) (hp : (env.scope.kind == .class || (env.scope.kind == .module && env.locals != env.globals)) = false)
    (h : wpAny (model prog w) A (eval iter env) (OkC prog w A h₀ L m env elt ifs x scope cl (FinAC h₀ L m y Q)) E s)
    (hs : ∀ x, foldedSetIterable iter env x = pure x := by intro _; rfl) :
    wpAny (model prog w) A (exec (.Assign [.Name y py] (.ListComp elt [⟨.Name x px, iter, ifs, 0⟩] scope pos) spos) env) Q E s := by
  subst hLe
  rw [exec_Assign_Name_used _ _ _ _ hsw]
  refine wpAny_bind (wpAny_standAt (wpAny_bind ?_))
  show wpAny _ A (do let _ ← comprehension (.ListComp elt [⟨.Name x px, iter, ifs, 0⟩] scope pos) scope env _ (newList []) false (eval iter env) (some (assign (.Name y py) env))) _ _ s
  refine wpAny_bind (wpAny_mono (wpAny_comprehension_free (use := some (assign (.Name y py) env)) (Q := fun _ s' => Q .next s') rfl hs hclos hkind hnames
    (wpAny_mono h (fun xv s₁ h₁ => ?_) fun _ _ e => e)) (fun _ s' hq => wpAny_pure (wpAny_pure hq)) fun _ _ e => e)
  obtain ⟨n, P, S, oI, fp, St, J, news, W, hsz, F, N, hS, hJ, turn, fin⟩ := h₁
  refine blockC W hsz hpc hcf hkind hx F N hS hJ turn ?_
  intro D C h' tk m' ys news' F' N' o1 hn hC₀ hD₀ hCL hDL hCD offC r
  show wpAny _ A (assign (.Name y py) env (.ref D)) _ _ _
  refine wpAny_assign_Name (wpAny_storeName_local hy F'.ns (fun h₂ hn₂ hs₂ => ?_) hp)
  have hL₀ : h₀.get? env.locals = none := Heap.get?_none_of_le F'.above
  have F₂ : Fr h₀ env.locals h₂ (fun z => if z = y then some (.ref D) else m z) := ⟨hn₂, fun b o e => hs₂.extBut b o (fun q => by rw [q, hL₀] at e; cases e) (F'.keep b o e), F'.above⟩
  refine ⟨m', hn.sameBut hs₂ hCL, fun h'' hs'' => fin ys news' r D h'' _ (F₂.change hs'' hCL hC₀) (fun p hp => ?_) o1⟩
  have z : h₂.get? p.1 = some p.2 := hs₂.extBut _ _ (N' p hp).2.1 (N' p hp).1
  refine ⟨hs''.extBut _ _ ?_ z, (N' p hp).2⟩
  rcases List.mem_cons.mp hp with rfl | hp
  · exact Ne.symm hCD
  · exact offC p hp
end
end CK
theorem nameLed {h₀ h : Heap} {L : Addr} {news : List (Addr × Obj)} (_N : News h₀ L h news) : ∃ b, b = news := ⟨_, rfl⟩
end
section
namespace SC
theorem slot_setit_next : Slot "set_iterator" "__next__" "set_iterator.__next__" :=
  .of (owner := "set_iterator") (n := "__next__") (by rw [typeLookup_type, builtinLookup_eq_fast]; kernel_rfl) (by decide +kernel) (by decide +kernel) (by decide +kernel)
    (by first | exact .inl (by decide +kernel) | exact .inr (by decide +kernel)) (by rw [isSubtype_type]; kernel_rfl)
theorem entry_setit_next : entryFor table "set_iterator.__next__" = some Builtin.«set_iterator.__next__» := entryFor_of_tree (by kernel_rfl)
theorem owner_setit : Manifest.owners.lookup (String.ofList ['r', 'o', 't', 'a', 'r', 'e', 't', 'i', '_', 't', 'e', 's'].reverse) = some Manifest.sig_set_iterator := by kernel_rfl
theorem args_setit_next_1 (a : Value) : argsOk "set_iterator.__next__" ⟨[a], []⟩ := by
  unfold argsOk; rw [signature?_of (id := "set_iterator.__next__") (n := ['_', '_', 't', 'x', 'e', 'n', '_', '_']) (o := ['r', 'o', 't', 'a', 'r', 'e', 't', 'i', '_', 't', 'e', 's']) (by kernel_rfl) owner_setit]; kernel_rfl
theorem entry_set_iter : entryFor table "set.__iter__" = some Builtin.«frozenset.__iter__» := entryFor_alias (id' := "frozenset.__iter__") (by kernel_rfl) (by decide +kernel) (by decide +kernel) (by kernel_rfl)
def tb (led : Bool) : SetTable := { SetTable.fresh 0 0 led with place := #[1] }
def so (led : Bool) : Bool → Obj
  | true => { cls := .type "set", dict := none, data := .set #[(1, .bool true)] 1 (tb led) }
  | false => { cls := .type "set", dict := none, data := .set #[] 0 (.fresh 0 0 led) }
section
variable {prog : Program} {w : World} {A : Around} {E : Value → Shared → Prop} {s : Shared} {D : Addr} {led : Bool}
theorem hash_true {Q : Int → Shared → Prop} (h : Q 1 { s with toks := s.toks + 1 }) : wpAny (model prog w) A (pyHash (.bool true)) Q E s := by
  refine pyHash_slot (T := "bool") rfl F.slot_bool_hash entry_int_hash (args_int_hash _) (beq_builtin_none _) (.inl rfl) ?_
  exact (show wpAny _ _ (do ret (← mkInt 1)) _ _ s from wpAny_bind (wpAny_mkInt (wpAny_pure ⟨_, _, rfl, h⟩)))
theorem eq_true {Q : Bool → Shared → Prop} (h : Q true s) : wpAny (model prog w) A (eqBool (.bool true) (.bool true)) Q E s := by
  unfold eqBool
  rw [if_pos (by rfl)]
  exact wpAny_bind (wpAny_rule (wpAny_pure h))
theorem byScan_true (es : Array (Int × Value)) (h : es.toList.all (fun e => e.2.scannable) = true ∧ es.size < 4096) : byScan (.bool true) es = true := by
  obtain ⟨h1, h2⟩ := h
  have e : es.all (fun e => e.2.scannable) = true := by rw [← Array.all_toList]; exact h1
  unfold byScan
  rw [e]
  simp [Value.scannable, scanBound, h2]
theorem lay1 : layNew (.fresh 0 0 led) #[] 1 (.bool true) = (#[(1, .bool true)], tb led, false, false) := by cases led <;> rfl
theorem add {k : Bool} {Q : Value → Shared → Prop} (hg : s.heap.get? D = some (so led k))
    (h : ∀ h' tk, Heap.SameBut D s.heap h' → h'.get? D = some (so led true) → Q .none { s with heap := h', toks := tk }) : wpAny (model prog w) A (call (.builtin "set.add") [.ref D, .bool true]) Q E s := by
  refine wpAny_call_entry F.slot_set_add (T := "set") ⟨_, hg, by cases k <;> rfl⟩ F.entry_set_add ?_ (F.args_set_add_2 _ _)
  unfold Builtin.«set.add» Builtin.Frozenset.oneOther
  simp only [List.isEmpty_nil, bind_assoc]
  unfold Builtin.Frozenset.addrOf setAdd
  refine wpAny_bind (wpAny_pure ?_)
  try dsimp only
  refine wpAny_bind (wpAny_pure ?_)
  try dsimp only
  refine wpAny_bind ?_
  refine wpAny_holding ?_
  refine wpAny_bind (hash_true ?_)
  unfold setAddHashed setAddHashedIn
  cases k with
  | false =>
    refine wpAny_holding (wpAny_bind (wpAny_setState_of hg rfl rfl ?_))
    dsimp only
    rw [if_pos (byScan_true _ (by decide))]
    unfold setAddByScan
    refine wpAny_bind (wpAny_bind (wpAny_rule (wpAny_bind (wpAny_pure ?_))))
    dsimp only
    rw [lay1]
    dsimp only
    refine wpAny_bind (wpAny_pure ?_)
    rw [if_pos (by rfl)]
    refine wpAny_bind ?_
    refine wpAny_of_eq (a := true) (by rfl) ?_
    rw [if_pos rfl]
    refine wpAny_bind (wpAny_storeSet_of hg rfl ?_ (by decide))
    rw [if_neg (by cases led <;> decide)]
    refine wpAny_pure (wpAny_pure ?_)
    show wpAny _ _ (ret Value.none) _ _ _
    refine wpAny_pure ⟨_, rfl, h _ _ (Heap.SameBut.update ..) ?_⟩
    exact Heap.get?_update_self _ hg rfl
  | true =>
    refine wpAny_holding (wpAny_bind (wpAny_setState_of hg rfl rfl ?_))
    dsimp only
    rw [if_pos (byScan_true _ (by decide))]
    unfold setAddByScan
    refine wpAny_bind (wpAny_bind (wpAny_rule (wpAny_bind ?_)))
    show wpAny _ _ (setScanFrom D (.bool true) 1 true [(1, .bool true)] 0) _ _ _
    unfold setScanFrom
    dsimp only
    rw [if_pos (show ((1 : Int) == 1) = true by decide)]
    refine wpAny_bind (wpAny_setEpoch_of hg rfl rfl ?_)
    refine wpAny_bind (eq_true ?_)
    rw [if_pos rfl]
    refine wpAny_pure (wpAny_pure (wpAny_pure ?_))
    show wpAny _ _ (ret Value.none) _ _ _
    exact wpAny_pure ⟨_, rfl, h s.heap _ (Heap.SameBut.refl ..) hg⟩
theorem new {Q : Value → Shared → Prop} (h : Q (.ref s.heap.objs.size) { s with heap := s.heap.push (so (!w.params.followText "set-order") false) }) : wpAny (model prog w) A (newSet (.type "set")) Q E s := by
  unfold newSet setsByText
  refine wpAny_bind (wpAny_bind (wpAny_askSetting (wpAny_pure ?_)))
  dsimp only
  simp only [newObj]
  exact wpAny_bind (wpAny_alloc (wpAny_pure h))
def sit (D : Addr) (j i : Int) : Obj := { cls := .type "set_iterator", data := .fields #[.int j 0, .int i 0, .ref D, .int 1 0, .int 1 0] }
def sitEnd (D : Addr) (j i : Int) : Obj := { cls := .type "set_iterator", data := .fields #[.int j 0, .int i 0, .none, .int 1 0, .int 1 0] }
theorem byText {Q : Bool → Shared → Prop} (h : Q (w.params.followText "set-order") s) : wpAny (model prog w) A setsByText Q E s := by
  unfold setsByText
  exact wpAny_bind (wpAny_askSetting (wpAny_pure h))
theorem iter {Q : Value → Shared → Prop} (hg : s.heap.get? D = some (so (!w.params.followText "set-order") true)) (h : Q (.ref s.heap.objs.size) { s with heap := s.heap.push (sit D 0 0) }) : wpAny (model prog w) A (pyIter (.ref D)) Q E s := by
  have hT : s.TypeIs (.ref D) "set" := ⟨_, hg, rfl⟩
  refine wpAny_pyIter_slot hT F.slot_set_iter (wpAny_call_entry F.slot_set_iter hT entry_set_iter ?_ (F.args_set_iter_1 _))
  unfold Builtin.«frozenset.__iter__»
  refine wpAny_bind (wpAny_of_eq (a := D) (by rfl) ?_)
  unfold Builtin.Frozenset.sizeOf
  refine wpAny_bind (wpAny_bind (wpAny_setEntries_of hg rfl rfl (wpAny_pure ?_)))
  unfold setDrawn
  refine wpAny_bind (wpAny_bind (wpAny_setState_of hg rfl rfl (wpAny_bind (byText (wpAny_pure ?_)))))
  rw [if_neg (by cases w.params.followText "set-order" <;> exact Bool.false_ne_true)]
  refine wpAny_bind (wpAny_pure ?_)
  refine wpAny_bind (wpAny_setEpoch_of hg rfl rfl ?_)
  refine wpAny_bind ?_
  refine wpAny_newObj_type (wpAny_pure ⟨_, rfl, "set_iterator", _, ⟨_, Heap.get?_push_size _ rfl, rfl⟩, slot_setit_next.lookup, h⟩)
theorem pick1 {α : Type} (f : Nat → Nat) (x : α) : pickOrder f #[x] = #[x] := by
  simp [pickOrder, pickOrder.go, Nat.mod_one]
theorem next1 {I : Addr} {Q : Option Value → Shared → Prop} (hg : s.heap.get? D = some (so (!w.params.followText "set-order") true)) (hI : s.heap.get? I = some (sit D 0 0)) (hne : D ≠ I)
    (h : ∀ h' j, Heap.SameBut I s.heap h' → h'.get? I = some (sit D j 1) → (w.params.followText "set-order" = false → j = 2) → Q (some (.bool true)) { s with heap := h' }) : wpAny (model prog w) A (pyNext (.ref I)) Q E s := by
  have hT : s.TypeIs (.ref I) "set_iterator" := ⟨_, hI, rfl⟩
  unfold pyNext
  refine wpAny_bind (wpAny_attempt (wpAny_callSpecial?_slot (name := Str.ofString "__next__") hT slot_setit_next
    (wpAny_call_entry slot_setit_next hT entry_setit_next ?_ (args_setit_next_1 _))))
  unfold Builtin.«set_iterator.__next__»
  refine wpAny_bind (wpAny_of_eq (a := (.ref I, [])) (by rfl) ?_)
  refine wpAny_bind (wpAny_fieldsOf hI rfl ?_)
  show wpAny _ _ (setEntries D >>= _) _ _ _
  refine wpAny_bind (wpAny_setEntries_of hg rfl rfl ?_)
  rw [if_neg (by decide)]
  show wpAny _ _ (setNext D 0 0 1 >>= _) _ _ _
  unfold setNext
  refine wpAny_bind (wpAny_bind (wpAny_setState_of hg rfl rfl (wpAny_bind (byText ?_))))
  cases hb : w.params.followText "set-order" with
  | true =>
    rw [hb] at hg
    rw [if_pos rfl, if_neg (by decide)]
    unfold setWalk
    refine wpAny_bind (wpAny_bind (wpAny_setState_of hg rfl rfl (wpAny_bind (byText ?_))))
    rw [hb, if_pos rfl]
    refine wpAny_bind (wpAny_askSetting (wpAny_pure (wpAny_pure ?_)))
    rw [pick1]
    show wpAny _ _ (setField (.ref I) 0 (rawInt 0) >>= _) _ _ _
    refine wpAny_bind (wpAny_setField hI rfl (by simp) ?_)
    have e1 : (s.heap.update I (Obj.mapFields (·.setIfInBounds 0 (rawInt 0)))).get? I = some (sit D 0 0) := Heap.get?_update_self _ hI rfl
    refine wpAny_bind (wpAny_setField e1 rfl (by simp) (wpAny_pure ⟨_, rfl, wpAny_pure (h _ 0 ((Heap.SameBut.update ..).trans (Heap.SameBut.update ..)) ?_ (by rw [hb]; intro x; cases x))⟩))
    exact Heap.get?_update_self _ e1 rfl
  | false =>
    rw [if_neg Bool.false_ne_true]
    rw [if_neg (by decide)]
    refine wpAny_bind (wpAny_of_eq (a := ()) (by rfl) ?_)
    refine wpAny_pure ?_
    show wpAny _ _ (setField (.ref I) 0 (rawInt 2) >>= _) _ _ _
    refine wpAny_bind (wpAny_setField hI rfl (by simp) ?_)
    have e1 : (s.heap.update I (Obj.mapFields (·.setIfInBounds 0 (rawInt 2)))).get? I = some (sit D 2 0) := Heap.get?_update_self _ hI rfl
    refine wpAny_bind (wpAny_setField e1 rfl (by simp) (wpAny_pure ⟨_, rfl, wpAny_pure (h _ 2 ((Heap.SameBut.update ..).trans (Heap.SameBut.update ..)) ?_ fun _ => rfl)⟩))
    exact Heap.get?_update_self _ e1 rfl
theorem next2 {I : Addr} {j : Int} {Q : Option Value → Shared → Prop} (hh : A.handled = none) (hj : w.params.followText "set-order" = false → j = 2) (hg : s.heap.get? D = some (so (!w.params.followText "set-order") true)) (hI : s.heap.get? I = some (sit D j 1))
    (h : ∀ h', Heap.ExtBut I s.heap h' → Q none { s with heap := h' }) : wpAny (model prog w) A (pyNext (.ref I)) Q E s := by
  have hT : s.TypeIs (.ref I) "set_iterator" := ⟨_, hI, rfl⟩
  unfold pyNext
  refine wpAny_bind (wpAny_attempt (wpAny_callSpecial?_slot (name := Str.ofString "__next__") hT slot_setit_next
    (wpAny_call_entry slot_setit_next hT entry_setit_next ?_ (args_setit_next_1 _))))
  unfold Builtin.«set_iterator.__next__»
  refine wpAny_bind (wpAny_of_eq (a := (.ref I, [])) (by rfl) ?_)
  refine wpAny_bind (wpAny_fieldsOf hI rfl ?_)
  show wpAny _ _ (setEntries D >>= _) _ _ _
  refine wpAny_bind (wpAny_setEntries_of hg rfl rfl ?_)
  rw [if_neg (by decide)]
  show wpAny _ _ (setNext D j.toNat 1 1 >>= _) _ _ _
  unfold setNext
  refine wpAny_bind (m := _) (wpAny_mono (Q := fun r s' => r = none ∧ s' = s) (E := fun _ _ => False) ?_ (fun r s' hr => ?_) fun _ _ e => e.elim)
  · refine wpAny_bind (wpAny_setState_of hg rfl rfl (wpAny_bind (byText ?_)))
    cases hb : w.params.followText "set-order" with
    | true =>
      rw [hb] at hg
      rw [if_pos rfl, if_neg (by decide)]
      unfold setWalk
      refine wpAny_bind (wpAny_bind (wpAny_setState_of hg rfl rfl (wpAny_bind (byText ?_))))
      rw [hb, if_pos rfl]
      refine wpAny_bind (wpAny_askSetting (wpAny_pure (wpAny_pure ?_)))
      rw [pick1]
      exact ⟨rfl, rfl⟩
    | false =>
      obtain rfl := hj hb
      rw [if_neg Bool.false_ne_true]
      rw [if_neg (by decide)]
      refine wpAny_bind (wpAny_of_eq (a := ()) (by rfl) ?_)
      exact wpAny_pure ⟨rfl, rfl⟩
  · obtain ⟨rfl, rfl⟩ := hr
    show wpAny _ _ (setField (.ref I) 2 Value.none >>= _) _ _ _
    refine wpAny_bind (wpAny_setField hI rfl (by simp) ?_)
    show wpAny _ _ (newExc (.type "StopIteration") [] >>= _) _ _ _
    refine wpAny_bind ?_
    simp only [newExc, newTuple]
    refine wpAny_bind (wpAny_newObj_type ?_ (by size_fits))
    refine wpAny_bind (m := firstArgMember _ _) (wpAny_of_eq (a := Value.none) (by first | rfl | (simp only [firstArgMember]; rfl)) ?_)
    refine wpAny_newObj_type ?_ (by size_fits)
    simp only [raiseNew]
    refine wpAny_bind (wpAny_handled ?_)
    rw [show A.in1.handled = none from hh]
    refine wpAny_bind (wpAny_pure (wpAny_throw ?_))
    refine wpAny_bind (wpAny_isInstance (T := "StopIteration") (b := true) ⟨_, Heap.get?_push_size _ rfl, rfl⟩ isSubtype_stop ?_)
    exact wpAny_pure (h _ (((Heap.SameBut.update ..).extBut.push _).push _))
theorem unpack1 {Q : List Value → Shared → Prop} (hh : A.handled = none) (hg : s.heap.get? D = some (so (!w.params.followText "set-order") true))
    (h : ∀ h', Heap.ExtBut s.heap.objs.size s.heap h' → Q [.bool true] { s with heap := h' }) : wpAny (model prog w) A (unpackItems (.ref D) 1 none) Q E s := by
  have hT : s.TypeIs (.ref D) "set" := ⟨_, hg, rfl⟩
  have hne : D ≠ s.heap.objs.size := Nat.ne_of_lt (Heap.lt_size hg)
  unfold unpackItems
  refine wpAny_bind ?_
  unfold notIterableAtAll
  refine wpAny_bind (wpAny_specialOf hT F.slot_set_iter.lookup ?_)
  refine wpAny_pure ?_
  simp only [Bool.false_eq_true, if_false]
  refine wpAny_bind (wpAny_holding (iter hg ?_))
  have hg1 : (s.heap.push (sit D 0 0)).get? D = some (so (!w.params.followText "set-order") true) := Heap.get?_push_of_some _ hg
  have hI1 : (s.heap.push (sit D 0 0)).get? s.heap.objs.size = some (sit D 0 0) := Heap.get?_push_size _ rfl
  refine wpAny_bind (wpAny_holding ?_)
  unfold draw
  refine wpAny_bind (next1 hg1 hI1 hne fun h1 j sb hI hj => ?_)
  dsimp only
  refine wpAny_bind (wpAny_holding (wpAny_pure (wpAny_pure ?_)))
  rw [if_neg (by decide)]
  refine wpAny_bind (wpAny_holding (next2 hh hj (sb.extBut _ _ hne hg1) hI fun h2 eb => ?_))
  simp only [Option.isSome_none, Bool.false_eq_true, if_false]
  exact wpAny_pure (h h2 fun b o hb e => eb b o hb (sb.extBut b o hb (Heap.get?_push_of_some _ e)))
theorem compTurn_set (elt target iter : Expr) (ifs : List Expr) (scope : Scope) (pos : Pos) (it acc : Value) (env : Env) :
    compTurn (.SetComp elt [⟨target, iter, ifs, 0⟩] scope pos) 0 it acc env = (do
      standAt iter.pos
      match ← pyNext it with
      | none => pure (.done .next)
      | some v =>
        letOwnedTupleGo target it v
        assign target env v
        let mut ok := true
        for c in ifs do
          if ok then ok ← isTrue c env (eval c env)
        if ok then
          (do let v ← eval elt env; standAt elt.pos; let _ ← call (.builtin "set.add") [acc, v])
        again (.compLoop (.SetComp elt [⟨target, iter, ifs, 0⟩] scope pos) 0 it acc env)) := by rfl
theorem compLoop_set {R : Result → Shared → Prop} {elt target iter : Expr} {ifs : List Expr} {scope : Scope} {pos : Pos} {it acc : Value} {env : Env} (I : Nat → Shared → Prop)
    (turn : ∀ n s, I n s → wpAny (model prog w) A (pyNext it) (fun r s₁ => match r with
      | none => R (.ok .next) s₁
      | some v => wpAny (model prog w) A (assign target env v) (fun _ s₂ =>
          wpAny (model prog w) A (forIn ifs true fun c r => if r = true then do let ok ← isTrue c env (eval c env); pure (ForInStep.yield ok) else pure (ForInStep.yield r)) (fun ok s₃ =>
            if ok = true then wpAny (model prog w) A (eval elt env) (fun x s₄ =>
              wpAny (model prog w) A (call (.builtin "set.add") [acc, x]) (fun _ s₅ => ∃ m, m < n ∧ I m s₅) (notedBy (model prog w) A env fun e s' => R (.error e) s') s₄) (notedBy (model prog w) A env fun e s' => R (.error e) s') s₃
            else ∃ m, m < n ∧ I m s₃) (notedBy (model prog w) A env fun e s' => R (.error e) s') s₂) (notedBy (model prog w) A env fun e s' => R (.error e) s') s₁) (notedBy (model prog w) A env fun e s' => R (.error e) s') s)
    (n : Nat) (h : I n s) (ht : ∀ v, letOwnedTupleGo target it v = pure () := by intro _; rfl) :
    codeAny (model prog w) A (.compLoop (.SetComp elt [⟨target, iter, ifs, 0⟩] scope pos) 0 it acc env) R s := by
  refine codeAny_loop rfl I (fun n s hI => ?_) n h
  show wpAny _ A ((compTurn (.SetComp elt [⟨target, iter, ifs, 0⟩] scope pos) 0 it acc env).onRaise (fun x => do noteFrame x env; theTreesLotGoes x)) _ _ s
  refine wpAny_noted ?_
  rw [compTurn_set]
  refine wpAny_bind (wpAny_standAt (wpAny_bind (wpAny_mono (turn n s hI) (fun r s₁ h₁ => ?_) fun _ _ h' => h')))
  cases r with
  | none => exact wpAny_pure h₁
  | some v =>
    refine wpAny_bind (wpAny_of_eq (ht v) ?_)
    refine wpAny_bind (wpAny_mono h₁ (fun _ s₂ h₂ => wpAny_bind (wpAny_mono h₂ (fun ok s₃ h₃ => ?_) fun _ _ h' => h')) fun _ _ h' => h')
    cases ok with
    | false => exact wpAny_pure ⟨rfl, h₃⟩
    | true =>
      exact wpAny_bind (wpAny_bind (wpAny_mono h₃ (fun x s₄ h₄ => wpAny_bind (wpAny_standAt (wpAny_bind (wpAny_mono h₄ (fun _ s₅ h₅ => wpAny_pure (wpAny_pure ⟨rfl, h₅⟩)) fun _ _ h' => h')))) fun _ _ h' => h'))
theorem compStart_set {R : Result → Shared → Prop} {elt target iter : Expr} {ifs : List Expr} {rest : List Comprehension} {scope : Scope} {pos : Pos} {it acc : Value} {env : Env}
    (h0 : codeAny (model prog w) A (.compLoop (.SetComp elt (⟨target, iter, ifs, 0⟩ :: rest) scope pos) 0 it acc env) R s)
    (h : wpAny (model prog w) A (pyIter it) (fun it' s' => codeAny (model prog w) A (.compLoop (.SetComp elt (⟨target, iter, ifs, 0⟩ :: rest) scope pos) 0 it' acc env) R s')
      (notedBy (model prog w) A env fun x s' => R (.error x) s') s) :
    codeAny (model prog w) A (.compStart (.SetComp elt (⟨target, iter, ifs, 0⟩ :: rest) scope pos) 0 it acc env) R s := by
  refine codeAny_of_tree ?_
  show wpAny _ _ ((compStart (.SetComp elt (⟨target, iter, ifs, 0⟩ :: rest) scope pos) 0 it acc env).onRaise (fun x => do noteFrame x env; standAt theWindowsPlace)) _ _ s
  refine wpAny_notedAt ?_
  unfold compStart
  show wpAny _ _ (ask >>= _) _ _ s
  refine wpAny_bind (wpAny_askSetting (wpAny_ite ?_))
  split
  · first
      | exact wpAny_bind (wpAny_pure (wpAny_pure (And.intro rfl h0)))
      | exact wpAny_pure (And.intro rfl h0)
  · first
      | exact wpAny_bind (wpAny_rule (wpAny_bind (wpAny_standAt (wpAny_bind (wpAny_mono h (fun it' s' h' => wpAny_pure (And.intro rfl h')) fun _ _ x => x)))))
      | (refine wpAny_bind (wpAny_rule ?_); show wpAny _ _ (standAt iter.pos >>= _) _ _ s; exact wpAny_bind (wpAny_standAt (wpAny_bind (wpAny_mono h (fun it' s' h' => wpAny_pure (And.intro rfl h')) fun _ _ x => x))))
end
open LCg (NsObj ns_obj fr_but news_but)
open CK (Src)
abbrev ledOf (w : World) : Bool := !w.params.followText "set-order"
/-- where a turn ends: the same iterator, frame and set, and a ledger that keeps the invariant -/
def EndS (h₀ : Heap) (L : Addr) (m : Str → Option Value) (s : Shared) (I : Addr) (oI : Obj) (C : Addr) (oC : Obj) (D : Addr) (oD : Obj) (S : List (Addr × Obj) → Prop) (J : List (Addr × Obj) → Prop) (s₂ : Shared) : Prop :=
  ∃ h' tk news', s₂ = { s with heap := h', toks := tk } ∧ Fr h₀ L h' m ∧ News h₀ L h' ((I, oI) :: (C, oC) :: (D, oD) :: news') ∧ (∀ p ∈ news', p.1 ≠ I ∧ p.1 ≠ C ∧ p.1 ≠ D) ∧ S news' ∧ J news'
theorem EndS.intro {h₀ : Heap} {L I C D : Addr} {m : Str → Option Value} {s : Shared} {oI oC oD : Obj} {S : List (Addr × Obj) → Prop} {J : List (Addr × Obj) → Prop} {h' : Heap} {tk : Nat} {all : List (Addr × Obj)}
    (F : Fr h₀ L h' m) (N : News h₀ L h' all) (news' : List (Addr × Obj)) (sub : ∀ p ∈ (I, oI) :: (C, oC) :: (D, oD) :: news', p ∈ all) (off : ∀ p ∈ news', p.1 ≠ I ∧ p.1 ≠ C ∧ p.1 ≠ D) (hS : S news') (r : J news') :
    EndS h₀ L m s I oI C oC D oD S J { s with heap := h', toks := tk } := ⟨h', tk, news', rfl, F, fun p hp => N p (sub p hp), off, hS, r⟩
section
variable {prog : Program} {w : World} {A : Around} {E : Value → Shared → Prop} {s : Shared} {h₀ : Heap} {L : Addr} {m : Str → Option Value} {env : Env} {news : List (Addr × Obj)}
theorem blockS {elt iter : Expr} {x : Str} {px : Pos} {scope : Scope} {cl : List (Str × Addr)} {pos : Pos} {s₁ : Shared} {xv : Value} {oI : Obj} {fp : List Addr} {n : Nat} {P : Nat → Value → Prop} {St : Nat → Heap → Prop} {S : List (Addr × Obj) → Prop}
    {J : Nat → List (Addr × Obj) → Prop} {RR : Value → Addr → Result → Shared → Prop}
    (W : Src prog w A h₀ L xv n P S s₁ oI fp St)
    (hcell : ∀ y ∈ scope.names, y.2 ≠ .cell) (hkind : scope.kind = .function) (hx : scope.names.lookup x = some .local)
    (F : Fr h₀ L s₁.heap m) (N : News h₀ L s₁.heap news) (hS : S news) (hJ : J 0 news)
    (turn : ∀ i v I oI C oC D oD m₂ news h tk (E' : Value → Shared → Prop), i < n → P i v → J i news → S news → NsObj oC m₂ → m₂ x = some v → Fr h₀ L h m → News h₀ L h ((I, oI) :: (C, oC) :: (D, oD) :: news) →
      (∀ p ∈ news, p.1 ≠ I ∧ p.1 ≠ C ∧ p.1 ≠ D) → I ≠ C → I ≠ D → C ≠ D →
        wpAny (model prog w) A (eval elt (compEnvC scope cl C env)) (fun y s₃ => y = .bool true ∧ EndS h₀ L m { s₁ with heap := h, toks := tk } I oI C oC D oD S (J (i + 1)) s₃) E' { s₁ with heap := h, toks := tk })
    (hRR : ∀ D C h tk m' news', Fr h₀ L h m → News h₀ L h ((D, so (ledOf w) (decide (0 < n))) :: news') → (∀ p ∈ news', p.1 ≠ D) → h.Ns C m' → h₀.get? C = none → h₀.get? D = none → C ≠ L → D ≠ L → C ≠ D → (∀ p ∈ news', p.1 ≠ C) → J n news' → RR (.ref D) C (.ok .next) { s₁ with heap := h, toks := tk }) :
    wpAny (model prog w) A (pyIter xv) (fun it s₂ => wpAny (model prog w) A (newSet (.type "set")) (fun acc s₃ => wpAny (model prog w) A (newFunctionEnv scope env.globals cl [] env.qual none .none (some env)) (fun cenv s₄ =>
      codeAny (model prog w) A (.compStart (.SetComp elt [⟨.Name x px, iter, [], 0⟩] scope pos) 0 it acc { cenv with scope := relabel scope env }) (RR acc cenv.locals) s₄) E s₃) E s₂) E s₁ := by
  obtain ⟨Wi, Ww, Ws, Wh, Wm, Wl, Wf⟩ := W
  refine Wi _ _ ?_
  clear Wi
  generalize hI0 : s₁.heap.objs.size = I at *
  have F₁ : Fr h₀ L (s₁.heap.push oI) m := F.push _
  have N₁ : News h₀ L (s₁.heap.push oI) news := N.grown fun b o e => Heap.get?_push_of_some _ e
  have gI : (s₁.heap.push oI).get? I = some oI := hI0 ▸ Heap.get?_push_size _ Wf
  have hLI : L ≠ I := hI0 ▸ Nat.ne_of_lt F.ns.lt
  have fresh1 : ∀ a, I ≤ a → h₀.get? a = none := fun a ha => by
    cases e : h₀.get? a with
    | none => rfl
    | some o' => exact absurd (Heap.lt_size (F.keep a o' e)) (by rw [hI0]; exact Nat.not_lt.mpr ha)
  have hsz1 : (s₁.heap.push oI).objs.size = I + 1 := by rw [Heap.size_push, hI0]
  have offI : ∀ p ∈ news, p.1 < I := fun p hp => hI0 ▸ Heap.lt_size (N p hp).1
  generalize hB : s₁.heap.push oI = B at F₁ N₁ gI hsz1 ⊢
  have hst : St 0 B := hB ▸ Ws
  refine new (wpAny_newFunctionEnv hcell (by intro y hy; simp at hy) (fun h₁ hns₁ hsb₁ => ?_) hkind)
  dsimp only at hns₁ hsb₁ ⊢
  generalize hH2 : B.push (so (ledOf w) false) = H2 at hns₁ hsb₁ ⊢
  have hC : H2.objs.size = B.objs.size + 1 := by rw [← hH2, Heap.size_push]
  have hDC : B.objs.size ≠ H2.objs.size := by rw [hC]; exact Nat.ne_of_lt (Nat.lt_succ_self _)
  have below : ∀ b, b < B.objs.size → b ≠ H2.objs.size ∧ b ≠ B.objs.size := fun b hb => ⟨by rw [hC]; exact Nat.ne_of_lt (Nat.lt_succ_of_lt hb), Nat.ne_of_lt hb⟩
  have hfp : ∀ b ∈ fp, b < B.objs.size := fun b hb => by rw [hsz1]; exact Wl b hb
  have hDf : B.objs.size ∉ fp := fun hm => Nat.lt_irrefl _ (hfp _ hm)
  have hCf : H2.objs.size ∉ fp := fun hm => by have := hfp _ hm; rw [hC] at this; exact Nat.lt_irrefl _ (Nat.lt_of_succ_lt this)
  have hIlt : I < B.objs.size := by rw [hsz1]; exact Nat.lt_succ_self _
  have old : ∀ b o, B.get? b = some o → h₁.get? b = some o := fun b o e => hsb₁.extBut b o (below b (Heap.lt_size e)).1 (Heap.get?_push_of_some _ (hH2 ▸ Heap.get?_push_of_some _ e))
  have hacc : h₁.get? B.objs.size = some (so (ledOf w) false) := hsb₁.extBut _ _ hDC (Heap.get?_push_of_some _ (hH2 ▸ Heap.get?_push_size _ rfl))
  have hst₁ : St 0 h₁ := Ww.frame _ _ _ hst fun b _ o e => old b o e
  have hD₀ : h₀.get? B.objs.size = none := fresh1 _ (Nat.le_of_lt hIlt)
  have hC₀ : h₀.get? H2.objs.size = none := fresh1 _ (by rw [hC]; exact Nat.le_succ_of_le (Nat.le_of_lt hIlt))
  have hI₀ : h₀.get? I = none := fresh1 _ (Nat.le_refl _)
  have hLlt : L < B.objs.size := F₁.ns.lt
  have hDL : B.objs.size ≠ L := Ne.symm (below L hLlt).2
  have hCL : H2.objs.size ≠ L := Ne.symm (below L hLlt).1
  have hCI : I ≠ H2.objs.size := (below I hIlt).1
  have hDI : I ≠ B.objs.size := (below I hIlt).2
  have off₀ : ∀ p ∈ news, p.1 ≠ I ∧ p.1 ≠ H2.objs.size ∧ p.1 ≠ B.objs.size := fun p hp => ⟨Nat.ne_of_lt (offI p hp), below _ (Nat.lt_trans (offI p hp) hIlt)⟩
  have loop : ∀ s₃ : Shared, s₃ = { s₁ with heap := h₁, toks := s₁.toks + ([] : List (Str × Value)).length } →
      codeAny (model prog w) A (.compLoop (.SetComp elt [⟨.Name x px, iter, [], 0⟩] scope pos) 0 (.ref I) (.ref B.objs.size) (compEnvC scope cl H2.objs.size env))
        (RR (.ref B.objs.size) H2.objs.size) s₃ := by
    rintro s₃ rfl
    refine compLoop_set
      (fun k s' => ∃ h' tk i m' news', s' = { s₁ with heap := h', toks := tk } ∧ i ≤ n ∧ k = n + 1 - i ∧ St i h' ∧ Fr h₀ L h' m ∧ h'.Ns H2.objs.size m' ∧ News h₀ L h' ((B.objs.size, so (ledOf w) (decide (0 < i))) :: news') ∧
        (∀ p ∈ news', p.1 ≠ I ∧ p.1 ≠ H2.objs.size ∧ p.1 ≠ B.objs.size) ∧ S news' ∧ J i news') ?_ (n + 1)
      ⟨h₁, _, 0, _, news, rfl, Nat.zero_le _, rfl, hst₁, F₁.keeps old, hns₁, fun p hp => ?_, off₀, hS, hJ⟩
    · rintro k s' ⟨h', tk, i, m', news', rfl, hi, rfl, hst', F', hn', N', off', hS', R'⟩
      by_cases hlt : i < n
      · refine Ww.item i _ _ _ hlt hst' fun v h₂ tk₂ hPv hst₂ hk₂ => ?_
        refine wpAny_assign_Name (wpAny_storeName_local (lookup_relabel_local hx) (hn'.at' fun o e => hk₂ _ o (by simpa using Ne.symm hCI) e) (fun h₃ hn₃ hs₃ => ?_) (by simp [compEnvC, relabel, hkind]))
        have hst₃ : St (i + 1) h₃ := Ww.frame _ _ _ hst₂ fun b hb o e => hs₃.extBut b o (fun q => hCf (by have q' : b = H2.objs.size := q; rw [← q']; exact hb)) e
        obtain ⟨oI', heI⟩ := Wh _ _ hst₃
        obtain ⟨oC, heC, hoC⟩ := ns_obj hn₃
        have F₃ : Fr h₀ L h₃ m := (fr_but F' hk₂ hLI hI₀).change hs₃ hCL hC₀
        have N₂ : News h₀ L h₂ ((B.objs.size, so (ledOf w) (decide (0 < i))) :: news') := news_but N' hk₂ fun p hp => by
          rcases List.mem_cons.mp hp with rfl | hp
          · exact Ne.symm hDI
          · exact (off' p hp).1
        have N₃ : News h₀ L h₃ ((I, oI') :: (H2.objs.size, oC) :: (B.objs.size, so (ledOf w) (decide (0 < i))) :: news') := fun p hp => by
          rcases List.mem_cons.mp hp with rfl | hp
          · exact ⟨heI, Ne.symm hLI, hI₀⟩
          · rcases List.mem_cons.mp hp with rfl | hp
            · exact ⟨heC, hCL, hC₀⟩
            · have z := N₂ p hp
              refine ⟨hs₃.extBut _ _ ?_ z.1, z.2⟩
              rcases List.mem_cons.mp hp with rfl | hp
              · exact hDC
              · exact (off' p hp).2.1
        have step : ∀ tkx s₅, EndS h₀ L m { s₁ with heap := h₃, toks := tkx } I oI' H2.objs.size oC B.objs.size (so (ledOf w) (decide (0 < i))) S (J (i + 1)) s₅ → ∃ h' tk news', s₅ = { s₁ with heap := h', toks := tk } ∧ St (i + 1) h' ∧ Fr h₀ L h' m ∧ h'.Ns H2.objs.size (fun y => if y = x then some v else m' y) ∧ News h₀ L h' ((B.objs.size, so (ledOf w) (decide (0 < i))) :: news') ∧ (∀ p ∈ news', p.1 ≠ I ∧ p.1 ≠ H2.objs.size ∧ p.1 ≠ B.objs.size) ∧ S news' ∧ J (i + 1) news' := by
          rintro tkx s₅ ⟨h₅, tk₅, news₅, rfl, F₅, N₅, off₅, hS₅, R₅⟩
          have zI := (N₅ (I, oI') List.mem_cons_self).1
          have zC := (N₅ (H2.objs.size, oC) (List.mem_cons_of_mem _ List.mem_cons_self)).1
          have N₅' : News h₀ L h₅ ((B.objs.size, so (ledOf w) (decide (0 < i))) :: news₅) := fun p hp => N₅ p (List.mem_cons_of_mem _ (List.mem_cons_of_mem _ hp))
          refine ⟨h₅, tk₅, news₅, rfl, ?_, F₅, hoC.ns zC, N₅', off₅, hS₅, R₅⟩
          have mv := Wm (i + 1) h₃ h₅ oI' news₅ hst₃
          exact mv heI zI F₅.keep (fun p hp => N₅' p (.tail _ hp)) hS₅
        refine wpAny_tests_nil ?_
        rw [if_pos rfl]
        refine wpAny_mono (turn i v I oI' H2.objs.size oC B.objs.size _ _ news' h₃ _ _ hlt hPv R' hS' hoC (by simp) F₃ N₃ off' hCI hDI (Ne.symm hDC)) (fun y s₅ h₅ => ?_) fun _ _ e => e
        obtain ⟨rfl, h₅⟩ := h₅
        obtain ⟨h₆, tk₆, news₆, rfl, hst₆, F₆, hn₆, N₆, off₆, hS₆, R₆⟩ := step _ _ h₅
        have zD := (N₆ (B.objs.size, _) List.mem_cons_self).1
        refine add zD fun h₇ tk₇ hs₇ hD₇ => ?_
        refine ⟨n + 1 - (i + 1), by omega, h₇, tk₇, i + 1, _, news₆, rfl, hlt, rfl, Ww.frame _ _ _ hst₆ fun b hb o e => hs₇.extBut b o (fun q => hDf (q ▸ hb)) e, F₆.change hs₇ hDL hD₀,
          hn₆.sameBut hs₇ (Ne.symm hDC), fun p hp => ?_, off₆, hS₆, R₆⟩
        rcases List.mem_cons.mp hp with rfl | hp
        · exact ⟨by rw [hD₇]; simp, hDL, hD₀⟩
        · exact ⟨hs₇.extBut _ _ (off₆ p hp).2.2 (N₆ p (.tail _ hp)).1, (N₆ p (.tail _ hp)).2⟩
      · obtain rfl : i = n := Nat.le_antisymm hi (Nat.not_lt.mp hlt)
        refine Ww.done _ _ _ hst' fun h₂ tk₂ hk₂ => ?_
        exact hRR _ _ h₂ tk₂ _ news' (fr_but F' hk₂ hLI hI₀) (news_but N' hk₂ fun p hp => by
          rcases List.mem_cons.mp hp with rfl | hp
          · exact Ne.symm hDI
          · exact (off' p hp).1) (fun p hp => (off' p hp).2.2) (hn'.at' fun o e => hk₂ _ o (by simpa using Ne.symm hCI) e) hC₀ hD₀ hCL hDL (Ne.symm hDC) (fun p hp => (off' p hp).2.1) R'
    · rcases List.mem_cons.mp hp with rfl | hp
      · exact ⟨hacc, hDL, hD₀⟩
      · exact ⟨old _ _ (N₁ p hp).1, (N₁ p hp).2⟩
  exact compStart_set (loop _ rfl) (Ww.self 0 _ _ _ hst₁ (loop _ rfl))
def OkS (prog : Program) (w : World) (A : Around) (h₀ : Heap) (L : Addr) (m : Str → Option Value) (env : Env) (elt : Expr) (x : Str) (scope : Scope) (cl : List (Str × Addr)) (Q : Value → Shared → Prop) (xv : Value) (s₁ : Shared) : Prop :=
  ∃ (n : Nat) (P : Nat → Value → Prop) (S : List (Addr × Obj) → Prop) (oI : Obj) (fp : List Addr) (St : Nat → Heap → Prop) (J : Nat → List (Addr × Obj) → Prop) (news : List (Addr × Obj)),
    Src prog w A h₀ L xv n P S s₁ oI fp St ∧ Fr h₀ L s₁.heap m ∧ News h₀ L s₁.heap news ∧ S news ∧ J 0 news ∧
    (∀ i v I oI C oC D oD m₂ news h tk (E' : Value → Shared → Prop), i < n → P i v → J i news → S news → NsObj oC m₂ → m₂ x = some v → Fr h₀ L h m → News h₀ L h ((I, oI) :: (C, oC) :: (D, oD) :: news) →
      (∀ p ∈ news, p.1 ≠ I ∧ p.1 ≠ C ∧ p.1 ≠ D) → I ≠ C → I ≠ D → C ≠ D →
        wpAny (model prog w) A (eval elt (compEnvC scope cl C env)) (fun y s₃ => y = .bool true ∧ EndS h₀ L m { s₁ with heap := h, toks := tk } I oI C oC D oD S (J (i + 1)) s₃) E' { s₁ with heap := h, toks := tk }) ∧
    (∀ news, J n news → ∀ D h tk, Fr h₀ L h m → News h₀ L h ((D, so (ledOf w) (decide (0 < n))) :: news) → (∀ p ∈ news, p.1 ≠ D) → Q (.ref D) { s₁ with heap := h, toks := tk })
theorem OkS.intro {elt : Expr} {x : Str} {scope : Scope} {cl : List (Str × Addr)} {Q : Value → Shared → Prop} {xv : Value} {s₁ : Shared}
    {n : Nat} {P : Nat → Value → Prop} {S : List (Addr × Obj) → Prop} {oI : Obj} {fp : List Addr} {St : Nat → Heap → Prop} (J : Nat → List (Addr × Obj) → Prop)
    (W : Src prog w A h₀ L xv n P S s₁ oI fp St) (F : Fr h₀ L s₁.heap m) (N : News h₀ L s₁.heap news) (hS : S news) (hJ : J 0 news)
    (turn : ∀ i v I oI C oC D oD m₂ news h tk (E' : Value → Shared → Prop), i < n → P i v → J i news → S news → NsObj oC m₂ → m₂ x = some v → Fr h₀ L h m → News h₀ L h ((I, oI) :: (C, oC) :: (D, oD) :: news) →
      (∀ p ∈ news, p.1 ≠ I ∧ p.1 ≠ C ∧ p.1 ≠ D) → I ≠ C → I ≠ D → C ≠ D →
        wpAny (model prog w) A (eval elt (compEnvC scope cl C env)) (fun y s₃ => y = .bool true ∧ EndS h₀ L m { s₁ with heap := h, toks := tk } I oI C oC D oD S (J (i + 1)) s₃) E' { s₁ with heap := h, toks := tk })
    (fin : ∀ news, J n news → ∀ D h tk, Fr h₀ L h m → News h₀ L h ((D, so (ledOf w) (decide (0 < n))) :: news) → (∀ p ∈ news, p.1 ≠ D) → Q (.ref D) { s₁ with heap := h, toks := tk }) : OkS prog w A h₀ L m env elt x scope cl Q xv s₁ := ⟨n, P, S, oI, fp, St, J, news, W, F, N, hS, hJ, turn, fin⟩
theorem evalS {elt iter : Expr} {x : Str} {px : Pos} {scope : Scope} {cl : List (Str × Addr)} {pos : Pos} {Q : Value → Shared → Prop} (F₀ : Fr h₀ L s.heap m)
    (hclos : closureFor scope env = pure cl) (hcell : ∀ y ∈ scope.names, y.2 ≠ .cell) (hkind : scope.kind = .function) (hx : scope.names.lookup x = some .local)
    (hnames : ∀ y ∈ scope.names, y.2 = .local → scope.names.lookup y.1 = some .local)
    (h : wpAny (model prog w) A (eval iter env) (OkS prog w A h₀ L m env elt x scope cl Q) E s)
    (hs : ∀ x, foldedSetIterable iter env x = pure x := by intro _; rfl) :
    wpAny (model prog w) A (eval (.SetComp elt [⟨.Name x px, iter, [], 0⟩] scope pos) env) Q E s := by
  show wpAny _ A (comprehension (.SetComp elt [⟨.Name x px, iter, [], 0⟩] scope pos) scope env _ (newSet (.type "set")) false (eval iter env)) _ _ s
  refine wpAny_comprehension_free (use := none) rfl hs hclos hkind hnames (wpAny_mono h (fun xv s₁ h₁ => ?_) fun _ _ e => e)
  obtain ⟨n, P, S, oI, fp, St, J, news, W, F, N, hS, hJ, turn, fin⟩ := h₁
  refine blockS W hcell hkind hx F N hS hJ turn ?_
  intro D C h tk m' news' F' N' o1 hn hC₀ hD₀ hCL hDL hCD offC r
  refine ⟨m', hn, fun h'' hs'' => fin news' r D h'' tk (F'.change hs'' hCL hC₀) (fun p hp => ?_) o1⟩
  refine ⟨hs''.extBut _ _ ?_ (N' p hp).1, (N' p hp).2⟩
  rcases List.mem_cons.mp hp with rfl | hp
  · exact Ne.symm hCD
  · exact offC p hp
theorem assign1 {D : Addr} {elts : List Expr} {x1} {pos : Pos} {Q : Unit → Shared → Prop} (F : Fr h₀ L s.heap m) (N : News h₀ L s.heap news) (hh : A.handled = none) (hg : s.heap.get? D = some (so (ledOf w) true))
    (hn : (assignEach elts env).length = 1) (hstar : (assignEach elts env).findIdx? (·.1) = none)
    (h : ∀ h', Fr h₀ L h' m → News h₀ L h' news → wpAny (model prog w) A (assignInOrder ((assignEach elts env).map (·.2)) [.bool true]) Q E { s with heap := h' }) :
    wpAny (model prog w) A (assign (.Tuple elts x1 pos) env (.ref D)) Q E s := by
  rw [arm_assign_Tuple]
  refine wpAny_bind (wpAny_standAt ?_)
  unfold unpack
  rw [hn, hstar]
  refine wpAny_bind (wpAny_holding (unpack1 hh hg fun h' eb => ?_))
  have k : ∀ b o, s.heap.get? b = some o → h'.get? b = some o := fun b o e => eb b o (Nat.ne_of_lt (Heap.lt_size e)) e
  exact h h' (F.keeps k) (N.grown k)
end
end SC
end
section
namespace MM
/-- how two texts compare: gt says which way round -/
def cmpO (gt : Bool) (x y : Str) : Bool := if gt then decide (y.cps.toList < x.cps.toList) else decide (x.cps.toList < y.cps.toList)
def lexO (gt : Bool) : List Str → List Str → Bool
  | [], ys => if gt then false else !ys.isEmpty
  | _ :: _, [] => gt
  | x :: xs, y :: ys => if x = y then lexO gt xs ys else cmpO gt x y
def opO (gt : Bool) : CmpOp := if gt then .Gt else .Lt
theorem lexO_nil (gt : Bool) : ∀ xs ys : List Str, xs = [] ∨ ys = [] → lexO gt xs ys = (if gt then decide (xs.length > ys.length) else decide (xs.length < ys.length))
  | [], ys, _ => by cases gt <;> cases ys <;> simp [lexO]
  | x :: xs, [], _ => by cases gt <;> simp [lexO]
  | x :: xs, y :: ys, h => by rcases h with h | h <;> cases h
section
variable {prog : Program} {w : World} {A : Around} {E : Value → Shared → Prop} {s : Shared}
theorem cmp_strs {gt : Bool} {x y : Str} {t u : Tok} {Q : Value → Shared → Prop} (h : Q (.bool (cmpO gt x y)) s) : wpAny (model prog w) A (richCompare (opO gt) (.str x t) (.str y u)) Q E s := by
  cases gt with
  | false =>
    show wpAny _ _ (richCompare .Lt (.str x t) (.str y u)) Q E s
    refine wpAny_richCompare_same (op := .Lt) (T := "str") (typeIs_str s x t) (typeIs_str s y u) slot_str_lt ?_
    exact wpAny_call_entry slot_str_lt (typeIs_str s x t) entry_str_lt (show wpAny _ _ (ret (.bool (x.cps.toList < y.cps.toList))) _ _ s from wpAny_pure ⟨_, rfl, by simp, h⟩) (args_str_lt _ _)
  | true =>
    show wpAny _ _ (richCompare .Gt (.str x t) (.str y u)) Q E s
    refine wpAny_richCompare_same (op := .Gt) (T := "str") (typeIs_str s x t) (typeIs_str s y u) F.slot_str_gt ?_
    exact wpAny_call_entry F.slot_str_gt (typeIs_str s x t) F.entry_str_gt (show wpAny _ _ (ret (.bool (y.cps.toList < x.cps.toList))) _ _ s from wpAny_pure ⟨_, rfl, by simp, h⟩) (F.args_str_gt_2 _ _)
theorem items {a : Addr} {o : Obj} {vs : Array Value} {n : Nat} {Q : Array Value → Shared → Prop} (hg : s.heap.get? a = some o) (hd : o.data = .seq vs n) (h : Q vs s) : wpAny (model prog w) A (Builtin.List.listItems (.ref a)) Q E s := by
  unfold Builtin.List.listItems
  exact wpAny_bind (wpAny_seqItems hg hd (wpAny_pure h))
theorem drop_at {α : Type} {xs : List α} {i : Nat} {x : α} (h : xs[i]? = some x) : xs.drop i = x :: xs.drop (i + 1) := by
  obtain ⟨hi, rfl⟩ := List.getElem?_eq_some_iff.mp h
  exact List.drop_eq_getElem_cons hi
theorem loop {a b : Addr} {gt : Bool} {oa ob : Obj} {va vb : List Value} {na nb : Nat} {xs ys : List Str} {R : Result → Shared → Prop} (ha : s.heap.get? a = some oa) (da : oa.data = .seq va.toArray na) (hb : s.heap.get? b = some ob) (db : ob.data = .seq vb.toArray nb) (sa : StrsAre va xs) (sb : StrsAre vb ys) :
    ∀ k i : Nat, xs.length - i = k → i ≤ xs.length → i ≤ ys.length → R (.ok (.ret (.bool (lexO gt (xs.drop i) (ys.drop i))))) s → codeAny (model prog w) A (.builtin "list.__eq__.loop" ⟨[.ref a, .ref b, rawInt i, rawInt (if gt then 4 else 0)], []⟩) R s := by
  have la := StrsAre.length sa
  have lb := StrsAre.length sb
  intro k
  induction k with
  | zero =>
    intro i hk hix hiy h
    refine codeAny_builtin MeetsSeq3.entry_eq_loop ?_
    rw [Around.under_plainId MeetsSeq3.plain_eq_loop _]
    have hn : va.toArray[i]? = none := by simp; omega
    rw [lexO_nil gt _ _ (.inl (List.drop_eq_nil_of_le (by omega))), List.length_drop, List.length_drop] at h
    have e1 : decide (xs.length - i > ys.length - i) = decide (xs.length > ys.length) := by simp only [decide_eq_decide]; omega
    have e2 : decide (xs.length - i < ys.length - i) = decide (xs.length < ys.length) := by simp only [decide_eq_decide]; omega
    rw [e1, e2] at h
    cases gt <;> (
      show wpAny _ _ (Builtin.List.listItems (.ref a) >>= _) _ _ _
      refine wpAny_bind (items ha da ?_)
      show wpAny _ _ (Builtin.List.listItems (.ref b) >>= _) _ _ _
      refine wpAny_bind (items hb db ?_)
      rw [show va.toArray[(i : Int).toNat]? = none from hn]
      dsimp only
      refine wpAny_bind (items ha da ?_)
      refine wpAny_bind (items hb db ?_)
      refine wpAny_pure ?_
      rw [List.size_toArray, List.size_toArray, la, lb]
      exact h)
  | succ k ih =>
    intro i hk hix hiy h
    refine codeAny_builtin MeetsSeq3.entry_eq_loop ?_
    rw [Around.under_plainId MeetsSeq3.plain_eq_loop _]
    have hi : i < xs.length := by omega
    obtain ⟨t, hx⟩ := sa.at (List.getElem?_eq_getElem hi)
    have hxv : va.toArray[(i : Int).toNat]? = some (.str xs[i] t) := by simpa using hx
    by_cases hj : i < ys.length
    · obtain ⟨u, hy⟩ := sb.at (List.getElem?_eq_getElem hj)
      have hyv : vb.toArray[(i : Int).toNat]? = some (.str ys[i] u) := by simpa using hy
      rw [List.drop_eq_getElem_cons hi, List.drop_eq_getElem_cons hj] at h
      have hc : ((i : Int) + 1) = ((i + 1 : Nat) : Int) := by push_cast; rfl
      cases gt with
      | false =>
        show wpAny _ _ (Builtin.List.listItems (.ref a) >>= _) _ _ _
        refine wpAny_bind (items ha da ?_)
        show wpAny _ _ (Builtin.List.listItems (.ref b) >>= _) _ _ _
        refine wpAny_bind (items hb db ?_)
        rw [hxv, hyv]
        dsimp only
        refine wpAny_bind (wpAny_eqBool_str ?_)
        by_cases e : xs[i] = ys[i]
        · rw [decide_eq_true e, if_pos rfl]
          rw [lexO, if_pos e] at h
          rw [hc]
          exact wpAny_bind (wpAny_pure (wpAny_pure ⟨plainId_quiet MeetsSeq3.plain_eq_loop _, ih (i + 1) (by omega) (by omega) (by omega) h⟩))
        · rw [decide_eq_false e, if_neg Bool.false_ne_true]
          rw [lexO, if_neg e] at h
          refine wpAny_bind (items ha da ?_)
          refine wpAny_bind (items hb db ?_)
          rw [hxv, hyv]
          dsimp only
          refine wpAny_bind (cmp_strs (gt := false) ?_)
          exact wpAny_pure h
      | true =>
        show wpAny _ _ (Builtin.List.listItems (.ref a) >>= _) _ _ _
        refine wpAny_bind (items ha da ?_)
        show wpAny _ _ (Builtin.List.listItems (.ref b) >>= _) _ _ _
        refine wpAny_bind (items hb db ?_)
        rw [hxv, hyv]
        dsimp only
        refine wpAny_bind (wpAny_eqBool_str ?_)
        by_cases e : xs[i] = ys[i]
        · rw [decide_eq_true e, if_pos rfl]
          rw [lexO, if_pos e] at h
          rw [hc]
          exact wpAny_bind (wpAny_pure (wpAny_pure ⟨plainId_quiet MeetsSeq3.plain_eq_loop _, ih (i + 1) (by omega) (by omega) (by omega) h⟩))
        · rw [decide_eq_false e, if_neg Bool.false_ne_true]
          rw [lexO, if_neg e] at h
          refine wpAny_bind (items ha da ?_)
          refine wpAny_bind (items hb db ?_)
          rw [hxv, hyv]
          dsimp only
          refine wpAny_bind (cmp_strs (gt := true) ?_)
          exact wpAny_pure h
    · have hn : vb.toArray[(i : Int).toNat]? = none := by simp; omega
      rw [lexO_nil gt _ _ (.inr (List.drop_eq_nil_of_le (by omega))), List.length_drop, List.length_drop] at h
      have e1 : decide (xs.length - i > ys.length - i) = decide (xs.length > ys.length) := by simp only [decide_eq_decide]; omega
      have e2 : decide (xs.length - i < ys.length - i) = decide (xs.length < ys.length) := by simp only [decide_eq_decide]; omega
      rw [e1, e2] at h
      cases gt <;> (
        show wpAny _ _ (Builtin.List.listItems (.ref a) >>= _) _ _ _
        refine wpAny_bind (items ha da ?_)
        show wpAny _ _ (Builtin.List.listItems (.ref b) >>= _) _ _ _
        refine wpAny_bind (items hb db ?_)
        rw [hxv, hn]
        dsimp only
        refine wpAny_bind (items ha da ?_)
        refine wpAny_bind (items hb db ?_)
        refine wpAny_pure ?_
        rw [List.size_toArray, List.size_toArray, la, lb]
        exact h)
end
end MM
end
section
namespace MM
section
variable {prog : Program} {w : World} {A : Around} {E : Value → Shared → Prop} {s : Shared}
theorem cmp_lists {a b : Addr} {gt : Bool} {oa ob : Obj} {va vb : List Value} {na nb : Nat} {xs ys : List Str} {Q : Value → Shared → Prop} (hu : A.units < cLine) (ha : s.heap.get? a = some oa) (ca : oa.cls = .type "list") (da : oa.data = .seq va.toArray na) (hb : s.heap.get? b = some ob) (cb : ob.cls = .type "list") (db : ob.data = .seq vb.toArray nb) (sa : StrsAre va xs) (sb : StrsAre vb ys)
    (h : Q (.bool (lexO gt xs ys)) s) : wpAny (model prog w) A (richCompare (opO gt) (.ref a) (.ref b)) Q E s := by
  have hTa : s.TypeIs (.ref a) "list" := ⟨_, ha, ca⟩
  have hTb : s.TypeIs (.ref b) "list" := ⟨_, hb, cb⟩
  cases gt with
  | false =>
    refine wpAny_richCompare_same_room (op := .Lt) (T := "list") hTa hTb F.slot_list_lt ?_ hu
    refine wpAny_call (codeAny_call_builtin F.slot_list_lt.plain F.entry_list_lt (F.slot_list_lt.check _ _ _ _ _ _ _ _ hTa (F.args_list_lt_2 _ _) ?_))
    have f3 := AutoSeq1.sub_list_list
    obtain ⟨hp, g, d, tk, os⟩ := s
    wp_walk using AutoSeq1.wpAny_loadPart' ha, AutoSeq1.wpAny_loadPart' hb
    refine ⟨plainId_quiet MeetsSeq3.plain_eq_loop _, ?_⟩
    refine loop (gt := false) ha da hb db sa sb _ 0 rfl (Nat.zero_le _) (Nat.zero_le _) ⟨by simp, h⟩
  | true =>
    refine wpAny_richCompare_same_room (op := .Gt) (T := "list") hTa hTb F.slot_list_gt ?_ hu
    refine wpAny_call (codeAny_call_builtin F.slot_list_gt.plain F.entry_list_gt (F.slot_list_gt.check _ _ _ _ _ _ _ _ hTa (F.args_list_gt_2 _ _) ?_))
    have f3 := AutoSeq1.sub_list_list
    obtain ⟨hp, g, d, tk, os⟩ := s
    wp_walk using AutoSeq1.wpAny_loadPart' ha, AutoSeq1.wpAny_loadPart' hb
    refine ⟨plainId_quiet MeetsSeq3.plain_eq_loop _, ?_⟩
    refine loop (gt := true) ha da hb db sa sb _ 0 rfl (Nat.zero_le _) (Nat.zero_le _) ⟨by simp, h⟩
end
end MM
end
section
namespace MM
section
variable {prog : Program} {w : World} {A : Around} {E : Value → Shared → Prop} {s : Shared}
theorem min2 {l a b : Addr} {lo oa ob : Obj} {va vb : List Value} {n na nb : Nat} {xs ys : List Str} {news : List (Addr × Obj)} {h₀ : Heap} {L : Addr} {m : Str → Option Value} {Q : Value → Shared → Prop}
    (hh : A.handled = none) (hu : A.units + 1 < cLine) (F : Fr h₀ L s.heap m) (N : News h₀ L s.heap news) (ml : (l, lo) ∈ news) (cl : lo.cls = .type "list") (dl : lo.data = .seq #[.ref a, .ref b] n)
    (ma : (a, oa) ∈ news) (ca : oa.cls = .type "list") (da : oa.data = .seq va.toArray na) (mb : (b, ob) ∈ news) (cb : ob.cls = .type "list") (db : ob.data = .seq vb.toArray nb) (sa : StrsAre va xs) (sb : StrsAre vb ys)
    (h : ∀ h' tk, Fr h₀ L h' m → News h₀ L h' news → Q (if lexO false ys xs = true then .ref b else .ref a) { s with heap := h', toks := tk }) :
    wpAny (model prog w) A (call (.builtin "min") [.ref l]) Q E s := by
  have hl : s.heap.IsList l #[.ref a, .ref b] := ⟨lo, N.get ml, cl, n, dl⟩
  have hname : (toString "min" ++ toString ".loop" : String) = "min.loop" := by decide
  refine call_function_tree PySem.F.kind_min PySem.F.plain_min PySem.F.entry_min (PySem.F.args_min1 _) ?_
  show wpAny _ A.in1 (Builtin.Builtins.bindParams "min" ["key", "default"] 0 ⟨[], []⟩ >>= _) _ _ s
  refine wpAny_bind (wpAny_of_eq (show Builtin.Builtins.bindParams "min" ["key", "default"] 0 ⟨[], []⟩ = pure [none, none] from rfl) ?_)
  refine wpAny_bind (wpAny_pure ?_)
  refine wpAny_bind (wpAny_pyIter_list hl ?_)
  refine wpAny_bind (wpAny_newObj_type ?_)
  rw [hname]
  refine wpAny_pure ⟨plainId_quiet PySem.F.plain_min_loop _, ?_⟩
  generalize hI : s.heap.objs.size = I at *
  have gI : (s.heap.push { cls := .type "list_iterator", data := .fields #[.ref l, .int 0 0] }).get? I = some { cls := .type "list_iterator", data := .fields #[.ref l, .int 0 0] } := hI ▸ Heap.get?_push_size _ rfl
  have hsz : (s.heap.push { cls := .type "list_iterator", data := .fields #[.ref l, .int 0 0] }).objs.size = I + 1 := by rw [Heap.size_push, hI]
  dsimp only
  generalize hB : s.heap.push { cls := .type "list_iterator", data := .fields #[.ref l, .int 0 0] } = B at *
  rw [hsz]
  have k1 : ∀ p o, s.heap.get? p = some o → B.get? p = some o := fun p o e => hB ▸ Heap.get?_push_of_some _ e
  have lt1 : ∀ p o, s.heap.get? p = some o → p ≠ I ∧ p ≠ I + 1 := fun p o e => by
    have := Heap.lt_size e
    rw [hI] at this
    exact ⟨Nat.ne_of_lt this, Nat.ne_of_lt (Nat.lt_succ_of_lt this)⟩
  have hIS : I + 1 ≠ I := Nat.succ_ne_self _
  generalize hH : B.push { cls := .type "list", dict := none, data := .seq ([] : List Value).toArray } = H1
  have gS : H1.get? (I + 1) = some { cls := .type "list", dict := none, data := .seq #[] 0, slots := #[] } := by rw [← hH, ← hsz]; exact Heap.get?_push_size _ rfl
  have gI1 : H1.IsListIter I l 0 := ⟨_, hH ▸ Heap.get?_push_of_some _ gI, rfl, rfl⟩
  have k2 : ∀ p o, s.heap.get? p = some o → H1.get? p = some o := fun p o e => hH ▸ Heap.get?_push_of_some _ (k1 p o e)
  clear gI hsz hH hB k1
  have il : ∀ hh : Heap, (∀ p o, s.heap.get? p = some o → hh.get? p = some o) → hh.IsList l #[.ref a, .ref b] := fun hh k => ⟨lo, k _ _ (N.get ml), cl, n, dl⟩
  refine codeAny_builtin PySem.F.entry_min_loop ?_
  rw [Around.under_plainId PySem.F.plain_min_loop _]
  show wpAny _ A.in1 (seqItems? (.ref (I + 1)) >>= _) _ _ _
  refine wpAny_bind (wpAny_seqItems gS rfl ?_)
  show wpAny _ A.in1 (tryCatch (pyNext (.ref I)) _ >>= _) _ _ _
  refine wpAny_bind (wpAny_tryCatch (wpAny_pyNext_list_item (x := .ref a) gI1 (il _ k2) rfl fun H2 gI2 sb2 => ?_))
  have gS2 := sb2.extBut _ _ hIS gS
  have k3 : ∀ p o, s.heap.get? p = some o → H2.get? p = some o := fun p o e => sb2.extBut _ _ (lt1 p o e).1 (k2 p o e)
  show wpAny _ A.in1 (updateSeq (I + 1) (fun _ => #[.ref a, .ref a]) >>= _) _ _ _
  refine wpAny_bind ?_
  refine wpAny_updateSeq gS2 rfl ?_
  rw [hname]
  refine wpAny_pure ⟨plainId_quiet PySem.F.plain_min_loop _, ?_⟩
  have gS3 := Heap.get?_update_self (Obj.mapSeq fun _ => #[.ref a, .ref a]) gS2 rfl
  have oth : ∀ (hp : Heap) f p, p ≠ I + 1 → (hp.update (I + 1) f).get? p = hp.get? p := fun hp f p hne => Heap.get?_update_other _ _ (Ne.symm hne)
  generalize hH3 : H2.update (I + 1) (Obj.mapSeq fun _ => #[.ref a, .ref a]) = H3 at *
  have gI3 : H3.IsListIter I l 1 := by obtain ⟨o, e, r⟩ := gI2; exact ⟨o, by rw [← hH3, oth _ _ _ (Ne.symm hIS)]; exact e, r⟩
  have k4 : ∀ p o, s.heap.get? p = some o → H3.get? p = some o := fun p o e => by rw [← hH3, oth _ _ _ (lt1 p o e).2]; exact k3 p o e
  clear hH3 gS2 gI2 k3 sb2 gS gI1 k2
  refine codeAny_builtin PySem.F.entry_min_loop ?_
  rw [Around.under_plainId PySem.F.plain_min_loop _]
  show wpAny _ A.in1 (seqItems? (.ref (I + 1)) >>= _) _ _ _
  refine wpAny_bind (wpAny_seqItems gS3 rfl ?_)
  show wpAny _ A.in1 (tryCatch (pyNext (.ref I)) _ >>= _) _ _ _
  refine wpAny_bind (wpAny_tryCatch (wpAny_pyNext_list_item (x := .ref b) gI3 (il _ k4) rfl fun H4 gI4 sb4 => ?_))
  have gS4 := sb4.extBut _ _ hIS gS3
  have k5 : ∀ p o, s.heap.get? p = some o → H4.get? p = some o := fun p o e => sb4.extBut _ _ (lt1 p o e).1 (k4 p o e)
  show wpAny _ A.in1 (tryCatch (holding [.ref b, .ref b] (richCompare .Lt (.ref b) (.ref a) >>= _)) _ >>= _) _ _ _
  refine wpAny_bind (wpAny_tryCatch (wpAny_holding (wpAny_bind (cmp_lists (gt := false) (by rw [Around.in1_units]; exact hu) (k5 _ _ (N.get mb)) cb db (k5 _ _ (N.get ma)) ca da sb sa ?_))))
  refine wpAny_bind (wpAny_holding (wpAny_truthy_bool ?_))
  refine wpAny_bind (wpAny_letGo (wpAny_pure ?_))
  have last : ∀ (v : Value) (H5 : Heap) (c : Nat) (tk : Nat), H5.IsListIter I l 2 → (∀ p o, s.heap.get? p = some o → H5.get? p = some o) → H5.get? (I + 1) = some { cls := .type "list", dict := none, data := .seq #[v, v] c, slots := #[] } →
      (∀ h' tk, Fr h₀ L h' m → News h₀ L h' news → Q v { s with heap := h', toks := tk }) →
      codeAny (model prog w) A (.builtin "min.loop" ⟨[.ref I, .none, .ref (I + 1)], []⟩) (fun r s' => match r with | .ok (.ret v) => Q v s' | .ok _ => False | .error e => E e s') { s with heap := H5, toks := tk } := by
    intro v H5 c tk gI5 k6 gS5 hq
    refine codeAny_builtin PySem.F.entry_min_loop ?_
    rw [Around.under_plainId PySem.F.plain_min_loop _]
    show wpAny _ A.in1 (seqItems? (.ref (I + 1)) >>= _) _ _ _
    refine wpAny_bind (wpAny_seqItems gS5 rfl ?_)
    show wpAny _ A.in1 (tryCatch (pyNext (.ref I)) _ >>= _) _ _ _
    refine wpAny_bind (wpAny_tryCatch (wpAny_pyNext_list_end (show A.in1.handled = none from hh) gI5 (il _ k6) rfl fun H6 eb => ?_))
    have gS6 := eb _ _ hIS gS5
    show wpAny _ A.in1 (updateSeq (I + 1) (fun _ => #[]) >>= _) _ _ _
    refine wpAny_bind ?_
    refine wpAny_updateSeq gS6 rfl (wpAny_bind (wpAny_letGo (wpAny_pure ?_)))
    have k7 : ∀ p o, s.heap.get? p = some o → (H6.update (I + 1) (Obj.mapSeq fun _ => #[])).get? p = some o := fun p o e => by rw [oth _ _ _ (lt1 p o e).2]; exact eb _ _ (lt1 p o e).1 (k6 p o e)
    exact hq _ _ (F.keeps k7) (N.grown k7)
  cases hb : lexO false ys xs with
  | true =>
    simp only [if_true]
    refine wpAny_bind ?_
    refine wpAny_updateSeq gS4 rfl (wpAny_bind (wpAny_letGo ?_))
    rw [hname]
    refine wpAny_pure ⟨plainId_quiet PySem.F.plain_min_loop _, last (.ref b) _ _ _ ?_ ?_ (Heap.get?_update_self _ gS4 rfl) ?_⟩
    · obtain ⟨o, e, r⟩ := gI4
      exact ⟨o, by rw [oth _ _ _ (Ne.symm hIS)]; exact e, r⟩
    · exact fun p o e => by rw [oth _ _ _ (lt1 p o e).2]; exact k5 p o e
    · intro h' tk F' N'
      have := h h' tk F' N'
      rw [hb, if_pos rfl] at this
      exact this
  | false =>
    simp only [Bool.false_eq_true, if_false]
    refine wpAny_bind (wpAny_letGo ?_)
    rw [hname]
    refine wpAny_pure ⟨plainId_quiet PySem.F.plain_min_loop _, last (.ref a) _ _ _ gI4 k5 gS4 ?_⟩
    intro h' tk F' N'
    have := h h' tk F' N'
    rw [hb, if_neg Bool.false_ne_true] at this
    exact this
theorem max2 {l a b : Addr} {lo oa ob : Obj} {va vb : List Value} {n na nb : Nat} {xs ys : List Str} {news : List (Addr × Obj)} {h₀ : Heap} {L : Addr} {m : Str → Option Value} {Q : Value → Shared → Prop}
    (hh : A.handled = none) (hu : A.units + 1 < cLine) (F : Fr h₀ L s.heap m) (N : News h₀ L s.heap news) (ml : (l, lo) ∈ news) (cl : lo.cls = .type "list") (dl : lo.data = .seq #[.ref a, .ref b] n)
    (ma : (a, oa) ∈ news) (ca : oa.cls = .type "list") (da : oa.data = .seq va.toArray na) (mb : (b, ob) ∈ news) (cb : ob.cls = .type "list") (db : ob.data = .seq vb.toArray nb) (sa : StrsAre va xs) (sb : StrsAre vb ys)
    (h : ∀ h' tk, Fr h₀ L h' m → News h₀ L h' news → Q (if lexO true ys xs = true then .ref b else .ref a) { s with heap := h', toks := tk }) :
    wpAny (model prog w) A (call (.builtin "max") [.ref l]) Q E s := by
  have hl : s.heap.IsList l #[.ref a, .ref b] := ⟨lo, N.get ml, cl, n, dl⟩
  have hname : (toString "max" ++ toString ".loop" : String) = "max.loop" := by decide
  refine call_function_tree PySem.F.kind_max PySem.F.plain_max PySem.F.entry_max (PySem.F.args_max1 _) ?_
  show wpAny _ A.in1 (Builtin.Builtins.bindParams "max" ["key", "default"] 0 ⟨[], []⟩ >>= _) _ _ s
  refine wpAny_bind (wpAny_of_eq (show Builtin.Builtins.bindParams "max" ["key", "default"] 0 ⟨[], []⟩ = pure [none, none] from rfl) ?_)
  refine wpAny_bind (wpAny_pure ?_)
  refine wpAny_bind (wpAny_pyIter_list hl ?_)
  refine wpAny_bind (wpAny_newObj_type ?_)
  rw [hname]
  refine wpAny_pure ⟨plainId_quiet PySem.F.plain_max_loop _, ?_⟩
  generalize hI : s.heap.objs.size = I at *
  have gI : (s.heap.push { cls := .type "list_iterator", data := .fields #[.ref l, .int 0 0] }).get? I = some { cls := .type "list_iterator", data := .fields #[.ref l, .int 0 0] } := hI ▸ Heap.get?_push_size _ rfl
  have hsz : (s.heap.push { cls := .type "list_iterator", data := .fields #[.ref l, .int 0 0] }).objs.size = I + 1 := by rw [Heap.size_push, hI]
  dsimp only
  generalize hB : s.heap.push { cls := .type "list_iterator", data := .fields #[.ref l, .int 0 0] } = B at *
  rw [hsz]
  have k1 : ∀ p o, s.heap.get? p = some o → B.get? p = some o := fun p o e => hB ▸ Heap.get?_push_of_some _ e
  have lt1 : ∀ p o, s.heap.get? p = some o → p ≠ I ∧ p ≠ I + 1 := fun p o e => by
    have := Heap.lt_size e
    rw [hI] at this
    exact ⟨Nat.ne_of_lt this, Nat.ne_of_lt (Nat.lt_succ_of_lt this)⟩
  have hIS : I + 1 ≠ I := Nat.succ_ne_self _
  generalize hH : B.push { cls := .type "list", dict := none, data := .seq ([] : List Value).toArray } = H1
  have gS : H1.get? (I + 1) = some { cls := .type "list", dict := none, data := .seq #[] 0, slots := #[] } := by rw [← hH, ← hsz]; exact Heap.get?_push_size _ rfl
  have gI1 : H1.IsListIter I l 0 := ⟨_, hH ▸ Heap.get?_push_of_some _ gI, rfl, rfl⟩
  have k2 : ∀ p o, s.heap.get? p = some o → H1.get? p = some o := fun p o e => hH ▸ Heap.get?_push_of_some _ (k1 p o e)
  clear gI hsz hH hB k1
  have il : ∀ hh : Heap, (∀ p o, s.heap.get? p = some o → hh.get? p = some o) → hh.IsList l #[.ref a, .ref b] := fun hh k => ⟨lo, k _ _ (N.get ml), cl, n, dl⟩
  refine codeAny_builtin PySem.F.entry_max_loop ?_
  rw [Around.under_plainId PySem.F.plain_max_loop _]
  show wpAny _ A.in1 (seqItems? (.ref (I + 1)) >>= _) _ _ _
  refine wpAny_bind (wpAny_seqItems gS rfl ?_)
  show wpAny _ A.in1 (tryCatch (pyNext (.ref I)) _ >>= _) _ _ _
  refine wpAny_bind (wpAny_tryCatch (wpAny_pyNext_list_item (x := .ref a) gI1 (il _ k2) rfl fun H2 gI2 sb2 => ?_))
  have gS2 := sb2.extBut _ _ hIS gS
  have k3 : ∀ p o, s.heap.get? p = some o → H2.get? p = some o := fun p o e => sb2.extBut _ _ (lt1 p o e).1 (k2 p o e)
  show wpAny _ A.in1 (updateSeq (I + 1) (fun _ => #[.ref a, .ref a]) >>= _) _ _ _
  refine wpAny_bind ?_
  refine wpAny_updateSeq gS2 rfl ?_
  rw [hname]
  refine wpAny_pure ⟨plainId_quiet PySem.F.plain_max_loop _, ?_⟩
  have gS3 := Heap.get?_update_self (Obj.mapSeq fun _ => #[.ref a, .ref a]) gS2 rfl
  have oth : ∀ (hp : Heap) f p, p ≠ I + 1 → (hp.update (I + 1) f).get? p = hp.get? p := fun hp f p hne => Heap.get?_update_other _ _ (Ne.symm hne)
  generalize hH3 : H2.update (I + 1) (Obj.mapSeq fun _ => #[.ref a, .ref a]) = H3 at *
  have gI3 : H3.IsListIter I l 1 := by obtain ⟨o, e, r⟩ := gI2; exact ⟨o, by rw [← hH3, oth _ _ _ (Ne.symm hIS)]; exact e, r⟩
  have k4 : ∀ p o, s.heap.get? p = some o → H3.get? p = some o := fun p o e => by rw [← hH3, oth _ _ _ (lt1 p o e).2]; exact k3 p o e
  clear hH3 gS2 gI2 k3 sb2 gS gI1 k2
  refine codeAny_builtin PySem.F.entry_max_loop ?_
  rw [Around.under_plainId PySem.F.plain_max_loop _]
  show wpAny _ A.in1 (seqItems? (.ref (I + 1)) >>= _) _ _ _
  refine wpAny_bind (wpAny_seqItems gS3 rfl ?_)
  show wpAny _ A.in1 (tryCatch (pyNext (.ref I)) _ >>= _) _ _ _
  refine wpAny_bind (wpAny_tryCatch (wpAny_pyNext_list_item (x := .ref b) gI3 (il _ k4) rfl fun H4 gI4 sb4 => ?_))
  have gS4 := sb4.extBut _ _ hIS gS3
  have k5 : ∀ p o, s.heap.get? p = some o → H4.get? p = some o := fun p o e => sb4.extBut _ _ (lt1 p o e).1 (k4 p o e)
  show wpAny _ A.in1 (tryCatch (holding [.ref b, .ref b] (richCompare .Gt (.ref b) (.ref a) >>= _)) _ >>= _) _ _ _
  refine wpAny_bind (wpAny_tryCatch (wpAny_holding (wpAny_bind (cmp_lists (gt := true) (by rw [Around.in1_units]; exact hu) (k5 _ _ (N.get mb)) cb db (k5 _ _ (N.get ma)) ca da sb sa ?_))))
  refine wpAny_bind (wpAny_holding (wpAny_truthy_bool ?_))
  refine wpAny_bind (wpAny_letGo (wpAny_pure ?_))
  have last : ∀ (v : Value) (H5 : Heap) (c : Nat) (tk : Nat), H5.IsListIter I l 2 → (∀ p o, s.heap.get? p = some o → H5.get? p = some o) → H5.get? (I + 1) = some { cls := .type "list", dict := none, data := .seq #[v, v] c, slots := #[] } →
      (∀ h' tk, Fr h₀ L h' m → News h₀ L h' news → Q v { s with heap := h', toks := tk }) →
      codeAny (model prog w) A (.builtin "max.loop" ⟨[.ref I, .none, .ref (I + 1)], []⟩) (fun r s' => match r with | .ok (.ret v) => Q v s' | .ok _ => False | .error e => E e s') { s with heap := H5, toks := tk } := by
    intro v H5 c tk gI5 k6 gS5 hq
    refine codeAny_builtin PySem.F.entry_max_loop ?_
    rw [Around.under_plainId PySem.F.plain_max_loop _]
    show wpAny _ A.in1 (seqItems? (.ref (I + 1)) >>= _) _ _ _
    refine wpAny_bind (wpAny_seqItems gS5 rfl ?_)
    show wpAny _ A.in1 (tryCatch (pyNext (.ref I)) _ >>= _) _ _ _
    refine wpAny_bind (wpAny_tryCatch (wpAny_pyNext_list_end (show A.in1.handled = none from hh) gI5 (il _ k6) rfl fun H6 eb => ?_))
    have gS6 := eb _ _ hIS gS5
    show wpAny _ A.in1 (updateSeq (I + 1) (fun _ => #[]) >>= _) _ _ _
    refine wpAny_bind ?_
    refine wpAny_updateSeq gS6 rfl (wpAny_bind (wpAny_letGo (wpAny_pure ?_)))
    have k7 : ∀ p o, s.heap.get? p = some o → (H6.update (I + 1) (Obj.mapSeq fun _ => #[])).get? p = some o := fun p o e => by rw [oth _ _ _ (lt1 p o e).2]; exact eb _ _ (lt1 p o e).1 (k6 p o e)
    exact hq _ _ (F.keeps k7) (N.grown k7)
  cases hb : lexO true ys xs with
  | true =>
    simp only [if_true]
    refine wpAny_bind ?_
    refine wpAny_updateSeq gS4 rfl (wpAny_bind (wpAny_letGo ?_))
    rw [hname]
    refine wpAny_pure ⟨plainId_quiet PySem.F.plain_max_loop _, last (.ref b) _ _ _ ?_ ?_ (Heap.get?_update_self _ gS4 rfl) ?_⟩
    · obtain ⟨o, e, r⟩ := gI4
      exact ⟨o, by rw [oth _ _ _ (Ne.symm hIS)]; exact e, r⟩
    · exact fun p o e => by rw [oth _ _ _ (lt1 p o e).2]; exact k5 p o e
    · intro h' tk F' N'
      have := h h' tk F' N'
      rw [hb, if_pos rfl] at this
      exact this
  | false =>
    simp only [Bool.false_eq_true, if_false]
    refine wpAny_bind (wpAny_letGo ?_)
    rw [hname]
    refine wpAny_pure ⟨plainId_quiet PySem.F.plain_max_loop _, last (.ref a) _ _ _ gI4 k5 gS4 ?_⟩
    intro h' tk F' N'
    have := h h' tk F' N'
    rw [hb, if_neg Bool.false_ne_true] at this
    exact this
end
end MM
end
section
section
variable {prog : Program} {w : World} {A : Around} {E : Value → Shared → Prop} {s : Shared} {env : Env} {h₀ : Heap} {body : List Stmt} {Q : Flow → Shared → Prop}
/-- a for over enumerate(list of the ledger) -/
theorem forEnum {elts : List Expr} {k : Nat} {pos : Pos} {l : Addr} {lo : Obj} {vs : List Value} {n : Nat} {m₀ : Str → Option Value} {news : List (Addr × Obj)} (J : Nat → (Str → Option Value) → List (Addr × Obj) → Prop)
    (hh : A.handled = none) (F : Fr h₀ env.locals s.heap m₀) (N : News h₀ env.locals s.heap news) (hm : (l, lo) ∈ news) (hc : lo.cls = .type "list") (hd : lo.data = .seq vs.toArray n)
    (hkeep : ∀ i m nx, J i m nx → (l, lo) ∈ nx) (h0 : J 0 m₀ news)
    (step : ∀ i v T t I oe ol m₁ news₁ h tk, vs[i]? = some v → (∀ p ∈ news, p.1 < I) → J i m₁ news₁ → news₁.map (·.1) = news.map (·.1) → Fr h₀ env.locals h m₁ → IsTup h T #[.int ((i : Nat) : Int) t, v] → News h₀ env.locals h ((I + 1, oe) :: (I, ol) :: news₁) →
      wpAny (model prog w) A (assign (.Tuple elts k pos) env (.ref T)) (fun _ s₂ => wpAny (model prog w) A (execs body env) (InvPostN h₀ env.locals (J (i + 1)) [(I + 1, oe), (I, ol)] (news.map (·.1)) { s with heap := h, toks := tk } Q) E s₂) E { s with heap := h, toks := tk })
    (done : ∀ m₁ news₁ h tk, J vs.length m₁ news₁ → Fr h₀ env.locals h m₁ → News h₀ env.locals h news₁ → Q .next { s with heap := h, toks := tk }) :
    wpAny (model prog w) A (call (.type "enumerate") [.ref l]) (fun xv s₁ => wpAny (model prog w) A (pyIter xv) (fun it s₂ => TurnsAt prog w A h₀ env (.Tuple elts k pos) body Q E it s₂) E s₁) E s := by
  refine ktu_enum hh F N hm hc hd rfl fun I hI => itemsInv J (fun p hp q hq => ?_) (fun i m nx h => ⟨hkeep i m nx h, trivial⟩) h0 ?_ (by rw [enumItems_length]; exact done)
  · have hlt := hI p hp
    rcases List.mem_cons.mp hq with rfl | hq
    · exact Nat.ne_of_lt (Nat.lt_succ_of_lt hlt)
    · rw [List.mem_singleton.mp hq]; exact Nat.ne_of_lt hlt
  · intro i a m₁ news₁ v h tk ha hJ hadr hv F₁ oe hoe ol hol N₁
    obtain ⟨u, hu⟩ : ∃ u, vs[i]? = some u := by
      have hi : i < (enumItems 0 vs).length := (List.getElem?_eq_some_iff.mp ha).1
      rw [enumItems_length] at hi
      exact ⟨_, List.getElem?_eq_getElem hi⟩
    have e := enumItems_get vs 0 i hu
    rw [ha] at e
    cases e
    obtain ⟨T, t, rfl, hT⟩ := hv
    refine step i u T t I oe ol m₁ news₁ h tk hu hI hJ hadr F₁ ?_ N₁
    simpa using hT
end
end
section
namespace MM
def lcp : List Str → List Str → List Str
  | x :: xs, y :: ys => if x = y then x :: lcp xs ys else []
  | _, _ => []
theorem lcp_comm : ∀ xs ys : List Str, lcp xs ys = lcp ys xs
  | [], [] => rfl
  | [], _ :: _ => rfl
  | _ :: _, [] => rfl
  | x :: xs, y :: ys => by
    unfold lcp
    by_cases e : x = y
    · subst e; rw [if_pos rfl, if_pos rfl, lcp_comm xs ys]
    · rw [if_neg e, if_neg (Ne.symm e)]
theorem lcp_self : ∀ xs : List Str, lcp xs xs = xs
  | [] => rfl
  | x :: xs => by unfold lcp; rw [if_pos rfl, lcp_self xs]
theorem lcp_at : ∀ (i : Nat) (xs ys : List Str) (a b : Str), xs.take i = ys.take i → xs[i]? = some a → ys[i]? = some b → a ≠ b → lcp xs ys = xs.take i
  | 0, x :: xs, y :: ys, a, b, _, ha, hb, hne => by
    simp only [List.getElem?_cons_zero, Option.some.injEq] at ha hb
    subst ha hb
    unfold lcp
    rw [if_neg hne]; rfl
  | i + 1, x :: xs, y :: ys, a, b, ht, ha, hb, hne => by
    simp only [List.take_succ_cons, List.cons.injEq] at ht
    obtain ⟨rfl, ht⟩ := ht
    unfold lcp
    rw [if_pos rfl, lcp_at i xs ys a b ht (by simpa using ha) (by simpa using hb) hne]; rfl
  | _, [], _, _, _, _, ha, _, _ => by simp at ha
  | _, _ :: _, [], _, _, _, _, hb, _ => by simp at hb
theorem lcp_all : ∀ (xs ys : List Str), xs.take xs.length = ys.take xs.length → lcp xs ys = xs
  | [], _, _ => by unfold lcp; rfl
  | x :: xs, [], h => by simp at h
  | x :: xs, y :: ys, h => by
    simp only [List.length_cons, List.take_succ_cons, List.cons.injEq] at h
    obtain ⟨rfl, h⟩ := h
    unfold lcp
    rw [if_pos rfl, lcp_all xs ys h]
theorem cps_ne {x y : Str} (h : x ≠ y) : x.cps.toList ≠ y.cps.toList := fun e => h (by cases x; cases y; simp at e; simp [e])
theorem cmp_tri {x y : Str} (h : x ≠ y) : cmpO false x y = !cmpO true x y := by
  have hn := cps_ne h
  unfold cmpO
  simp only [Bool.false_eq_true, if_false, if_true]
  generalize x.cps.toList = a at *
  generalize y.cps.toList = b at *
  by_cases h1 : a < b
  · have : ¬ b < a := List.lt_asymm h1
    simp [h1, this]
  · have : b < a := by
      rcases List.le_iff_lt_or_eq.mp (List.not_lt.mp h1) with h2 | h2
      · exact h2
      · exact absurd h2.symm hn
    simp [h1, this]
/-- ys before xs, ys after xs, or equal -/
theorem lexO_tri : ∀ xs ys : List Str, (lexO false ys xs = true ∧ lexO true ys xs = false ∧ ∀ i, i < ys.length → ys.take i = xs.take i → i < xs.length) ∨ (lexO false ys xs = false ∧ lexO true ys xs = true ∧ ∀ i, i < xs.length → xs.take i = ys.take i → i < ys.length) ∨ (lexO false ys xs = false ∧ lexO true ys xs = false ∧ xs = ys)
  | [], [] => .inr (.inr ⟨rfl, rfl, rfl⟩)
  | [], y :: ys => .inr (.inl ⟨rfl, rfl, fun i hi => by simp at hi⟩)
  | x :: xs, [] => .inl ⟨rfl, rfl, fun i hi => by simp at hi⟩
  | x :: xs, y :: ys => by
    by_cases e : y = x
    · subst e
      have ih := lexO_tri xs ys
      simp only [lexO, if_true]
      rcases ih with ⟨h1, h2, h3⟩ | ⟨h1, h2, h3⟩ | ⟨h1, h2, h3⟩
      · refine .inl ⟨h1, h2, fun i hi ht => ?_⟩
        cases i with
        | zero => simp
        | succ i =>
          simp only [List.take_succ_cons, List.cons.injEq, true_and, List.length_cons] at ht hi ⊢
          exact Nat.succ_lt_succ (h3 i (by omega) ht)
      · refine .inr (.inl ⟨h1, h2, fun i hi ht => ?_⟩)
        cases i with
        | zero => simp
        | succ i =>
          simp only [List.take_succ_cons, List.cons.injEq, true_and, List.length_cons] at ht hi ⊢
          exact Nat.succ_lt_succ (h3 i (by omega) ht)
      · exact .inr (.inr ⟨h1, h2, by rw [h3]⟩)
    · simp only [lexO, if_neg e]
      have ht := cmp_tri e
      have side : ∀ (a b : Str) (as bs : List Str), a ≠ b → ∀ i, i < (a :: as).length → (a :: as).take i = (b :: bs).take i → i < (b :: bs).length := by
        intro a b as bs hne i hi h
        cases i with
        | zero => simp
        | succ i =>
          simp only [List.take_succ_cons, List.cons.injEq] at h
          exact absurd h.1 hne
      cases hc : cmpO true y x with
      | true => exact .inr (.inl ⟨by rw [ht, hc]; rfl, rfl, side _ _ _ _ (Ne.symm e)⟩)
      | false => exact .inl ⟨by rw [ht, hc]; rfl, rfl, side _ _ _ _ e⟩
def minL (xs ys : List Str) : List Str := if lexO false ys xs = true then ys else xs
def maxL (xs ys : List Str) : List Str := if lexO true ys xs = true then ys else xs
theorem mm_room (xs ys : List Str) : ∀ i, i < (minL xs ys).length → (minL xs ys).take i = (maxL xs ys).take i → i < (maxL xs ys).length := by
  unfold minL maxL
  rcases lexO_tri xs ys with ⟨h1, h2, h3⟩ | ⟨h1, h2, h3⟩ | ⟨h1, h2, h3⟩
  · rw [h1, h2]; exact h3
  · rw [h1, h2]; exact h3
  · rw [h1, h2]; intro i hi _; exact hi
theorem mm_lcp (xs ys : List Str) : lcp (minL xs ys) (maxL xs ys) = lcp xs ys := by
  unfold minL maxL
  rcases lexO_tri xs ys with ⟨h1, h2, h3⟩ | ⟨h1, h2, h3⟩ | ⟨h1, h2, h3⟩
  · rw [h1, h2]; exact lcp_comm _ _
  · rw [h1, h2]; rfl
  · rw [h1, h2, ← h3]; rfl
end MM
end
namespace hd
/-- the i-th statement of the text, and the j-th of the class that stands there -/
noncomputable def st (i : Nat) : Stmt := (PySem.Challenge.pw_un0039_01.main.body[i]?).getD (.Pass ⟨0, 0, 0, 0⟩)
noncomputable def cst (i j : Nat) : Stmt := match st i with | .ClassDef _ _ _ b _ _ _ _ _ _ _ => (b[j]?).getD (.Pass ⟨0, 0, 0, 0⟩) | s => s
noncomputable def ps : Stmt → Arguments
  | .FunctionDef _ a _ _ _ _ _ _ _ _ => a
  | _ => { posonlyargs := [], args := [], vararg := none, kwonlyargs := [], kw_defaults := [], kwarg := none, defaults := [] }
noncomputable def bd : Stmt → List Stmt
  | .FunctionDef _ _ b _ _ _ _ _ _ _ => b
  | _ => []
noncomputable def sc : Stmt → Scope
  | .FunctionDef _ _ _ _ _ _ s _ _ _ => s
  | _ => { kind := .module, names := [], isGenerator := false, isCoroutine := false }
/-- the objects that the top has made (their defs' bodies are read off the text) -/
noncomputable def heap_39 (P : Params) : Frag :=
  (nat_lit 2, { cls := Value.none, data := Data.dict #[] }) ::
  (nat_lit 3, { cls := Value.type "dict", data := Data.dict #[{ hash := PyData.keyHash P "__name__", key := Value.str "__name__" 165, val := Value.str "law_un0039_01" 468 }, { hash := PyData.keyHash P "__doc__", key := Value.str "__doc__" 166, val := Value.none }, { hash := PyData.keyHash P "__package__", key := Value.str "__package__" 167, val := Value.none }, { hash := PyData.keyHash P "__loader__", key := Value.str "__loader__" 168, val := Value.builtin "__main__.__loader__#opaque" }, { hash := PyData.keyHash P "__spec__", key := Value.str "__spec__" 169, val := Value.none }, { hash := PyData.keyHash P "__annotations__", key := Value.str "__annotations__" 170, val := Value.ref 6 }, { hash := PyData.keyHash P "__builtins__", key := Value.str "__builtins__" 171, val := Value.ref 4 }, { hash := PyData.keyHash P "__file__", key := Value.str "__file__" 173, val := Value.str "/claim/cut.py" 172 }, { hash := PyData.keyHash P "__cached__", key := Value.str "__cached__" 174, val := Value.none }, { hash := PyData.keyHash P "_wall", key := Value.str "_wall" 193, val := Value.ref 21 }, { hash := PyData.keyHash P "_plain_name", key := Value.str "_plain_name" 204, val := Value.ref 28 }, { hash := PyData.keyHash P "ABCMeta", key := Value.str "ABCMeta" 230, val := Value.ref 45 }, { hash := PyData.keyHash P "_ABCLike", key := Value.str "_ABCLike" 273, val := Value.ref 78 }, { hash := PyData.keyHash P "_abc_plain_meta", key := Value.str "_abc_plain_meta" 280, val := Value.ref 87 }, { hash := PyData.keyHash P "fspath", key := Value.str "fspath" 292, val := Value.ref 94 }, { hash := PyData.keyHash P "_check_arg_types", key := Value.str "_check_arg_types" 305, val := Value.ref 101 }, { hash := PyData.keyHash P "_get_sep", key := Value.str "_get_sep" 314, val := Value.ref 108 }, { hash := PyData.keyHash P "join", key := Value.str "join" 325, val := Value.ref 115 }, { hash := PyData.keyHash P "basename", key := Value.str "basename" 334, val := Value.ref 122 }, { hash := PyData.keyHash P "dirname", key := Value.str "dirname" 344, val := Value.ref 129 }, { hash := PyData.keyHash P "commonpath", key := Value.str "commonpath" 350, val := Value.ref 134 }, { hash := PyData.keyHash P "S_IFMT", key := Value.str "S_IFMT" 359, val := Value.ref 141 }, { hash := PyData.keyHash P "S_IFDIR", key := Value.str "S_IFDIR" 361, val := Value.int 16384 360 }, { hash := PyData.keyHash P "S_IFCHR", key := Value.str "S_IFCHR" 363, val := Value.int 8192 362 }, { hash := PyData.keyHash P "S_IFBLK", key := Value.str "S_IFBLK" 365, val := Value.int 24576 364 }, { hash := PyData.keyHash P "S_IFREG", key := Value.str "S_IFREG" 367, val := Value.int 32768 366 }, { hash := PyData.keyHash P "S_IFIFO", key := Value.str "S_IFIFO" 369, val := Value.int 4096 368 }, { hash := PyData.keyHash P "S_IFLNK", key := Value.str "S_IFLNK" 371, val := Value.int 40960 370 }, { hash := PyData.keyHash P "S_IFSOCK", key := Value.str "S_IFSOCK" 373, val := Value.int 49152 372 }, { hash := PyData.keyHash P "S_ISUID", key := Value.str "S_ISUID" 375, val := Value.int 2048 374 }, { hash := PyData.keyHash P "S_ISGID", key := Value.str "S_ISGID" 377, val := Value.int 1024 376 }, { hash := PyData.keyHash P "S_ISVTX", key := Value.str "S_ISVTX" 379, val := Value.int 512 378 }, { hash := PyData.keyHash P "S_IRUSR", key := Value.str "S_IRUSR" 381, val := Value.int 256 380 }, { hash := PyData.keyHash P "S_IWUSR", key := Value.str "S_IWUSR" 383, val := Value.int 128 382 }, { hash := PyData.keyHash P "S_IXUSR", key := Value.str "S_IXUSR" 385, val := Value.int 64 384 }, { hash := PyData.keyHash P "S_IRGRP", key := Value.str "S_IRGRP" 387, val := Value.int 32 386 }, { hash := PyData.keyHash P "S_IWGRP", key := Value.str "S_IWGRP" 389, val := Value.int 16 388 }, { hash := PyData.keyHash P "S_IXGRP", key := Value.str "S_IXGRP" 391, val := Value.int 8 390 }, { hash := PyData.keyHash P "S_IROTH", key := Value.str "S_IROTH" 393, val := Value.int 4 392 }, { hash := PyData.keyHash P "S_IWOTH", key := Value.str "S_IWOTH" 395, val := Value.int 2 394 }, { hash := PyData.keyHash P "S_IXOTH", key := Value.str "S_IXOTH" 397, val := Value.int 1 396 }, { hash := PyData.keyHash P "_filemode_table", key := Value.str "_filemode_table" 423, val := Value.ref 174 }, { hash := PyData.keyHash P "filemode", key := Value.str "filemode" 435, val := Value.ref 181 }, { hash := PyData.keyHash P "_deduplicate", key := Value.str "_deduplicate" 446, val := Value.ref 189 }, { hash := PyData.keyHash P "_deduplicate_unhashable", key := Value.str "_deduplicate_unhashable" 455, val := Value.ref 196 }, { hash := PyData.keyHash P "_compare_args_orderless", key := Value.str "_compare_args_orderless" 467, val := Value.ref 203 }, { hash := PyData.keyHash P "_law_ways", key := Value.str "_law_ways" 475, val := Value.ref 208 }, { hash := PyData.keyHash P "_law_above", key := Value.str "_law_above" 483, val := Value.ref 215 }, { hash := PyData.keyHash P "_law_torn", key := Value.str "_law_torn" 489, val := Value.ref 220 }, { hash := PyData.keyHash P "law", key := Value.str "law" 495, val := Value.ref 225 }] 50 }) ::
  (nat_lit 15, { cls := Value.type "tuple", data := Data.seq #[] }) ::
  (nat_lit 17, { cls := Value.type "tuple", data := Data.seq #[Value.str "k" 190] }) ::
  (nat_lit 18, { cls := Value.type "tuple", data := Data.seq #[] }) ::
  (nat_lit 20, { cls := Value.type "code", data := Data.fields #[Value.str "_wall" 187, Value.str "_wall" 188, Value.str "/claim/cut.py" 189, Value.int 1 0, Value.int 1 0, Value.int 0 0, Value.int 0 0, Value.int 3 0, Value.ref 15, Value.bool true, Value.int 181 0, Value.ref 16, Value.none, Value.ref 17, Value.ref 18, Value.ref 19, Value.int 191 0, Value.int 1 0, Value.str "/claim/cut.py" 192] }) ::
  (nat_lit 21, { cls := Value.type "function", data := Data.func { name := "_wall", qualname := "_wall", params := hd.ps (hd.st 0), body := FuncBody.stmts (hd.bd (hd.st 0)), scope := hd.sc (hd.st 0), globals := 3, closure := [], defaults := Value.none, kwdefaults := Value.none, pyModule := Value.str "__main__" 164, code := Value.ref 20 } }) ::
  (nat_lit 22, { cls := Value.type "tuple", data := Data.seq #[] }) ::
  (nat_lit 24, { cls := Value.type "tuple", data := Data.seq #[Value.str "x" 199, Value.str "what" 200, Value.str "kind" 201] }) ::
  (nat_lit 25, { cls := Value.type "tuple", data := Data.seq #[] }) ::
  (nat_lit 27, { cls := Value.type "code", data := Data.fields #[Value.str "_plain_name" 196, Value.str "_plain_name" 197, Value.str "/claim/cut.py" 198, Value.int 5 0, Value.int 2 0, Value.int 0 0, Value.int 0 0, Value.int 3 0, Value.ref 22, Value.bool true, Value.int 181 0, Value.ref 23, Value.none, Value.ref 24, Value.ref 25, Value.ref 26, Value.int 202 0, Value.int 5 0, Value.str "/claim/cut.py" 203] }) ::
  (nat_lit 28, { cls := Value.type "function", data := Data.func { name := "_plain_name", qualname := "_plain_name", params := hd.ps (hd.st 2), body := FuncBody.stmts (hd.bd (hd.st 2)), scope := hd.sc (hd.st 2), globals := 3, closure := [], defaults := Value.none, kwdefaults := Value.none, pyModule := Value.str "os" 194, code := Value.ref 27 } }) ::
  (nat_lit 29, { cls := Value.type "tuple", data := Data.seq #[Value.type "type"] }) ::
  (nat_lit 36, { cls := Value.type "tuple", data := Data.seq #[] }) ::
  (nat_lit 38, { cls := Value.type "tuple", data := Data.seq #[Value.str "cls" 222, Value.str "subclass" 223] }) ::
  (nat_lit 39, { cls := Value.type "tuple", data := Data.seq #[] }) ::
  (nat_lit 41, { cls := Value.type "code", data := Data.fields #[Value.str "register" 219, Value.str "ABCMeta.register" 220, Value.str "/claim/cut.py" 221, Value.int 13 0, Value.int 2 0, Value.int 0 0, Value.int 0 0, Value.int 3 0, Value.ref 36, Value.bool true, Value.int 181 0, Value.ref 37, Value.none, Value.ref 38, Value.ref 39, Value.ref 40, Value.int 224 0, Value.int 13 0, Value.str "/claim/cut.py" 225] }) ::
  (nat_lit 42, { cls := Value.type "function", data := Data.func { name := "register", qualname := "ABCMeta.register", params := hd.ps (hd.cst 4 0), body := FuncBody.stmts (hd.bd (hd.cst 4 0)), scope := hd.sc (hd.cst 4 0), globals := 3, closure := [], defaults := Value.none, kwdefaults := Value.none, pyModule := Value.str "abc" 205, code := Value.ref 41 } }) ::
  (nat_lit 43, { cls := Value.type "tuple", data := Data.seq #[] }) ::
  (nat_lit 44, { cls := Value.type "dict", data := Data.dict #[{ hash := PyData.keyHash P "__module__", key := Value.str "__module__" 214, val := Value.str "abc" 205 }, { hash := PyData.keyHash P "__firstlineno__", key := Value.str "__firstlineno__" 218, val := Value.int 11 217 }, { hash := PyData.keyHash P "register", key := Value.str "register" 226, val := Value.ref 42 }, { hash := PyData.keyHash P "__static_attributes__", key := Value.str "__static_attributes__" 227, val := Value.ref 43 }, { hash := PyData.keyHash P "__doc__", key := Value.str "__doc__" 228, val := Value.none }] 2 }) ::
  (nat_lit 45, { cls := Value.type "type", data := Data.cls { name := "ABCMeta", bases := [Value.type "type"], mro := [Value.ref 45, Value.type "type", Value.type "object"], ns := 44, qualname := "ABCMeta", subclasses := [Value.ref 78] }, slots := #[some (Value.ref 29), none, some (Value.str "ABCMeta" 207), some (Value.str "ABCMeta" 215), some (Value.builtin "type.__new__"), some (Value.bool true)] }) ::
  (nat_lit 48, { cls := Value.type "tuple", data := Data.seq #[Value.ref 45] }) ::
  (nat_lit 55, { cls := Value.type "tuple", data := Data.seq #[] }) ::
  (nat_lit 57, { cls := Value.type "tuple", data := Data.seq #[Value.str "cls" 248, Value.str "instance" 249, Value.str "C" 250] }) ::
  (nat_lit 58, { cls := Value.type "tuple", data := Data.seq #[] }) ::
  (nat_lit 60, { cls := Value.type "code", data := Data.fields #[Value.str "__instancecheck__" 245, Value.str "_ABCLike.__instancecheck__" 246, Value.str "/claim/cut.py" 247, Value.int 18 0, Value.int 2 0, Value.int 0 0, Value.int 0 0, Value.int 3 0, Value.ref 55, Value.bool true, Value.int 181 0, Value.ref 56, Value.none, Value.ref 57, Value.ref 58, Value.ref 59, Value.int 251 0, Value.int 18 0, Value.str "/claim/cut.py" 252] }) ::
  (nat_lit 61, { cls := Value.type "function", data := Data.func { name := "__instancecheck__", qualname := "_ABCLike.__instancecheck__", params := hd.ps (hd.cst 6 0), body := FuncBody.stmts (hd.bd (hd.cst 6 0)), scope := hd.sc (hd.cst 6 0), globals := 3, closure := [], defaults := Value.none, kwdefaults := Value.none, pyModule := Value.str "collections.abc" 231, code := Value.ref 60 } }) ::
  (nat_lit 62, { cls := Value.type "tuple", data := Data.seq #[] }) ::
  (nat_lit 64, { cls := Value.type "tuple", data := Data.seq #[Value.str "cls" 257, Value.str "C" 258] }) ::
  (nat_lit 65, { cls := Value.type "tuple", data := Data.seq #[] }) ::
  (nat_lit 67, { cls := Value.type "code", data := Data.fields #[Value.str "__subclasscheck__" 254, Value.str "_ABCLike.__subclasscheck__" 255, Value.str "/claim/cut.py" 256, Value.int 24 0, Value.int 2 0, Value.int 0 0, Value.int 0 0, Value.int 3 0, Value.ref 62, Value.bool true, Value.int 181 0, Value.ref 63, Value.none, Value.ref 64, Value.ref 65, Value.ref 66, Value.int 259 0, Value.int 24 0, Value.str "/claim/cut.py" 260] }) ::
  (nat_lit 68, { cls := Value.type "function", data := Data.func { name := "__subclasscheck__", qualname := "_ABCLike.__subclasscheck__", params := hd.ps (hd.cst 6 1), body := FuncBody.stmts (hd.bd (hd.cst 6 1)), scope := hd.sc (hd.cst 6 1), globals := 3, closure := [], defaults := Value.none, kwdefaults := Value.none, pyModule := Value.str "collections.abc" 231, code := Value.ref 67 } }) ::
  (nat_lit 69, { cls := Value.type "tuple", data := Data.seq #[] }) ::
  (nat_lit 71, { cls := Value.type "tuple", data := Data.seq #[Value.str "cls" 265, Value.str "subclass" 266] }) ::
  (nat_lit 72, { cls := Value.type "tuple", data := Data.seq #[] }) ::
  (nat_lit 74, { cls := Value.type "code", data := Data.fields #[Value.str "register" 262, Value.str "_ABCLike.register" 263, Value.str "/claim/cut.py" 264, Value.int 29 0, Value.int 2 0, Value.int 0 0, Value.int 0 0, Value.int 3 0, Value.ref 69, Value.bool true, Value.int 181 0, Value.ref 70, Value.none, Value.ref 71, Value.ref 72, Value.ref 73, Value.int 267 0, Value.int 29 0, Value.str "/claim/cut.py" 268] }) ::
  (nat_lit 75, { cls := Value.type "function", data := Data.func { name := "register", qualname := "_ABCLike.register", params := hd.ps (hd.cst 6 2), body := FuncBody.stmts (hd.bd (hd.cst 6 2)), scope := hd.sc (hd.cst 6 2), globals := 3, closure := [], defaults := Value.none, kwdefaults := Value.none, pyModule := Value.str "collections.abc" 231, code := Value.ref 74 } }) ::
  (nat_lit 76, { cls := Value.type "tuple", data := Data.seq #[] }) ::
  (nat_lit 77, { cls := Value.type "dict", data := Data.dict #[{ hash := PyData.keyHash P "__module__", key := Value.str "__module__" 240, val := Value.str "collections.abc" 231 }, { hash := PyData.keyHash P "__firstlineno__", key := Value.str "__firstlineno__" 244, val := Value.int 16 243 }, { hash := PyData.keyHash P "__instancecheck__", key := Value.str "__instancecheck__" 253, val := Value.ref 61 }, { hash := PyData.keyHash P "__subclasscheck__", key := Value.str "__subclasscheck__" 261, val := Value.ref 68 }, { hash := PyData.keyHash P "register", key := Value.str "register" 269, val := Value.ref 75 }, { hash := PyData.keyHash P "__static_attributes__", key := Value.str "__static_attributes__" 270, val := Value.ref 76 }, { hash := PyData.keyHash P "__doc__", key := Value.str "__doc__" 271, val := Value.none }] 2 }) ::
  (nat_lit 78, { cls := Value.type "type", data := Data.cls { name := "_ABCLike", bases := [Value.ref 45], mro := [Value.ref 78, Value.ref 45, Value.type "type", Value.type "object"], ns := 77, qualname := "_ABCLike" }, slots := #[some (Value.ref 48), none, some (Value.str "_ABCLike" 233), some (Value.str "_ABCLike" 241), some (Value.builtin "type.__new__"), some (Value.bool true)] }) ::
  (nat_lit 81, { cls := Value.type "tuple", data := Data.seq #[] }) ::
  (nat_lit 83, { cls := Value.type "tuple", data := Data.seq #[Value.str "C" 277] }) ::
  (nat_lit 84, { cls := Value.type "tuple", data := Data.seq #[] }) ::
  (nat_lit 86, { cls := Value.type "code", data := Data.fields #[Value.str "_abc_plain_meta" 274, Value.str "_abc_plain_meta" 275, Value.str "/claim/cut.py" 276, Value.int 31 0, Value.int 1 0, Value.int 0 0, Value.int 0 0, Value.int 3 0, Value.ref 81, Value.bool true, Value.int 181 0, Value.ref 82, Value.none, Value.ref 83, Value.ref 84, Value.ref 85, Value.int 278 0, Value.int 31 0, Value.str "/claim/cut.py" 279] }) ::
  (nat_lit 87, { cls := Value.type "function", data := Data.func { name := "_abc_plain_meta", qualname := "_abc_plain_meta", params := hd.ps (hd.st 7), body := FuncBody.stmts (hd.bd (hd.st 7)), scope := hd.sc (hd.st 7), globals := 3, closure := [], defaults := Value.none, kwdefaults := Value.none, pyModule := Value.str "collections.abc" 231, code := Value.ref 86 } }) ::
  (nat_lit 88, { cls := Value.type "tuple", data := Data.seq #[] }) ::
  (nat_lit 90, { cls := Value.type "tuple", data := Data.seq #[Value.str "path" 286, Value.str "kind" 287, Value.str "hook" 288, Value.str "given" 289] }) ::
  (nat_lit 91, { cls := Value.type "tuple", data := Data.seq #[] }) ::
  (nat_lit 93, { cls := Value.type "code", data := Data.fields #[Value.str "fspath" 283, Value.str "fspath" 284, Value.str "/claim/cut.py" 285, Value.int 35 0, Value.int 1 0, Value.int 0 0, Value.int 0 0, Value.int 3 0, Value.ref 88, Value.bool true, Value.int 181 0, Value.ref 89, Value.none, Value.ref 90, Value.ref 91, Value.ref 92, Value.int 290 0, Value.int 35 0, Value.str "/claim/cut.py" 291] }) ::
  (nat_lit 94, { cls := Value.type "function", data := Data.func { name := "fspath", qualname := "fspath", params := hd.ps (hd.st 9), body := FuncBody.stmts (hd.bd (hd.st 9)), scope := hd.sc (hd.st 9), globals := 3, closure := [], defaults := Value.none, kwdefaults := Value.none, pyModule := Value.str "os" 281, code := Value.ref 93 } }) ::
  (nat_lit 95, { cls := Value.type "tuple", data := Data.seq #[] }) ::
  (nat_lit 97, { cls := Value.type "tuple", data := Data.seq #[Value.str "funcname" 298, Value.str "args" 299, Value.str "hasstr" 300, Value.str "hasbytes" 301, Value.str "s" 302] }) ::
  (nat_lit 98, { cls := Value.type "tuple", data := Data.seq #[] }) ::
  (nat_lit 100, { cls := Value.type "code", data := Data.fields #[Value.str "_check_arg_types" 295, Value.str "_check_arg_types" 296, Value.str "/claim/cut.py" 297, Value.int 52 0, Value.int 1 0, Value.int 0 0, Value.int 0 0, Value.int 7 0, Value.ref 95, Value.bool true, Value.int 181 0, Value.ref 96, Value.none, Value.ref 97, Value.ref 98, Value.ref 99, Value.int 303 0, Value.int 52 0, Value.str "/claim/cut.py" 304] }) ::
  (nat_lit 101, { cls := Value.type "function", data := Data.func { name := "_check_arg_types", qualname := "_check_arg_types", params := hd.ps (hd.st 11), body := FuncBody.stmts (hd.bd (hd.st 11)), scope := hd.sc (hd.st 11), globals := 3, closure := [], defaults := Value.none, kwdefaults := Value.none, pyModule := Value.str "cpy313.genericpath" 293, code := Value.ref 100 } }) ::
  (nat_lit 102, { cls := Value.type "tuple", data := Data.seq #[] }) ::
  (nat_lit 104, { cls := Value.type "tuple", data := Data.seq #[Value.str "path" 311] }) ::
  (nat_lit 105, { cls := Value.type "tuple", data := Data.seq #[] }) ::
  (nat_lit 107, { cls := Value.type "code", data := Data.fields #[Value.str "_get_sep" 308, Value.str "_get_sep" 309, Value.str "/claim/cut.py" 310, Value.int 64 0, Value.int 1 0, Value.int 0 0, Value.int 0 0, Value.int 3 0, Value.ref 102, Value.bool true, Value.int 181 0, Value.ref 103, Value.none, Value.ref 104, Value.ref 105, Value.ref 106, Value.int 312 0, Value.int 64 0, Value.str "/claim/cut.py" 313] }) ::
  (nat_lit 108, { cls := Value.type "function", data := Data.func { name := "_get_sep", qualname := "_get_sep", params := hd.ps (hd.st 13), body := FuncBody.stmts (hd.bd (hd.st 13)), scope := hd.sc (hd.st 13), globals := 3, closure := [], defaults := Value.none, kwdefaults := Value.none, pyModule := Value.str "cpy313.posixpath" 306, code := Value.ref 107 } }) ::
  (nat_lit 109, { cls := Value.type "tuple", data := Data.seq #[] }) ::
  (nat_lit 111, { cls := Value.type "tuple", data := Data.seq #[Value.str "a" 318, Value.str "p" 319, Value.str "sep" 320, Value.str "path" 321, Value.str "b" 322] }) ::
  (nat_lit 112, { cls := Value.type "tuple", data := Data.seq #[] }) ::
  (nat_lit 114, { cls := Value.type "code", data := Data.fields #[Value.str "join" 315, Value.str "join" 316, Value.str "/claim/cut.py" 317, Value.int 69 0, Value.int 1 0, Value.int 0 0, Value.int 0 0, Value.int 7 0, Value.ref 109, Value.bool true, Value.int 181 0, Value.ref 110, Value.none, Value.ref 111, Value.ref 112, Value.ref 113, Value.int 323 0, Value.int 69 0, Value.str "/claim/cut.py" 324] }) ::
  (nat_lit 115, { cls := Value.type "function", data := Data.func { name := "join", qualname := "join", params := hd.ps (hd.st 14), body := FuncBody.stmts (hd.bd (hd.st 14)), scope := hd.sc (hd.st 14), globals := 3, closure := [], defaults := Value.none, kwdefaults := Value.none, pyModule := Value.str "cpy313.posixpath" 306, code := Value.ref 114 } }) ::
  (nat_lit 116, { cls := Value.type "tuple", data := Data.seq #[] }) ::
  (nat_lit 118, { cls := Value.type "tuple", data := Data.seq #[Value.str "p" 329, Value.str "sep" 330, Value.str "i" 331] }) ::
  (nat_lit 119, { cls := Value.type "tuple", data := Data.seq #[] }) ::
  (nat_lit 121, { cls := Value.type "code", data := Data.fields #[Value.str "basename" 326, Value.str "basename" 327, Value.str "/claim/cut.py" 328, Value.int 86 0, Value.int 1 0, Value.int 0 0, Value.int 0 0, Value.int 3 0, Value.ref 116, Value.bool true, Value.int 181 0, Value.ref 117, Value.none, Value.ref 118, Value.ref 119, Value.ref 120, Value.int 332 0, Value.int 86 0, Value.str "/claim/cut.py" 333] }) ::
  (nat_lit 122, { cls := Value.type "function", data := Data.func { name := "basename", qualname := "basename", params := hd.ps (hd.st 15), body := FuncBody.stmts (hd.bd (hd.st 15)), scope := hd.sc (hd.st 15), globals := 3, closure := [], defaults := Value.none, kwdefaults := Value.none, pyModule := Value.str "cpy313.posixpath" 306, code := Value.ref 121 } }) ::
  (nat_lit 123, { cls := Value.type "tuple", data := Data.seq #[] }) ::
  (nat_lit 125, { cls := Value.type "tuple", data := Data.seq #[Value.str "p" 338, Value.str "sep" 339, Value.str "i" 340, Value.str "head" 341] }) ::
  (nat_lit 126, { cls := Value.type "tuple", data := Data.seq #[] }) ::
  (nat_lit 128, { cls := Value.type "code", data := Data.fields #[Value.str "dirname" 335, Value.str "dirname" 336, Value.str "/claim/cut.py" 337, Value.int 91 0, Value.int 1 0, Value.int 0 0, Value.int 0 0, Value.int 3 0, Value.ref 123, Value.bool true, Value.int 181 0, Value.ref 124, Value.none, Value.ref 125, Value.ref 126, Value.ref 127, Value.int 342 0, Value.int 91 0, Value.str "/claim/cut.py" 343] }) ::
  (nat_lit 129, { cls := Value.type "function", data := Data.func { name := "dirname", qualname := "dirname", params := hd.ps (hd.st 16), body := FuncBody.stmts (hd.bd (hd.st 16)), scope := hd.sc (hd.st 16), globals := 3, closure := [], defaults := Value.none, kwdefaults := Value.none, pyModule := Value.str "cpy313.posixpath" 306, code := Value.ref 128 } }) ::
  (nat_lit 130, { cls := Value.type "tuple", data := Data.seq #[] }) ::
  (nat_lit 133, { cls := Value.type "code", data := Data.fields #[Value.str "commonpath" 345, Value.str "commonpath" 346, Value.str "/claim/cut.py" 347, Value.int 99 0, Value.int 1 0, Value.int 0 0, Value.int 0 0, Value.int 3 0, Value.ref 130, Value.bool true, Value.int 181 0, Value.ref 131, Value.none, Value.none, Value.none, Value.ref 132, Value.int 348 0, Value.int 99 0, Value.str "/claim/cut.py" 349] }) ::
  (nat_lit 134, { cls := Value.type "function", data := Data.func { name := "commonpath", qualname := "commonpath", params := hd.ps (hd.st 17), body := FuncBody.stmts (hd.bd (hd.st 17)), scope := hd.sc (hd.st 17), globals := 3, closure := [], defaults := Value.none, kwdefaults := Value.none, pyModule := Value.str "cpy313.posixpath" 306, code := Value.ref 133 } }) ::
  (nat_lit 135, { cls := Value.type "tuple", data := Data.seq #[] }) ::
  (nat_lit 137, { cls := Value.type "tuple", data := Data.seq #[Value.str "mode" 356] }) ::
  (nat_lit 138, { cls := Value.type "tuple", data := Data.seq #[] }) ::
  (nat_lit 140, { cls := Value.type "code", data := Data.fields #[Value.str "S_IFMT" 353, Value.str "S_IFMT" 354, Value.str "/claim/cut.py" 355, Value.int 129 0, Value.int 1 0, Value.int 0 0, Value.int 0 0, Value.int 3 0, Value.ref 135, Value.bool true, Value.int 181 0, Value.ref 136, Value.none, Value.ref 137, Value.ref 138, Value.ref 139, Value.int 357 0, Value.int 129 0, Value.str "/claim/cut.py" 358] }) ::
  (nat_lit 141, { cls := Value.type "function", data := Data.func { name := "S_IFMT", qualname := "S_IFMT", params := hd.ps (hd.st 19), body := FuncBody.stmts (hd.bd (hd.st 19)), scope := hd.sc (hd.st 19), globals := 3, closure := [], defaults := Value.none, kwdefaults := Value.none, pyModule := Value.str "cpy313.stat" 351, code := Value.ref 140 } }) ::
  (nat_lit 142, { cls := Value.type "tuple", data := Data.seq #[Value.int 40960 370, Value.str "l" 398] }) ::
  (nat_lit 143, { cls := Value.type "tuple", data := Data.seq #[Value.int 49152 372, Value.str "s" 399] }) ::
  (nat_lit 144, { cls := Value.type "tuple", data := Data.seq #[Value.int 32768 366, Value.str "-" 400] }) ::
  (nat_lit 145, { cls := Value.type "tuple", data := Data.seq #[Value.int 24576 364, Value.str "b" 401] }) ::
  (nat_lit 146, { cls := Value.type "tuple", data := Data.seq #[Value.int 16384 360, Value.str "d" 402] }) ::
  (nat_lit 147, { cls := Value.type "tuple", data := Data.seq #[Value.int 8192 362, Value.str "c" 403] }) ::
  (nat_lit 148, { cls := Value.type "tuple", data := Data.seq #[Value.int 4096 368, Value.str "p" 404] }) ::
  (nat_lit 149, { cls := Value.type "tuple", data := Data.seq #[Value.ref 142, Value.ref 143, Value.ref 144, Value.ref 145, Value.ref 146, Value.ref 147, Value.ref 148] }) ::
  (nat_lit 150, { cls := Value.type "tuple", data := Data.seq #[Value.int 256 380, Value.str "r" 405] }) ::
  (nat_lit 151, { cls := Value.type "tuple", data := Data.seq #[Value.ref 150] }) ::
  (nat_lit 152, { cls := Value.type "tuple", data := Data.seq #[Value.int 128 382, Value.str "w" 406] }) ::
  (nat_lit 153, { cls := Value.type "tuple", data := Data.seq #[Value.ref 152] }) ::
  (nat_lit 154, { cls := Value.type "tuple", data := Data.seq #[Value.int 2112 407, Value.str "s" 408] }) ::
  (nat_lit 155, { cls := Value.type "tuple", data := Data.seq #[Value.int 2048 374, Value.str "S" 409] }) ::
  (nat_lit 156, { cls := Value.type "tuple", data := Data.seq #[Value.int 64 384, Value.str "x" 410] }) ::
  (nat_lit 157, { cls := Value.type "tuple", data := Data.seq #[Value.ref 154, Value.ref 155, Value.ref 156] }) ::
  (nat_lit 158, { cls := Value.type "tuple", data := Data.seq #[Value.int 32 386, Value.str "r" 411] }) ::
  (nat_lit 159, { cls := Value.type "tuple", data := Data.seq #[Value.ref 158] }) ::
  (nat_lit 160, { cls := Value.type "tuple", data := Data.seq #[Value.int 16 388, Value.str "w" 412] }) ::
  (nat_lit 161, { cls := Value.type "tuple", data := Data.seq #[Value.ref 160] }) ::
  (nat_lit 162, { cls := Value.type "tuple", data := Data.seq #[Value.int 1032 413, Value.str "s" 414] }) ::
  (nat_lit 163, { cls := Value.type "tuple", data := Data.seq #[Value.int 1024 376, Value.str "S" 415] }) ::
  (nat_lit 164, { cls := Value.type "tuple", data := Data.seq #[Value.int 8 390, Value.str "x" 416] }) ::
  (nat_lit 165, { cls := Value.type "tuple", data := Data.seq #[Value.ref 162, Value.ref 163, Value.ref 164] }) ::
  (nat_lit 166, { cls := Value.type "tuple", data := Data.seq #[Value.int 4 392, Value.str "r" 417] }) ::
  (nat_lit 167, { cls := Value.type "tuple", data := Data.seq #[Value.ref 166] }) ::
  (nat_lit 168, { cls := Value.type "tuple", data := Data.seq #[Value.int 2 394, Value.str "w" 418] }) ::
  (nat_lit 169, { cls := Value.type "tuple", data := Data.seq #[Value.ref 168] }) ::
  (nat_lit 170, { cls := Value.type "tuple", data := Data.seq #[Value.int 513 419, Value.str "t" 420] }) ::
  (nat_lit 171, { cls := Value.type "tuple", data := Data.seq #[Value.int 512 378, Value.str "T" 421] }) ::
  (nat_lit 172, { cls := Value.type "tuple", data := Data.seq #[Value.int 1 396, Value.str "x" 422] }) ::
  (nat_lit 173, { cls := Value.type "tuple", data := Data.seq #[Value.ref 170, Value.ref 171, Value.ref 172] }) ::
  (nat_lit 174, { cls := Value.type "tuple", data := Data.seq #[Value.ref 149, Value.ref 151, Value.ref 153, Value.ref 157, Value.ref 159, Value.ref 161, Value.ref 165, Value.ref 167, Value.ref 169, Value.ref 173] }) ::
  (nat_lit 175, { cls := Value.type "tuple", data := Data.seq #[] }) ::
  (nat_lit 177, { cls := Value.type "tuple", data := Data.seq #[Value.str "mode" 427, Value.str "perm" 428, Value.str "index" 429, Value.str "table" 430, Value.str "bit" 431, Value.str "char" 432] }) ::
  (nat_lit 178, { cls := Value.type "tuple", data := Data.seq #[] }) ::
  (nat_lit 180, { cls := Value.type "code", data := Data.fields #[Value.str "filemode" 424, Value.str "filemode" 425, Value.str "/claim/cut.py" 426, Value.int 151 0, Value.int 1 0, Value.int 0 0, Value.int 0 0, Value.int 3 0, Value.ref 175, Value.bool true, Value.int 181 0, Value.ref 176, Value.none, Value.ref 177, Value.ref 178, Value.ref 179, Value.int 433 0, Value.int 151 0, Value.str "/claim/cut.py" 434] }) ::
  (nat_lit 181, { cls := Value.type "function", data := Data.func { name := "filemode", qualname := "filemode", params := hd.ps (hd.st 40), body := FuncBody.stmts (hd.bd (hd.st 40)), scope := hd.sc (hd.st 40), globals := 3, closure := [], defaults := Value.none, kwdefaults := Value.none, pyModule := Value.str "cpy313.stat" 351, code := Value.ref 180 } }) ::
  (nat_lit 182, { cls := Value.type "dict", data := Data.dict #[{ hash := PyData.keyHash P "unhashable_fallback", key := Value.str "unhashable_fallback" 438, val := Value.bool false }] 1 }) ::
  (nat_lit 183, { cls := Value.type "tuple", data := Data.seq #[] }) ::
  (nat_lit 185, { cls := Value.type "tuple", data := Data.seq #[Value.str "params" 442, Value.str "unhashable_fallback" 443] }) ::
  (nat_lit 186, { cls := Value.type "tuple", data := Data.seq #[] }) ::
  (nat_lit 188, { cls := Value.type "code", data := Data.fields #[Value.str "_deduplicate" 439, Value.str "_deduplicate" 440, Value.str "/claim/cut.py" 441, Value.int 169 0, Value.int 1 0, Value.int 0 0, Value.int 1 0, Value.int 3 0, Value.ref 183, Value.bool true, Value.int 181 0, Value.ref 184, Value.none, Value.ref 185, Value.ref 186, Value.ref 187, Value.int 444 0, Value.int 169 0, Value.str "/claim/cut.py" 445] }) ::
  (nat_lit 189, { cls := Value.type "function", data := Data.func { name := "_deduplicate", qualname := "_deduplicate", params := hd.ps (hd.st 42), body := FuncBody.stmts (hd.bd (hd.st 42)), scope := hd.sc (hd.st 42), globals := 3, closure := [], defaults := Value.none, kwdefaults := Value.ref 182, pyModule := Value.str "cpy313.typing" 436, code := Value.ref 188 } }) ::
  (nat_lit 190, { cls := Value.type "tuple", data := Data.seq #[] }) ::
  (nat_lit 192, { cls := Value.type "tuple", data := Data.seq #[Value.str "unhashable_params" 450, Value.str "new_unhashable" 451, Value.str "t" 452] }) ::
  (nat_lit 193, { cls := Value.type "tuple", data := Data.seq #[] }) ::
  (nat_lit 195, { cls := Value.type "code", data := Data.fields #[Value.str "_deduplicate_unhashable" 447, Value.str "_deduplicate_unhashable" 448, Value.str "/claim/cut.py" 449, Value.int 176 0, Value.int 1 0, Value.int 0 0, Value.int 0 0, Value.int 3 0, Value.ref 190, Value.bool true, Value.int 181 0, Value.ref 191, Value.none, Value.ref 192, Value.ref 193, Value.ref 194, Value.int 453 0, Value.int 176 0, Value.str "/claim/cut.py" 454] }) ::
  (nat_lit 196, { cls := Value.type "function", data := Data.func { name := "_deduplicate_unhashable", qualname := "_deduplicate_unhashable", params := hd.ps (hd.st 43), body := FuncBody.stmts (hd.bd (hd.st 43)), scope := hd.sc (hd.st 43), globals := 3, closure := [], defaults := Value.none, kwdefaults := Value.none, pyModule := Value.str "cpy313.typing" 436, code := Value.ref 195 } }) ::
  (nat_lit 197, { cls := Value.type "tuple", data := Data.seq #[] }) ::
  (nat_lit 199, { cls := Value.type "tuple", data := Data.seq #[Value.str "first_args" 459, Value.str "second_args" 460, Value.str "first_unhashable" 461, Value.str "second_unhashable" 462, Value.str "t" 463, Value.str "elem" 464] }) ::
  (nat_lit 200, { cls := Value.type "tuple", data := Data.seq #[] }) ::
  (nat_lit 202, { cls := Value.type "code", data := Data.fields #[Value.str "_compare_args_orderless" 456, Value.str "_compare_args_orderless" 457, Value.str "/claim/cut.py" 458, Value.int 182 0, Value.int 2 0, Value.int 0 0, Value.int 0 0, Value.int 3 0, Value.ref 197, Value.bool true, Value.int 181 0, Value.ref 198, Value.none, Value.ref 199, Value.ref 200, Value.ref 201, Value.int 465 0, Value.int 182 0, Value.str "/claim/cut.py" 466] }) ::
  (nat_lit 203, { cls := Value.type "function", data := Data.func { name := "_compare_args_orderless", qualname := "_compare_args_orderless", params := hd.ps (hd.st 44), body := FuncBody.stmts (hd.bd (hd.st 44)), scope := hd.sc (hd.st 44), globals := 3, closure := [], defaults := Value.none, kwdefaults := Value.none, pyModule := Value.str "cpy313.typing" 436, code := Value.ref 202 } }) ::
  (nat_lit 204, { cls := Value.type "tuple", data := Data.seq #[] }) ::
  (nat_lit 207, { cls := Value.type "code", data := Data.fields #[Value.str "_law_ways" 470, Value.str "_law_ways" 471, Value.str "/claim/cut.py" 472, Value.int 193 0, Value.int 2 0, Value.int 0 0, Value.int 0 0, Value.int 3 0, Value.ref 204, Value.bool true, Value.int 181 0, Value.ref 205, Value.none, Value.none, Value.none, Value.ref 206, Value.int 473 0, Value.int 193 0, Value.str "/claim/cut.py" 474] }) ::
  (nat_lit 208, { cls := Value.type "function", data := Data.func { name := "_law_ways", qualname := "_law_ways", params := hd.ps (hd.st 46), body := FuncBody.stmts (hd.bd (hd.st 46)), scope := hd.sc (hd.st 46), globals := 3, closure := [], defaults := Value.none, kwdefaults := Value.none, pyModule := Value.str "law_un0039_01" 468, code := Value.ref 207 } }) ::
  (nat_lit 209, { cls := Value.type "tuple", data := Data.seq #[] }) ::
  (nat_lit 211, { cls := Value.type "tuple", data := Data.seq #[Value.str "way" 479, Value.str "above" 480] }) ::
  (nat_lit 212, { cls := Value.type "tuple", data := Data.seq #[] }) ::
  (nat_lit 214, { cls := Value.type "code", data := Data.fields #[Value.str "_law_above" 476, Value.str "_law_above" 477, Value.str "/claim/cut.py" 478, Value.int 204 0, Value.int 1 0, Value.int 0 0, Value.int 0 0, Value.int 3 0, Value.ref 209, Value.bool true, Value.int 181 0, Value.ref 210, Value.none, Value.ref 211, Value.ref 212, Value.ref 213, Value.int 481 0, Value.int 204 0, Value.str "/claim/cut.py" 482] }) ::
  (nat_lit 215, { cls := Value.type "function", data := Data.func { name := "_law_above", qualname := "_law_above", params := hd.ps (hd.st 47), body := FuncBody.stmts (hd.bd (hd.st 47)), scope := hd.sc (hd.st 47), globals := 3, closure := [], defaults := Value.none, kwdefaults := Value.none, pyModule := Value.str "law_un0039_01" 468, code := Value.ref 214 } }) ::
  (nat_lit 216, { cls := Value.type "tuple", data := Data.seq #[] }) ::
  (nat_lit 219, { cls := Value.type "code", data := Data.fields #[Value.str "_law_torn" 484, Value.str "_law_torn" 485, Value.str "/claim/cut.py" 486, Value.int 210 0, Value.int 1 0, Value.int 0 0, Value.int 0 0, Value.int 3 0, Value.ref 216, Value.bool true, Value.int 181 0, Value.ref 217, Value.none, Value.none, Value.none, Value.ref 218, Value.int 487 0, Value.int 210 0, Value.str "/claim/cut.py" 488] }) ::
  (nat_lit 220, { cls := Value.type "function", data := Data.func { name := "_law_torn", qualname := "_law_torn", params := hd.ps (hd.st 48), body := FuncBody.stmts (hd.bd (hd.st 48)), scope := hd.sc (hd.st 48), globals := 3, closure := [], defaults := Value.none, kwdefaults := Value.none, pyModule := Value.str "law_un0039_01" 468, code := Value.ref 219 } }) ::
  (nat_lit 221, { cls := Value.type "tuple", data := Data.seq #[] }) ::
  (nat_lit 224, { cls := Value.type "code", data := Data.fields #[Value.str "law" 490, Value.str "law" 491, Value.str "/claim/cut.py" 492, Value.int 217 0, Value.int 1 0, Value.int 0 0, Value.int 0 0, Value.int 3 0, Value.ref 221, Value.bool true, Value.int 181 0, Value.ref 222, Value.none, Value.none, Value.none, Value.ref 223, Value.int 493 0, Value.int 217 0, Value.str "/claim/cut.py" 494] }) ::
  (nat_lit 225, { cls := Value.type "function", data := Data.func { name := "law", qualname := "law", params := hd.ps (hd.st 49), body := FuncBody.stmts (hd.bd (hd.st 49)), scope := hd.sc (hd.st 49), globals := 3, closure := [], defaults := Value.none, kwdefaults := Value.none, pyModule := Value.str "law_un0039_01" 468, code := Value.ref 224 } }) ::
  []
/-- the statements of the text that the walk sees -/
noncomputable def view_39 : Program := { PySem.Challenge.pw_un0039_01 with main := { PySem.Challenge.pw_un0039_01.main with body := [0, 2, 4, 6, 7, 9, 11, 13, 14, 15, 16, 17, 19, 20, 21, 22, 23, 24, 25, 26, 27, 28, 29, 30, 31, 32, 33, 34, 35, 36, 37, 38, 39, 40, 43, 44, 46, 47, 48, 49].map st } }
noncomputable def adr : List Addr := [2, 3, 15, 17, 18, 20, 21, 22, 24, 25, 27, 28, 29, 36, 38, 39, 41, 42, 43, 44, 45, 48, 55, 57, 58, 60, 61, 62, 64, 65, 67, 68, 69, 71, 72, 74, 75, 76, 77, 78, 81, 83, 84, 86, 87, 88, 90, 91, 93, 94, 95, 97, 98, 100, 101, 102, 104, 105, 107, 108, 109, 111, 112, 114, 115, 116, 118, 119, 121, 122, 123, 125, 126, 128, 129, 130, 133, 134, 135, 137, 138, 140, 141, 142, 143, 144, 145, 146, 147, 148, 149, 150, 151, 152, 153, 154, 155, 156, 157, 158, 159, 160, 161, 162, 163, 164, 165, 166, 167, 168, 169, 170, 171, 172, 173, 174, 175, 177, 178, 180, 181, 182, 183, 185, 186, 188, 189, 190, 192, 193, 195, 196, 197, 199, 200, 202, 203, 204, 207, 208, 209, 211, 212, 214, 215, 216, 219, 220, 221, 224, 225]
theorem adr_eq : ∀ P, adr = (heap_39 P).map (·.1) := fun P => by kernel_rfl
abbrev lv : List (Str × WData) := [("_filemode_table", .tuple [.tuple [.tuple [.int 40960, .str ⟨#[108]⟩], .tuple [.int 49152, .str ⟨#[115]⟩], .tuple [.int 32768, .str ⟨#[45]⟩], .tuple [.int 24576, .str ⟨#[98]⟩], .tuple [.int 16384, .str ⟨#[100]⟩], .tuple [.int 8192, .str ⟨#[99]⟩], .tuple [.int 4096, .str ⟨#[112]⟩]], .tuple [.tuple [.int 256, .str ⟨#[114]⟩]], .tuple [.tuple [.int 128, .str ⟨#[119]⟩]], .tuple [.tuple [.int 2112, .str ⟨#[115]⟩], .tuple [.int 2048, .str ⟨#[83]⟩], .tuple [.int 64, .str ⟨#[120]⟩]], .tuple [.tuple [.int 32, .str ⟨#[114]⟩]], .tuple [.tuple [.int 16, .str ⟨#[119]⟩]], .tuple [.tuple [.int 1032, .str ⟨#[115]⟩], .tuple [.int 1024, .str ⟨#[83]⟩], .tuple [.int 8, .str ⟨#[120]⟩]], .tuple [.tuple [.int 4, .str ⟨#[114]⟩]], .tuple [.tuple [.int 2, .str ⟨#[119]⟩]], .tuple [.tuple [.int 513, .str ⟨#[116]⟩], .tuple [.int 512, .str ⟨#[84]⟩], .tuple [.int 1, .str ⟨#[120]⟩]]])]
/-- the law's def, read off the text -/
noncomputable def lawD : DefRec := match st 49 with
  | .FunctionDef n a b _ _ _ s _ _ p => ⟨n, a, b, s, p⟩
  | _ => ⟨"", ps (.Pass ⟨0, 0, 0, 0⟩), [], sc (.Pass ⟨0, 0, 0, 0⟩), ⟨0, 0, 0, 0⟩⟩
/-- the objects that the top makes, as they stand behind each piece of it -/
noncomputable def o11 (P : Params) : Obj := { cls := Value.type "tuple", data := Data.seq #[] }
noncomputable def o12 (P : Params) : Obj := { cls := Value.none, data := Data.fields #[] }
noncomputable def o13 (P : Params) : Obj := { cls := Value.type "code", data := Data.fields #[Value.str ("<module>") 182, Value.str ("<module>") 183, Value.str ("/claim/cut.py") 184, Value.int 1 0, Value.int 0 0, Value.int 0 0, Value.int 0 0, Value.int 0 0, Value.ref 11, Value.bool false, Value.int 181 0, Value.ref 12, Value.none, Value.none, Value.none, Value.none, Value.int 185 0, Value.int 1 0, Value.str ("/claim/cut.py") 186] }
noncomputable def o14 (P : Params) : Obj := { cls := Value.type "frame", slots := #[some (Value.ref 13), some (Value.ref 3), some (Value.ref 3), none, some (Value.str ("__main__") 164), none, some (Value.ref 0)] }
noncomputable def o3s1 (P : Params) : Obj := { cls := Value.type "dict", data := Data.dict #[{ hash := PyData.keyHash P ("__name__"), key := Value.str ("__name__") 165, val := Value.str ("abc") 205 }, { hash := PyData.keyHash P ("__doc__"), key := Value.str ("__doc__") 166, val := Value.none }, { hash := PyData.keyHash P ("__package__"), key := Value.str ("__package__") 167, val := Value.none }, { hash := PyData.keyHash P ("__loader__"), key := Value.str ("__loader__") 168, val := Value.builtin "__main__.__loader__#opaque" }, { hash := PyData.keyHash P ("__spec__"), key := Value.str ("__spec__") 169, val := Value.none }, { hash := PyData.keyHash P ("__annotations__"), key := Value.str ("__annotations__") 170, val := Value.ref 6 }, { hash := PyData.keyHash P ("__builtins__"), key := Value.str ("__builtins__") 171, val := Value.ref 4 }, { hash := PyData.keyHash P ("__file__"), key := Value.str ("__file__") 173, val := Value.str ("/claim/cut.py") 172 }, { hash := PyData.keyHash P ("__cached__"), key := Value.str ("__cached__") 174, val := Value.none }, { hash := PyData.keyHash P ("_wall"), key := Value.str ("_wall") 193, val := Value.ref 21 }, { hash := PyData.keyHash P ("_plain_name"), key := Value.str ("_plain_name") 204, val := Value.ref 28 }, { hash := PyData.keyHash P ("ABCMeta"), key := Value.str ("ABCMeta") 230, val := Value.ref 45 }] 12 }
noncomputable def o12s1 (P : Params) : Obj := { cls := Value.none, data := Data.fields #[Value.int 1 0, Value.int 0 0, Value.ref 20, Value.int 5 0, Value.int 0 0, Value.ref 27, Value.int 11 0, Value.int 0 0, Value.ref 34] }
noncomputable def o15 (P : Params) : Obj := { cls := Value.type "tuple", data := Data.seq #[] }
noncomputable def o16 (P : Params) : Obj := { cls := Value.none, data := Data.fields #[] }
noncomputable def o17 (P : Params) : Obj := { cls := Value.type "tuple", data := Data.seq #[Value.str ("k") 190] }
noncomputable def o18 (P : Params) : Obj := { cls := Value.type "tuple", data := Data.seq #[] }
noncomputable def o19 (P : Params) : Obj := { cls := Value.none, data := Data.func { name := "_wall", qualname := "_wall", params := hd.ps (hd.st 0), body := FuncBody.stmts (hd.bd (hd.st 0)), scope := hd.sc (hd.st 0), globals := 0, closure := [], defaults := Value.none, kwdefaults := Value.none } }
noncomputable def o20 (P : Params) : Obj := { cls := Value.type "code", data := Data.fields #[Value.str ("_wall") 187, Value.str ("_wall") 188, Value.str ("/claim/cut.py") 189, Value.int 1 0, Value.int 1 0, Value.int 0 0, Value.int 0 0, Value.int 3 0, Value.ref 15, Value.bool true, Value.int 181 0, Value.ref 16, Value.none, Value.ref 17, Value.ref 18, Value.ref 19, Value.int 191 0, Value.int 1 0, Value.str ("/claim/cut.py") 192] }
noncomputable def o21 (P : Params) : Obj := { cls := Value.type "function", data := Data.func { name := "_wall", qualname := "_wall", params := hd.ps (hd.st 0), body := FuncBody.stmts (hd.bd (hd.st 0)), scope := hd.sc (hd.st 0), globals := 3, closure := [], defaults := Value.none, kwdefaults := Value.none, pyModule := Value.str ("__main__") 164, code := Value.ref 20 } }
noncomputable def o22 (P : Params) : Obj := { cls := Value.type "tuple", data := Data.seq #[] }
noncomputable def o23 (P : Params) : Obj := { cls := Value.none, data := Data.fields #[] }
noncomputable def o24 (P : Params) : Obj := { cls := Value.type "tuple", data := Data.seq #[Value.str ("x") 199, Value.str ("what") 200, Value.str ("kind") 201] }
noncomputable def o25 (P : Params) : Obj := { cls := Value.type "tuple", data := Data.seq #[] }
noncomputable def o26 (P : Params) : Obj := { cls := Value.none, data := Data.func { name := "_plain_name", qualname := "_plain_name", params := hd.ps (hd.st 2), body := FuncBody.stmts (hd.bd (hd.st 2)), scope := hd.sc (hd.st 2), globals := 0, closure := [], defaults := Value.none, kwdefaults := Value.none } }
noncomputable def o27 (P : Params) : Obj := { cls := Value.type "code", data := Data.fields #[Value.str ("_plain_name") 196, Value.str ("_plain_name") 197, Value.str ("/claim/cut.py") 198, Value.int 5 0, Value.int 2 0, Value.int 0 0, Value.int 0 0, Value.int 3 0, Value.ref 22, Value.bool true, Value.int 181 0, Value.ref 23, Value.none, Value.ref 24, Value.ref 25, Value.ref 26, Value.int 202 0, Value.int 5 0, Value.str ("/claim/cut.py") 203] }
noncomputable def o28 (P : Params) : Obj := { cls := Value.type "function", data := Data.func { name := "_plain_name", qualname := "_plain_name", params := hd.ps (hd.st 2), body := FuncBody.stmts (hd.bd (hd.st 2)), scope := hd.sc (hd.st 2), globals := 3, closure := [], defaults := Value.none, kwdefaults := Value.none, pyModule := Value.str ("os") 194, code := Value.ref 27 } }
noncomputable def o29 (P : Params) : Obj := { cls := Value.type "tuple", data := Data.seq #[Value.type "type"] }
noncomputable def o30 (P : Params) : Obj := { cls := Value.type "builtin_function_or_method", data := Data.fields #[Value.builtin "type.__prepare__", Value.type "type"] }
noncomputable def o31 (P : Params) : Obj := { cls := Value.type "dict", data := Data.dict #[{ hash := PyData.keyHash P ("__module__"), key := Value.str ("__module__") 214, val := Value.str ("abc") 205 }, { hash := PyData.keyHash P ("__qualname__"), key := Value.str ("__qualname__") 216, val := Value.str ("ABCMeta") 215 }, { hash := PyData.keyHash P ("__firstlineno__"), key := Value.str ("__firstlineno__") 218, val := Value.int 11 217 }, { hash := PyData.keyHash P ("register"), key := Value.str ("register") 226, val := Value.ref 42 }, { hash := PyData.keyHash P ("__static_attributes__"), key := Value.str ("__static_attributes__") 227, val := Value.ref 43 }] 5 }
noncomputable def o32 (P : Params) : Obj := { cls := Value.type "tuple", data := Data.seq #[] }
noncomputable def o33 (P : Params) : Obj := { cls := Value.none, data := Data.fields #[Value.int 13 0, Value.int 4 0, Value.ref 41] }
noncomputable def o34 (P : Params) : Obj := { cls := Value.type "code", data := Data.fields #[Value.str ("ABCMeta") 209, Value.str ("ABCMeta") 210, Value.str ("/claim/cut.py") 211, Value.int 11 0, Value.int 0 0, Value.int 0 0, Value.int 0 0, Value.int 0 0, Value.ref 32, Value.bool false, Value.int 181 0, Value.ref 33, Value.none, Value.none, Value.none, Value.none, Value.int 212 0, Value.int 11 0, Value.str ("/claim/cut.py") 213] }
noncomputable def o35 (P : Params) : Obj := { cls := Value.type "frame", slots := #[some (Value.ref 34), some (Value.ref 3), some (Value.ref 31), none, some (Value.str ("abc") 205), none, some (Value.ref 0)] }
noncomputable def o36 (P : Params) : Obj := { cls := Value.type "tuple", data := Data.seq #[] }
noncomputable def o37 (P : Params) : Obj := { cls := Value.none, data := Data.fields #[] }
noncomputable def o38 (P : Params) : Obj := { cls := Value.type "tuple", data := Data.seq #[Value.str ("cls") 222, Value.str ("subclass") 223] }
noncomputable def o39 (P : Params) : Obj := { cls := Value.type "tuple", data := Data.seq #[] }
noncomputable def o40 (P : Params) : Obj := { cls := Value.none, data := Data.func { name := "register", qualname := "ABCMeta.register", params := hd.ps (hd.cst 4 0), body := FuncBody.stmts (hd.bd (hd.cst 4 0)), scope := hd.sc (hd.cst 4 0), globals := 0, closure := [], defaults := Value.none, kwdefaults := Value.none } }
noncomputable def o41 (P : Params) : Obj := { cls := Value.type "code", data := Data.fields #[Value.str ("register") 219, Value.str ("ABCMeta.register") 220, Value.str ("/claim/cut.py") 221, Value.int 13 0, Value.int 2 0, Value.int 0 0, Value.int 0 0, Value.int 3 0, Value.ref 36, Value.bool true, Value.int 181 0, Value.ref 37, Value.none, Value.ref 38, Value.ref 39, Value.ref 40, Value.int 224 0, Value.int 13 0, Value.str ("/claim/cut.py") 225] }
noncomputable def o42 (P : Params) : Obj := { cls := Value.type "function", data := Data.func { name := "register", qualname := "ABCMeta.register", params := hd.ps (hd.cst 4 0), body := FuncBody.stmts (hd.bd (hd.cst 4 0)), scope := hd.sc (hd.cst 4 0), globals := 3, closure := [], defaults := Value.none, kwdefaults := Value.none, pyModule := Value.str ("abc") 205, code := Value.ref 41 } }
noncomputable def o43 (P : Params) : Obj := { cls := Value.type "tuple", data := Data.seq #[] }
noncomputable def o44 (P : Params) : Obj := { cls := Value.type "dict", data := Data.dict #[{ hash := PyData.keyHash P ("__module__"), key := Value.str ("__module__") 214, val := Value.str ("abc") 205 }, { hash := PyData.keyHash P ("__firstlineno__"), key := Value.str ("__firstlineno__") 218, val := Value.int 11 217 }, { hash := PyData.keyHash P ("register"), key := Value.str ("register") 226, val := Value.ref 42 }, { hash := PyData.keyHash P ("__static_attributes__"), key := Value.str ("__static_attributes__") 227, val := Value.ref 43 }, { hash := PyData.keyHash P ("__doc__"), key := Value.str ("__doc__") 228, val := Value.none }] 2 }
noncomputable def o45 (P : Params) : Obj := { cls := Value.type "type", data := Data.cls { name := "ABCMeta", bases := [Value.type "type"], mro := [Value.ref 45, Value.type "type", Value.type "object"], ns := 44, qualname := "ABCMeta" }, slots := #[some (Value.ref 29), none, some (Value.str ("ABCMeta") 207), some (Value.str ("ABCMeta") 215), some (Value.builtin "type.__new__"), some (Value.bool true)] }
noncomputable def o46 (P : Params) : Obj := { cls := Value.type "super", data := Data.fields #[Value.ref 45, Value.ref 45, Value.ref 45] }
noncomputable def o47 (P : Params) : Obj := { cls := Value.type "builtin_function_or_method", data := Data.fields #[Value.builtin "object.__init_subclass__", Value.ref 45] }
noncomputable def o3s2 (P : Params) : Obj := { cls := Value.type "dict", data := Data.dict #[{ hash := PyData.keyHash P ("__name__"), key := Value.str ("__name__") 165, val := Value.str ("collections.abc") 231 }, { hash := PyData.keyHash P ("__doc__"), key := Value.str ("__doc__") 166, val := Value.none }, { hash := PyData.keyHash P ("__package__"), key := Value.str ("__package__") 167, val := Value.none }, { hash := PyData.keyHash P ("__loader__"), key := Value.str ("__loader__") 168, val := Value.builtin "__main__.__loader__#opaque" }, { hash := PyData.keyHash P ("__spec__"), key := Value.str ("__spec__") 169, val := Value.none }, { hash := PyData.keyHash P ("__annotations__"), key := Value.str ("__annotations__") 170, val := Value.ref 6 }, { hash := PyData.keyHash P ("__builtins__"), key := Value.str ("__builtins__") 171, val := Value.ref 4 }, { hash := PyData.keyHash P ("__file__"), key := Value.str ("__file__") 173, val := Value.str ("/claim/cut.py") 172 }, { hash := PyData.keyHash P ("__cached__"), key := Value.str ("__cached__") 174, val := Value.none }, { hash := PyData.keyHash P ("_wall"), key := Value.str ("_wall") 193, val := Value.ref 21 }, { hash := PyData.keyHash P ("_plain_name"), key := Value.str ("_plain_name") 204, val := Value.ref 28 }, { hash := PyData.keyHash P ("ABCMeta"), key := Value.str ("ABCMeta") 230, val := Value.ref 45 }, { hash := PyData.keyHash P ("_ABCLike"), key := Value.str ("_ABCLike") 273, val := Value.ref 78 }] 13 }
noncomputable def o12s2 (P : Params) : Obj := { cls := Value.none, data := Data.fields #[Value.int 1 0, Value.int 0 0, Value.ref 20, Value.int 5 0, Value.int 0 0, Value.ref 27, Value.int 11 0, Value.int 0 0, Value.ref 34, Value.int 16 0, Value.int 0 0, Value.ref 53] }
noncomputable def o45s2 (P : Params) : Obj := { cls := Value.type "type", data := Data.cls { name := "ABCMeta", bases := [Value.type "type"], mro := [Value.ref 45, Value.type "type", Value.type "object"], ns := 44, qualname := "ABCMeta", subclasses := [Value.ref 78] }, slots := #[some (Value.ref 29), none, some (Value.str ("ABCMeta") 207), some (Value.str ("ABCMeta") 215), some (Value.builtin "type.__new__"), some (Value.bool true)] }
noncomputable def o48 (P : Params) : Obj := { cls := Value.type "tuple", data := Data.seq #[Value.ref 45] }
noncomputable def o49 (P : Params) : Obj := { cls := Value.type "builtin_function_or_method", data := Data.fields #[Value.builtin "type.__prepare__", Value.type "type"] }
noncomputable def o50 (P : Params) : Obj := { cls := Value.type "dict", data := Data.dict #[{ hash := PyData.keyHash P ("__module__"), key := Value.str ("__module__") 240, val := Value.str ("collections.abc") 231 }, { hash := PyData.keyHash P ("__qualname__"), key := Value.str ("__qualname__") 242, val := Value.str ("_ABCLike") 241 }, { hash := PyData.keyHash P ("__firstlineno__"), key := Value.str ("__firstlineno__") 244, val := Value.int 16 243 }, { hash := PyData.keyHash P ("__instancecheck__"), key := Value.str ("__instancecheck__") 253, val := Value.ref 61 }, { hash := PyData.keyHash P ("__subclasscheck__"), key := Value.str ("__subclasscheck__") 261, val := Value.ref 68 }, { hash := PyData.keyHash P ("register"), key := Value.str ("register") 269, val := Value.ref 75 }, { hash := PyData.keyHash P ("__static_attributes__"), key := Value.str ("__static_attributes__") 270, val := Value.ref 76 }] 7 }
noncomputable def o51 (P : Params) : Obj := { cls := Value.type "tuple", data := Data.seq #[] }
noncomputable def o52 (P : Params) : Obj := { cls := Value.none, data := Data.fields #[Value.int 18 0, Value.int 4 0, Value.ref 60, Value.int 24 0, Value.int 4 0, Value.ref 67, Value.int 29 0, Value.int 4 0, Value.ref 74] }
noncomputable def o53 (P : Params) : Obj := { cls := Value.type "code", data := Data.fields #[Value.str ("_ABCLike") 235, Value.str ("_ABCLike") 236, Value.str ("/claim/cut.py") 237, Value.int 16 0, Value.int 0 0, Value.int 0 0, Value.int 0 0, Value.int 0 0, Value.ref 51, Value.bool false, Value.int 181 0, Value.ref 52, Value.none, Value.none, Value.none, Value.none, Value.int 238 0, Value.int 16 0, Value.str ("/claim/cut.py") 239] }
noncomputable def o54 (P : Params) : Obj := { cls := Value.type "frame", slots := #[some (Value.ref 53), some (Value.ref 3), some (Value.ref 50), none, some (Value.str ("collections.abc") 231), none, some (Value.ref 0)] }
noncomputable def o55 (P : Params) : Obj := { cls := Value.type "tuple", data := Data.seq #[] }
noncomputable def o56 (P : Params) : Obj := { cls := Value.none, data := Data.fields #[] }
noncomputable def o57 (P : Params) : Obj := { cls := Value.type "tuple", data := Data.seq #[Value.str ("cls") 248, Value.str ("instance") 249, Value.str ("C") 250] }
noncomputable def o58 (P : Params) : Obj := { cls := Value.type "tuple", data := Data.seq #[] }
noncomputable def o59 (P : Params) : Obj := { cls := Value.none, data := Data.func { name := "__instancecheck__", qualname := "_ABCLike.__instancecheck__", params := hd.ps (hd.cst 6 0), body := FuncBody.stmts (hd.bd (hd.cst 6 0)), scope := hd.sc (hd.cst 6 0), globals := 0, closure := [], defaults := Value.none, kwdefaults := Value.none } }
noncomputable def o60 (P : Params) : Obj := { cls := Value.type "code", data := Data.fields #[Value.str ("__instancecheck__") 245, Value.str ("_ABCLike.__instancecheck__") 246, Value.str ("/claim/cut.py") 247, Value.int 18 0, Value.int 2 0, Value.int 0 0, Value.int 0 0, Value.int 3 0, Value.ref 55, Value.bool true, Value.int 181 0, Value.ref 56, Value.none, Value.ref 57, Value.ref 58, Value.ref 59, Value.int 251 0, Value.int 18 0, Value.str ("/claim/cut.py") 252] }
noncomputable def o61 (P : Params) : Obj := { cls := Value.type "function", data := Data.func { name := "__instancecheck__", qualname := "_ABCLike.__instancecheck__", params := hd.ps (hd.cst 6 0), body := FuncBody.stmts (hd.bd (hd.cst 6 0)), scope := hd.sc (hd.cst 6 0), globals := 3, closure := [], defaults := Value.none, kwdefaults := Value.none, pyModule := Value.str ("collections.abc") 231, code := Value.ref 60 } }
noncomputable def o62 (P : Params) : Obj := { cls := Value.type "tuple", data := Data.seq #[] }
noncomputable def o63 (P : Params) : Obj := { cls := Value.none, data := Data.fields #[] }
noncomputable def o64 (P : Params) : Obj := { cls := Value.type "tuple", data := Data.seq #[Value.str ("cls") 257, Value.str ("C") 258] }
noncomputable def o65 (P : Params) : Obj := { cls := Value.type "tuple", data := Data.seq #[] }
noncomputable def o66 (P : Params) : Obj := { cls := Value.none, data := Data.func { name := "__subclasscheck__", qualname := "_ABCLike.__subclasscheck__", params := hd.ps (hd.cst 6 1), body := FuncBody.stmts (hd.bd (hd.cst 6 1)), scope := hd.sc (hd.cst 6 1), globals := 0, closure := [], defaults := Value.none, kwdefaults := Value.none } }
noncomputable def o67 (P : Params) : Obj := { cls := Value.type "code", data := Data.fields #[Value.str ("__subclasscheck__") 254, Value.str ("_ABCLike.__subclasscheck__") 255, Value.str ("/claim/cut.py") 256, Value.int 24 0, Value.int 2 0, Value.int 0 0, Value.int 0 0, Value.int 3 0, Value.ref 62, Value.bool true, Value.int 181 0, Value.ref 63, Value.none, Value.ref 64, Value.ref 65, Value.ref 66, Value.int 259 0, Value.int 24 0, Value.str ("/claim/cut.py") 260] }
noncomputable def o68 (P : Params) : Obj := { cls := Value.type "function", data := Data.func { name := "__subclasscheck__", qualname := "_ABCLike.__subclasscheck__", params := hd.ps (hd.cst 6 1), body := FuncBody.stmts (hd.bd (hd.cst 6 1)), scope := hd.sc (hd.cst 6 1), globals := 3, closure := [], defaults := Value.none, kwdefaults := Value.none, pyModule := Value.str ("collections.abc") 231, code := Value.ref 67 } }
noncomputable def o69 (P : Params) : Obj := { cls := Value.type "tuple", data := Data.seq #[] }
noncomputable def o70 (P : Params) : Obj := { cls := Value.none, data := Data.fields #[] }
noncomputable def o71 (P : Params) : Obj := { cls := Value.type "tuple", data := Data.seq #[Value.str ("cls") 265, Value.str ("subclass") 266] }
noncomputable def o72 (P : Params) : Obj := { cls := Value.type "tuple", data := Data.seq #[] }
noncomputable def o73 (P : Params) : Obj := { cls := Value.none, data := Data.func { name := "register", qualname := "_ABCLike.register", params := hd.ps (hd.cst 6 2), body := FuncBody.stmts (hd.bd (hd.cst 6 2)), scope := hd.sc (hd.cst 6 2), globals := 0, closure := [], defaults := Value.none, kwdefaults := Value.none } }
noncomputable def o74 (P : Params) : Obj := { cls := Value.type "code", data := Data.fields #[Value.str ("register") 262, Value.str ("_ABCLike.register") 263, Value.str ("/claim/cut.py") 264, Value.int 29 0, Value.int 2 0, Value.int 0 0, Value.int 0 0, Value.int 3 0, Value.ref 69, Value.bool true, Value.int 181 0, Value.ref 70, Value.none, Value.ref 71, Value.ref 72, Value.ref 73, Value.int 267 0, Value.int 29 0, Value.str ("/claim/cut.py") 268] }
noncomputable def o75 (P : Params) : Obj := { cls := Value.type "function", data := Data.func { name := "register", qualname := "_ABCLike.register", params := hd.ps (hd.cst 6 2), body := FuncBody.stmts (hd.bd (hd.cst 6 2)), scope := hd.sc (hd.cst 6 2), globals := 3, closure := [], defaults := Value.none, kwdefaults := Value.none, pyModule := Value.str ("collections.abc") 231, code := Value.ref 74 } }
noncomputable def o76 (P : Params) : Obj := { cls := Value.type "tuple", data := Data.seq #[] }
noncomputable def o77 (P : Params) : Obj := { cls := Value.type "dict", data := Data.dict #[{ hash := PyData.keyHash P ("__module__"), key := Value.str ("__module__") 240, val := Value.str ("collections.abc") 231 }, { hash := PyData.keyHash P ("__firstlineno__"), key := Value.str ("__firstlineno__") 244, val := Value.int 16 243 }, { hash := PyData.keyHash P ("__instancecheck__"), key := Value.str ("__instancecheck__") 253, val := Value.ref 61 }, { hash := PyData.keyHash P ("__subclasscheck__"), key := Value.str ("__subclasscheck__") 261, val := Value.ref 68 }, { hash := PyData.keyHash P ("register"), key := Value.str ("register") 269, val := Value.ref 75 }, { hash := PyData.keyHash P ("__static_attributes__"), key := Value.str ("__static_attributes__") 270, val := Value.ref 76 }, { hash := PyData.keyHash P ("__doc__"), key := Value.str ("__doc__") 271, val := Value.none }] 2 }
noncomputable def o78 (P : Params) : Obj := { cls := Value.type "type", data := Data.cls { name := "_ABCLike", bases := [Value.ref 45], mro := [Value.ref 78, Value.ref 45, Value.type "type", Value.type "object"], ns := 77, qualname := "_ABCLike" }, slots := #[some (Value.ref 48), none, some (Value.str ("_ABCLike") 233), some (Value.str ("_ABCLike") 241), some (Value.builtin "type.__new__"), some (Value.bool true)] }
noncomputable def o79 (P : Params) : Obj := { cls := Value.type "super", data := Data.fields #[Value.ref 78, Value.ref 78, Value.ref 78] }
noncomputable def o80 (P : Params) : Obj := { cls := Value.type "builtin_function_or_method", data := Data.fields #[Value.builtin "object.__init_subclass__", Value.ref 78] }
noncomputable def o3s3 (P : Params) : Obj := { cls := Value.type "dict", data := Data.dict #[{ hash := PyData.keyHash P ("__name__"), key := Value.str ("__name__") 165, val := Value.str ("cpy313.stat") 351 }, { hash := PyData.keyHash P ("__doc__"), key := Value.str ("__doc__") 166, val := Value.none }, { hash := PyData.keyHash P ("__package__"), key := Value.str ("__package__") 167, val := Value.none }, { hash := PyData.keyHash P ("__loader__"), key := Value.str ("__loader__") 168, val := Value.builtin "__main__.__loader__#opaque" }, { hash := PyData.keyHash P ("__spec__"), key := Value.str ("__spec__") 169, val := Value.none }, { hash := PyData.keyHash P ("__annotations__"), key := Value.str ("__annotations__") 170, val := Value.ref 6 }, { hash := PyData.keyHash P ("__builtins__"), key := Value.str ("__builtins__") 171, val := Value.ref 4 }, { hash := PyData.keyHash P ("__file__"), key := Value.str ("__file__") 173, val := Value.str ("/claim/cut.py") 172 }, { hash := PyData.keyHash P ("__cached__"), key := Value.str ("__cached__") 174, val := Value.none }, { hash := PyData.keyHash P ("_wall"), key := Value.str ("_wall") 193, val := Value.ref 21 }, { hash := PyData.keyHash P ("_plain_name"), key := Value.str ("_plain_name") 204, val := Value.ref 28 }, { hash := PyData.keyHash P ("ABCMeta"), key := Value.str ("ABCMeta") 230, val := Value.ref 45 }, { hash := PyData.keyHash P ("_ABCLike"), key := Value.str ("_ABCLike") 273, val := Value.ref 78 }, { hash := PyData.keyHash P ("_abc_plain_meta"), key := Value.str ("_abc_plain_meta") 280, val := Value.ref 87 }, { hash := PyData.keyHash P ("fspath"), key := Value.str ("fspath") 292, val := Value.ref 94 }, { hash := PyData.keyHash P ("_check_arg_types"), key := Value.str ("_check_arg_types") 305, val := Value.ref 101 }, { hash := PyData.keyHash P ("_get_sep"), key := Value.str ("_get_sep") 314, val := Value.ref 108 }, { hash := PyData.keyHash P ("join"), key := Value.str ("join") 325, val := Value.ref 115 }, { hash := PyData.keyHash P ("basename"), key := Value.str ("basename") 334, val := Value.ref 122 }, { hash := PyData.keyHash P ("dirname"), key := Value.str ("dirname") 344, val := Value.ref 129 }, { hash := PyData.keyHash P ("commonpath"), key := Value.str ("commonpath") 350, val := Value.ref 134 }, { hash := PyData.keyHash P ("S_IFMT"), key := Value.str ("S_IFMT") 359, val := Value.ref 141 }] 22 }
noncomputable def o12s3 (P : Params) : Obj := { cls := Value.none, data := Data.fields #[Value.int 1 0, Value.int 0 0, Value.ref 20, Value.int 5 0, Value.int 0 0, Value.ref 27, Value.int 11 0, Value.int 0 0, Value.ref 34, Value.int 16 0, Value.int 0 0, Value.ref 53, Value.int 31 0, Value.int 0 0, Value.ref 86, Value.int 35 0, Value.int 0 0, Value.ref 93, Value.int 52 0, Value.int 0 0, Value.ref 100, Value.int 64 0, Value.int 0 0, Value.ref 107, Value.int 69 0, Value.int 0 0, Value.ref 114, Value.int 86 0, Value.int 0 0, Value.ref 121, Value.int 91 0, Value.int 0 0, Value.ref 128, Value.int 99 0, Value.int 0 0, Value.ref 133, Value.int 129 0, Value.int 0 0, Value.ref 140] }
noncomputable def o81 (P : Params) : Obj := { cls := Value.type "tuple", data := Data.seq #[] }
noncomputable def o82 (P : Params) : Obj := { cls := Value.none, data := Data.fields #[] }
noncomputable def o83 (P : Params) : Obj := { cls := Value.type "tuple", data := Data.seq #[Value.str ("C") 277] }
noncomputable def o84 (P : Params) : Obj := { cls := Value.type "tuple", data := Data.seq #[] }
noncomputable def o85 (P : Params) : Obj := { cls := Value.none, data := Data.func { name := "_abc_plain_meta", qualname := "_abc_plain_meta", params := hd.ps (hd.st 7), body := FuncBody.stmts (hd.bd (hd.st 7)), scope := hd.sc (hd.st 7), globals := 0, closure := [], defaults := Value.none, kwdefaults := Value.none } }
noncomputable def o86 (P : Params) : Obj := { cls := Value.type "code", data := Data.fields #[Value.str ("_abc_plain_meta") 274, Value.str ("_abc_plain_meta") 275, Value.str ("/claim/cut.py") 276, Value.int 31 0, Value.int 1 0, Value.int 0 0, Value.int 0 0, Value.int 3 0, Value.ref 81, Value.bool true, Value.int 181 0, Value.ref 82, Value.none, Value.ref 83, Value.ref 84, Value.ref 85, Value.int 278 0, Value.int 31 0, Value.str ("/claim/cut.py") 279] }
noncomputable def o87 (P : Params) : Obj := { cls := Value.type "function", data := Data.func { name := "_abc_plain_meta", qualname := "_abc_plain_meta", params := hd.ps (hd.st 7), body := FuncBody.stmts (hd.bd (hd.st 7)), scope := hd.sc (hd.st 7), globals := 3, closure := [], defaults := Value.none, kwdefaults := Value.none, pyModule := Value.str ("collections.abc") 231, code := Value.ref 86 } }
noncomputable def o88 (P : Params) : Obj := { cls := Value.type "tuple", data := Data.seq #[] }
noncomputable def o89 (P : Params) : Obj := { cls := Value.none, data := Data.fields #[] }
noncomputable def o90 (P : Params) : Obj := { cls := Value.type "tuple", data := Data.seq #[Value.str ("path") 286, Value.str ("kind") 287, Value.str ("hook") 288, Value.str ("given") 289] }
noncomputable def o91 (P : Params) : Obj := { cls := Value.type "tuple", data := Data.seq #[] }
noncomputable def o92 (P : Params) : Obj := { cls := Value.none, data := Data.func { name := "fspath", qualname := "fspath", params := hd.ps (hd.st 9), body := FuncBody.stmts (hd.bd (hd.st 9)), scope := hd.sc (hd.st 9), globals := 0, closure := [], defaults := Value.none, kwdefaults := Value.none } }
noncomputable def o93 (P : Params) : Obj := { cls := Value.type "code", data := Data.fields #[Value.str ("fspath") 283, Value.str ("fspath") 284, Value.str ("/claim/cut.py") 285, Value.int 35 0, Value.int 1 0, Value.int 0 0, Value.int 0 0, Value.int 3 0, Value.ref 88, Value.bool true, Value.int 181 0, Value.ref 89, Value.none, Value.ref 90, Value.ref 91, Value.ref 92, Value.int 290 0, Value.int 35 0, Value.str ("/claim/cut.py") 291] }
noncomputable def o94 (P : Params) : Obj := { cls := Value.type "function", data := Data.func { name := "fspath", qualname := "fspath", params := hd.ps (hd.st 9), body := FuncBody.stmts (hd.bd (hd.st 9)), scope := hd.sc (hd.st 9), globals := 3, closure := [], defaults := Value.none, kwdefaults := Value.none, pyModule := Value.str ("os") 281, code := Value.ref 93 } }
noncomputable def o95 (P : Params) : Obj := { cls := Value.type "tuple", data := Data.seq #[] }
noncomputable def o96 (P : Params) : Obj := { cls := Value.none, data := Data.fields #[] }
noncomputable def o97 (P : Params) : Obj := { cls := Value.type "tuple", data := Data.seq #[Value.str ("funcname") 298, Value.str ("args") 299, Value.str ("hasstr") 300, Value.str ("hasbytes") 301, Value.str ("s") 302] }
noncomputable def o98 (P : Params) : Obj := { cls := Value.type "tuple", data := Data.seq #[] }
noncomputable def o99 (P : Params) : Obj := { cls := Value.none, data := Data.func { name := "_check_arg_types", qualname := "_check_arg_types", params := hd.ps (hd.st 11), body := FuncBody.stmts (hd.bd (hd.st 11)), scope := hd.sc (hd.st 11), globals := 0, closure := [], defaults := Value.none, kwdefaults := Value.none } }
noncomputable def o100 (P : Params) : Obj := { cls := Value.type "code", data := Data.fields #[Value.str ("_check_arg_types") 295, Value.str ("_check_arg_types") 296, Value.str ("/claim/cut.py") 297, Value.int 52 0, Value.int 1 0, Value.int 0 0, Value.int 0 0, Value.int 7 0, Value.ref 95, Value.bool true, Value.int 181 0, Value.ref 96, Value.none, Value.ref 97, Value.ref 98, Value.ref 99, Value.int 303 0, Value.int 52 0, Value.str ("/claim/cut.py") 304] }
noncomputable def o101 (P : Params) : Obj := { cls := Value.type "function", data := Data.func { name := "_check_arg_types", qualname := "_check_arg_types", params := hd.ps (hd.st 11), body := FuncBody.stmts (hd.bd (hd.st 11)), scope := hd.sc (hd.st 11), globals := 3, closure := [], defaults := Value.none, kwdefaults := Value.none, pyModule := Value.str ("cpy313.genericpath") 293, code := Value.ref 100 } }
noncomputable def o102 (P : Params) : Obj := { cls := Value.type "tuple", data := Data.seq #[] }
noncomputable def o103 (P : Params) : Obj := { cls := Value.none, data := Data.fields #[] }
noncomputable def o104 (P : Params) : Obj := { cls := Value.type "tuple", data := Data.seq #[Value.str ("path") 311] }
noncomputable def o105 (P : Params) : Obj := { cls := Value.type "tuple", data := Data.seq #[] }
noncomputable def o106 (P : Params) : Obj := { cls := Value.none, data := Data.func { name := "_get_sep", qualname := "_get_sep", params := hd.ps (hd.st 13), body := FuncBody.stmts (hd.bd (hd.st 13)), scope := hd.sc (hd.st 13), globals := 0, closure := [], defaults := Value.none, kwdefaults := Value.none } }
noncomputable def o107 (P : Params) : Obj := { cls := Value.type "code", data := Data.fields #[Value.str ("_get_sep") 308, Value.str ("_get_sep") 309, Value.str ("/claim/cut.py") 310, Value.int 64 0, Value.int 1 0, Value.int 0 0, Value.int 0 0, Value.int 3 0, Value.ref 102, Value.bool true, Value.int 181 0, Value.ref 103, Value.none, Value.ref 104, Value.ref 105, Value.ref 106, Value.int 312 0, Value.int 64 0, Value.str ("/claim/cut.py") 313] }
noncomputable def o108 (P : Params) : Obj := { cls := Value.type "function", data := Data.func { name := "_get_sep", qualname := "_get_sep", params := hd.ps (hd.st 13), body := FuncBody.stmts (hd.bd (hd.st 13)), scope := hd.sc (hd.st 13), globals := 3, closure := [], defaults := Value.none, kwdefaults := Value.none, pyModule := Value.str ("cpy313.posixpath") 306, code := Value.ref 107 } }
noncomputable def o109 (P : Params) : Obj := { cls := Value.type "tuple", data := Data.seq #[] }
noncomputable def o110 (P : Params) : Obj := { cls := Value.none, data := Data.fields #[] }
noncomputable def o111 (P : Params) : Obj := { cls := Value.type "tuple", data := Data.seq #[Value.str ("a") 318, Value.str ("p") 319, Value.str ("sep") 320, Value.str ("path") 321, Value.str ("b") 322] }
noncomputable def o112 (P : Params) : Obj := { cls := Value.type "tuple", data := Data.seq #[] }
noncomputable def o113 (P : Params) : Obj := { cls := Value.none, data := Data.func { name := "join", qualname := "join", params := hd.ps (hd.st 14), body := FuncBody.stmts (hd.bd (hd.st 14)), scope := hd.sc (hd.st 14), globals := 0, closure := [], defaults := Value.none, kwdefaults := Value.none } }
noncomputable def o114 (P : Params) : Obj := { cls := Value.type "code", data := Data.fields #[Value.str ("join") 315, Value.str ("join") 316, Value.str ("/claim/cut.py") 317, Value.int 69 0, Value.int 1 0, Value.int 0 0, Value.int 0 0, Value.int 7 0, Value.ref 109, Value.bool true, Value.int 181 0, Value.ref 110, Value.none, Value.ref 111, Value.ref 112, Value.ref 113, Value.int 323 0, Value.int 69 0, Value.str ("/claim/cut.py") 324] }
noncomputable def o115 (P : Params) : Obj := { cls := Value.type "function", data := Data.func { name := "join", qualname := "join", params := hd.ps (hd.st 14), body := FuncBody.stmts (hd.bd (hd.st 14)), scope := hd.sc (hd.st 14), globals := 3, closure := [], defaults := Value.none, kwdefaults := Value.none, pyModule := Value.str ("cpy313.posixpath") 306, code := Value.ref 114 } }
noncomputable def o116 (P : Params) : Obj := { cls := Value.type "tuple", data := Data.seq #[] }
noncomputable def o117 (P : Params) : Obj := { cls := Value.none, data := Data.fields #[] }
noncomputable def o118 (P : Params) : Obj := { cls := Value.type "tuple", data := Data.seq #[Value.str ("p") 329, Value.str ("sep") 330, Value.str ("i") 331] }
noncomputable def o119 (P : Params) : Obj := { cls := Value.type "tuple", data := Data.seq #[] }
noncomputable def o120 (P : Params) : Obj := { cls := Value.none, data := Data.func { name := "basename", qualname := "basename", params := hd.ps (hd.st 15), body := FuncBody.stmts (hd.bd (hd.st 15)), scope := hd.sc (hd.st 15), globals := 0, closure := [], defaults := Value.none, kwdefaults := Value.none } }
noncomputable def o121 (P : Params) : Obj := { cls := Value.type "code", data := Data.fields #[Value.str ("basename") 326, Value.str ("basename") 327, Value.str ("/claim/cut.py") 328, Value.int 86 0, Value.int 1 0, Value.int 0 0, Value.int 0 0, Value.int 3 0, Value.ref 116, Value.bool true, Value.int 181 0, Value.ref 117, Value.none, Value.ref 118, Value.ref 119, Value.ref 120, Value.int 332 0, Value.int 86 0, Value.str ("/claim/cut.py") 333] }
noncomputable def o122 (P : Params) : Obj := { cls := Value.type "function", data := Data.func { name := "basename", qualname := "basename", params := hd.ps (hd.st 15), body := FuncBody.stmts (hd.bd (hd.st 15)), scope := hd.sc (hd.st 15), globals := 3, closure := [], defaults := Value.none, kwdefaults := Value.none, pyModule := Value.str ("cpy313.posixpath") 306, code := Value.ref 121 } }
noncomputable def o123 (P : Params) : Obj := { cls := Value.type "tuple", data := Data.seq #[] }
noncomputable def o124 (P : Params) : Obj := { cls := Value.none, data := Data.fields #[] }
noncomputable def o125 (P : Params) : Obj := { cls := Value.type "tuple", data := Data.seq #[Value.str ("p") 338, Value.str ("sep") 339, Value.str ("i") 340, Value.str ("head") 341] }
noncomputable def o126 (P : Params) : Obj := { cls := Value.type "tuple", data := Data.seq #[] }
noncomputable def o127 (P : Params) : Obj := { cls := Value.none, data := Data.func { name := "dirname", qualname := "dirname", params := hd.ps (hd.st 16), body := FuncBody.stmts (hd.bd (hd.st 16)), scope := hd.sc (hd.st 16), globals := 0, closure := [], defaults := Value.none, kwdefaults := Value.none } }
noncomputable def o128 (P : Params) : Obj := { cls := Value.type "code", data := Data.fields #[Value.str ("dirname") 335, Value.str ("dirname") 336, Value.str ("/claim/cut.py") 337, Value.int 91 0, Value.int 1 0, Value.int 0 0, Value.int 0 0, Value.int 3 0, Value.ref 123, Value.bool true, Value.int 181 0, Value.ref 124, Value.none, Value.ref 125, Value.ref 126, Value.ref 127, Value.int 342 0, Value.int 91 0, Value.str ("/claim/cut.py") 343] }
noncomputable def o129 (P : Params) : Obj := { cls := Value.type "function", data := Data.func { name := "dirname", qualname := "dirname", params := hd.ps (hd.st 16), body := FuncBody.stmts (hd.bd (hd.st 16)), scope := hd.sc (hd.st 16), globals := 3, closure := [], defaults := Value.none, kwdefaults := Value.none, pyModule := Value.str ("cpy313.posixpath") 306, code := Value.ref 128 } }
noncomputable def o130 (P : Params) : Obj := { cls := Value.type "tuple", data := Data.seq #[] }
noncomputable def o131 (P : Params) : Obj := { cls := Value.none, data := Data.fields #[] }
noncomputable def o132 (P : Params) : Obj := { cls := Value.none, data := Data.func { name := "commonpath", qualname := "commonpath", params := hd.ps (hd.st 17), body := FuncBody.stmts (hd.bd (hd.st 17)), scope := hd.sc (hd.st 17), globals := 0, closure := [], defaults := Value.none, kwdefaults := Value.none } }
noncomputable def o133 (P : Params) : Obj := { cls := Value.type "code", data := Data.fields #[Value.str ("commonpath") 345, Value.str ("commonpath") 346, Value.str ("/claim/cut.py") 347, Value.int 99 0, Value.int 1 0, Value.int 0 0, Value.int 0 0, Value.int 3 0, Value.ref 130, Value.bool true, Value.int 181 0, Value.ref 131, Value.none, Value.none, Value.none, Value.ref 132, Value.int 348 0, Value.int 99 0, Value.str ("/claim/cut.py") 349] }
noncomputable def o134 (P : Params) : Obj := { cls := Value.type "function", data := Data.func { name := "commonpath", qualname := "commonpath", params := hd.ps (hd.st 17), body := FuncBody.stmts (hd.bd (hd.st 17)), scope := hd.sc (hd.st 17), globals := 3, closure := [], defaults := Value.none, kwdefaults := Value.none, pyModule := Value.str ("cpy313.posixpath") 306, code := Value.ref 133 } }
noncomputable def o135 (P : Params) : Obj := { cls := Value.type "tuple", data := Data.seq #[] }
noncomputable def o136 (P : Params) : Obj := { cls := Value.none, data := Data.fields #[] }
noncomputable def o137 (P : Params) : Obj := { cls := Value.type "tuple", data := Data.seq #[Value.str ("mode") 356] }
noncomputable def o138 (P : Params) : Obj := { cls := Value.type "tuple", data := Data.seq #[] }
noncomputable def o139 (P : Params) : Obj := { cls := Value.none, data := Data.func { name := "S_IFMT", qualname := "S_IFMT", params := hd.ps (hd.st 19), body := FuncBody.stmts (hd.bd (hd.st 19)), scope := hd.sc (hd.st 19), globals := 0, closure := [], defaults := Value.none, kwdefaults := Value.none } }
noncomputable def o140 (P : Params) : Obj := { cls := Value.type "code", data := Data.fields #[Value.str ("S_IFMT") 353, Value.str ("S_IFMT") 354, Value.str ("/claim/cut.py") 355, Value.int 129 0, Value.int 1 0, Value.int 0 0, Value.int 0 0, Value.int 3 0, Value.ref 135, Value.bool true, Value.int 181 0, Value.ref 136, Value.none, Value.ref 137, Value.ref 138, Value.ref 139, Value.int 357 0, Value.int 129 0, Value.str ("/claim/cut.py") 358] }
noncomputable def o141 (P : Params) : Obj := { cls := Value.type "function", data := Data.func { name := "S_IFMT", qualname := "S_IFMT", params := hd.ps (hd.st 19), body := FuncBody.stmts (hd.bd (hd.st 19)), scope := hd.sc (hd.st 19), globals := 3, closure := [], defaults := Value.none, kwdefaults := Value.none, pyModule := Value.str ("cpy313.stat") 351, code := Value.ref 140 } }
noncomputable def o3s4 (P : Params) : Obj := { cls := Value.type "dict", data := Data.dict #[{ hash := PyData.keyHash P ("__name__"), key := Value.str ("__name__") 165, val := Value.str ("cpy313.stat") 351 }, { hash := PyData.keyHash P ("__doc__"), key := Value.str ("__doc__") 166, val := Value.none }, { hash := PyData.keyHash P ("__package__"), key := Value.str ("__package__") 167, val := Value.none }, { hash := PyData.keyHash P ("__loader__"), key := Value.str ("__loader__") 168, val := Value.builtin "__main__.__loader__#opaque" }, { hash := PyData.keyHash P ("__spec__"), key := Value.str ("__spec__") 169, val := Value.none }, { hash := PyData.keyHash P ("__annotations__"), key := Value.str ("__annotations__") 170, val := Value.ref 6 }, { hash := PyData.keyHash P ("__builtins__"), key := Value.str ("__builtins__") 171, val := Value.ref 4 }, { hash := PyData.keyHash P ("__file__"), key := Value.str ("__file__") 173, val := Value.str ("/claim/cut.py") 172 }, { hash := PyData.keyHash P ("__cached__"), key := Value.str ("__cached__") 174, val := Value.none }, { hash := PyData.keyHash P ("_wall"), key := Value.str ("_wall") 193, val := Value.ref 21 }, { hash := PyData.keyHash P ("_plain_name"), key := Value.str ("_plain_name") 204, val := Value.ref 28 }, { hash := PyData.keyHash P ("ABCMeta"), key := Value.str ("ABCMeta") 230, val := Value.ref 45 }, { hash := PyData.keyHash P ("_ABCLike"), key := Value.str ("_ABCLike") 273, val := Value.ref 78 }, { hash := PyData.keyHash P ("_abc_plain_meta"), key := Value.str ("_abc_plain_meta") 280, val := Value.ref 87 }, { hash := PyData.keyHash P ("fspath"), key := Value.str ("fspath") 292, val := Value.ref 94 }, { hash := PyData.keyHash P ("_check_arg_types"), key := Value.str ("_check_arg_types") 305, val := Value.ref 101 }, { hash := PyData.keyHash P ("_get_sep"), key := Value.str ("_get_sep") 314, val := Value.ref 108 }, { hash := PyData.keyHash P ("join"), key := Value.str ("join") 325, val := Value.ref 115 }, { hash := PyData.keyHash P ("basename"), key := Value.str ("basename") 334, val := Value.ref 122 }, { hash := PyData.keyHash P ("dirname"), key := Value.str ("dirname") 344, val := Value.ref 129 }, { hash := PyData.keyHash P ("commonpath"), key := Value.str ("commonpath") 350, val := Value.ref 134 }, { hash := PyData.keyHash P ("S_IFMT"), key := Value.str ("S_IFMT") 359, val := Value.ref 141 }, { hash := PyData.keyHash P ("S_IFDIR"), key := Value.str ("S_IFDIR") 361, val := Value.int 16384 360 }, { hash := PyData.keyHash P ("S_IFCHR"), key := Value.str ("S_IFCHR") 363, val := Value.int 8192 362 }, { hash := PyData.keyHash P ("S_IFBLK"), key := Value.str ("S_IFBLK") 365, val := Value.int 24576 364 }, { hash := PyData.keyHash P ("S_IFREG"), key := Value.str ("S_IFREG") 367, val := Value.int 32768 366 }, { hash := PyData.keyHash P ("S_IFIFO"), key := Value.str ("S_IFIFO") 369, val := Value.int 4096 368 }, { hash := PyData.keyHash P ("S_IFLNK"), key := Value.str ("S_IFLNK") 371, val := Value.int 40960 370 }, { hash := PyData.keyHash P ("S_IFSOCK"), key := Value.str ("S_IFSOCK") 373, val := Value.int 49152 372 }, { hash := PyData.keyHash P ("S_ISUID"), key := Value.str ("S_ISUID") 375, val := Value.int 2048 374 }, { hash := PyData.keyHash P ("S_ISGID"), key := Value.str ("S_ISGID") 377, val := Value.int 1024 376 }, { hash := PyData.keyHash P ("S_ISVTX"), key := Value.str ("S_ISVTX") 379, val := Value.int 512 378 }, { hash := PyData.keyHash P ("S_IRUSR"), key := Value.str ("S_IRUSR") 381, val := Value.int 256 380 }, { hash := PyData.keyHash P ("S_IWUSR"), key := Value.str ("S_IWUSR") 383, val := Value.int 128 382 }, { hash := PyData.keyHash P ("S_IXUSR"), key := Value.str ("S_IXUSR") 385, val := Value.int 64 384 }, { hash := PyData.keyHash P ("S_IRGRP"), key := Value.str ("S_IRGRP") 387, val := Value.int 32 386 }, { hash := PyData.keyHash P ("S_IWGRP"), key := Value.str ("S_IWGRP") 389, val := Value.int 16 388 }, { hash := PyData.keyHash P ("S_IXGRP"), key := Value.str ("S_IXGRP") 391, val := Value.int 8 390 }, { hash := PyData.keyHash P ("S_IROTH"), key := Value.str ("S_IROTH") 393, val := Value.int 4 392 }, { hash := PyData.keyHash P ("S_IWOTH"), key := Value.str ("S_IWOTH") 395, val := Value.int 2 394 }, { hash := PyData.keyHash P ("S_IXOTH"), key := Value.str ("S_IXOTH") 397, val := Value.int 1 396 }, { hash := PyData.keyHash P ("_filemode_table"), key := Value.str ("_filemode_table") 423, val := Value.ref 174 }] 42 }
noncomputable def o142 (P : Params) : Obj := { cls := Value.type "tuple", data := Data.seq #[Value.int 40960 370, Value.str ("l") 398] }
noncomputable def o143 (P : Params) : Obj := { cls := Value.type "tuple", data := Data.seq #[Value.int 49152 372, Value.str ("s") 399] }
noncomputable def o144 (P : Params) : Obj := { cls := Value.type "tuple", data := Data.seq #[Value.int 32768 366, Value.str ("-") 400] }
noncomputable def o145 (P : Params) : Obj := { cls := Value.type "tuple", data := Data.seq #[Value.int 24576 364, Value.str ("b") 401] }
noncomputable def o146 (P : Params) : Obj := { cls := Value.type "tuple", data := Data.seq #[Value.int 16384 360, Value.str ("d") 402] }
noncomputable def o147 (P : Params) : Obj := { cls := Value.type "tuple", data := Data.seq #[Value.int 8192 362, Value.str ("c") 403] }
noncomputable def o148 (P : Params) : Obj := { cls := Value.type "tuple", data := Data.seq #[Value.int 4096 368, Value.str ("p") 404] }
noncomputable def o149 (P : Params) : Obj := { cls := Value.type "tuple", data := Data.seq #[Value.ref 142, Value.ref 143, Value.ref 144, Value.ref 145, Value.ref 146, Value.ref 147, Value.ref 148] }
noncomputable def o150 (P : Params) : Obj := { cls := Value.type "tuple", data := Data.seq #[Value.int 256 380, Value.str ("r") 405] }
noncomputable def o151 (P : Params) : Obj := { cls := Value.type "tuple", data := Data.seq #[Value.ref 150] }
noncomputable def o152 (P : Params) : Obj := { cls := Value.type "tuple", data := Data.seq #[Value.int 128 382, Value.str ("w") 406] }
noncomputable def o153 (P : Params) : Obj := { cls := Value.type "tuple", data := Data.seq #[Value.ref 152] }
noncomputable def o154 (P : Params) : Obj := { cls := Value.type "tuple", data := Data.seq #[Value.int 2112 407, Value.str ("s") 408] }
noncomputable def o155 (P : Params) : Obj := { cls := Value.type "tuple", data := Data.seq #[Value.int 2048 374, Value.str ("S") 409] }
noncomputable def o156 (P : Params) : Obj := { cls := Value.type "tuple", data := Data.seq #[Value.int 64 384, Value.str ("x") 410] }
noncomputable def o157 (P : Params) : Obj := { cls := Value.type "tuple", data := Data.seq #[Value.ref 154, Value.ref 155, Value.ref 156] }
noncomputable def o158 (P : Params) : Obj := { cls := Value.type "tuple", data := Data.seq #[Value.int 32 386, Value.str ("r") 411] }
noncomputable def o159 (P : Params) : Obj := { cls := Value.type "tuple", data := Data.seq #[Value.ref 158] }
noncomputable def o160 (P : Params) : Obj := { cls := Value.type "tuple", data := Data.seq #[Value.int 16 388, Value.str ("w") 412] }
noncomputable def o161 (P : Params) : Obj := { cls := Value.type "tuple", data := Data.seq #[Value.ref 160] }
noncomputable def o162 (P : Params) : Obj := { cls := Value.type "tuple", data := Data.seq #[Value.int 1032 413, Value.str ("s") 414] }
noncomputable def o163 (P : Params) : Obj := { cls := Value.type "tuple", data := Data.seq #[Value.int 1024 376, Value.str ("S") 415] }
noncomputable def o164 (P : Params) : Obj := { cls := Value.type "tuple", data := Data.seq #[Value.int 8 390, Value.str ("x") 416] }
noncomputable def o165 (P : Params) : Obj := { cls := Value.type "tuple", data := Data.seq #[Value.ref 162, Value.ref 163, Value.ref 164] }
noncomputable def o166 (P : Params) : Obj := { cls := Value.type "tuple", data := Data.seq #[Value.int 4 392, Value.str ("r") 417] }
noncomputable def o167 (P : Params) : Obj := { cls := Value.type "tuple", data := Data.seq #[Value.ref 166] }
noncomputable def o168 (P : Params) : Obj := { cls := Value.type "tuple", data := Data.seq #[Value.int 2 394, Value.str ("w") 418] }
noncomputable def o169 (P : Params) : Obj := { cls := Value.type "tuple", data := Data.seq #[Value.ref 168] }
noncomputable def o170 (P : Params) : Obj := { cls := Value.type "tuple", data := Data.seq #[Value.int 513 419, Value.str ("t") 420] }
noncomputable def o171 (P : Params) : Obj := { cls := Value.type "tuple", data := Data.seq #[Value.int 512 378, Value.str ("T") 421] }
noncomputable def o172 (P : Params) : Obj := { cls := Value.type "tuple", data := Data.seq #[Value.int 1 396, Value.str ("x") 422] }
noncomputable def o173 (P : Params) : Obj := { cls := Value.type "tuple", data := Data.seq #[Value.ref 170, Value.ref 171, Value.ref 172] }
noncomputable def o174 (P : Params) : Obj := { cls := Value.type "tuple", data := Data.seq #[Value.ref 149, Value.ref 151, Value.ref 153, Value.ref 157, Value.ref 159, Value.ref 161, Value.ref 165, Value.ref 167, Value.ref 169, Value.ref 173] }
noncomputable def o3s5 (P : Params) : Obj := { cls := Value.type "dict", data := Data.dict #[{ hash := PyData.keyHash P ("__name__"), key := Value.str ("__name__") 165, val := Value.str ("law_un0039_01") 468 }, { hash := PyData.keyHash P ("__doc__"), key := Value.str ("__doc__") 166, val := Value.none }, { hash := PyData.keyHash P ("__package__"), key := Value.str ("__package__") 167, val := Value.none }, { hash := PyData.keyHash P ("__loader__"), key := Value.str ("__loader__") 168, val := Value.builtin "__main__.__loader__#opaque" }, { hash := PyData.keyHash P ("__spec__"), key := Value.str ("__spec__") 169, val := Value.none }, { hash := PyData.keyHash P ("__annotations__"), key := Value.str ("__annotations__") 170, val := Value.ref 6 }, { hash := PyData.keyHash P ("__builtins__"), key := Value.str ("__builtins__") 171, val := Value.ref 4 }, { hash := PyData.keyHash P ("__file__"), key := Value.str ("__file__") 173, val := Value.str ("/claim/cut.py") 172 }, { hash := PyData.keyHash P ("__cached__"), key := Value.str ("__cached__") 174, val := Value.none }, { hash := PyData.keyHash P ("_wall"), key := Value.str ("_wall") 193, val := Value.ref 21 }, { hash := PyData.keyHash P ("_plain_name"), key := Value.str ("_plain_name") 204, val := Value.ref 28 }, { hash := PyData.keyHash P ("ABCMeta"), key := Value.str ("ABCMeta") 230, val := Value.ref 45 }, { hash := PyData.keyHash P ("_ABCLike"), key := Value.str ("_ABCLike") 273, val := Value.ref 78 }, { hash := PyData.keyHash P ("_abc_plain_meta"), key := Value.str ("_abc_plain_meta") 280, val := Value.ref 87 }, { hash := PyData.keyHash P ("fspath"), key := Value.str ("fspath") 292, val := Value.ref 94 }, { hash := PyData.keyHash P ("_check_arg_types"), key := Value.str ("_check_arg_types") 305, val := Value.ref 101 }, { hash := PyData.keyHash P ("_get_sep"), key := Value.str ("_get_sep") 314, val := Value.ref 108 }, { hash := PyData.keyHash P ("join"), key := Value.str ("join") 325, val := Value.ref 115 }, { hash := PyData.keyHash P ("basename"), key := Value.str ("basename") 334, val := Value.ref 122 }, { hash := PyData.keyHash P ("dirname"), key := Value.str ("dirname") 344, val := Value.ref 129 }, { hash := PyData.keyHash P ("commonpath"), key := Value.str ("commonpath") 350, val := Value.ref 134 }, { hash := PyData.keyHash P ("S_IFMT"), key := Value.str ("S_IFMT") 359, val := Value.ref 141 }, { hash := PyData.keyHash P ("S_IFDIR"), key := Value.str ("S_IFDIR") 361, val := Value.int 16384 360 }, { hash := PyData.keyHash P ("S_IFCHR"), key := Value.str ("S_IFCHR") 363, val := Value.int 8192 362 }, { hash := PyData.keyHash P ("S_IFBLK"), key := Value.str ("S_IFBLK") 365, val := Value.int 24576 364 }, { hash := PyData.keyHash P ("S_IFREG"), key := Value.str ("S_IFREG") 367, val := Value.int 32768 366 }, { hash := PyData.keyHash P ("S_IFIFO"), key := Value.str ("S_IFIFO") 369, val := Value.int 4096 368 }, { hash := PyData.keyHash P ("S_IFLNK"), key := Value.str ("S_IFLNK") 371, val := Value.int 40960 370 }, { hash := PyData.keyHash P ("S_IFSOCK"), key := Value.str ("S_IFSOCK") 373, val := Value.int 49152 372 }, { hash := PyData.keyHash P ("S_ISUID"), key := Value.str ("S_ISUID") 375, val := Value.int 2048 374 }, { hash := PyData.keyHash P ("S_ISGID"), key := Value.str ("S_ISGID") 377, val := Value.int 1024 376 }, { hash := PyData.keyHash P ("S_ISVTX"), key := Value.str ("S_ISVTX") 379, val := Value.int 512 378 }, { hash := PyData.keyHash P ("S_IRUSR"), key := Value.str ("S_IRUSR") 381, val := Value.int 256 380 }, { hash := PyData.keyHash P ("S_IWUSR"), key := Value.str ("S_IWUSR") 383, val := Value.int 128 382 }, { hash := PyData.keyHash P ("S_IXUSR"), key := Value.str ("S_IXUSR") 385, val := Value.int 64 384 }, { hash := PyData.keyHash P ("S_IRGRP"), key := Value.str ("S_IRGRP") 387, val := Value.int 32 386 }, { hash := PyData.keyHash P ("S_IWGRP"), key := Value.str ("S_IWGRP") 389, val := Value.int 16 388 }, { hash := PyData.keyHash P ("S_IXGRP"), key := Value.str ("S_IXGRP") 391, val := Value.int 8 390 }, { hash := PyData.keyHash P ("S_IROTH"), key := Value.str ("S_IROTH") 393, val := Value.int 4 392 }, { hash := PyData.keyHash P ("S_IWOTH"), key := Value.str ("S_IWOTH") 395, val := Value.int 2 394 }, { hash := PyData.keyHash P ("S_IXOTH"), key := Value.str ("S_IXOTH") 397, val := Value.int 1 396 }, { hash := PyData.keyHash P ("_filemode_table"), key := Value.str ("_filemode_table") 423, val := Value.ref 174 }, { hash := PyData.keyHash P ("filemode"), key := Value.str ("filemode") 435, val := Value.ref 181 }, { hash := PyData.keyHash P ("_deduplicate"), key := Value.str ("_deduplicate") 446, val := Value.ref 189 }, { hash := PyData.keyHash P ("_deduplicate_unhashable"), key := Value.str ("_deduplicate_unhashable") 455, val := Value.ref 196 }, { hash := PyData.keyHash P ("_compare_args_orderless"), key := Value.str ("_compare_args_orderless") 467, val := Value.ref 203 }, { hash := PyData.keyHash P ("_law_ways"), key := Value.str ("_law_ways") 475, val := Value.ref 208 }, { hash := PyData.keyHash P ("_law_above"), key := Value.str ("_law_above") 483, val := Value.ref 215 }, { hash := PyData.keyHash P ("_law_torn"), key := Value.str ("_law_torn") 489, val := Value.ref 220 }, { hash := PyData.keyHash P ("law"), key := Value.str ("law") 495, val := Value.ref 225 }] 50 }
noncomputable def o12s5 (P : Params) : Obj := { cls := Value.none, data := Data.fields #[Value.int 1 0, Value.int 0 0, Value.ref 20, Value.int 5 0, Value.int 0 0, Value.ref 27, Value.int 11 0, Value.int 0 0, Value.ref 34, Value.int 16 0, Value.int 0 0, Value.ref 53, Value.int 31 0, Value.int 0 0, Value.ref 86, Value.int 35 0, Value.int 0 0, Value.ref 93, Value.int 52 0, Value.int 0 0, Value.ref 100, Value.int 64 0, Value.int 0 0, Value.ref 107, Value.int 69 0, Value.int 0 0, Value.ref 114, Value.int 86 0, Value.int 0 0, Value.ref 121, Value.int 91 0, Value.int 0 0, Value.ref 128, Value.int 99 0, Value.int 0 0, Value.ref 133, Value.int 129 0, Value.int 0 0, Value.ref 140, Value.int 151 0, Value.int 0 0, Value.ref 180, Value.int 169 0, Value.int 0 0, Value.ref 188, Value.int 176 0, Value.int 0 0, Value.ref 195, Value.int 182 0, Value.int 0 0, Value.ref 202, Value.int 193 0, Value.int 0 0, Value.ref 207, Value.int 204 0, Value.int 0 0, Value.ref 214, Value.int 210 0, Value.int 0 0, Value.ref 219, Value.int 217 0, Value.int 0 0, Value.ref 224] }
noncomputable def o175 (P : Params) : Obj := { cls := Value.type "tuple", data := Data.seq #[] }
noncomputable def o176 (P : Params) : Obj := { cls := Value.none, data := Data.fields #[] }
noncomputable def o177 (P : Params) : Obj := { cls := Value.type "tuple", data := Data.seq #[Value.str ("mode") 427, Value.str ("perm") 428, Value.str ("index") 429, Value.str ("table") 430, Value.str ("bit") 431, Value.str ("char") 432] }
noncomputable def o178 (P : Params) : Obj := { cls := Value.type "tuple", data := Data.seq #[] }
noncomputable def o179 (P : Params) : Obj := { cls := Value.none, data := Data.func { name := "filemode", qualname := "filemode", params := hd.ps (hd.st 40), body := FuncBody.stmts (hd.bd (hd.st 40)), scope := hd.sc (hd.st 40), globals := 0, closure := [], defaults := Value.none, kwdefaults := Value.none } }
noncomputable def o180 (P : Params) : Obj := { cls := Value.type "code", data := Data.fields #[Value.str ("filemode") 424, Value.str ("filemode") 425, Value.str ("/claim/cut.py") 426, Value.int 151 0, Value.int 1 0, Value.int 0 0, Value.int 0 0, Value.int 3 0, Value.ref 175, Value.bool true, Value.int 181 0, Value.ref 176, Value.none, Value.ref 177, Value.ref 178, Value.ref 179, Value.int 433 0, Value.int 151 0, Value.str ("/claim/cut.py") 434] }
noncomputable def o181 (P : Params) : Obj := { cls := Value.type "function", data := Data.func { name := "filemode", qualname := "filemode", params := hd.ps (hd.st 40), body := FuncBody.stmts (hd.bd (hd.st 40)), scope := hd.sc (hd.st 40), globals := 3, closure := [], defaults := Value.none, kwdefaults := Value.none, pyModule := Value.str ("cpy313.stat") 351, code := Value.ref 180 } }
noncomputable def o182 (P : Params) : Obj := { cls := Value.type "dict", data := Data.dict #[{ hash := PyData.keyHash P ("unhashable_fallback"), key := Value.str ("unhashable_fallback") 438, val := Value.bool false }] 1 }
noncomputable def o183 (P : Params) : Obj := { cls := Value.type "tuple", data := Data.seq #[] }
noncomputable def o184 (P : Params) : Obj := { cls := Value.none, data := Data.fields #[] }
noncomputable def o185 (P : Params) : Obj := { cls := Value.type "tuple", data := Data.seq #[Value.str ("params") 442, Value.str ("unhashable_fallback") 443] }
noncomputable def o186 (P : Params) : Obj := { cls := Value.type "tuple", data := Data.seq #[] }
noncomputable def o187 (P : Params) : Obj := { cls := Value.none, data := Data.func { name := "_deduplicate", qualname := "_deduplicate", params := hd.ps (hd.st 42), body := FuncBody.stmts (hd.bd (hd.st 42)), scope := hd.sc (hd.st 42), globals := 0, closure := [], defaults := Value.none, kwdefaults := Value.none } }
noncomputable def o188 (P : Params) : Obj := { cls := Value.type "code", data := Data.fields #[Value.str ("_deduplicate") 439, Value.str ("_deduplicate") 440, Value.str ("/claim/cut.py") 441, Value.int 169 0, Value.int 1 0, Value.int 0 0, Value.int 1 0, Value.int 3 0, Value.ref 183, Value.bool true, Value.int 181 0, Value.ref 184, Value.none, Value.ref 185, Value.ref 186, Value.ref 187, Value.int 444 0, Value.int 169 0, Value.str ("/claim/cut.py") 445] }
noncomputable def o189 (P : Params) : Obj := { cls := Value.type "function", data := Data.func { name := "_deduplicate", qualname := "_deduplicate", params := hd.ps (hd.st 42), body := FuncBody.stmts (hd.bd (hd.st 42)), scope := hd.sc (hd.st 42), globals := 3, closure := [], defaults := Value.none, kwdefaults := Value.ref 182, pyModule := Value.str ("cpy313.typing") 436, code := Value.ref 188 } }
noncomputable def o190 (P : Params) : Obj := { cls := Value.type "tuple", data := Data.seq #[] }
noncomputable def o191 (P : Params) : Obj := { cls := Value.none, data := Data.fields #[] }
noncomputable def o192 (P : Params) : Obj := { cls := Value.type "tuple", data := Data.seq #[Value.str ("unhashable_params") 450, Value.str ("new_unhashable") 451, Value.str ("t") 452] }
noncomputable def o193 (P : Params) : Obj := { cls := Value.type "tuple", data := Data.seq #[] }
noncomputable def o194 (P : Params) : Obj := { cls := Value.none, data := Data.func { name := "_deduplicate_unhashable", qualname := "_deduplicate_unhashable", params := hd.ps (hd.st 43), body := FuncBody.stmts (hd.bd (hd.st 43)), scope := hd.sc (hd.st 43), globals := 0, closure := [], defaults := Value.none, kwdefaults := Value.none } }
noncomputable def o195 (P : Params) : Obj := { cls := Value.type "code", data := Data.fields #[Value.str ("_deduplicate_unhashable") 447, Value.str ("_deduplicate_unhashable") 448, Value.str ("/claim/cut.py") 449, Value.int 176 0, Value.int 1 0, Value.int 0 0, Value.int 0 0, Value.int 3 0, Value.ref 190, Value.bool true, Value.int 181 0, Value.ref 191, Value.none, Value.ref 192, Value.ref 193, Value.ref 194, Value.int 453 0, Value.int 176 0, Value.str ("/claim/cut.py") 454] }
noncomputable def o196 (P : Params) : Obj := { cls := Value.type "function", data := Data.func { name := "_deduplicate_unhashable", qualname := "_deduplicate_unhashable", params := hd.ps (hd.st 43), body := FuncBody.stmts (hd.bd (hd.st 43)), scope := hd.sc (hd.st 43), globals := 3, closure := [], defaults := Value.none, kwdefaults := Value.none, pyModule := Value.str ("cpy313.typing") 436, code := Value.ref 195 } }
noncomputable def o197 (P : Params) : Obj := { cls := Value.type "tuple", data := Data.seq #[] }
noncomputable def o198 (P : Params) : Obj := { cls := Value.none, data := Data.fields #[] }
noncomputable def o199 (P : Params) : Obj := { cls := Value.type "tuple", data := Data.seq #[Value.str ("first_args") 459, Value.str ("second_args") 460, Value.str ("first_unhashable") 461, Value.str ("second_unhashable") 462, Value.str ("t") 463, Value.str ("elem") 464] }
noncomputable def o200 (P : Params) : Obj := { cls := Value.type "tuple", data := Data.seq #[] }
noncomputable def o201 (P : Params) : Obj := { cls := Value.none, data := Data.func { name := "_compare_args_orderless", qualname := "_compare_args_orderless", params := hd.ps (hd.st 44), body := FuncBody.stmts (hd.bd (hd.st 44)), scope := hd.sc (hd.st 44), globals := 0, closure := [], defaults := Value.none, kwdefaults := Value.none } }
noncomputable def o202 (P : Params) : Obj := { cls := Value.type "code", data := Data.fields #[Value.str ("_compare_args_orderless") 456, Value.str ("_compare_args_orderless") 457, Value.str ("/claim/cut.py") 458, Value.int 182 0, Value.int 2 0, Value.int 0 0, Value.int 0 0, Value.int 3 0, Value.ref 197, Value.bool true, Value.int 181 0, Value.ref 198, Value.none, Value.ref 199, Value.ref 200, Value.ref 201, Value.int 465 0, Value.int 182 0, Value.str ("/claim/cut.py") 466] }
noncomputable def o203 (P : Params) : Obj := { cls := Value.type "function", data := Data.func { name := "_compare_args_orderless", qualname := "_compare_args_orderless", params := hd.ps (hd.st 44), body := FuncBody.stmts (hd.bd (hd.st 44)), scope := hd.sc (hd.st 44), globals := 3, closure := [], defaults := Value.none, kwdefaults := Value.none, pyModule := Value.str ("cpy313.typing") 436, code := Value.ref 202 } }
noncomputable def o204 (P : Params) : Obj := { cls := Value.type "tuple", data := Data.seq #[] }
noncomputable def o205 (P : Params) : Obj := { cls := Value.none, data := Data.fields #[] }
noncomputable def o206 (P : Params) : Obj := { cls := Value.none, data := Data.func { name := "_law_ways", qualname := "_law_ways", params := hd.ps (hd.st 46), body := FuncBody.stmts (hd.bd (hd.st 46)), scope := hd.sc (hd.st 46), globals := 0, closure := [], defaults := Value.none, kwdefaults := Value.none } }
noncomputable def o207 (P : Params) : Obj := { cls := Value.type "code", data := Data.fields #[Value.str ("_law_ways") 470, Value.str ("_law_ways") 471, Value.str ("/claim/cut.py") 472, Value.int 193 0, Value.int 2 0, Value.int 0 0, Value.int 0 0, Value.int 3 0, Value.ref 204, Value.bool true, Value.int 181 0, Value.ref 205, Value.none, Value.none, Value.none, Value.ref 206, Value.int 473 0, Value.int 193 0, Value.str ("/claim/cut.py") 474] }
noncomputable def o208 (P : Params) : Obj := { cls := Value.type "function", data := Data.func { name := "_law_ways", qualname := "_law_ways", params := hd.ps (hd.st 46), body := FuncBody.stmts (hd.bd (hd.st 46)), scope := hd.sc (hd.st 46), globals := 3, closure := [], defaults := Value.none, kwdefaults := Value.none, pyModule := Value.str ("law_un0039_01") 468, code := Value.ref 207 } }
noncomputable def o209 (P : Params) : Obj := { cls := Value.type "tuple", data := Data.seq #[] }
noncomputable def o210 (P : Params) : Obj := { cls := Value.none, data := Data.fields #[] }
noncomputable def o211 (P : Params) : Obj := { cls := Value.type "tuple", data := Data.seq #[Value.str ("way") 479, Value.str ("above") 480] }
noncomputable def o212 (P : Params) : Obj := { cls := Value.type "tuple", data := Data.seq #[] }
noncomputable def o213 (P : Params) : Obj := { cls := Value.none, data := Data.func { name := "_law_above", qualname := "_law_above", params := hd.ps (hd.st 47), body := FuncBody.stmts (hd.bd (hd.st 47)), scope := hd.sc (hd.st 47), globals := 0, closure := [], defaults := Value.none, kwdefaults := Value.none } }
noncomputable def o214 (P : Params) : Obj := { cls := Value.type "code", data := Data.fields #[Value.str ("_law_above") 476, Value.str ("_law_above") 477, Value.str ("/claim/cut.py") 478, Value.int 204 0, Value.int 1 0, Value.int 0 0, Value.int 0 0, Value.int 3 0, Value.ref 209, Value.bool true, Value.int 181 0, Value.ref 210, Value.none, Value.ref 211, Value.ref 212, Value.ref 213, Value.int 481 0, Value.int 204 0, Value.str ("/claim/cut.py") 482] }
noncomputable def o215 (P : Params) : Obj := { cls := Value.type "function", data := Data.func { name := "_law_above", qualname := "_law_above", params := hd.ps (hd.st 47), body := FuncBody.stmts (hd.bd (hd.st 47)), scope := hd.sc (hd.st 47), globals := 3, closure := [], defaults := Value.none, kwdefaults := Value.none, pyModule := Value.str ("law_un0039_01") 468, code := Value.ref 214 } }
noncomputable def o216 (P : Params) : Obj := { cls := Value.type "tuple", data := Data.seq #[] }
noncomputable def o217 (P : Params) : Obj := { cls := Value.none, data := Data.fields #[] }
noncomputable def o218 (P : Params) : Obj := { cls := Value.none, data := Data.func { name := "_law_torn", qualname := "_law_torn", params := hd.ps (hd.st 48), body := FuncBody.stmts (hd.bd (hd.st 48)), scope := hd.sc (hd.st 48), globals := 0, closure := [], defaults := Value.none, kwdefaults := Value.none } }
noncomputable def o219 (P : Params) : Obj := { cls := Value.type "code", data := Data.fields #[Value.str ("_law_torn") 484, Value.str ("_law_torn") 485, Value.str ("/claim/cut.py") 486, Value.int 210 0, Value.int 1 0, Value.int 0 0, Value.int 0 0, Value.int 3 0, Value.ref 216, Value.bool true, Value.int 181 0, Value.ref 217, Value.none, Value.none, Value.none, Value.ref 218, Value.int 487 0, Value.int 210 0, Value.str ("/claim/cut.py") 488] }
noncomputable def o220 (P : Params) : Obj := { cls := Value.type "function", data := Data.func { name := "_law_torn", qualname := "_law_torn", params := hd.ps (hd.st 48), body := FuncBody.stmts (hd.bd (hd.st 48)), scope := hd.sc (hd.st 48), globals := 3, closure := [], defaults := Value.none, kwdefaults := Value.none, pyModule := Value.str ("law_un0039_01") 468, code := Value.ref 219 } }
noncomputable def o221 (P : Params) : Obj := { cls := Value.type "tuple", data := Data.seq #[] }
noncomputable def o222 (P : Params) : Obj := { cls := Value.none, data := Data.fields #[] }
noncomputable def o223 (P : Params) : Obj := { cls := Value.none, data := Data.func { name := "law", qualname := "law", params := hd.ps (hd.st 49), body := FuncBody.stmts (hd.bd (hd.st 49)), scope := hd.sc (hd.st 49), globals := 0, closure := [], defaults := Value.none, kwdefaults := Value.none } }
noncomputable def o224 (P : Params) : Obj := { cls := Value.type "code", data := Data.fields #[Value.str ("law") 490, Value.str ("law") 491, Value.str ("/claim/cut.py") 492, Value.int 217 0, Value.int 1 0, Value.int 0 0, Value.int 0 0, Value.int 3 0, Value.ref 221, Value.bool true, Value.int 181 0, Value.ref 222, Value.none, Value.none, Value.none, Value.ref 223, Value.int 493 0, Value.int 217 0, Value.str ("/claim/cut.py") 494] }
noncomputable def o225 (P : Params) : Obj := { cls := Value.type "function", data := Data.func { name := "law", qualname := "law", params := hd.ps (hd.st 49), body := FuncBody.stmts (hd.bd (hd.st 49)), scope := hd.sc (hd.st 49), globals := 3, closure := [], defaults := Value.none, kwdefaults := Value.none, pyModule := Value.str ("law_un0039_01") 468, code := Value.ref 224 } }
noncomputable def heapA (P : Params) : Heap := ⟨⟨[boot_o_0 P, boot_o_1 P, boot_o_2 P, boot_o_3 P, boot_o_4 P, boot_o_5 P, boot_o_6 P, boot_o_7 P, boot_o_8 P, boot_o_9 P, boot_o_10 P, o11 P, o12 P, o13 P, o14 P]⟩, {}⟩
noncomputable def heapF (P : Params) : Heap := ⟨⟨[boot_o_0 P, boot_o_1 P, boot_o_2 P, o3s5 P, boot_o_4 P, boot_o_5 P, boot_o_6 P, boot_o_7 P, boot_o_8 P, boot_o_9 P, boot_o_10 P, o11 P, o12s5 P, o13 P, o14 P, o15 P, o16 P, o17 P, o18 P, o19 P, o20 P, o21 P, o22 P, o23 P, o24 P, o25 P, o26 P, o27 P, o28 P, o29 P, o30 P, o31 P, o32 P, o33 P, o34 P, o35 P, o36 P, o37 P, o38 P, o39 P, o40 P, o41 P, o42 P, o43 P, o44 P, o45s2 P, o46 P, o47 P, o48 P, o49 P, o50 P, o51 P, o52 P, o53 P, o54 P, o55 P, o56 P, o57 P, o58 P, o59 P, o60 P, o61 P, o62 P, o63 P, o64 P, o65 P, o66 P, o67 P, o68 P, o69 P, o70 P, o71 P, o72 P, o73 P, o74 P, o75 P, o76 P, o77 P, o78 P, o79 P, o80 P, o81 P, o82 P, o83 P, o84 P, o85 P, o86 P, o87 P, o88 P, o89 P, o90 P, o91 P, o92 P, o93 P, o94 P, o95 P, o96 P, o97 P, o98 P, o99 P, o100 P, o101 P, o102 P, o103 P, o104 P, o105 P, o106 P, o107 P, o108 P, o109 P, o110 P, o111 P, o112 P, o113 P, o114 P, o115 P, o116 P, o117 P, o118 P, o119 P, o120 P, o121 P, o122 P, o123 P, o124 P, o125 P, o126 P, o127 P, o128 P, o129 P, o130 P, o131 P, o132 P, o133 P, o134 P, o135 P, o136 P, o137 P, o138 P, o139 P, o140 P, o141 P, o142 P, o143 P, o144 P, o145 P, o146 P, o147 P, o148 P, o149 P, o150 P, o151 P, o152 P, o153 P, o154 P, o155 P, o156 P, o157 P, o158 P, o159 P, o160 P, o161 P, o162 P, o163 P, o164 P, o165 P, o166 P, o167 P, o168 P, o169 P, o170 P, o171 P, o172 P, o173 P, o174 P, o175 P, o176 P, o177 P, o178 P, o179 P, o180 P, o181 P, o182 P, o183 P, o184 P, o185 P, o186 P, o187 P, o188 P, o189 P, o190 P, o191 P, o192 P, o193 P, o194 P, o195 P, o196 P, o197 P, o198 P, o199 P, o200 P, o201 P, o202 P, o203 P, o204 P, o205 P, o206 P, o207 P, o208 P, o209 P, o210 P, o211 P, o212 P, o213 P, o214 P, o215 P, o216 P, o217 P, o218 P, o219 P, o220 P, o221 P, o222 P, o223 P, o224 P, o225 P]⟩, {}⟩
noncomputable def tree0 (P : Params) : BT := (.node (boot_o_0 P) (.node (boot_o_1 P) (.node (boot_o_3 P) (.node (boot_o_7 P) .nil .nil) (.node (o11 P) .nil .nil)) (.node (boot_o_5 P) (.node (boot_o_9 P) .nil .nil) (.node (o13 P) .nil .nil))) (.node (boot_o_2 P) (.node (boot_o_4 P) (.node (boot_o_8 P) .nil .nil) (.node (o12 P) .nil .nil)) (.node (boot_o_6 P) (.node (boot_o_10 P) .nil .nil) (.node (o14 P) .nil .nil))))
noncomputable def T0 (w : World) (os : OsState) : SharedT := ⟨tree0 w.params, 15, {}, Array.mk [], boot_drawn, 187, os⟩
noncomputable def tree1 (P : Params) : BT := (.node (boot_o_0 P) (.node (boot_o_1 P) (.node (o3s1 P) (.node (boot_o_7 P) (.node (o15 P) (.node (o31 P) .nil .nil) (.node (o47 P) .nil .nil)) (.node (o23 P) (.node (o39 P) .nil .nil) .nil)) (.node (o11 P) (.node (o19 P) (.node (o35 P) .nil .nil) .nil) (.node (o27 P) (.node (o43 P) .nil .nil) .nil))) (.node (boot_o_5 P) (.node (boot_o_9 P) (.node (o17 P) (.node (o33 P) .nil .nil) .nil) (.node (o25 P) (.node (o41 P) .nil .nil) .nil)) (.node (o13 P) (.node (o21 P) (.node (o37 P) .nil .nil) .nil) (.node (o29 P) (.node (o45 P) .nil .nil) .nil)))) (.node (boot_o_2 P) (.node (boot_o_4 P) (.node (boot_o_8 P) (.node (o16 P) (.node (o32 P) .nil .nil) .nil) (.node (o24 P) (.node (o40 P) .nil .nil) .nil)) (.node (o12s1 P) (.node (o20 P) (.node (o36 P) .nil .nil) .nil) (.node (o28 P) (.node (o44 P) .nil .nil) .nil))) (.node (boot_o_6 P) (.node (boot_o_10 P) (.node (o18 P) (.node (o34 P) .nil .nil) .nil) (.node (o26 P) (.node (o42 P) .nil .nil) .nil)) (.node (o14 P) (.node (o22 P) (.node (o38 P) .nil .nil) .nil) (.node (o30 P) (.node (o46 P) .nil .nil) .nil)))))
noncomputable def T1 (w : World) (os : OsState) : SharedT := ⟨tree1 w.params, 48, {}, Array.mk [], boot_drawn, 231, os⟩
noncomputable def tree2 (P : Params) : BT := (.node (boot_o_0 P) (.node (boot_o_1 P) (.node (o3s2 P) (.node (boot_o_7 P) (.node (o15 P) (.node (o31 P) (.node (o63 P) .nil .nil) .nil) (.node (o47 P) (.node (o79 P) .nil .nil) .nil)) (.node (o23 P) (.node (o39 P) (.node (o71 P) .nil .nil) .nil) (.node (o55 P) .nil .nil))) (.node (o11 P) (.node (o19 P) (.node (o35 P) (.node (o67 P) .nil .nil) .nil) (.node (o51 P) .nil .nil)) (.node (o27 P) (.node (o43 P) (.node (o75 P) .nil .nil) .nil) (.node (o59 P) .nil .nil)))) (.node (boot_o_5 P) (.node (boot_o_9 P) (.node (o17 P) (.node (o33 P) (.node (o65 P) .nil .nil) .nil) (.node (o49 P) .nil .nil)) (.node (o25 P) (.node (o41 P) (.node (o73 P) .nil .nil) .nil) (.node (o57 P) .nil .nil))) (.node (o13 P) (.node (o21 P) (.node (o37 P) (.node (o69 P) .nil .nil) .nil) (.node (o53 P) .nil .nil)) (.node (o29 P) (.node (o45s2 P) (.node (o77 P) .nil .nil) .nil) (.node (o61 P) .nil .nil))))) (.node (boot_o_2 P) (.node (boot_o_4 P) (.node (boot_o_8 P) (.node (o16 P) (.node (o32 P) (.node (o64 P) .nil .nil) .nil) (.node (o48 P) (.node (o80 P) .nil .nil) .nil)) (.node (o24 P) (.node (o40 P) (.node (o72 P) .nil .nil) .nil) (.node (o56 P) .nil .nil))) (.node (o12s2 P) (.node (o20 P) (.node (o36 P) (.node (o68 P) .nil .nil) .nil) (.node (o52 P) .nil .nil)) (.node (o28 P) (.node (o44 P) (.node (o76 P) .nil .nil) .nil) (.node (o60 P) .nil .nil)))) (.node (boot_o_6 P) (.node (boot_o_10 P) (.node (o18 P) (.node (o34 P) (.node (o66 P) .nil .nil) .nil) (.node (o50 P) .nil .nil)) (.node (o26 P) (.node (o42 P) (.node (o74 P) .nil .nil) .nil) (.node (o58 P) .nil .nil))) (.node (o14 P) (.node (o22 P) (.node (o38 P) (.node (o70 P) .nil .nil) .nil) (.node (o54 P) .nil .nil)) (.node (o30 P) (.node (o46 P) (.node (o78 P) .nil .nil) .nil) (.node (o62 P) .nil .nil))))))
noncomputable def T2 (w : World) (os : OsState) : SharedT := ⟨tree2 w.params, 81, {}, Array.mk [], boot_drawn, 274, os⟩
noncomputable def tree3 (P : Params) : BT := (.node (boot_o_0 P) (.node (boot_o_1 P) (.node (o3s3 P) (.node (boot_o_7 P) (.node (o15 P) (.node (o31 P) (.node (o63 P) (.node (o127 P) .nil .nil) .nil) (.node (o95 P) .nil .nil)) (.node (o47 P) (.node (o79 P) .nil .nil) (.node (o111 P) .nil .nil))) (.node (o23 P) (.node (o39 P) (.node (o71 P) (.node (o135 P) .nil .nil) .nil) (.node (o103 P) .nil .nil)) (.node (o55 P) (.node (o87 P) .nil .nil) (.node (o119 P) .nil .nil)))) (.node (o11 P) (.node (o19 P) (.node (o35 P) (.node (o67 P) (.node (o131 P) .nil .nil) .nil) (.node (o99 P) .nil .nil)) (.node (o51 P) (.node (o83 P) .nil .nil) (.node (o115 P) .nil .nil))) (.node (o27 P) (.node (o43 P) (.node (o75 P) (.node (o139 P) .nil .nil) .nil) (.node (o107 P) .nil .nil)) (.node (o59 P) (.node (o91 P) .nil .nil) (.node (o123 P) .nil .nil))))) (.node (boot_o_5 P) (.node (boot_o_9 P) (.node (o17 P) (.node (o33 P) (.node (o65 P) (.node (o129 P) .nil .nil) .nil) (.node (o97 P) .nil .nil)) (.node (o49 P) (.node (o81 P) .nil .nil) (.node (o113 P) .nil .nil))) (.node (o25 P) (.node (o41 P) (.node (o73 P) (.node (o137 P) .nil .nil) .nil) (.node (o105 P) .nil .nil)) (.node (o57 P) (.node (o89 P) .nil .nil) (.node (o121 P) .nil .nil)))) (.node (o13 P) (.node (o21 P) (.node (o37 P) (.node (o69 P) (.node (o133 P) .nil .nil) .nil) (.node (o101 P) .nil .nil)) (.node (o53 P) (.node (o85 P) .nil .nil) (.node (o117 P) .nil .nil))) (.node (o29 P) (.node (o45s2 P) (.node (o77 P) (.node (o141 P) .nil .nil) .nil) (.node (o109 P) .nil .nil)) (.node (o61 P) (.node (o93 P) .nil .nil) (.node (o125 P) .nil .nil)))))) (.node (boot_o_2 P) (.node (boot_o_4 P) (.node (boot_o_8 P) (.node (o16 P) (.node (o32 P) (.node (o64 P) (.node (o128 P) .nil .nil) .nil) (.node (o96 P) .nil .nil)) (.node (o48 P) (.node (o80 P) .nil .nil) (.node (o112 P) .nil .nil))) (.node (o24 P) (.node (o40 P) (.node (o72 P) (.node (o136 P) .nil .nil) .nil) (.node (o104 P) .nil .nil)) (.node (o56 P) (.node (o88 P) .nil .nil) (.node (o120 P) .nil .nil)))) (.node (o12s3 P) (.node (o20 P) (.node (o36 P) (.node (o68 P) (.node (o132 P) .nil .nil) .nil) (.node (o100 P) .nil .nil)) (.node (o52 P) (.node (o84 P) .nil .nil) (.node (o116 P) .nil .nil))) (.node (o28 P) (.node (o44 P) (.node (o76 P) (.node (o140 P) .nil .nil) .nil) (.node (o108 P) .nil .nil)) (.node (o60 P) (.node (o92 P) .nil .nil) (.node (o124 P) .nil .nil))))) (.node (boot_o_6 P) (.node (boot_o_10 P) (.node (o18 P) (.node (o34 P) (.node (o66 P) (.node (o130 P) .nil .nil) .nil) (.node (o98 P) .nil .nil)) (.node (o50 P) (.node (o82 P) .nil .nil) (.node (o114 P) .nil .nil))) (.node (o26 P) (.node (o42 P) (.node (o74 P) (.node (o138 P) .nil .nil) .nil) (.node (o106 P) .nil .nil)) (.node (o58 P) (.node (o90 P) .nil .nil) (.node (o122 P) .nil .nil)))) (.node (o14 P) (.node (o22 P) (.node (o38 P) (.node (o70 P) (.node (o134 P) .nil .nil) .nil) (.node (o102 P) .nil .nil)) (.node (o54 P) (.node (o86 P) .nil .nil) (.node (o118 P) .nil .nil))) (.node (o30 P) (.node (o46 P) (.node (o78 P) .nil .nil) (.node (o110 P) .nil .nil)) (.node (o62 P) (.node (o94 P) .nil .nil) (.node (o126 P) .nil .nil)))))))
noncomputable def T3 (w : World) (os : OsState) : SharedT := ⟨tree3 w.params, 142, {}, Array.mk [], boot_drawn, 360, os⟩
noncomputable def tree4 (P : Params) : BT := (.node (boot_o_0 P) (.node (boot_o_1 P) (.node (o3s4 P) (.node (boot_o_7 P) (.node (o15 P) (.node (o31 P) (.node (o63 P) (.node (o127 P) .nil .nil) .nil) (.node (o95 P) (.node (o159 P) .nil .nil) .nil)) (.node (o47 P) (.node (o79 P) (.node (o143 P) .nil .nil) .nil) (.node (o111 P) .nil .nil))) (.node (o23 P) (.node (o39 P) (.node (o71 P) (.node (o135 P) .nil .nil) .nil) (.node (o103 P) (.node (o167 P) .nil .nil) .nil)) (.node (o55 P) (.node (o87 P) (.node (o151 P) .nil .nil) .nil) (.node (o119 P) .nil .nil)))) (.node (o11 P) (.node (o19 P) (.node (o35 P) (.node (o67 P) (.node (o131 P) .nil .nil) .nil) (.node (o99 P) (.node (o163 P) .nil .nil) .nil)) (.node (o51 P) (.node (o83 P) (.node (o147 P) .nil .nil) .nil) (.node (o115 P) .nil .nil))) (.node (o27 P) (.node (o43 P) (.node (o75 P) (.node (o139 P) .nil .nil) .nil) (.node (o107 P) (.node (o171 P) .nil .nil) .nil)) (.node (o59 P) (.node (o91 P) (.node (o155 P) .nil .nil) .nil) (.node (o123 P) .nil .nil))))) (.node (boot_o_5 P) (.node (boot_o_9 P) (.node (o17 P) (.node (o33 P) (.node (o65 P) (.node (o129 P) .nil .nil) .nil) (.node (o97 P) (.node (o161 P) .nil .nil) .nil)) (.node (o49 P) (.node (o81 P) (.node (o145 P) .nil .nil) .nil) (.node (o113 P) .nil .nil))) (.node (o25 P) (.node (o41 P) (.node (o73 P) (.node (o137 P) .nil .nil) .nil) (.node (o105 P) (.node (o169 P) .nil .nil) .nil)) (.node (o57 P) (.node (o89 P) (.node (o153 P) .nil .nil) .nil) (.node (o121 P) .nil .nil)))) (.node (o13 P) (.node (o21 P) (.node (o37 P) (.node (o69 P) (.node (o133 P) .nil .nil) .nil) (.node (o101 P) (.node (o165 P) .nil .nil) .nil)) (.node (o53 P) (.node (o85 P) (.node (o149 P) .nil .nil) .nil) (.node (o117 P) .nil .nil))) (.node (o29 P) (.node (o45s2 P) (.node (o77 P) (.node (o141 P) .nil .nil) .nil) (.node (o109 P) (.node (o173 P) .nil .nil) .nil)) (.node (o61 P) (.node (o93 P) (.node (o157 P) .nil .nil) .nil) (.node (o125 P) .nil .nil)))))) (.node (boot_o_2 P) (.node (boot_o_4 P) (.node (boot_o_8 P) (.node (o16 P) (.node (o32 P) (.node (o64 P) (.node (o128 P) .nil .nil) .nil) (.node (o96 P) (.node (o160 P) .nil .nil) .nil)) (.node (o48 P) (.node (o80 P) (.node (o144 P) .nil .nil) .nil) (.node (o112 P) .nil .nil))) (.node (o24 P) (.node (o40 P) (.node (o72 P) (.node (o136 P) .nil .nil) .nil) (.node (o104 P) (.node (o168 P) .nil .nil) .nil)) (.node (o56 P) (.node (o88 P) (.node (o152 P) .nil .nil) .nil) (.node (o120 P) .nil .nil)))) (.node (o12s3 P) (.node (o20 P) (.node (o36 P) (.node (o68 P) (.node (o132 P) .nil .nil) .nil) (.node (o100 P) (.node (o164 P) .nil .nil) .nil)) (.node (o52 P) (.node (o84 P) (.node (o148 P) .nil .nil) .nil) (.node (o116 P) .nil .nil))) (.node (o28 P) (.node (o44 P) (.node (o76 P) (.node (o140 P) .nil .nil) .nil) (.node (o108 P) (.node (o172 P) .nil .nil) .nil)) (.node (o60 P) (.node (o92 P) (.node (o156 P) .nil .nil) .nil) (.node (o124 P) .nil .nil))))) (.node (boot_o_6 P) (.node (boot_o_10 P) (.node (o18 P) (.node (o34 P) (.node (o66 P) (.node (o130 P) .nil .nil) .nil) (.node (o98 P) (.node (o162 P) .nil .nil) .nil)) (.node (o50 P) (.node (o82 P) (.node (o146 P) .nil .nil) .nil) (.node (o114 P) .nil .nil))) (.node (o26 P) (.node (o42 P) (.node (o74 P) (.node (o138 P) .nil .nil) .nil) (.node (o106 P) (.node (o170 P) .nil .nil) .nil)) (.node (o58 P) (.node (o90 P) (.node (o154 P) .nil .nil) .nil) (.node (o122 P) .nil .nil)))) (.node (o14 P) (.node (o22 P) (.node (o38 P) (.node (o70 P) (.node (o134 P) .nil .nil) .nil) (.node (o102 P) (.node (o166 P) .nil .nil) .nil)) (.node (o54 P) (.node (o86 P) (.node (o150 P) .nil .nil) .nil) (.node (o118 P) .nil .nil))) (.node (o30 P) (.node (o46 P) (.node (o78 P) (.node (o142 P) .nil .nil) .nil) (.node (o110 P) (.node (o174 P) .nil .nil) .nil)) (.node (o62 P) (.node (o94 P) (.node (o158 P) .nil .nil) .nil) (.node (o126 P) .nil .nil)))))))
noncomputable def T4 (w : World) (os : OsState) : SharedT := ⟨tree4 w.params, 175, {}, Array.mk [], boot_drawn, 424, os⟩
noncomputable def tree5 (P : Params) : BT := (.node (boot_o_0 P) (.node (boot_o_1 P) (.node (o3s5 P) (.node (boot_o_7 P) (.node (o15 P) (.node (o31 P) (.node (o63 P) (.node (o127 P) .nil .nil) (.node (o191 P) .nil .nil)) (.node (o95 P) (.node (o159 P) .nil .nil) (.node (o223 P) .nil .nil))) (.node (o47 P) (.node (o79 P) (.node (o143 P) .nil .nil) (.node (o207 P) .nil .nil)) (.node (o111 P) (.node (o175 P) .nil .nil) .nil))) (.node (o23 P) (.node (o39 P) (.node (o71 P) (.node (o135 P) .nil .nil) (.node (o199 P) .nil .nil)) (.node (o103 P) (.node (o167 P) .nil .nil) .nil)) (.node (o55 P) (.node (o87 P) (.node (o151 P) .nil .nil) (.node (o215 P) .nil .nil)) (.node (o119 P) (.node (o183 P) .nil .nil) .nil)))) (.node (o11 P) (.node (o19 P) (.node (o35 P) (.node (o67 P) (.node (o131 P) .nil .nil) (.node (o195 P) .nil .nil)) (.node (o99 P) (.node (o163 P) .nil .nil) .nil)) (.node (o51 P) (.node (o83 P) (.node (o147 P) .nil .nil) (.node (o211 P) .nil .nil)) (.node (o115 P) (.node (o179 P) .nil .nil) .nil))) (.node (o27 P) (.node (o43 P) (.node (o75 P) (.node (o139 P) .nil .nil) (.node (o203 P) .nil .nil)) (.node (o107 P) (.node (o171 P) .nil .nil) .nil)) (.node (o59 P) (.node (o91 P) (.node (o155 P) .nil .nil) (.node (o219 P) .nil .nil)) (.node (o123 P) (.node (o187 P) .nil .nil) .nil))))) (.node (boot_o_5 P) (.node (boot_o_9 P) (.node (o17 P) (.node (o33 P) (.node (o65 P) (.node (o129 P) .nil .nil) (.node (o193 P) .nil .nil)) (.node (o97 P) (.node (o161 P) .nil .nil) (.node (o225 P) .nil .nil))) (.node (o49 P) (.node (o81 P) (.node (o145 P) .nil .nil) (.node (o209 P) .nil .nil)) (.node (o113 P) (.node (o177 P) .nil .nil) .nil))) (.node (o25 P) (.node (o41 P) (.node (o73 P) (.node (o137 P) .nil .nil) (.node (o201 P) .nil .nil)) (.node (o105 P) (.node (o169 P) .nil .nil) .nil)) (.node (o57 P) (.node (o89 P) (.node (o153 P) .nil .nil) (.node (o217 P) .nil .nil)) (.node (o121 P) (.node (o185 P) .nil .nil) .nil)))) (.node (o13 P) (.node (o21 P) (.node (o37 P) (.node (o69 P) (.node (o133 P) .nil .nil) (.node (o197 P) .nil .nil)) (.node (o101 P) (.node (o165 P) .nil .nil) .nil)) (.node (o53 P) (.node (o85 P) (.node (o149 P) .nil .nil) (.node (o213 P) .nil .nil)) (.node (o117 P) (.node (o181 P) .nil .nil) .nil))) (.node (o29 P) (.node (o45s2 P) (.node (o77 P) (.node (o141 P) .nil .nil) (.node (o205 P) .nil .nil)) (.node (o109 P) (.node (o173 P) .nil .nil) .nil)) (.node (o61 P) (.node (o93 P) (.node (o157 P) .nil .nil) (.node (o221 P) .nil .nil)) (.node (o125 P) (.node (o189 P) .nil .nil) .nil)))))) (.node (boot_o_2 P) (.node (boot_o_4 P) (.node (boot_o_8 P) (.node (o16 P) (.node (o32 P) (.node (o64 P) (.node (o128 P) .nil .nil) (.node (o192 P) .nil .nil)) (.node (o96 P) (.node (o160 P) .nil .nil) (.node (o224 P) .nil .nil))) (.node (o48 P) (.node (o80 P) (.node (o144 P) .nil .nil) (.node (o208 P) .nil .nil)) (.node (o112 P) (.node (o176 P) .nil .nil) .nil))) (.node (o24 P) (.node (o40 P) (.node (o72 P) (.node (o136 P) .nil .nil) (.node (o200 P) .nil .nil)) (.node (o104 P) (.node (o168 P) .nil .nil) .nil)) (.node (o56 P) (.node (o88 P) (.node (o152 P) .nil .nil) (.node (o216 P) .nil .nil)) (.node (o120 P) (.node (o184 P) .nil .nil) .nil)))) (.node (o12s5 P) (.node (o20 P) (.node (o36 P) (.node (o68 P) (.node (o132 P) .nil .nil) (.node (o196 P) .nil .nil)) (.node (o100 P) (.node (o164 P) .nil .nil) .nil)) (.node (o52 P) (.node (o84 P) (.node (o148 P) .nil .nil) (.node (o212 P) .nil .nil)) (.node (o116 P) (.node (o180 P) .nil .nil) .nil))) (.node (o28 P) (.node (o44 P) (.node (o76 P) (.node (o140 P) .nil .nil) (.node (o204 P) .nil .nil)) (.node (o108 P) (.node (o172 P) .nil .nil) .nil)) (.node (o60 P) (.node (o92 P) (.node (o156 P) .nil .nil) (.node (o220 P) .nil .nil)) (.node (o124 P) (.node (o188 P) .nil .nil) .nil))))) (.node (boot_o_6 P) (.node (boot_o_10 P) (.node (o18 P) (.node (o34 P) (.node (o66 P) (.node (o130 P) .nil .nil) (.node (o194 P) .nil .nil)) (.node (o98 P) (.node (o162 P) .nil .nil) .nil)) (.node (o50 P) (.node (o82 P) (.node (o146 P) .nil .nil) (.node (o210 P) .nil .nil)) (.node (o114 P) (.node (o178 P) .nil .nil) .nil))) (.node (o26 P) (.node (o42 P) (.node (o74 P) (.node (o138 P) .nil .nil) (.node (o202 P) .nil .nil)) (.node (o106 P) (.node (o170 P) .nil .nil) .nil)) (.node (o58 P) (.node (o90 P) (.node (o154 P) .nil .nil) (.node (o218 P) .nil .nil)) (.node (o122 P) (.node (o186 P) .nil .nil) .nil)))) (.node (o14 P) (.node (o22 P) (.node (o38 P) (.node (o70 P) (.node (o134 P) .nil .nil) (.node (o198 P) .nil .nil)) (.node (o102 P) (.node (o166 P) .nil .nil) .nil)) (.node (o54 P) (.node (o86 P) (.node (o150 P) .nil .nil) (.node (o214 P) .nil .nil)) (.node (o118 P) (.node (o182 P) .nil .nil) .nil))) (.node (o30 P) (.node (o46 P) (.node (o78 P) (.node (o142 P) .nil .nil) (.node (o206 P) .nil .nil)) (.node (o110 P) (.node (o174 P) .nil .nil) .nil)) (.node (o62 P) (.node (o94 P) (.node (o158 P) .nil .nil) (.node (o222 P) .nil .nil)) (.node (o126 P) (.node (o190 P) .nil .nil) .nil)))))))
noncomputable def T5 (w : World) (os : OsState) : SharedT := ⟨tree5 w.params, 226, {}, Array.mk [], boot_drawn, 496, os⟩
abbrev p0 : Pos := ⟨0, 0, 0, 0⟩
abbrev p1 : Pos := ⟨11, 0, 14, 16⟩
abbrev p2 : Pos := ⟨16, 0, 30, 16⟩
abbrev p3 : Pos := ⟨129, 0, 130, 23⟩
abbrev p4 : Pos := ⟨150, 0, 150, 15⟩
abbrev p5 : Pos := ⟨217, 0, 242, 32⟩
abbrev ann : Option Value := some (.ref 6)
/-- the top's statements, in five groups -/
noncomputable def body : List Stmt := behindTheImports PySem.Challenge.rw_un0039_01.row.prog
noncomputable def g1 : List Stmt := (body.drop 0).take 5
noncomputable def g2 : List Stmt := (body.drop 5).take 2
noncomputable def g3 : List Stmt := (body.drop 7).take 13
noncomputable def g4 : List Stmt := (body.drop 20).take 20
noncomputable def g5 : List Stmt := (body.drop 40).take 10
theorem body_eq : g1 ++ (g2 ++ (g3 ++ (g4 ++ (g5 ++ [])))) = body := by kernel_rfl
noncomputable def env : Env := { scope := PySem.Challenge.rw_un0039_01.row.prog.main.scope, locals := mainNs, globals := mainNs, cells := [], code := .ref 13, frame := some 14 }
noncomputable def cE : Code := .body body env
theorem pc_pre : ∀ (w : World) (os : OsState), topGo treeTable PySem.Challenge.rw_un0039_01.row.prog w 11 ann 12 ⟨boot_heap w.params, Array.mk [], boot_drawn, boot_toks, os⟩ (topStub PySem.Challenge.rw_un0039_01.row.prog) = some (⟨heapA w.params, Array.mk [], boot_drawn, 187, os⟩, (⟨denote treeTable cE, cE, p0, [topFrame p0]⟩ : Thread)) := fun w os => by kernel_rfl
theorem pc_block : ∀ (w : World) (os : OsState), segRun treeTable PySem.Challenge.rw_un0039_01.row.prog w 11 ann 1 1 ⟨heapA w.params, Array.mk [], boot_drawn, 187, os⟩ (blockOf body env cE p0 [topFrame p0]) = some (.next, (T0 w os).abs, cE, p0) := fun w os => by kernel_rfl
theorem pc_1 : ∀ (w : World) (os : OsState), segRunT treeTable PySem.Challenge.rw_un0039_01.row.prog w 11 ann 1 310 (T0 w os) (piecesOf g1 env cE p0 [topFrame p0]) = some (.next, T1 w os, cE, p1) := fun w os => by kernel_rfl
theorem pc_2 : ∀ (w : World) (os : OsState), segRunT treeTable PySem.Challenge.rw_un0039_01.row.prog w 11 ann 1 340 (T1 w os) (piecesOf g2 env cE p1 [topFrame p0]) = some (.next, T2 w os, cE, p2) := fun w os => by kernel_rfl
theorem pc_3 : ∀ (w : World) (os : OsState), segRunT treeTable PySem.Challenge.rw_un0039_01.row.prog w 11 ann 1 340 (T2 w os) (piecesOf g3 env cE p2 [topFrame p0]) = some (.next, T3 w os, cE, p3) := fun w os => by kernel_rfl
theorem pc_4 : ∀ (w : World) (os : OsState), segRunT treeTable PySem.Challenge.rw_un0039_01.row.prog w 11 ann 1 360 (T3 w os) (piecesOf g4 env cE p3 [topFrame p0]) = some (.next, T4 w os, cE, p4) := fun w os => by kernel_rfl
theorem pc_5 : ∀ (w : World) (os : OsState), segRunT treeTable PySem.Challenge.rw_un0039_01.row.prog w 11 ann 1 290 (T4 w os) (piecesOf g5 env cE p4 [topFrame p0]) = some (.next, T5 w os, cE, p5) := fun w os => by kernel_rfl
theorem pc_fin : ∀ (w : World) (os : OsState), topRun treeTable PySem.Challenge.rw_un0039_01.row.prog w 11 ann 2 (T5 w os).abs ⟨doneF .next, cE, p5, [topFrame p0]⟩ = some ⟨heapF w.params, Array.mk [], boot_drawn, 496, os⟩ := fun w os => by kernel_rfl
theorem pc_run (w : World) (os : OsState) : topRun treeTable PySem.Challenge.rw_un0039_01.row.prog w 11 ann (12 + (1 + (310 + (340 + (340 + (360 + (290 + 2))))))) ⟨boot_heap w.params, Array.mk [], boot_drawn, boot_toks, os⟩ (topStub PySem.Challenge.rw_un0039_01.row.prog) = some (⟨heapF w.params, Array.mk [], boot_drawn, 496, os⟩ : Shared) :=
  go_top (pc_pre w os) (piece_block (pc_block w os) (by
    rw [← body_eq]
    exact piece_app (segRun_of (pc_1 w os)) (piece_app (segRun_of (pc_2 w os)) (piece_app (segRun_of (pc_3 w os)) (piece_app (segRun_of (pc_4 w os)) (piece_app (segRun_of (pc_5 w os)) (piece_nil (pc_fin w os))))))))
/-- the looks at what the top has left, each a check of its own -/
theorem lk_a : ∀ (w : World) (os : OsState), (staticsOk (importedModules PySem.Challenge.rw_un0039_01.row.prog.main.body) (boot_heap w.params) (heapF w.params) && namesBound PySem.Challenge.rw_un0039_01.row.prog (heapF w.params) && gensDone (⟨heapF w.params, Array.mk [], boot_drawn, 496, os⟩ : Shared) && laidKept (boot_heap w.params) (heapF w.params)) = true := fun w os => by kernel_rfl
theorem lk_s : ∀ (w : World) (os : OsState), openSeen view_39 ["_filemode_table", "_deduplicate"] (importedModules PySem.Challenge.rw_un0039_01.row.prog.main.body) (fun s => xlAt view_39 lv s && recOk PySem.Challenge.rw_un0039_01.row.records s) true (⟨heapF w.params, Array.mk [], boot_drawn, 496, os⟩ : Shared) = openGood view_39 ["_filemode_table", "_deduplicate"] := fun w os => by kernel_rfl
theorem lk_y : ∀ (w : World) (os : OsState), (kmHook heap_39 adr adr_eq [205]).obs (⟨heapF w.params, Array.mk [], boot_drawn, 496, os⟩ : Shared) = (kmHook heap_39 adr adr_eq [205]).val w := fun w os => by kernel_rfl
theorem pc_open : ∀ w : World, (fencedOpening treeTable PySem.Challenge.rw_un0039_01.row.prog w 3140).map (fun s => (s.heap, s.gens, s.drawn, s.toks)) = some (boot_heap w.params, Array.mk [], boot_drawn, boot_toks) := boot_open (by kernel_rfl) (by kernel_rfl) fun s => by kernel_rfl
theorem pc_size : ∀ w : World, ((boot_heap w.params).isNs mainGlobals && (Array.mk [] : Array GenState).size == 0, (boot_heap w.params).objs.size, (boot_heap w.params).nsMap mainGlobals "__annotations__") = (true, 11, ann) := fun w => by kernel_rfl
theorem left : LeftO PySem.Challenge.rw_un0039_01.row.prog view_39 ["_filemode_table", "_deduplicate"] (fun s => xlAt view_39 lv s && recOk PySem.Challenge.rw_un0039_01.row.records s) (kmHook heap_39 adr adr_eq [205]).obs (kmHook heap_39 adr adr_eq [205]).val 3140 :=
  LeftO.of_pieces pc_open pc_size pc_run (by kernel_rfl) fun w => funext fun os => Prod.ext (lk_a w os) (Prod.ext (lk_s w os) (lk_y w os))
/-- the look at the law, each of its parts a small check of its own -/
theorem said : PySem.Challenge.rw_un0039_01.wellSaid = true := by
  unfold OpenLaw.wellSaid OpenRow.wellSaid OpenRow.partSaid looksOpen
  repeat' (with_reducible refine look_both ?_ ?_)
  all_goals (decide +kernel)
theorem fill : (PySem.Challenge.rw_un0039_01, hd.heap_39) = (PySem.Challenge.rw_un0039_01, hd.heap_39) := by k_fill; rfl
theorem ok : (chainsOk view_39 && opensWell PySem.Challenge.rw_un0039_01.row.prog && (frees PySem.Challenge.rw_un0039_01.row.toRowW && PySem.Challenge.rw_un0039_01.row.within.isEmpty)) = true := by kernel_rfl
theorem defof : defOf view_39 PySem.Challenge.rw_un0039_01.row.name = some (lawD, []) := by kernel_rfl
theorem defin : PySem.Challenge.rw_un0039_01.row.prog.theDef PySem.Challenge.rw_un0039_01.row.name = some (lawD.params, lawD.body, lawD.scope) := by kernel_rfl
theorem kwof : kwWritten? lawD.params.kwonlyargs lawD.params.kw_defaults = some [] := by kernel_rfl
theorem bare : PySem.Challenge.rw_un0039_01.row.prog.bare := ⟨by kernel_rfl, by kernel_rfl, by kernel_rfl, by kernel_rfl, by kernel_rfl, by kernel_rfl⟩
theorem wit : PySem.Challenge.rw_un0039_01.row.toRowW.promised := ⟨[.list []], by kernel_rfl, by kernel_rfl⟩
end hd
theorem hd (walk : WalkO hd.view_39 ["_filemode_table", "_deduplicate"] (XL hd.view_39 hd.lv) (kmHook hd.heap_39 hd.adr hd.adr_eq [205]).says PySem.Challenge.rw_un0039_01.row.toRowW hd.lawD [] fun f vs => call f vs) : PySem.Challenge.rw_un0039_01.Holds :=
  holds_law hd.said fun said => holds_open hd.left (kmHook hd.heap_39 hd.adr hd.adr_eq [205]).of (kmHook hd.heap_39 hd.adr hd.adr_eq [205]).keeps (fun s e => xl_of s (Bool.and_eq_true_iff.mp e).1) XL.keeps hd.defof hd.defin hd.kwof (fun s e => recFacts_of (Bool.and_eq_true_iff.mp e).2) (by rfl) said hd.ok hd.bare hd.wit walk
section
abbrev MP : Program := PySem.Challenge.rw_un0039_01.row.prog
abbrev Led := List (Addr × Obj)
abbrev Con (w : World) (p : Program) (loose : List Str) (mean : ExcName → Option Value) (mg mb : Str → Option Value) (f : Addr) (d u : Nat) (news : Led) (vs : List Value) (R : Value → Led → Prop) : Prop :=
  ∀ (dp un : Nat) (gd : Option (List Code)) (cn : Str) (cs : Scope) (a : Addr) (ccd : Value) (cl : List (Str × Addr)) (outer : List Env) (A₀ : Around) (base h₀ : Heap) (L : Addr) (m : Str → Option Value) (s : Shared) (Q E : Value → Shared → Prop),
    Below A₀ base outer h₀ → Fr h₀ L s.heap m → (hd.heap_39 w.params).In h₀ → News h₀ L s.heap news → Top p loose mean mg mb h₀ → cs.kind = .function →
    dp + d < recursionLimit → un + u < cLine →
    (∀ v own h' tk', Fr h₀ L h' m → News h₀ L h' (own ++ news) → (∀ p ∈ own, ∀ q ∈ news, q.1 < p.1) → R v own → Q v { s with heap := h', toks := tk' }) →
      wpAny (model MP w) (ktrTop dp un gd cn cs L a ccd cl outer) (call (.ref f) vs) Q E s
theorem Con.use {w : World} {p : Program} {loose : List Str} {mean : ExcName → Option Value} {mg mb : Str → Option Value} {f : Addr} {d u : Nat} {news : Led} {vs : List Value} {R : Value → Led → Prop} (C : Con w p loose mean mg mb f d u news vs R)
    {dp un : Nat} {gd : Option (List Code)} {cn : Str} {cs : Scope} {a : Addr} {ccd : Value} {cl : List (Str × Addr)} {outer : List Env} {A₀ : Around} {base h₀ : Heap} {L : Addr} {m : Str → Option Value} {s : Shared} {Q E : Value → Shared → Prop}
    (B : Below A₀ base outer h₀) (F : Fr h₀ L s.heap m) (X : (hd.heap_39 w.params).In h₀) (N : News h₀ L s.heap news) (T : Top p loose mean mg mb h₀) (hk : cs.kind = .function)
    (hd : dp + d < recursionLimit) (hu : un + u < cLine)
    (ret : ∀ v own h' tk', Fr h₀ L h' m → News h₀ L h' (own ++ news) → (∀ p ∈ own, ∀ q ∈ news, q.1 < p.1) → R v own → Q v { s with heap := h', toks := tk' }) :
      wpAny (model MP w) (ktrTop dp un gd cn cs L a ccd cl outer) (call (.ref f) vs) Q E s :=
  C dp un gd cn cs a ccd cl outer A₀ base h₀ L m s Q E B F X N T hk hd hu ret
/-- a def that gives a str and makes nothing that lasts -/
abbrev GivesS (x : Str) (v : Value) (own : Led) : Prop := own = [] ∧ ∃ t, v = .str x t
abbrev GivesI (x : Int) (v : Value) (own : Led) : Prop := own = [] ∧ ∃ t, v = .int x t
abbrev GivesB (x : Bool) (v : Value) (own : Led) : Prop := own = [] ∧ v = .bool x
theorem give0 {h₀ h' : Heap} {L : Addr} {m : Str → Option Value} {news : Led} {s : Shared} {Q : Value → Shared → Prop} {R : Value → Led → Prop} {v : Value} {tk' : Nat}
    (ret : ∀ v own h' tk', Fr h₀ L h' m → News h₀ L h' (own ++ news) → (∀ p ∈ own, ∀ q ∈ news, q.1 < p.1) → R v own → Q v { s with heap := h', toks := tk' })
    (F : Fr h₀ L h' m) (N : News h₀ L h' news) (r : R v []) : Q v { s with heap := h', toks := tk' } := ret v [] h' tk' F N (fun _ h => nomatch h) r
/-- a contract of a def that may raise within: it is called from a def that module level called -/
abbrev Con1 (w : World) (p : Program) (loose : List Str) (mean : ExcName → Option Value) (mg mb : Str → Option Value) (f : Addr) (d u : Nat) (news : Led) (vs : List Value) (R : Value → Led → Prop) : Prop :=
  ∀ (dp un : Nat) (gd : Option (List Code)) (cn : Str) (cs : Scope) (a : Addr) (ccd : Value) (cl : List (Str × Addr)) (A₀ : Around) (base h₀ : Heap) (L : Addr) (m : Str → Option Value) (s : Shared) (Q E : Value → Shared → Prop),
    Below A₀ base [] h₀ → Fr h₀ L s.heap m → (hd.heap_39 w.params).In h₀ → News h₀ L s.heap news → Top p loose mean mg mb h₀ → cs.kind = .function →
    dp + d < recursionLimit → un + u < cLine →
    (∀ v own h' tk', Fr h₀ L h' m → News h₀ L h' (own ++ news) → (∀ p ∈ own, ∀ q ∈ news, q.1 < p.1) → R v own → Q v { s with heap := h', toks := tk' }) →
      wpAny (model MP w) (ktrTop dp un gd cn cs L a ccd cl []) (call (.ref f) vs) Q E s
theorem Con1.use {w : World} {p : Program} {loose : List Str} {mean : ExcName → Option Value} {mg mb : Str → Option Value} {f : Addr} {d u : Nat} {news : Led} {vs : List Value} {R : Value → Led → Prop} (C : Con1 w p loose mean mg mb f d u news vs R)
    {dp un : Nat} {gd : Option (List Code)} {cn : Str} {cs : Scope} {a : Addr} {ccd : Value} {cl : List (Str × Addr)} {A₀ : Around} {base h₀ : Heap} {L : Addr} {m : Str → Option Value} {s : Shared} {Q E : Value → Shared → Prop}
    (B : Below A₀ base [] h₀) (F : Fr h₀ L s.heap m) (X : (hd.heap_39 w.params).In h₀) (N : News h₀ L s.heap news) (T : Top p loose mean mg mb h₀) (hk : cs.kind = .function)
    (hd : dp + d < recursionLimit) (hu : un + u < cLine)
    (ret : ∀ v own h' tk', Fr h₀ L h' m → News h₀ L h' (own ++ news) → (∀ p ∈ own, ∀ q ∈ news, q.1 < p.1) → R v own → Q v { s with heap := h', toks := tk' }) :
      wpAny (model MP w) (ktrTop dp un gd cn cs L a ccd cl []) (call (.ref f) vs) Q E s :=
  C dp un gd cn cs a ccd cl A₀ base h₀ L m s Q E B F X N T hk hd hu ret
theorem ne_of_lts3 {news : Led} {D : Addr} {o1 o2 : Obj} (h : ∀ p ∈ news, p.1 < D) : ∀ p ∈ (D + 1 + 1, o2) :: (D + 1, o1) :: news, p.1 ≠ D + 1 + 1 + 1 := by
  intro p hp
  rcases List.mem_cons.mp hp with rfl | hp
  · exact Nat.ne_of_lt (Nat.lt_succ_self _)
  · rcases List.mem_cons.mp hp with rfl | hp
    · exact Nat.ne_of_lt (Nat.lt_succ_of_lt (Nat.lt_succ_self _))
    · exact Nat.ne_of_lt (Nat.lt_succ_of_lt (Nat.lt_succ_of_lt (Nat.lt_succ_of_lt (h p hp))))
theorem lenAny {prog : Program} {w : World} {A : Around} {E : Value → Shared → Prop} {s : Shared} {l : Addr} {vs : List Value} {Q : Value → Shared → Prop} (hl : s.heap.IsList l vs.toArray) (hz : vs.toArray.size ≤ sizeLine)
    (h : Q (.int ((vs.length : Nat) : Int) (s.toks + 1)) { s with toks := s.toks + 1 + 1 }) : wpAny (model prog w) A (call (.builtin "len") [.ref l]) Q E s := by
  refine Calls.call_len_list hl (by rw [sizeLine_eq] at hz; omega) ?_
  rw [List.size_toArray]; exact h
end
variable {w : World} {p : Program} {loose : List Str} {mean : ExcName → Option Value} {mg mb : Str → Option Value} 
local macro_rules | `(tactic| walk_at $s:str) => if s.getString.startsWith "mine:" then Lean.Macro.throwUnsupported else `(tactic| k_extra $s)
local macro_rules | `(tactic| k_room) => `(tactic| ktr_room)
local macro_rules | `(tactic| k_all) => `(tactic| walk_at "mine:kall")
local macro_rules | `(tactic| k_mem) => `(tactic| assumption)
local macro_rules | `(tactic| k_memK) => `(tactic| walk_at "mine:mem")
local macro_rules | `(tactic| kcj_all) => `(tactic| walk_at "mine:all")
local macro_rules | `(tactic| ktr_call conU $c) => `(tactic| (
        refine' Con.use $c ?k1 ?k2 ?k3 ?k4 ?k5 ?kK ?kd ?ku ?_
        (case k1 => k_asm)
        (case k2 => k_asm)
        (case k3 => k_asm)
        (case k4 => k_asm)
        (case k5 => k_asm)
        (case kK => walk_at "mine:kind")
        (case kd => ktr_room)
        (case ku => ktr_units)))
local macro_rules | `(tactic| ktr_call con $c) => `(tactic| (ktr_call conU $c; walk_at "mine:con9"))
local macro_rules | `(tactic| ktr_call conL $c) => `(tactic| (ktr_call conU $c; walk_at "mine:conL9"))
section
theorem lines11 : True := by
  w_top off
  k_with_none
  (k_with "mine:kall" => (first | exact ne_of_lts (by assumption) | exact ne_of_lts1 (by assumption) | exact ne_of_lts2 (by assumption) | exact ne_of_lts3 (by assumption)))
  (k_with "mine:mem" => (first | (with_reducible apply List.Mem.head) | ((with_reducible apply List.Mem.tail); walk_at "mine:mem")))
  (k_with "mine:tail" => (first | (with_reducible assumption) | ((with_reducible apply List.Mem.tail); walk_at "mine:tail")))
  (k_with "mine:all" => (first | (with_reducible apply List.forall_mem_nil) | (intro pzw hzw; with_reducible assumption) | ((with_reducible apply List.forall_mem_cons.mpr); refine ⟨by walk_at "mine:mem", ?_⟩; walk_at "mine:all") | (intro pzw hzw; walk_at "mine:tail")))
  (k_with "mine:kind" => (first | exact rfl | assumption))
  (k_with "mine:con" => ((intro dpzw unzw gdzw cnzw cszw azw ccdzw clzw outerzw Azw basezw hzw Lzw mzw szw Qzw Ezw Bzw Fzw Xzw Nzw Tzw hkzw hdzw huzw hretzw; obtain ⟨kdzw, nmszw, igzw, iczw, morezw⟩ := cszw; cases (show kdzw = ScopeKind.function from hkzw); refine wpAny_call ?_; k_dflt k_enter)))
  (k_with "mine:news" => (first | k_asm | exact cb_drop (by k_asm) (by kcj_all)))
  (k_with "mine:end" => ((rename ∀ v own h' tk', Fr _ _ h' _ → _ → _ → _ → _ => hretzw; refine give0 hretzw (by k_asm) (by walk_at "mine:news") ⟨rfl, ?_⟩)))
  (k_with "mine:ret" => ((walk_at "mine:end"; first | exact rfl | exact ⟨_, rfl⟩)))
  (k_with "mine:fold" => (((try dsimp only); (try k_fold))))
  (k_with "mine:con9" => ((intro vzw ownzw hzw tkzw Fzw Nzw hlzw rzw; (first | (obtain ⟨ezw, tzw, ezw'⟩ := rzw; subst ezw ezw') | (obtain ⟨ezw, ezw'⟩ := rzw; subst ezw ezw')); clear hlzw; (try simp only [List.nil_append] at Nzw); walk_at "mine:fold")))
  (k_with "mine:conL9" => (((try any_goals ((with_reducible show _ ∈ _); k_mem)); (try any_goals ((with_reducible show StrsAre _ _); assumption)); (try any_goals ((with_reducible show _ ≤ _); first | assumption | omega)); intro vzw ownzw hzw tkzw Fzw Nzw hlzw rzw; obtain ⟨Dzw, vszw, nzw, ezw, ezw', szw, qzw, zzw⟩ := rzw; subst ezw ezw'; (simp only [List.cons_append, List.nil_append] at Nzw); (have hlzw := fun q hq => hlzw _ (List.mem_singleton_self _) q hq); (try dsimp only at hlzw); walk_at "mine:fold")))
  (k_with "mine:for" => ((refine noRaise ?_; (rename Fr _ _ _ _ => lFzw); (with_unfolding_all refine' For_turns lFzw ?_); k_whole)))
  (k_with "mine:calls" => (fail "no contract"))
  (k_with "mine:steps" => (repeat' (first | (k_unfold; (try dsimp only [List.cons_append, List.nil_append])) | (k_end; kc_close) | k_fold | walk1 | (dsimp only; walk1) | ((first | with_reducible show (_ : Value → Shared → Prop) _ _ | with_reducible show (_ : Flow → Shared → Prop) _ _ | with_reducible show (_ : List Value → Shared → Prop) _ _); k_unfold; (try dsimp only [List.cons_append, List.nil_append])) | (leave1; (try dsimp only)) | fail "no step")))
  (k_with "call builtin:issubclass" => ((k_dflt (refine call_issub (News.get (by k_asm) (by k_mem)) ?_); intro tkzw)))
  (k_with "exec For Name Name cons nil" => (walk_at "mine:for"))
  (k_with "exec For Tuple Call cons nil" => (walk_at "mine:for"))
  (k_with "exec For Name Call cons nil" => (walk_at "mine:for"))
  (k_with "call ref" => ((k_here; k_dflt (first | walk_at "mine:calls" | refine Stuck.out ?_))))
  (k_with "eval ListComp" => ((k_here; k_dflt (refine CK.evalL (by k_asm) (by with_unfolding_all rfl) (by decide) (by rfl) (by rfl) (by decide) ?_))))
  (k_with "call builtin:str.split" => ((k_here; k_dflt (refine KSpl.split1 (by k_asm) (by k_asm) (by decide) ?_ (by (refine Nat.le_trans ?_ sizeLine_ge); omega)); intro Dzw lzw hzw kzw ezw azw Fzw Nzw l1zw; (try k_lt l1zw))))
  exact trivial
theorem con_fspath {x : Str} {t : Tok} {news : Led} : Con w p loose mean mg mb 94 2 20 news [.str x t] (GivesS x) := by
  walk_at "mine:con"
  k_steps
  all_goals walk_at "mine:ret"
theorem con_getsep {x : Str} {t : Tok} {news : Led} : Con w p loose mean mg mb 108 2 20 news [.str x t] (GivesS (Str.ofString "/")) := by
  walk_at "mine:con"
  k_steps
  all_goals walk_at "mine:ret"
end
section
theorem lines12 : True := by
  w_top off
  k_with_none
  (k_with "mine:kall" => (first | exact ne_of_lts (by assumption) | exact ne_of_lts1 (by assumption) | exact ne_of_lts2 (by assumption) | exact ne_of_lts3 (by assumption)))
  (k_with "mine:mem" => (first | (with_reducible apply List.Mem.head) | ((with_reducible apply List.Mem.tail); walk_at "mine:mem")))
  (k_with "mine:tail" => (first | (with_reducible assumption) | ((with_reducible apply List.Mem.tail); walk_at "mine:tail")))
  (k_with "mine:all" => (first | (with_reducible apply List.forall_mem_nil) | (intro pzw hzw; with_reducible assumption) | ((with_reducible apply List.forall_mem_cons.mpr); refine ⟨by walk_at "mine:mem", ?_⟩; walk_at "mine:all") | (intro pzw hzw; walk_at "mine:tail")))
  (k_with "mine:kind" => (first | exact rfl | assumption))
  (k_with "mine:con" => ((intro dpzw unzw gdzw cnzw cszw azw ccdzw clzw outerzw Azw basezw hzw Lzw mzw szw Qzw Ezw Bzw Fzw Xzw Nzw Tzw hkzw hdzw huzw hretzw; obtain ⟨kdzw, nmszw, igzw, iczw, morezw⟩ := cszw; cases (show kdzw = ScopeKind.function from hkzw); refine wpAny_call ?_; k_dflt k_enter)))
  (k_with "mine:news" => (first | k_asm | exact cb_drop (by k_asm) (by kcj_all)))
  (k_with "mine:end" => ((rename ∀ v own h' tk', Fr _ _ h' _ → _ → _ → _ → _ => hretzw; refine give0 hretzw (by k_asm) (by walk_at "mine:news") ⟨rfl, ?_⟩)))
  (k_with "mine:ret" => ((walk_at "mine:end"; first | exact rfl | exact ⟨_, rfl⟩)))
  (k_with "mine:fold" => (((try dsimp only); (try k_fold))))
  (k_with "mine:con9" => ((intro vzw ownzw hzw tkzw Fzw Nzw hlzw rzw; (first | (obtain ⟨ezw, tzw, ezw'⟩ := rzw; subst ezw ezw') | (obtain ⟨ezw, ezw'⟩ := rzw; subst ezw ezw')); clear hlzw; (try simp only [List.nil_append] at Nzw); walk_at "mine:fold")))
  (k_with "mine:conL9" => (((try any_goals ((with_reducible show _ ∈ _); k_mem)); (try any_goals ((with_reducible show StrsAre _ _); assumption)); (try any_goals ((with_reducible show _ ≤ _); first | assumption | omega)); intro vzw ownzw hzw tkzw Fzw Nzw hlzw rzw; obtain ⟨Dzw, vszw, nzw, ezw, ezw', szw, qzw, zzw⟩ := rzw; subst ezw ezw'; (simp only [List.cons_append, List.nil_append] at Nzw); (have hlzw := fun q hq => hlzw _ (List.mem_singleton_self _) q hq); (try dsimp only at hlzw); walk_at "mine:fold")))
  (k_with "mine:for" => ((refine noRaise ?_; (rename Fr _ _ _ _ => lFzw); (with_unfolding_all refine' For_turns lFzw ?_); k_whole)))
  (k_with "mine:calls" => (fail "no contract"))
  (k_with "mine:steps" => (repeat' (first | (k_unfold; (try dsimp only [List.cons_append, List.nil_append])) | (k_end; kc_close) | k_fold | walk1 | (dsimp only; walk1) | ((first | with_reducible show (_ : Value → Shared → Prop) _ _ | with_reducible show (_ : Flow → Shared → Prop) _ _ | with_reducible show (_ : List Value → Shared → Prop) _ _); k_unfold; (try dsimp only [List.cons_append, List.nil_append])) | (leave1; (try dsimp only)) | fail "no step")))
  (k_with "call builtin:issubclass" => ((k_dflt (refine call_issub (News.get (by k_asm) (by k_mem)) ?_); intro tkzw)))
  (k_with "exec For Name Name cons nil" => (walk_at "mine:for"))
  (k_with "exec For Tuple Call cons nil" => (walk_at "mine:for"))
  (k_with "exec For Name Call cons nil" => (walk_at "mine:for"))
  (k_with "call ref" => ((k_here; k_dflt (first | walk_at "mine:calls" | refine Stuck.out ?_))))
  (k_with "eval ListComp" => ((k_here; k_dflt (refine CK.evalL (by k_asm) (by with_unfolding_all rfl) (by decide) (by rfl) (by rfl) (by decide) ?_))))
  (k_with "call builtin:str.split" => ((k_here; k_dflt (refine KSpl.split1 (by k_asm) (by k_asm) (by decide) ?_ (by (refine Nat.le_trans ?_ sizeLine_ge); omega)); intro Dzw lzw hzw kzw ezw azw Fzw Nzw l1zw; (try k_lt l1zw))))
  (k_with "mine:calls" => (first | ktr_call con con_fspath | ktr_call con con_getsep))
  exact trivial
theorem con_basename {x : Str} {t : Tok} {news : Led} (hx : x.length ≤ 1000) : Con w p loose mean mg mb 122 6 40 news [.str x t] (GivesS (Txt.slice x (some (Txt.rfind x (Str.ofString "/") + 1)) none)) := by
  walk_at "mine:con"
  k_steps
  all_goals walk_at "mine:ret"
def headF (x : Str) : Str := Txt.slice x none (some (Txt.rfind x (Str.ofString "/") + 1))
def dirF (x : Str) : Str := if ((headF x).length : Int) ≠ 0 then (if (headF x != Txt.mul (Str.ofString "/") ((headF x).length : Int)) = true then Txt.rstripChars (headF x) (Str.ofString "/") else headF x) else headF x
theorem con_dirname {x : Str} {t : Tok} {news : Led} (hx : x.length ≤ 1000) : Con w p loose mean mg mb 129 6 40 news [.str x t] (GivesS (dirF x)) := by
  walk_at "mine:con"
  k_steps
  all_goals (walk_at "mine:end")
  all_goals exact ⟨_, by rw [dirF]; unfold headF; (repeat' split) <;> first | with_reducible rfl | contradiction | simp_all | rfl⟩
end
section
theorem lines13 : True := by
  w_top off
  k_with_none
  (k_with "mine:kall" => (first | exact ne_of_lts (by assumption) | exact ne_of_lts1 (by assumption) | exact ne_of_lts2 (by assumption) | exact ne_of_lts3 (by assumption)))
  (k_with "mine:mem" => (first | (with_reducible apply List.Mem.head) | ((with_reducible apply List.Mem.tail); walk_at "mine:mem")))
  (k_with "mine:tail" => (first | (with_reducible assumption) | ((with_reducible apply List.Mem.tail); walk_at "mine:tail")))
  (k_with "mine:all" => (first | (with_reducible apply List.forall_mem_nil) | (intro pzw hzw; with_reducible assumption) | ((with_reducible apply List.forall_mem_cons.mpr); refine ⟨by walk_at "mine:mem", ?_⟩; walk_at "mine:all") | (intro pzw hzw; walk_at "mine:tail")))
  (k_with "mine:kind" => (first | exact rfl | assumption))
  (k_with "mine:con" => ((intro dpzw unzw gdzw cnzw cszw azw ccdzw clzw outerzw Azw basezw hzw Lzw mzw szw Qzw Ezw Bzw Fzw Xzw Nzw Tzw hkzw hdzw huzw hretzw; obtain ⟨kdzw, nmszw, igzw, iczw, morezw⟩ := cszw; cases (show kdzw = ScopeKind.function from hkzw); refine wpAny_call ?_; k_dflt k_enter)))
  (k_with "mine:news" => (first | k_asm | exact cb_drop (by k_asm) (by kcj_all)))
  (k_with "mine:end" => ((rename ∀ v own h' tk', Fr _ _ h' _ → _ → _ → _ → _ => hretzw; refine give0 hretzw (by k_asm) (by walk_at "mine:news") ⟨rfl, ?_⟩)))
  (k_with "mine:ret" => ((walk_at "mine:end"; first | exact rfl | exact ⟨_, rfl⟩)))
  (k_with "mine:fold" => (((try dsimp only); (try k_fold))))
  (k_with "mine:con9" => ((intro vzw ownzw hzw tkzw Fzw Nzw hlzw rzw; (first | (obtain ⟨ezw, tzw, ezw'⟩ := rzw; subst ezw ezw') | (obtain ⟨ezw, ezw'⟩ := rzw; subst ezw ezw')); clear hlzw; (try simp only [List.nil_append] at Nzw); walk_at "mine:fold")))
  (k_with "mine:conL9" => (((try any_goals ((with_reducible show _ ∈ _); k_mem)); (try any_goals ((with_reducible show StrsAre _ _); assumption)); (try any_goals ((with_reducible show _ ≤ _); first | assumption | omega)); intro vzw ownzw hzw tkzw Fzw Nzw hlzw rzw; obtain ⟨Dzw, vszw, nzw, ezw, ezw', szw, qzw, zzw⟩ := rzw; subst ezw ezw'; (simp only [List.cons_append, List.nil_append] at Nzw); (have hlzw := fun q hq => hlzw _ (List.mem_singleton_self _) q hq); (try dsimp only at hlzw); walk_at "mine:fold")))
  (k_with "mine:for" => ((refine noRaise ?_; (rename Fr _ _ _ _ => lFzw); (with_unfolding_all refine' For_turns lFzw ?_); k_whole)))
  (k_with "mine:calls" => (fail "no contract"))
  (k_with "mine:steps" => (repeat' (first | (k_unfold; (try dsimp only [List.cons_append, List.nil_append])) | (k_end; kc_close) | k_fold | walk1 | (dsimp only; walk1) | ((first | with_reducible show (_ : Value → Shared → Prop) _ _ | with_reducible show (_ : Flow → Shared → Prop) _ _ | with_reducible show (_ : List Value → Shared → Prop) _ _); k_unfold; (try dsimp only [List.cons_append, List.nil_append])) | (leave1; (try dsimp only)) | fail "no step")))
  (k_with "call builtin:issubclass" => ((k_dflt (refine call_issub (News.get (by k_asm) (by k_mem)) ?_); intro tkzw)))
  (k_with "exec For Name Name cons nil" => (walk_at "mine:for"))
  (k_with "exec For Tuple Call cons nil" => (walk_at "mine:for"))
  (k_with "exec For Name Call cons nil" => (walk_at "mine:for"))
  (k_with "call ref" => ((k_here; k_dflt (first | walk_at "mine:calls" | refine Stuck.out ?_))))
  (k_with "eval ListComp" => ((k_here; k_dflt (refine CK.evalL (by k_asm) (by with_unfolding_all rfl) (by decide) (by rfl) (by rfl) (by decide) ?_))))
  (k_with "call builtin:str.split" => ((k_here; k_dflt (refine KSpl.split1 (by k_asm) (by k_asm) (by decide) ?_ (by (refine Nat.le_trans ?_ sizeLine_ge); omega)); intro Dzw lzw hzw kzw ezw azw Fzw Nzw l1zw; (try k_lt l1zw))))
  (k_with "mine:calls" => (first | ktr_call con con_fspath | ktr_call con con_getsep))
  exact trivial
def joinF (x y : Str) : Str := if Txt.endswith x (Str.ofString "/") = true then x ++ y else x ++ (Str.ofString "/" ++ y)
theorem con_join' {x y z : Str} {t t' : Tok} {news : Led} (hx : x.length ≤ 1000) (hy : y.length ≤ 1000) (h1 : Txt.startswith y (Str.ofString "/") = false) (h2 : x.length ≠ 0)
    (hz : Txt.endswith x (Str.ofString "/") = true → z = x ++ y) (hz' : Txt.endswith x (Str.ofString "/") = false → z = x ++ (Str.ofString "/" ++ y)) : Con w p loose mean mg mb 115 6 40 news [.str x t, .str y t'] (GivesS z) := by
  walk_at "mine:con"
  walk_at "mine:steps"
  rename ∀ p ∈ news, p.1 < _ => hD
  obtain ⟨D, e, _⟩ := nameIt hD; subst e
  rename Fr _ _ _ _ => F1
  rename News _ _ _ _ => N1
  refine forTup (vs := [.str y t']) (fun i m nx => nx = (D, { cls := Value.type "tuple", data := Data.seq #[Value.str y t'] }) :: news ∧ (∃ ts, m (Str.ofString "sep") = some (.str (Str.ofString "/") ts)) ∧ ∃ t, m (Str.ofString "path") = some (.str (if i = 0 then x else z) t)) rfl F1 N1 (.head _) rfl rfl ?_ ?_ ?_ ?_
  · rintro i m nx ⟨rfl, _⟩; exact .head _
  · exact ⟨rfl, ⟨_, rfl⟩, _, rfl⟩
  · rintro i v I o m1 nx h tk hv ho hI ⟨rfl, ⟨ts, hs⟩, tp, hp⟩ hadr F2 N2
    have hi : i = 0 := by
      rcases i with _ | i
      · rfl
      · simp at hv
    subst hi
    rw [if_pos rfl] at hp
    replace F2 := frShow2 F2 _ _ hs hp
    cases hv
    walk_at "mine:steps"
    · have := hz (by assumption); subst this
      exact InvEndN.intro (by k_asm) (by k_asm) ⟨rfl, ⟨_, by with_unfolding_all rfl⟩, _, by with_unfolding_all rfl⟩ rfl (by kcj_all) (by kcj_all)
    · have := hz' (by assumption); subst this
      exact InvEndN.intro (by k_asm) (by k_asm) ⟨rfl, ⟨_, by with_unfolding_all rfl⟩, _, by with_unfolding_all rfl⟩ rfl (by kcj_all) (by kcj_all)
  · rintro m1 nx h tk ⟨rfl, ⟨ts, hs⟩, tp, hp⟩ F2 N2
    replace F2 := frShow F2 _ hp
    walk_at "mine:steps"
    all_goals walk_at "mine:ret"
theorem con_join {x y : Str} {t t' : Tok} {news : Led} (hx : x.length ≤ 1000) (hy : y.length ≤ 1000) (h1 : Txt.startswith y (Str.ofString "/") = false) (h2 : x.length ≠ 0) : Con w p loose mean mg mb 115 6 40 news [.str x t, .str y t'] (GivesS (joinF x y)) :=
  con_join' hx hy h1 h2 (fun h => if_pos h) (fun h => if_neg (by rw [h]; decide))
end
section
theorem lines14 : True := by
  w_top off
  k_with_none
  (k_with "mine:kall" => (first | exact ne_of_lts (by assumption) | exact ne_of_lts1 (by assumption) | exact ne_of_lts2 (by assumption) | exact ne_of_lts3 (by assumption)))
  (k_with "mine:mem" => (first | (with_reducible apply List.Mem.head) | ((with_reducible apply List.Mem.tail); walk_at "mine:mem")))
  (k_with "mine:tail" => (first | (with_reducible assumption) | ((with_reducible apply List.Mem.tail); walk_at "mine:tail")))
  (k_with "mine:all" => (first | (with_reducible apply List.forall_mem_nil) | (intro pzw hzw; with_reducible assumption) | ((with_reducible apply List.forall_mem_cons.mpr); refine ⟨by walk_at "mine:mem", ?_⟩; walk_at "mine:all") | (intro pzw hzw; walk_at "mine:tail")))
  (k_with "mine:kind" => (first | exact rfl | assumption))
  (k_with "mine:con" => ((intro dpzw unzw gdzw cnzw cszw azw ccdzw clzw outerzw Azw basezw hzw Lzw mzw szw Qzw Ezw Bzw Fzw Xzw Nzw Tzw hkzw hdzw huzw hretzw; obtain ⟨kdzw, nmszw, igzw, iczw, morezw⟩ := cszw; cases (show kdzw = ScopeKind.function from hkzw); refine wpAny_call ?_; k_dflt k_enter)))
  (k_with "mine:news" => (first | k_asm | exact cb_drop (by k_asm) (by kcj_all)))
  (k_with "mine:end" => ((rename ∀ v own h' tk', Fr _ _ h' _ → _ → _ → _ → _ => hretzw; refine give0 hretzw (by k_asm) (by walk_at "mine:news") ⟨rfl, ?_⟩)))
  (k_with "mine:ret" => ((walk_at "mine:end"; first | exact rfl | exact ⟨_, rfl⟩)))
  (k_with "mine:fold" => (((try dsimp only); (try k_fold))))
  (k_with "mine:con9" => ((intro vzw ownzw hzw tkzw Fzw Nzw hlzw rzw; (first | (obtain ⟨ezw, tzw, ezw'⟩ := rzw; subst ezw ezw') | (obtain ⟨ezw, ezw'⟩ := rzw; subst ezw ezw')); clear hlzw; (try simp only [List.nil_append] at Nzw); walk_at "mine:fold")))
  (k_with "mine:conL9" => (((try any_goals ((with_reducible show _ ∈ _); k_mem)); (try any_goals ((with_reducible show StrsAre _ _); assumption)); (try any_goals ((with_reducible show _ ≤ _); first | assumption | omega)); intro vzw ownzw hzw tkzw Fzw Nzw hlzw rzw; obtain ⟨Dzw, vszw, nzw, ezw, ezw', szw, qzw, zzw⟩ := rzw; subst ezw ezw'; (simp only [List.cons_append, List.nil_append] at Nzw); (have hlzw := fun q hq => hlzw _ (List.mem_singleton_self _) q hq); (try dsimp only at hlzw); walk_at "mine:fold")))
  (k_with "mine:for" => ((refine noRaise ?_; (rename Fr _ _ _ _ => lFzw); (with_unfolding_all refine' For_turns lFzw ?_); k_whole)))
  (k_with "mine:calls" => (fail "no contract"))
  (k_with "mine:steps" => (repeat' (first | (k_unfold; (try dsimp only [List.cons_append, List.nil_append])) | (k_end; kc_close) | k_fold | walk1 | (dsimp only; walk1) | ((first | with_reducible show (_ : Value → Shared → Prop) _ _ | with_reducible show (_ : Flow → Shared → Prop) _ _ | with_reducible show (_ : List Value → Shared → Prop) _ _); k_unfold; (try dsimp only [List.cons_append, List.nil_append])) | (leave1; (try dsimp only)) | fail "no step")))
  (k_with "call builtin:issubclass" => ((k_dflt (refine call_issub (News.get (by k_asm) (by k_mem)) ?_); intro tkzw)))
  (k_with "exec For Name Name cons nil" => (walk_at "mine:for"))
  (k_with "exec For Tuple Call cons nil" => (walk_at "mine:for"))
  (k_with "exec For Name Call cons nil" => (walk_at "mine:for"))
  (k_with "call ref" => ((k_here; k_dflt (first | walk_at "mine:calls" | refine Stuck.out ?_))))
  (k_with "eval ListComp" => ((k_here; k_dflt (refine CK.evalL (by k_asm) (by with_unfolding_all rfl) (by decide) (by rfl) (by rfl) (by decide) ?_))))
  (k_with "call builtin:str.split" => ((k_here; k_dflt (refine KSpl.split1 (by k_asm) (by k_asm) (by decide) ?_ (by (refine Nat.le_trans ?_ sizeLine_ge); omega)); intro Dzw lzw hzw kzw ezw azw Fzw Nzw l1zw; (try k_lt l1zw))))
  exact trivial
abbrev GivesStrs (xs : List Str) (v : Value) (own : Led) : Prop := ∃ r vs n, v = .ref r ∧ own = [(r, listOf vs.toArray n)] ∧ StrsAre vs xs ∧ xs.length ≤ 1000 ∧ vs.toArray.size ≤ sizeLine
theorem con_dedu {l : Addr} {vs : List Value} {n : Nat} {xs : List Str} {news : Led} (hl : (l, listOf vs.toArray n) ∈ news) (s1 : StrsAre vs xs) (hl1 : xs.length ≤ 1000) : Con w p loose mean mg mb 196 8 60 news [.ref l] (GivesStrs (dedupL xs)) := by
  walk_at "mine:con"
  walk_at "mine:steps"
  rename ∀ p ∈ news, p.1 < _ => hD
  obtain ⟨D, e, _⟩ := nameIt hD; subst e
  rename Fr _ _ _ _ => F1
  rename News _ _ _ _ => N1
  rename ∀ v own h' tk', Fr _ _ h' _ → _ → _ → _ → _ => hret
  refine forList (lo := listOf vs.toArray n) (vs := vs) (fun i m nx => ∃ vs' n', nx = (D, listOf vs'.toArray n') :: news ∧ m (Str.ofString "new_unhashable") = some (.ref D) ∧ StrsAre vs' (dedupL (xs.take i))) rfl F1 N1 (.tail _ hl) rfl rfl ?_ ?_ ?_ ?_
  · rintro i m nx ⟨vs', n', rfl, _⟩; exact .tail _ hl
  · exact ⟨[], 0, rfl, rfl, .nil⟩
  · rintro i v I o m1 nx h tk hv ho hI ⟨vs', n', rfl, hm, hs⟩ hadr F2 N2
    replace F2 := frShow F2 _ hm
    obtain ⟨x, t0, rfl, hx⟩ := s1.item i v hv
    have hID := ltN (hI _ (.head _))
    have ht : xs.take (i + 1) = xs.take i ++ [x] := by rw [List.take_add_one, hx]; rfl
    have hsz : vs'.toArray.size ≤ sizeLine := by
      have h1 := hs.length
      have h2 := dedupL_len (xs.take i)
      have h3 := sizeLine_ge
      rw [List.length_take] at h2
      rw [List.size_toArray]; omega
    walk_at "mine:steps"
    · rename (List.any _ _) = true => hin
      refine InvEndN.intro (by k_asm) (by k_asm) ⟨vs', n', rfl, by with_unfolding_all rfl, ?_⟩ rfl (by kcj_all) (by kcj_all)
      rw [ht, dedupL_snoc, if_pos (any_beq_mem.mp hin)]; exact hs
    · rename (List.any _ _) = false => hin
      rename News _ _ _ _ => N3
      rw [show vs'.toArray.push (Value.str x t0) = (vs' ++ [Value.str x t0]).toArray by simp] at N3
      refine InvEndN.intro (by k_asm) N3 (nx := (D, listOf (vs' ++ [Value.str x t0]).toArray (n' + 1)) :: news) ⟨vs' ++ [.str x t0], n' + 1, rfl, by with_unfolding_all rfl, ?_⟩ rfl (by kcj_all) (by kcj_all)
      rw [ht, dedupL_snoc, if_neg (fun q => by rw [any_beq_mem.mpr q] at hin; cases hin)]
      exact hs.append' (.cons _ _ .nil)
  · rintro m1 nx h tk ⟨vs', n', rfl, hm, hs⟩ F2 N2
    replace F2 := frShow F2 _ hm
    walk_at "mine:steps"
    rw [List.take_of_length_le (Nat.le_of_eq s1.length.symm)] at hs
    exact hret _ [(D, _)] _ _ (by k_asm) (by k_asm) (fun p hp q hq => by rw [List.mem_singleton.mp hp]; exact hD q hq) ⟨D, vs', n', rfl, rfl, hs, Nat.le_trans (dedupL_len xs) hl1, by rw [List.size_toArray, hs.length]; exact Nat.le_trans (Nat.le_trans (dedupL_len xs) hl1) (Nat.le_trans (by decide) sizeLine_ge)⟩
end
section
theorem lines15 : True := by
  w_top off
  k_with_none
  (k_with "mine:kall" => (first | exact ne_of_lts (by assumption) | exact ne_of_lts1 (by assumption) | exact ne_of_lts2 (by assumption) | exact ne_of_lts3 (by assumption)))
  (k_with "mine:mem" => (first | (with_reducible apply List.Mem.head) | ((with_reducible apply List.Mem.tail); walk_at "mine:mem")))
  (k_with "mine:tail" => (first | (with_reducible assumption) | ((with_reducible apply List.Mem.tail); walk_at "mine:tail")))
  (k_with "mine:all" => (first | (with_reducible apply List.forall_mem_nil) | (intro pzw hzw; with_reducible assumption) | ((with_reducible apply List.forall_mem_cons.mpr); refine ⟨by walk_at "mine:mem", ?_⟩; walk_at "mine:all") | (intro pzw hzw; walk_at "mine:tail")))
  (k_with "mine:kind" => (first | exact rfl | assumption))
  (k_with "mine:con" => ((intro dpzw unzw gdzw cnzw cszw azw ccdzw clzw outerzw Azw basezw hzw Lzw mzw szw Qzw Ezw Bzw Fzw Xzw Nzw Tzw hkzw hdzw huzw hretzw; obtain ⟨kdzw, nmszw, igzw, iczw, morezw⟩ := cszw; cases (show kdzw = ScopeKind.function from hkzw); refine wpAny_call ?_; k_dflt k_enter)))
  (k_with "mine:news" => (first | k_asm | exact cb_drop (by k_asm) (by kcj_all)))
  (k_with "mine:end" => ((rename ∀ v own h' tk', Fr _ _ h' _ → _ → _ → _ → _ => hretzw; refine give0 hretzw (by k_asm) (by walk_at "mine:news") ⟨rfl, ?_⟩)))
  (k_with "mine:ret" => ((walk_at "mine:end"; first | exact rfl | exact ⟨_, rfl⟩)))
  (k_with "mine:fold" => (((try dsimp only); (try k_fold))))
  (k_with "mine:con9" => ((intro vzw ownzw hzw tkzw Fzw Nzw hlzw rzw; (first | (obtain ⟨ezw, tzw, ezw'⟩ := rzw; subst ezw ezw') | (obtain ⟨ezw, ezw'⟩ := rzw; subst ezw ezw')); clear hlzw; (try simp only [List.nil_append] at Nzw); walk_at "mine:fold")))
  (k_with "mine:conL9" => (((try any_goals ((with_reducible show _ ∈ _); k_mem)); (try any_goals ((with_reducible show StrsAre _ _); assumption)); (try any_goals ((with_reducible show _ ≤ _); first | assumption | omega)); intro vzw ownzw hzw tkzw Fzw Nzw hlzw rzw; obtain ⟨Dzw, vszw, nzw, ezw, ezw', szw, qzw, zzw⟩ := rzw; subst ezw ezw'; (simp only [List.cons_append, List.nil_append] at Nzw); (have hlzw := fun q hq => hlzw _ (List.mem_singleton_self _) q hq); (try dsimp only at hlzw); walk_at "mine:fold")))
  (k_with "mine:for" => ((refine noRaise ?_; (rename Fr _ _ _ _ => lFzw); (with_unfolding_all refine' For_turns lFzw ?_); k_whole)))
  (k_with "mine:calls" => (fail "no contract"))
  (k_with "mine:steps" => (repeat' (first | (k_unfold; (try dsimp only [List.cons_append, List.nil_append])) | (k_end; kc_close) | k_fold | walk1 | (dsimp only; walk1) | ((first | with_reducible show (_ : Value → Shared → Prop) _ _ | with_reducible show (_ : Flow → Shared → Prop) _ _ | with_reducible show (_ : List Value → Shared → Prop) _ _); k_unfold; (try dsimp only [List.cons_append, List.nil_append])) | (leave1; (try dsimp only)) | fail "no step")))
  (k_with "call builtin:issubclass" => ((k_dflt (refine call_issub (News.get (by k_asm) (by k_mem)) ?_); intro tkzw)))
  (k_with "exec For Name Name cons nil" => (walk_at "mine:for"))
  (k_with "exec For Tuple Call cons nil" => (walk_at "mine:for"))
  (k_with "exec For Name Call cons nil" => (walk_at "mine:for"))
  (k_with "call ref" => ((k_here; k_dflt (first | walk_at "mine:calls" | refine Stuck.out ?_))))
  (k_with "eval ListComp" => ((k_here; k_dflt (refine CK.evalL (by k_asm) (by with_unfolding_all rfl) (by decide) (by rfl) (by rfl) (by decide) ?_))))
  (k_with "call builtin:str.split" => ((k_here; k_dflt (refine KSpl.split1 (by k_asm) (by k_asm) (by decide) ?_ (by (refine Nat.le_trans ?_ sizeLine_ge); omega)); intro Dzw lzw hzw kzw ezw azw Fzw Nzw l1zw; (try k_lt l1zw))))
  (k_with "mine:for" => (refine Stuck.out ?_))
  exact trivial
theorem con_cmp {l1 l2 : Addr} {vs1 vs2 : List Value} {n1 n2 : Nat} {xs1 xs2 : List Str} {news : Led} (h1 : (l1, listOf vs1.toArray n1) ∈ news) (h2 : (l2, listOf vs2.toArray n2) ∈ news) (s1 : StrsAre vs1 xs1) (s2 : StrsAre vs2 xs2) (hl1 : xs1.length ≤ 1000) (hl2 : xs2.length ≤ 1000) : Con1 w p loose mean mg mb 203 20 100 news [.ref l1, .ref l2] (GivesB (cmpF xs1 xs2)) := by
  intro dp un gd cn cs a ccd cl A₀ base h₀ L m s Q E B F X N T hk hdp hup hret
  obtain ⟨kd, nms, ig, ic, more⟩ := cs
  cases (show kd = ScopeKind.function from hk)
  refine wpAny_call ?_
  k_dflt (refine' code_raw ?k1 ?k2 ?k3 ?k4 ?k5 ?kA ?kF ?kK ?k6 ?k7 ?k8 ?k9 ?kB ?_ ?c2 ?c3 ?c4 ?c5; (case kA => exact rfl); (case kF => exact rfl); (case kK => exact rfl); (case k1 => k_asm); (case k2 => k_asm); (case k3 => k_asm); (case k4 => k_asm); (case k5 => k_asm); (case k6 => k_is); (case k7 => k_is); (case k8 => k_room); (case k9 => exact BindsTo.of_eq rfl); (case c5 => decide); (case kB => exact locs rfl); (case c2 => exact rfl); (case c3 => exact rfl); (case c4 => exact rfl))
  intro g L' h' FG F' N' B' X' T'
  (try dsimp only)
  k_lift B'
  (try dsimp only)
  (try k_fold)
  k_steps
  unfold Stuck
  k_dflt (ktr_call conU (con_dedu h1 s1 hl1))
  rintro _ _ _ _ F1 N1 ha ⟨D1, v1, k1, rfl, rfl, S1, q1, z1⟩
  simp only [List.cons_append, List.nil_append] at N1
  have hD1 : ∀ q ∈ news, q.1 < D1 := ha _ (.head _)
  clear ha
  (try dsimp only)
  (try k_fold)
  k_steps
  unfold Stuck
  k_dflt (ktr_call conU (con_dedu (.tail _ h2) s2 hl2))
  rintro _ _ _ _ F1 N1 ha ⟨D2, v2, k2, rfl, rfl, S2, q2, z2⟩
  simp only [List.cons_append, List.nil_append] at N1
  clear ha
  (try dsimp only)
  (try k_fold)
  k_steps
  rename _ ∧ _ ∧ AllLt _ news => hlt
  obtain ⟨D, e⟩ := nameA hlt.2.2; subst e
  rename Fr g _ _ _ => F1
  rename News g _ _ _ => N1
  obtain ⟨oL, es, ep, hL, hLd, _, _⟩ := FG.ns
  have hLL : L ≠ L' := Nat.ne_of_lt (Nat.lt_of_lt_of_le (Heap.lt_size hL) F1.above)
  have hLB : (g.hide L).get? L = none := Heap.hide_self g L
  have hL'B : (g.hide L).get? L' = none := Heap.get?_none_of_le (by rw [Heap.hide_size]; exact F1.above)
  have FB := fr_hide F1 L
  have NB : News (g.hide L) L' _ ((D, _) :: (D1, listOf v1.toArray k1) :: (L, oL) :: news) := fun p hp => by
    have N2 := news_hide N1 L
    have eL := F1.keep L oL hL
    simp only [List.mem_cons] at hp
    rcases hp with rfl | rfl | rfl | hp
    · exact N2 _ (.head _)
    · exact N2 _ (.tail _ (.tail _ (.head _)))
    · exact ⟨eL, hLL, hLB⟩
    · exact N2 _ (.tail _ (.tail _ (.tail _ hp)))
  have hDL : L ≠ D := fun q => by have := (N1 _ (.head _)).2.2; rw [← q, hL] at this; cases this
  have hpost : ∀ p ∈ (D1, listOf v1.toArray k1) :: (L, oL) :: news, p.1 ≠ D := fun p hp => by
    simp only [List.mem_cons] at hp
    rcases hp with rfl | rfl | hp
    · exact Nat.ne_of_lt hlt.2.1
    · exact hDL
    · exact Nat.ne_of_lt (allLt_all hlt.2.2 p hp)
  have KB : (hd.heap_39 w.params).In (g.hide L) := fun b o q => hide_some (X' b o q) fun n => by
    have := X b o q
    exact absurd (Heap.lt_size this) (Nat.not_lt.mpr (n ▸ F.above))
  have TB : Top p loose mean mg mb (g.hide L) := T.keeps fun b o q => hide_some (FG.keep b o q) fun n => absurd (Heap.lt_size q) (Nat.not_lt.mpr (n ▸ F.above))
  clear F1 N1
  unfold Stuck
  refine For_turnsR (h₀ := g.hide L) (fun _ _ x => x) ?_
  k_steps
  refine forList (h₀ := g.hide L) (lo := listOf v1.toArray k1) (vs := v1) (fun i m nx => ∃ vs' n' ts, nx = (D, listOf vs'.toArray n') :: (D1, listOf v1.toArray k1) :: (L, oL) :: news ∧ m (Str.ofString "t") = some (.ref D) ∧ StrsAre vs' ts ∧ ts.length ≤ 1000 ∧ rmAll ((dedupL xs1).take i) (dedupL xs2) = some ts) rfl FB NB (.tail _ (.head _)) rfl rfl ?_ ?_ ?_ ?_
  · rintro i m nx ⟨vs', n', ts, rfl, _⟩; exact .tail _ (.head _)
  · exact ⟨_, _, _, rfl, rfl, S2, q2, rfl⟩
  · rintro i v I o m1 nx h tk hv ho hI ⟨vs', n', ts, rfl, hm, hs, hlen, hr⟩ hadr F2 N2
    replace F2 := frShow F2 _ hm
    obtain ⟨x, t0, rfl, hx⟩ := S1.item i v hv
    have hID := ltN (hI _ (.head _))
    have ht : (dedupL xs1).take (i + 1) = (dedupL xs1).take i ++ [x] := by rw [List.take_add_one, hx]; rfl
    have hz : vs'.toArray.size ≤ sizeLine := by rw [List.size_toArray, hs.length]; exact Nat.le_trans hlen (Nat.le_trans (by decide) sizeLine_ge)
    k_steps
    rename Fr _ _ _ _ => F3
    rename News _ _ _ _ => N3
    by_cases hmem : x ∈ ts
    · refine remove_hit (pre := [(I, o)]) F3 N3 (fun p hp => by rw [List.mem_singleton.mp hp]; exact Nat.ne_of_gt hID) hpost hs hz hmem ?_
      intro h4 vs4 F4 S4 N4
      simp only [List.cons_append, List.nil_append] at N4
      clear F3 N3
      k_steps
      refine InvEndN.intro (by k_asm) (by k_asm) ⟨vs4, n' + 1, ts.erase x, rfl, by with_unfolding_all rfl, S4, Nat.le_trans List.length_erase_le hlen, ?_⟩ rfl (by kcj_all) (by kcj_all)
      rw [ht, rmAll_append, hr]
      show rmAll [x] ts = _
      simp [rmAll, hmem]
    · refine remove_miss rfl (pre := [(I, o)]) N3 hs hmem ?_
      intro h4 tk4 e4 hx4
      have hS : ∀ b ∈ [L', L], (g.hide L).get? b = none := fun b hb => by
        simp only [List.mem_cons, List.not_mem_nil, or_false] at hb
        rcases hb with rfl | rfl
        · exact hL'B
        · exact hLB
      have hN3L := (N3 (L, oL) (by simp)).1
      refine caughtV (base := base) rfl ?_ rfl hx4 ?_ ?_
      · obtain ⟨o5, es5, ep5, e5, d5, _⟩ := F3.ns
        refine ⟨(by show ScopeKind.function ≠ ScopeKind.module; decide), ⟨L', o5, rfl, ?_, hx4.keeps _ _ e5, fun vs q => by rw [d5] at q; cases q⟩, B'.frames.of_keeps fun b o q _ => ?_⟩
        · cases q : base.get? L' with
          | none => rfl
          | some o => have := hide_none (g := g) (b := L') (by have := hL'B; rw [Heap.hide_ne g (Ne.symm hLL)] at this; exact this) L; have q' := B'.stays _ _ q; rw [Heap.hide_ne g (Ne.symm hLL), q'] at this; cases this
        · by_cases n : b = L
          · subst n
            rw [hL] at q; cases q
            exact ⟨_, hx4.keeps _ _ hN3L, rfl⟩
          · exact ⟨_, hx4.keeps _ _ (F3.keep _ _ (hide_some q n)), rfl⟩
      · intro h5 K5 Q5 hq5
        have F5 := fr_keepBut F3 K5 hS
        clear F3 N3
        k_steps
        exact hq5
      · intro h5 K5
        have F5 := fr_keepBut F3 K5 hS
        have hout := outL FG N F5.keep (fun o q => by rw [hL] at q; cases q; exact K5.2 L oL hN3L (.tail _ (.head _))) (fun p hp => by
          have z := N3 p (by simp [hp])
          refine K5.1 _ _ z.1 fun q => ?_
          have q' : p.1 ∈ [L', L] := q
          simp only [List.mem_cons, List.not_mem_nil, or_false] at q'
          rcases q' with q' | q'
          · exact z.2.1 q'
          · exact (N p hp).2.1 q')
        clear F3 N3
        k_steps
        exact Or.inr (hret _ [] _ _ hout.1 hout.2 (fun _ q => nomatch q) ⟨rfl, congrArg Value.bool (cmpF_false (rmAll_none hr hx hmem))⟩)
  · rintro m1 nx h tk ⟨vs', n', ts, rfl, hm, hs, hlen, hr⟩ F2 N2
    replace F2 := frShow F2 _ hm
    k_steps
    refine wpAny_truthy_list (News.isList N2 (.head _)) (by rw [List.size_toArray, hs.length]; omega) ?_
    rw [List.take_of_length_le (Nat.le_of_eq S1.length.symm)] at hr
    have hout := outL FG N F2.keep (fun o q => by rw [hL] at q; cases q; exact ⟨oL.slots, (N2 (L, oL) (by simp)).1⟩) (fun p hp => (N2 p (by simp [hp])).1)
    exact Or.inr (hret _ [] _ _ hout.1 hout.2 (fun _ q => nomatch q) ⟨rfl, congrArg Value.bool (cmpF_some hr hs)⟩)
end
section
theorem lines16 : True := by
  w_top off
  k_with_none
  (k_with "mine:kall" => (first | exact ne_of_lts (by assumption) | exact ne_of_lts1 (by assumption) | exact ne_of_lts2 (by assumption) | exact ne_of_lts3 (by assumption)))
  (k_with "mine:mem" => (first | (with_reducible apply List.Mem.head) | ((with_reducible apply List.Mem.tail); walk_at "mine:mem")))
  (k_with "mine:tail" => (first | (with_reducible assumption) | ((with_reducible apply List.Mem.tail); walk_at "mine:tail")))
  (k_with "mine:all" => (first | (with_reducible apply List.forall_mem_nil) | (intro pzw hzw; with_reducible assumption) | ((with_reducible apply List.forall_mem_cons.mpr); refine ⟨by walk_at "mine:mem", ?_⟩; walk_at "mine:all") | (intro pzw hzw; walk_at "mine:tail")))
  (k_with "mine:kind" => (first | exact rfl | assumption))
  (k_with "mine:con" => ((intro dpzw unzw gdzw cnzw cszw azw ccdzw clzw outerzw Azw basezw hzw Lzw mzw szw Qzw Ezw Bzw Fzw Xzw Nzw Tzw hkzw hdzw huzw hretzw; obtain ⟨kdzw, nmszw, igzw, iczw, morezw⟩ := cszw; cases (show kdzw = ScopeKind.function from hkzw); refine wpAny_call ?_; k_dflt k_enter)))
  (k_with "mine:news" => (first | k_asm | exact cb_drop (by k_asm) (by kcj_all)))
  (k_with "mine:end" => ((rename ∀ v own h' tk', Fr _ _ h' _ → _ → _ → _ → _ => hretzw; refine give0 hretzw (by k_asm) (by walk_at "mine:news") ⟨rfl, ?_⟩)))
  (k_with "mine:ret" => ((walk_at "mine:end"; first | exact rfl | exact ⟨_, rfl⟩)))
  (k_with "mine:fold" => (((try dsimp only); (try k_fold))))
  (k_with "mine:con9" => ((intro vzw ownzw hzw tkzw Fzw Nzw hlzw rzw; (first | (obtain ⟨ezw, tzw, ezw'⟩ := rzw; subst ezw ezw') | (obtain ⟨ezw, ezw'⟩ := rzw; subst ezw ezw')); clear hlzw; (try simp only [List.nil_append] at Nzw); walk_at "mine:fold")))
  (k_with "mine:conL9" => (((try any_goals ((with_reducible show _ ∈ _); k_mem)); (try any_goals ((with_reducible show StrsAre _ _); assumption)); (try any_goals ((with_reducible show _ ≤ _); first | assumption | omega)); intro vzw ownzw hzw tkzw Fzw Nzw hlzw rzw; obtain ⟨Dzw, vszw, nzw, ezw, ezw', szw, qzw, zzw⟩ := rzw; subst ezw ezw'; (simp only [List.cons_append, List.nil_append] at Nzw); (have hlzw := fun q hq => hlzw _ (List.mem_singleton_self _) q hq); (try dsimp only at hlzw); walk_at "mine:fold")))
  (k_with "mine:for" => ((refine noRaise ?_; (rename Fr _ _ _ _ => lFzw); (with_unfolding_all refine' For_turns lFzw ?_); k_whole)))
  (k_with "mine:calls" => (fail "no contract"))
  (k_with "mine:steps" => (repeat' (first | (k_unfold; (try dsimp only [List.cons_append, List.nil_append])) | (k_end; kc_close) | k_fold | walk1 | (dsimp only; walk1) | ((first | with_reducible show (_ : Value → Shared → Prop) _ _ | with_reducible show (_ : Flow → Shared → Prop) _ _ | with_reducible show (_ : List Value → Shared → Prop) _ _); k_unfold; (try dsimp only [List.cons_append, List.nil_append])) | (leave1; (try dsimp only)) | fail "no step")))
  (k_with "call builtin:issubclass" => ((k_dflt (refine call_issub (News.get (by k_asm) (by k_mem)) ?_); intro tkzw)))
  (k_with "exec For Name Name cons nil" => (walk_at "mine:for"))
  (k_with "exec For Tuple Call cons nil" => (walk_at "mine:for"))
  (k_with "exec For Name Call cons nil" => (walk_at "mine:for"))
  (k_with "call ref" => ((k_here; k_dflt (first | walk_at "mine:calls" | refine Stuck.out ?_))))
  (k_with "eval ListComp" => ((k_here; k_dflt (refine CK.evalL (by k_asm) (by with_unfolding_all rfl) (by decide) (by rfl) (by rfl) (by decide) ?_))))
  (k_with "call builtin:str.split" => ((k_here; k_dflt (refine KSpl.split1 (by k_asm) (by k_asm) (by decide) ?_ (by (refine Nat.le_trans ?_ sizeLine_ge); omega)); intro Dzw lzw hzw kzw ezw azw Fzw Nzw l1zw; (try k_lt l1zw))))
  (k_with "getMethod type:dict" => ((k_here; k_dflt (refine FK.getm (by k_asm) (by k_asm) (by k_asm) (by k_is) ?_; k_whole; intro xzw hzw Fzw Nzw l1zw; (try k_lt l1zw); (try k_sweep)))))
  (k_with "callWith ref" => ((k_here; (with_reducible show wpAny _ _ (callWith _ (Value.ref _) _ (backTo _ (starEach (_ :: _) _)) []) _ _ _); k_dflt (refine FK.callWith_bound (by k_asm) (by exact .head _) ?_; k_whole))))
  (k_with "And" => (((with_reducible show FK.StandsAt _ _ ∧ _); k_dflt (refine ⟨FK.at_of (by k_asm) (.head _), ?_⟩); (try dsimp only [List.nil_append, List.cons_append]))))
  exact trivial
section
abbrev GivesDict (xs : List Str) (w : World) (v : Value) (own : Led) : Prop := ∃ r o, v = .ref r ∧ own = [(r, o)] ∧ o.IsDictOf (PySem.strKind MP w) (FK.kvs xs)
theorem con_dedk {l : Addr} {vs : List Value} {n : Nat} {xs : List Str} {news : Led} (hl : (l, listOf vs.toArray n) ∈ news) (s1 : StrsAre vs xs) (hl1 : xs.length ≤ 1000) : Con w p loose mean mg mb 189 8 60 news [.ref l] (GivesDict xs w) := by
  walk_at "mine:con"
  walk_at "mine:steps"
  rename Fr _ _ _ _ => F1
  rename News _ _ _ _ => N1
  rename ∀ v own h' tk', Fr _ _ h' _ → _ → _ → _ → _ => hret
  refine Stuck.use ?_
  refine FK.tree rfl F1 N1 (.head _) (.tail _ hl) s1 hl1 ?_
  intro d o h2 tk2 F2 N2 hd2 ho
  walk_at "mine:steps"
  rename News _ _ _ ((_, o) :: _) => N3
  exact hret _ [(d, o)] _ _ (by k_asm) (N3.perm fun q hq => by
    rcases List.mem_cons.mp hq with rfl | hq
    · exact .head _
    · exact .tail _ (.tail _ hq)) (fun p hp q hq => by rw [List.mem_singleton.mp hp]; exact hd2 q (.tail _ hq)) ⟨d, o, rfl, rfl, ho⟩
end
end
section
theorem lines17 : True := by
  w_top off
  k_with_none
  (k_with "mine:kall" => (first | exact ne_of_lts (by assumption) | exact ne_of_lts1 (by assumption) | exact ne_of_lts2 (by assumption) | exact ne_of_lts3 (by assumption)))
  (k_with "mine:mem" => (first | (with_reducible apply List.Mem.head) | ((with_reducible apply List.Mem.tail); walk_at "mine:mem")))
  (k_with "mine:tail" => (first | (with_reducible assumption) | ((with_reducible apply List.Mem.tail); walk_at "mine:tail")))
  (k_with "mine:all" => (first | (with_reducible apply List.forall_mem_nil) | (intro pzw hzw; with_reducible assumption) | ((with_reducible apply List.forall_mem_cons.mpr); refine ⟨by walk_at "mine:mem", ?_⟩; walk_at "mine:all") | (intro pzw hzw; walk_at "mine:tail")))
  (k_with "mine:kind" => (first | exact rfl | assumption))
  (k_with "mine:con" => ((intro dpzw unzw gdzw cnzw cszw azw ccdzw clzw outerzw Azw basezw hzw Lzw mzw szw Qzw Ezw Bzw Fzw Xzw Nzw Tzw hkzw hdzw huzw hretzw; obtain ⟨kdzw, nmszw, igzw, iczw, morezw⟩ := cszw; cases (show kdzw = ScopeKind.function from hkzw); refine wpAny_call ?_; k_dflt k_enter)))
  (k_with "mine:news" => (first | k_asm | exact cb_drop (by k_asm) (by kcj_all)))
  (k_with "mine:end" => ((rename ∀ v own h' tk', Fr _ _ h' _ → _ → _ → _ → _ => hretzw; refine give0 hretzw (by k_asm) (by walk_at "mine:news") ⟨rfl, ?_⟩)))
  (k_with "mine:ret" => ((walk_at "mine:end"; first | exact rfl | exact ⟨_, rfl⟩)))
  (k_with "mine:fold" => (((try dsimp only); (try k_fold))))
  (k_with "mine:con9" => ((intro vzw ownzw hzw tkzw Fzw Nzw hlzw rzw; (first | (obtain ⟨ezw, tzw, ezw'⟩ := rzw; subst ezw ezw') | (obtain ⟨ezw, ezw'⟩ := rzw; subst ezw ezw')); clear hlzw; (try simp only [List.nil_append] at Nzw); walk_at "mine:fold")))
  (k_with "mine:conL9" => (((try any_goals ((with_reducible show _ ∈ _); k_mem)); (try any_goals ((with_reducible show StrsAre _ _); assumption)); (try any_goals ((with_reducible show _ ≤ _); first | assumption | omega)); intro vzw ownzw hzw tkzw Fzw Nzw hlzw rzw; obtain ⟨Dzw, vszw, nzw, ezw, ezw', szw, qzw, zzw⟩ := rzw; subst ezw ezw'; (simp only [List.cons_append, List.nil_append] at Nzw); (have hlzw := fun q hq => hlzw _ (List.mem_singleton_self _) q hq); (try dsimp only at hlzw); walk_at "mine:fold")))
  (k_with "mine:for" => ((refine noRaise ?_; (rename Fr _ _ _ _ => lFzw); (with_unfolding_all refine' For_turns lFzw ?_); k_whole)))
  (k_with "mine:calls" => (fail "no contract"))
  (k_with "mine:steps" => (repeat' (first | (k_unfold; (try dsimp only [List.cons_append, List.nil_append])) | (k_end; kc_close) | k_fold | walk1 | (dsimp only; walk1) | ((first | with_reducible show (_ : Value → Shared → Prop) _ _ | with_reducible show (_ : Flow → Shared → Prop) _ _ | with_reducible show (_ : List Value → Shared → Prop) _ _); k_unfold; (try dsimp only [List.cons_append, List.nil_append])) | (leave1; (try dsimp only)) | fail "no step")))
  (k_with "call builtin:issubclass" => ((k_dflt (refine call_issub (News.get (by k_asm) (by k_mem)) ?_); intro tkzw)))
  (k_with "exec For Name Name cons nil" => (walk_at "mine:for"))
  (k_with "exec For Tuple Call cons nil" => (walk_at "mine:for"))
  (k_with "exec For Name Call cons nil" => (walk_at "mine:for"))
  (k_with "call ref" => ((k_here; k_dflt (first | walk_at "mine:calls" | refine Stuck.out ?_))))
  (k_with "eval ListComp" => ((k_here; k_dflt (refine CK.evalL (by k_asm) (by with_unfolding_all rfl) (by decide) (by rfl) (by rfl) (by decide) ?_))))
  (k_with "call builtin:str.split" => ((k_here; k_dflt (refine KSpl.split1 (by k_asm) (by k_asm) (by decide) ?_ (by (refine Nat.le_trans ?_ sizeLine_ge); omega)); intro Dzw lzw hzw kzw ezw azw Fzw Nzw l1zw; (try k_lt l1zw))))
  (k_with "exec Try" => (((with_reducible show wpAny _ _ (exec (Stmt.Try _ (_ :: _) _ [] _) _) _ _ _); refine wpAny_Try_except ?_)))
  (k_with "mine:calls" => (first | ktr_call con con_fspath | ktr_call con con_getsep))
  (k_with "call type:map" => ((k_here; k_dflt (refine MapK.make (by k_asm) (by k_asm) (News.isList (by k_asm) (by k_mem)) ?_; intro Izw Tzw Zzw hzw Fzw Nzw l1zw l2zw l3zw))))
  (k_with "exec Assign cons ListComp" => ((k_here; k_dflt (refine CK.assignL (by k_asm) (by rfl) (by with_unfolding_all rfl) (by rfl) (by decide) (by rfl) (by rfl) (by decide) (by rfl) (by rfl) ?_))))
  (k_with "eval SetComp" => ((k_here; k_dflt (refine SC.evalS (by k_asm) (by with_unfolding_all rfl) (by decide) (by rfl) (by rfl) (by decide) ?_))))
  (k_with "subscriptTail Name Name ref int" => ((k_here; k_dflt (refine item_strsR (by is_list) (by assumption) (by omega) (by omega) (by omega) ?_); intro tzw)))
  (k_with "subscriptTail Name Slice ref ref" => ((k_here; k_dflt (refine slice_list (by assumption) (by assumption) (News.isList (by assumption) (by first | exact .head _ | exact .tail _ (.head _) | exact .tail _ (.tail _ (.head _)) | exact .tail _ (.tail _ (.tail _ (.head _))))) (by first | exact .none | exact .int _ _) (by first | exact .none | exact .int _ _) ?_); intro _ _ _)))
  (k_with "call builtin:min" => ((k_here; k_dflt (refine Stuck.out ?_))))
  (k_with "call builtin:max" => ((k_here; k_dflt (refine Stuck.out ?_))))
  (k_with "truthy str" => ((refine SBL.truthy (by omega) ?_)))
  (k_with "assign Tuple" => ((k_here; k_dflt (refine SC.assign1 (by k_asm) (by k_asm) (by exact rfl) (by assumption) (by rfl) (by rfl) ?_); intro hzw Fzw Nzw; (try k_sweep))))
  exact trivial
theorem offCons {a I C D : Addr} {o : Obj} {base : Led} {R : Prop} (l : I < a ∧ C < a ∧ D < a ∧ R) (off : ∀ p ∈ base, p.1 ≠ I ∧ p.1 ≠ C ∧ p.1 ≠ D) : ∀ p ∈ (a, o) :: base, p.1 ≠ I ∧ p.1 ≠ C ∧ p.1 ≠ D := by
  intro p hp
  rcases List.mem_cons.mp hp with rfl | hp
  · exact ⟨Nat.ne_of_gt l.1, Nat.ne_of_gt l.2.1, Nat.ne_of_gt l.2.2.1⟩
  · exact off p hp
def keepC (c : Str) : Bool := ((c.length : Int) != 0) && !(c == Str.ofString ".")
theorem keep_step {px : List Str} {i : Nat} {z : Str} (hz : px[i]? = some z) : (px.take (i + 1)).filter keepC = (px.take i).filter keepC ++ (if keepC z then [z] else []) := by
  rw [List.take_add_one, hz, List.filter_append]
  cases h : keepC z <;> simp [h]
theorem keep_yes {px : List Str} {i : Nat} {z : Str} {t : Tok} {ys : List Value} (hz : px[i]? = some z) (h0 : (z.length : Int) ≠ 0) (h1 : (z != Str.ofString ".") = true) (su : StrsAre ys ((px.take i).filter keepC)) : StrsAre (ys ++ [.str z t]) ((px.take (i + 1)).filter keepC) := by
  have hk : keepC z = true := by unfold keepC; rw [show ((z.length : Int) != 0) = true by simpa using h0, show (!(z == Str.ofString ".")) = true from h1]; rfl
  rw [keep_step hz, hk]
  rw [if_pos rfl]
  exact StrsAre.append' su (show StrsAre [Value.str z t] [z] by first | exact ⟨rfl, trivial⟩ | exact StrsAre.cons _ _ StrsAre.nil | (constructor; constructor) | simp [StrsAre])
theorem keep_no1 {px : List Str} {i : Nat} {z : Str} {ys : List Value} (hz : px[i]? = some z) (h1 : (z != Str.ofString ".") = false) (su : StrsAre ys ((px.take i).filter keepC)) : StrsAre ys ((px.take (i + 1)).filter keepC) := by
  have hk : keepC z = false := by unfold keepC; rw [show (!(z == Str.ofString ".")) = false from h1, Bool.and_false]
  rw [keep_step hz, hk]
  simpa using su
theorem keep_no2 {px : List Str} {i : Nat} {z : Str} {ys : List Value} (hz : px[i]? = some z) (h0 : (z.length : Int) = 0) (su : StrsAre ys ((px.take i).filter keepC)) : StrsAre ys ((px.take (i + 1)).filter keepC) := by
  have hk : keepC z = false := by unfold keepC; rw [h0]; rfl
  rw [keep_step hz, hk]
  simpa using su
theorem keep_all {px : List Str} {vs ys : List Value} (st : StrsAre vs px) (su : StrsAre ys ((px.take vs.toArray.size).filter keepC)) : StrsAre ys (px.filter keepC) := by
  rwa [List.take_of_length_le (by rw [List.size_toArray, StrsAre.length st]; exact Nat.le_refl _)] at su
theorem offCons2 {a I C D : Addr} {o oI oC oD : Obj} {base : Led} (l : ∀ p ∈ (I, oI) :: (C, oC) :: (D, oD) :: base, p.1 ≠ a) (off : ∀ p ∈ base, p.1 ≠ I ∧ p.1 ≠ C ∧ p.1 ≠ D) : ∀ p ∈ (a, o) :: base, p.1 ≠ I ∧ p.1 ≠ C ∧ p.1 ≠ D := by
  intro p hp
  rcases List.mem_cons.mp hp with rfl | hp
  · exact ⟨Ne.symm (l _ (.head _)), Ne.symm (l _ (.tail _ (.head _))), Ne.symm (l _ (.tail _ (.tail _ (.head _))))⟩
  · exact off p hp
theorem sum_le {xs : List Str} (hl : xs.length ≤ 1000) (hb : ∀ c ∈ xs, c.length ≤ 1000) : (xs.map (·.length)).sum + xs.length * (Str.ofString "/").length ≤ 16777216 := by
  have : ∀ ys : List Str, (∀ c ∈ ys, c.length ≤ 1000) → (ys.map (·.length)).sum ≤ ys.length * 1000 := by
    intro ys
    induction ys with
    | nil => intro _; simp
    | cons y ys ih =>
      intro h
      have h1 := h y List.mem_cons_self
      have h2 := ih fun c hc => h c (List.mem_cons_of_mem _ hc)
      simp only [List.map_cons, List.sum_cons, List.length_cons]
      omega
  have h := this xs hb
  have e : (Str.ofString "/").length = 1 := by decide
  rw [e]
  omega
theorem slice_pre (vs : List Value) (i : Nat) : slicePick vs.toArray none (some (i : Int)) none = (vs.take i).toArray := by
  have e : sliceBounds none (some (i : Int)) none vs.toArray.size = (((0 : Nat) : Int), ((min i vs.toArray.size : Nat) : Int), 1) := by
    simp only [sliceBounds, Option.getD_none, show (1 : Int) > 0 by decide, if_true, if_neg (show ¬ ((i : Int) < 0) by omega)]
    congr 1
    congr 1
    omega
  rw [kmk_pick_nat _ e]
  show ((vs.drop 0).take (min i vs.toArray.size - 0)).toArray = _
  rw [List.drop_zero, Nat.sub_zero, List.size_toArray, kmk_take_min]
theorem join_len {xs : List Str} (hl : xs.length ≤ 1000) (hb : ∀ c ∈ xs, c.length ≤ 1000) : (Str.ofString "/").length + (Txt.join (Str.ofString "/") xs).length ≤ sizeLine := by
  have h := sum_le hl hb
  have e : (Str.ofString "/").length = 1 := by decide
  have g : (Txt.join (Str.ofString "/") xs).length = (xs.map (·.length)).sum + (xs.length - 1) * (Str.ofString "/").length := size_glued _ _
  rw [g, sizeLine_eq, e]
  have : ∀ ys : List Str, (∀ c ∈ ys, c.length ≤ 1000) → (ys.map (·.length)).sum ≤ ys.length * 1000 := by
    intro ys
    induction ys with
    | nil => intro _; simp
    | cons y ys ih =>
      intro h
      have h1 := h y List.mem_cons_self
      have h2 := ih fun c hc => h c (List.mem_cons_of_mem _ hc)
      simp only [List.map_cons, List.sum_cons, List.length_cons]
      omega
  have := this xs hb
  omega
theorem pickL {b : Bool} {q1 q2 : Addr} {us1 us2 : List Value} {k1 k2 : Nat} {xs ys : List Str} (s1 : StrsAre us1 xs) (s2 : StrsAre us2 ys) :
    ∃ qa ua ka, (if b = true then Value.ref q2 else .ref q1) = .ref qa ∧ (qa, listOf ua.toArray ka) ∈ [(q2, listOf us2.toArray k2), (q1, listOf us1.toArray k1)] ∧ StrsAre ua (if b = true then ys else xs) := by
  cases b with
  | true => exact ⟨_, _, _, rfl, .head _, s2⟩
  | false => exact ⟨_, _, _, rfl, .tail _ (.head _), s1⟩
theorem pickN {h₀ h : Heap} {L D q1 q2 qa qb : Addr} {o o1 o2 oa ob : Obj} {rest : Led} (N : News h₀ L h ((D, o) :: (q2, o2) :: (q1, o1) :: rest)) (ma : (qa, oa) ∈ [(q2, o2), (q1, o1)]) (mb : (qb, ob) ∈ [(q2, o2), (q1, o1)]) :
    News h₀ L h ((qa, oa) :: (qb, ob) :: rest) := by
  have up : ∀ p, p ∈ [(q2, o2), (q1, o1)] → p ∈ (D, o) :: (q2, o2) :: (q1, o1) :: rest := by
    intro p hp
    rcases List.mem_cons.mp hp with rfl | hp
    · exact .tail _ (.head _)
    · rw [List.mem_singleton.mp hp]; exact .tail _ (.tail _ (.head _))
  intro p hp
  rcases List.mem_cons.mp hp with rfl | hp
  · exact N _ (up _ ma)
  · rcases List.mem_cons.mp hp with rfl | hp
    · exact N _ (up _ mb)
    · exact N _ (.tail _ (.tail _ (.tail _ hp)))
section
set_option maxHeartbeats 8000000 in
theorem con_common {l : Addr} {x y : Str} {t1 t2 : Tok} {n : Nat} {news : Led} (hl : (l, listOf #[Value.str x t1, Value.str y t2] n) ∈ news) (hx : x.length ≤ 1000) (hy : y.length ≤ 1000) (sx : Txt.startswith x (Str.ofString "/") = true) (sy : Txt.startswith y (Str.ofString "/") = true) {px py : List Str} (hpx : Txt.split x (Str.ofString "/") = px) (hpy : Txt.split y (Str.ofString "/") = py) (lpx : px.length ≤ 1000) (lpy : py.length ≤ 1000) (bpx : ∀ c ∈ px, c.length ≤ 1000) (bpy : ∀ c ∈ py, c.length ≤ 1000) : Con w p loose mean mg mb 134 8 60 news [.ref l] (fun v own => own = [] ∧ ∃ t, v = Value.str (Str.ofString "/" ++ Txt.join (Str.ofString "/") (MM.lcp (px.filter keepC) (py.filter keepC))) t) := by
  walk_at "mine:con"
  walk_at "mine:steps"
  rename Fr _ _ _ _ => F1
  rename News _ _ _ _ => N1
  rename ∀ v own h' tk', Fr _ _ h' _ → _ → _ → _ → _ => hret
  refine MapK.tuple_map (P := fun i r => ∃ z t, [x, y][i]? = some z ∧ r = Value.str z t) rfl (.tail _ (.tail _ hl)) (Nat.le_trans (show 2 ≤ 100000 by decide) sizeLine_ge) F1 N1 (by assumption) (by assumption) (by k_all) ?_ ?_
  · intro i v h tk nx Q E hv F2 N2 k2
    obtain ⟨z, t, rfl, hz, hzl⟩ : ∃ z t, v = Value.str z t ∧ [x, y][i]? = some z ∧ z.length ≤ 1000 := by
      rcases i with _ | _ | i
      · cases hv; exact ⟨_, _, rfl, rfl, hx⟩
      · cases hv; exact ⟨_, _, rfl, rfl, hy⟩
      · cases hv
    ktr_call conU (con_fspath (x := z))
    rintro v own h' tk' F3 N3 _ ⟨rfl, t', rfl⟩
    exact k2 _ _ _ F3 N3 ⟨z, t', hz, rfl⟩
  · intro r h' tk' acc F2 N2 hr hacc
    obtain ⟨ta, tb, rfl⟩ := MapK.two hacc
    (try k_lt hr)
    (try k_sweep)
    walk_at "mine:steps"
    rename Fr _ _ _ _ => F3
    rename News _ _ _ _ => N3
    obtain ⟨base, hb⟩ := nameLed N3
    refine CK.OkL.intro (fun i ys nw => (i = 0 ∧ ys = [] ∧ nw = base) ∨ (i = 1 ∧ ∃ r1 vs1 n1, ys = [Value.ref r1] ∧ nw = (r1, listOf vs1.toArray n1) :: base ∧ StrsAre vs1 px) ∨ (i = 2 ∧ ∃ r1 vs1 n1 r2 vs2 n2, ys = [Value.ref r1, Value.ref r2] ∧ nw = (r2, listOf vs2.toArray n2) :: (r1, listOf vs1.toArray n1) :: base ∧ StrsAre vs1 px ∧ StrsAre vs2 py ∧ r1 < r2))
      (CK.srcTuple rfl N3 (.head _) rfl rfl) (Nat.le_trans (show 2 ≤ 100000 by decide) sizeLine_ge) F3 N3 (.head _) (.inl ⟨rfl, rfl, hb.symm⟩) ?_ ?_
    · intro i v I oI C oC D m₂ ys nw h tk E' hi hv hyl hJ hS hoC hx2 F4 N4 off hIC hID hCD
      refine wpAny_tests_nil ?_
      simp only [if_true]
      rcases hJ with ⟨rfl, rfl, rfl⟩ | ⟨rfl, r1, vs1, n1, rfl, rfl, st1⟩ | ⟨rfl, _⟩
      · have hv2 : some (Value.str x ta) = some v := hv
        cases hv2
        clear hv
        subst hb
        walk_at "mine:steps"
        rename StrsAre _ _ => a'
        rename _ = Txt.split _ _ => e'
        rename News _ _ _ _ => N5
        rename Fr _ _ _ _ => F5
        rw [e', hpx] at a'
        rename I < _ ∧ _ => lD
        exact CK.EndL.intro F5 N5 _ (by kcj_all) (offCons lD off) (.tail _ hS) (.inr (.inl ⟨rfl, _, _, _, rfl, rfl, a'⟩))
      · have hv2 : some (Value.str y tb) = some v := hv
        cases hv2
        clear hv
        subst hb
        walk_at "mine:steps"
        rename StrsAre (strValues _) _ => a'
        rename _ = Txt.split _ _ => e'
        rename News _ _ _ _ => N5
        rename Fr _ _ _ _ => F5
        rw [e', hpy] at a'
        rename I < _ ∧ _ => lD
        exact CK.EndL.intro F5 N5 _ (by kcj_all) (offCons lD off) (.tail _ hS) (.inr (.inr ⟨rfl, _, _, _, _, _, _, rfl, rfl, st1, a', lD.2.2.2.1⟩))
      · exact absurd hi (by simp)
    · intro ys nw hJ D h tk F4 N4 off4
      rcases hJ with ⟨hj, _⟩ | ⟨hj, _⟩ | ⟨_, r1, vs1, n1, r2, vs2, n2, rfl, rfl, st1, st2, r12⟩
      · exact absurd hj (by simp)
      · exact absurd hj (by simp)
      have mr := off4 _ (.head _)
      have mr1 := off4 _ (.tail _ (.head _))
      subst hb
      walk_at "mine:steps"
      obtain ⟨base2, hb2⟩ := nameLed N4
      rename Fr _ _ _ _ => F5
      rename News _ _ _ _ => N5
      refine SC.OkS.intro (fun i nw => nw = base2) (CK.srcTuple rfl N5 (.tail _ (.tail _ (.tail _ (.head _)))) rfl rfl) F5 N5 (.tail _ (.tail _ (.tail _ (.head _)))) hb2.symm ?_ ?_
      · intro i v I oI C oC D' oD m₂ nw h tk E' hi hv hJ hS hoC hx2 F6 N6 off hIC hID hCD
        obtain rfl := hJ
        subst hb2
        obtain ⟨z, t, rfl, sz⟩ : ∃ z t, v = Value.str z t ∧ Txt.startswith z (Str.ofString "/") = true := by
          rcases i with _ | _ | i
          · cases hv; exact ⟨_, _, rfl, sx⟩
          · cases hv; exact ⟨_, _, rfl, sy⟩
          · cases hv
        walk_at "mine:steps"
        · rw [sz]
        · exact SC.EndS.intro F6 N6 _ (fun p hp => hp) off hS rfl
      · intro nw hJ D' h tk F6 N6 off6
        obtain rfl := hJ
        subst hb2
        rw [show SC.so (SC.ledOf w) (decide (0 < #[Value.str x ta, Value.str y tb].size)) = SC.so (SC.ledOf w) true from rfl] at N6
        generalize hso : SC.so (SC.ledOf w) true = oS at N6
        have ms : h.get? D' = some (SC.so (SC.ledOf w) true) := hso ▸ N6.get (.head _)
        walk_at "mine:steps"
        have mr2 := off4 _ (.tail _ (.tail _ (.head _)))
        clear ms hso off4 off6 mr mr1
        rename Fr _ _ _ _ => F7
        rename News _ _ _ _ => N7
        obtain ⟨base3, hb3⟩ := nameLed N7
        refine CK.OkL.intro (fun i ys nw => (i = 0 ∧ ys = [] ∧ nw = base3) ∨ (i = 1 ∧ ∃ q1 us1 n1, ys = [Value.ref q1] ∧ nw = (q1, listOf us1.toArray n1) :: base3 ∧ StrsAre us1 (px.filter keepC)) ∨ (i = 2 ∧ ∃ q1 us1 n1 q2 us2 n2, ys = [Value.ref q1, Value.ref q2] ∧ nw = (q2, listOf us2.toArray n2) :: (q1, listOf us1.toArray n1) :: base3 ∧ StrsAre us1 (px.filter keepC) ∧ StrsAre us2 (py.filter keepC)))
          (CK.srcList rfl N7 (.tail _ (.head _)) rfl rfl) (Nat.le_trans (show 2 ≤ 100000 by decide) sizeLine_ge) F7 N7 (.tail _ (.head _)) (.inl ⟨rfl, rfl, hb3.symm⟩) ?_ ?_
        · intro i v I oI C oC D2 m₂ ys nw h tk E' hi hv hyl hJ hS hoC hx2 F4 N4 off hIC hID hCD
          refine wpAny_tests_nil ?_
          simp only [if_true]
          rcases hJ with ⟨rfl, rfl, rfl⟩ | ⟨rfl, q1, us1, k1, rfl, rfl, su1⟩ | ⟨rfl, _⟩
          · have hv2 : some (Value.ref r1) = some v := hv
            cases hv2
            clear hv
            subst hb3
            walk_at "mine:steps"
            rename Fr _ _ _ _ => F8
            rename News _ _ _ _ => N8
            obtain ⟨base4, hb4⟩ := nameLed N8
            refine CK.OkL.intro (fun i ys nw => nw = base4 ∧ StrsAre ys ((px.take i).filter keepC))
              (CK.srcList rfl N8 (.tail _ (.tail _ (.tail _ (.tail _ (.tail _ (.tail _ (.head _))))))) rfl rfl) (by rw [List.size_toArray, StrsAre.length st1]; exact Nat.le_trans (Nat.le_trans lpx (by decide)) sizeLine_ge) F8 N8 (.tail _ (.tail _ (.tail _ (.tail _ (.tail _ (.tail _ (.head _))))))) ⟨hb4.symm, .nil⟩ ?_ ?_
            · intro i v I2 oI2 C2 oC2 D3 m₃ ys nw h tk E2 hi2 hv2 hyl2 hJ2 hS2 hoC2 hx3 F9 N9 off2 hIC2 hID2 hCD2
              obtain ⟨rfl, su⟩ := hJ2
              obtain ⟨z, t, rfl, hz⟩ := StrsAre.item st1 i v (by simpa using hv2)
              subst hb4
              have bz : z.length ≤ 1000 := bpx z (List.mem_of_getElem? hz)
              refine wpAny_tests_one ?_
              walk_at "mine:steps"
              all_goals exact CK.EndL.intro F9 N9 _ (fun p hp => hp) off2 hS2 ⟨rfl, by first | exact keep_yes hz (by assumption) (by assumption) su | exact keep_no1 hz (by assumption) su | exact keep_no2 hz (by assumption) su⟩
            · intro ys nw hJ2 D3 h tk F9 N9 off2
              obtain ⟨rfl, su⟩ := hJ2
              subst hb4
              exact CK.EndL.intro F9 N9 _ (by kcj_all) (offCons2 off2 off) (.tail _ hS) (.inr (.inl ⟨rfl, _, _, _, rfl, rfl, keep_all st1 su⟩))
          · have hv2 : some (Value.ref r2) = some v := hv
            cases hv2
            clear hv
            subst hb3
            walk_at "mine:steps"
            rename Fr _ _ _ _ => F8
            rename News _ _ _ _ => N8
            obtain ⟨base4, hb4⟩ := nameLed N8
            refine CK.OkL.intro (fun i ys nw => nw = base4 ∧ StrsAre ys ((py.take i).filter keepC))
              (CK.srcList rfl N8 (.tail _ (.tail _ (.tail _ (.tail _ (.tail _ (.tail _ (.head _))))))) rfl rfl) (by rw [List.size_toArray, StrsAre.length st2]; exact Nat.le_trans (Nat.le_trans lpy (by decide)) sizeLine_ge) F8 N8 (.tail _ (.tail _ (.tail _ (.tail _ (.tail _ (.tail _ (.head _))))))) ⟨hb4.symm, .nil⟩ ?_ ?_
            · intro i v I2 oI2 C2 oC2 D3 m₃ ys nw h tk E2 hi2 hv2 hyl2 hJ2 hS2 hoC2 hx3 F9 N9 off2 hIC2 hID2 hCD2
              obtain ⟨rfl, su⟩ := hJ2
              obtain ⟨z, t, rfl, hz⟩ := StrsAre.item st2 i v (by simpa using hv2)
              subst hb4
              have bz : z.length ≤ 1000 := bpy z (List.mem_of_getElem? hz)
              refine wpAny_tests_one ?_
              walk_at "mine:steps"
              all_goals exact CK.EndL.intro F9 N9 _ (fun p hp => hp) off2 hS2 ⟨rfl, by first | exact keep_yes hz (by assumption) (by assumption) su | exact keep_no1 hz (by assumption) su | exact keep_no2 hz (by assumption) su⟩
            · intro ys nw hJ2 D3 h tk F9 N9 off2
              obtain ⟨rfl, su⟩ := hJ2
              subst hb4
              exact CK.EndL.intro F9 N9 _ (by kcj_all) (offCons2 off2 off) (.tail _ hS) (.inr (.inr ⟨rfl, _, _, _, _, _, _, rfl, rfl, su1, keep_all st2 su⟩))
          · exact absurd hi (by simp)
        · intro ys nw hJ D2 h tk F8 N8 off8
          rcases hJ with ⟨hj, _⟩ | ⟨hj, _⟩ | ⟨_, q1, us1, k1, q2, us2, k2, rfl, rfl, su1, su2⟩
          · exact absurd hj (by simp)
          · exact absurd hj (by simp)
          subst hb3
          walk_at "mine:steps"
          rename Fr _ _ _ _ => F9
          rename News _ _ _ _ => N9
          clear off8
          refine Stuck.use ?_
          refine MM.min2 (by exact rfl) (by ktr_units) F9 N9 (.head _) rfl rfl (.tail _ (.tail _ (.head _))) rfl rfl (.tail _ (.head _)) rfl rfl su1 su2 ?_
          intro h1 tk1 F10 N10
          clear F9 N9
          obtain ⟨qa, ua, ka, ea, ma, sa⟩ := pickL (b := MM.lexO false (py.filter keepC) (px.filter keepC)) (q1 := q1) (q2 := q2) (k1 := k1) (k2 := k2) su1 su2
          rw [ea]
          walk_at "mine:steps"
          rename Fr _ _ _ _ => F11
          rename News _ _ _ _ => N11
          refine Stuck.use ?_
          refine MM.max2 (by exact rfl) (by ktr_units) F11 N11 (.head _) rfl rfl (.tail _ (.tail _ (.head _))) rfl rfl (.tail _ (.head _)) rfl rfl su1 su2 ?_
          intro h2 tk2 F12 N12
          clear F11 N11
          obtain ⟨qb, ub, kb, eb, mb, sb⟩ := pickL (b := MM.lexO true (py.filter keepC) (px.filter keepC)) (q1 := q1) (q2 := q2) (k1 := k1) (k2 := k2) su1 su2
          rw [eb]
          have N13 := pickN N12 ma mb
          clear N12 ma mb ea eb mr2
          have room := MM.mm_room (px.filter keepC) (py.filter keepC)
          have elcp := MM.mm_lcp (px.filter keepC) (py.filter keepC)
          change StrsAre ua (MM.minL (px.filter keepC) (py.filter keepC)) at sa
          change StrsAre ub (MM.maxL (px.filter keepC) (py.filter keepC)) at sb
          have len1 : (MM.minL (px.filter keepC) (py.filter keepC)).length ≤ 1000 := by
            unfold MM.minL
            split
            · exact Nat.le_trans (List.length_filter_le _ _) lpy
            · exact Nat.le_trans (List.length_filter_le _ _) lpx
          have bnd1 : ∀ c ∈ MM.minL (px.filter keepC) (py.filter keepC), c.length ≤ 1000 := by
            unfold MM.minL
            split
            · exact fun c hc => bpy c (List.mem_filter.mp hc).1
            · exact fun c hc => bpx c (List.mem_filter.mp hc).1
          generalize MM.minL (px.filter keepC) (py.filter keepC) = S1 at *
          generalize MM.maxL (px.filter keepC) (py.filter keepC) = S2 at *
          walk_at "mine:steps"
          rename Fr _ _ _ _ => F14
          rename News _ _ _ _ => N14
          obtain ⟨base5, hb5⟩ := nameLed N14
          refine forEnum (lo := listOf ua.toArray ka) (vs := ua) (fun i m nx => nx = base5 ∧ m (Str.ofString "common") = some (.ref qa) ∧ m (Str.ofString "isabs") = some (.bool true) ∧ m (Str.ofString "s1") = some (.ref qa) ∧ m (Str.ofString "s2") = some (.ref qb) ∧ S1.take i = S2.take i) (by exact rfl) (by exact F14) (by exact N14) (by exact .head _) (by exact rfl) (by exact rfl) ?_ ?_ ?_ ?_
          · rintro i m nx ⟨rfl, _⟩
            rw [hb5]; exact .head _
          · exact ⟨hb5.symm, by with_unfolding_all rfl, by with_unfolding_all rfl, by with_unfolding_all rfl, by with_unfolding_all rfl, rfl⟩
          · rintro i v T t I oe ol m1 nx h tk hv hI ⟨rfl, hm1, hm2, hm3, hm4, hpre⟩ hadr F15 hT N15
            subst hb5
            obtain ⟨z, tz, rfl, hz⟩ := StrsAre.item sa i v hv
            obtain ⟨hi1, _⟩ := List.getElem?_eq_some_iff.mp hz
            have hi2 := room i hi1 hpre
            obtain ⟨tu, hu⟩ := sb.at (List.getElem?_eq_getElem hi2)
            replace F15 := frShow4 F15 _ _ _ _ hm1 hm2 hm3 hm4
            k_steps
            · rename News _ _ _ _ => N16
              rename (z != _) = true => hne
              have hS2 : S2[i]? = some S2[i] := List.getElem?_eq_getElem hi2
              have hgd : S2.getD ((i : Nat) : Int).toNat Str.empty = S2[i] := by simp [List.getD, hS2]
              have el : MM.lcp S1 S2 = S1.take i := MM.lcp_at i S1 S2 z S2[i] hpre hz hS2 (by rw [hgd] at hne; simpa using hne)
              refine join_list (News.isList (by exact N16) (by exact .head _)) (ys := S1.take i) (by rw [slice_pre]; exact sa.take' i) (sum_le (Nat.le_trans (List.length_take_le' _ _) len1) fun c hc => bnd1 c (List.mem_of_mem_take hc)) ?_
              intro t5 k5
              refine add_str (fun t6 k6 => ?_) (join_len (Nat.le_trans (List.length_take_le' _ _) len1) fun c hc => bnd1 c (List.mem_of_mem_take hc))
              rw [← el, elcp]
              k_steps
              walk_at "mine:ret"
            · rename (z != _) = false => heq
              have hS2 : S2[i]? = some S2[i] := List.getElem?_eq_getElem hi2
              have hgd : S2.getD ((i : Nat) : Int).toNat Str.empty = S2[i] := by simp [List.getD, hS2]
              rw [hgd] at heq
              have hzz : S2[i]? = some z := by rw [hS2]; simpa using (show z = S2[i] by simpa using heq).symm
              exact InvEndN.intro (by k_asm) (by k_asm) ⟨rfl, by with_unfolding_all rfl, by with_unfolding_all rfl, by with_unfolding_all rfl, by with_unfolding_all rfl, by rw [List.take_add_one, List.take_add_one, hpre, hz, hzz]⟩ rfl (by kcj_all) (by kcj_all)
          · rintro m1 nx h tk ⟨rfl, hm1, hm2, hm3, hm4, hpre⟩ F15 N15
            subst hb5
            replace F15 := frShow4 F15 _ _ _ _ hm1 hm2 hm3 hm4
            dsimp only
            k_steps
            rename News _ _ _ _ => N16
            rw [StrsAre.length sa] at hpre
            refine join_list (News.isList (by exact N16) (by exact .head _)) sa (sum_le len1 bnd1) ?_
            intro t5 k5
            refine add_str (fun t6 k6 => ?_) (join_len len1 bnd1)
            rw [← MM.lcp_all _ _ hpre, elcp]
            k_steps
            walk_at "mine:ret"
end
end
section
section
variable {prog : Program} {w : World} {A : Around} {E : Value → Shared → Prop} {s : Shared} {env : Env} {h₀ : Heap} {body orelse : List Stmt} {Q : Flow → Shared → Prop}
/-- where a turn of a for ends -/
def TurnEnd (h₀ : Heap) (L : Addr) (J : (Str → Option Value) → List (Addr × Obj) → Prop) (s : Shared) (s₂ : Shared) : Prop :=
  ∃ h' tk m' nx, s₂ = { s with heap := h', toks := tk } ∧ Fr h₀ L h' m' ∧ News h₀ L h' nx ∧ J m' nx
theorem TurnEnd.intro {h₀ : Heap} {L : Addr} {J : (Str → Option Value) → List (Addr × Obj) → Prop} {s : Shared} {h' : Heap} {tk : Nat} {m' : Str → Option Value} {all : List (Addr × Obj)} (F : Fr h₀ L h' m') (N : News h₀ L h' all) (nx : List (Addr × Obj)) (sub : ∀ p ∈ nx, p ∈ all) (hJ : J m' nx) : TurnEnd h₀ L J s { s with heap := h', toks := tk } :=
  ⟨h', tk, m', nx, rfl, F, fun p hp => N p (sub p hp), hJ⟩
/-- a for with an else over a tuple that was there before -/
theorem forElse {target : Expr} {ax : Addr} {lo : Obj} {vs : List Value} {n : Nat} {m₀ : Str → Option Value} {news : List (Addr × Obj)} (J : Nat → (Str → Option Value) → List (Addr × Obj) → Prop)
    (hh : A.handled = none) (F : Fr h₀ env.locals s.heap m₀) (N : News h₀ env.locals s.heap news) (hg : h₀.get? ax = some lo) (hc : lo.cls = .type "tuple") (hd : lo.data = .seq vs.toArray n) (h0 : J 0 m₀ news)
    (step : ∀ i v I oI m₁ nx h tk, vs[i]? = some v → J i m₁ nx → (∀ p ∈ nx, p.1 ≠ I) → Fr h₀ env.locals h m₁ → News h₀ env.locals h ((I, oI) :: nx) →
      wpAny (model prog w) A (assign target env v) (fun _ s₂ => wpAny (model prog w) A (execs body env) (fun f s₃ => match f with
        | .next | .cont => TurnEnd h₀ env.locals (fun m' all => ∃ nx', all = (I, oI) :: nx' ∧ (∀ p ∈ nx', p.1 ≠ I) ∧ J (i + 1) m' nx') { s with heap := h, toks := tk } s₃
        | .brk => Q .next s₃
        | .ret v => Q (.ret v) s₃) (fun _ _ => False) s₂) (fun _ _ => False) { s with heap := h, toks := tk })
    (done : ∀ m₁ nx h tk, J vs.length m₁ nx → Fr h₀ env.locals h m₁ → News h₀ env.locals h nx → wpAny (model prog w) A (execs orelse env) Q (fun _ _ => False) { s with heap := h, toks := tk }) :
    wpAny (model prog w) A (pyIter (.ref ax)) (fun it s₂ => codeAny (model prog w) A (.forLoop target it body orelse env) (fun r s' => match r with | .ok f => Q f s' | .error e => cameBackBy (model prog w) A env E e s') s₂) E s := by
  have hax : s.heap.get? ax = some lo := F.keep _ _ hg
  have hl : s.heap.IsTuple ax vs.toArray := ⟨lo, hax, hc, n, hd⟩
  have hlt : ax < s.heap.objs.size := Heap.lt_size hax
  have hLlt : env.locals < s.heap.objs.size := F.ns.lt
  refine wpAny_pyIter_tuple hl ?_
  have hI₀ : h₀.get? s.heap.objs.size = none := by
    cases e : h₀.get? s.heap.objs.size with
    | none => rfl
    | some o' => exact absurd (Heap.lt_size (F.keep _ o' e)) (Nat.lt_irrefl _)
  have hLI : env.locals ≠ s.heap.objs.size := Nat.ne_of_lt hLlt
  have hoff : ∀ p ∈ news, p.1 ≠ s.heap.objs.size := fun p hp => Nat.ne_of_lt (Heap.lt_size (N p hp).1)
  have F₁ := F.push ({ cls := .type "tuple_iterator", data := .fields #[.ref ax, .int 0 0] } : Obj)
  have N₁ : News h₀ env.locals (s.heap.push ({ cls := .type "tuple_iterator", data := .fields #[.ref ax, .int 0 0] } : Obj)) news := N.grown fun b o e => Heap.get?_push_of_some _ e
  have st₁ : (s.heap.push ({ cls := .type "tuple_iterator", data := .fields #[.ref ax, .int 0 0] } : Obj)).IsTupleIter s.heap.objs.size ax 0 := ⟨_, Heap.get?_push_size _ rfl, rfl, rfl⟩
  generalize s.heap.push ({ cls := .type "tuple_iterator", data := .fields #[.ref ax, .int 0 0] } : Obj) = B at F₁ N₁ st₁ ⊢
  generalize s.heap.objs.size = I at *
  have weak : ∀ {α : Type} {t : Sem α} {P : α → Shared → Prop} {s' : Shared} {E' : Value → Shared → Prop}, wpAny (model prog w) A t P (fun _ _ => False) s' → wpAny (model prog w) A t P E' s' := fun x => wpAny_mono x (fun _ _ y => y) fun _ _ y => y.elim
  refine codeAny_forLoop_any
    (fun k s' => ∃ h' tk i m' nx, s' = { s with heap := h', toks := tk } ∧ i ≤ vs.length ∧ k = vs.length + 1 - i ∧ h'.IsTupleIter I ax i ∧ Fr h₀ env.locals h' m' ∧ News h₀ env.locals h' nx ∧ (∀ p ∈ nx, p.1 ≠ I) ∧ J i m' nx) ?_ (vs.length + 1)
    ⟨B, s.toks, 0, m₀, news, rfl, Nat.zero_le _, rfl, st₁, F₁, N₁, hoff, h0⟩
  rintro k s' ⟨h', tk, i, m', nx, rfl, hi, rfl, hst, F', N', off', hJ⟩
  have tup : ∀ h : Heap, Fr h₀ env.locals h m' → h.IsTuple ax vs.toArray := fun h Fh => ⟨lo, Fh.keep _ _ hg, hc, n, hd⟩
  have keepB : ∀ h₂ : Heap, Heap.ExtBut I h' h₂ → Fr h₀ env.locals h₂ m' ∧ News h₀ env.locals h₂ nx := fun h₂ eb =>
    ⟨⟨F'.ns.at' fun o e => eb _ o hLI e, fun b o e => eb b o (fun q => by rw [q, hI₀] at e; cases e) (F'.keep b o e), F'.above⟩, fun p hp => ⟨eb _ _ (off' p hp) (N' p hp).1, (N' p hp).2⟩⟩
  by_cases hlt' : i < vs.length
  · refine wpAny_pyNext_tuple_item (x := vs[i]) hst (tup _ F') (by simp [hlt']) fun h₂ hst₂ sb => ?_
    obtain ⟨F₂, N₂⟩ := keepB h₂ sb.extBut
    refine letGo_tupleiter hst₂ ?_
    obtain ⟨oI, eI, cI, dI⟩ := hst₂
    have N₃ : News h₀ env.locals h₂ ((I, oI) :: nx) := fun p hp => by
      rcases List.mem_cons.mp hp with rfl | hp
      · exact ⟨eI, Ne.symm hLI, hI₀⟩
      · exact N₂ p hp
    refine weak (wpAny_mono (step i vs[i] I oI m' nx h₂ _ (List.getElem?_eq_getElem hlt') hJ off' F₂ N₃) (fun _ s₂ h₃ => ?_) fun _ _ e => e)
    refine weak (wpAny_mono h₃ (fun f s₃ h₄ => ?_) fun _ _ e => e)
    have fin : TurnEnd h₀ env.locals (fun m' all => ∃ nx', all = (I, oI) :: nx' ∧ (∀ p ∈ nx', p.1 ≠ I) ∧ J (i + 1) m' nx') { s with heap := h₂, toks := tk } s₃ → ∃ k', k' < vs.length + 1 - i ∧ ∃ h' tk i m' nx, s₃ = { s with heap := h', toks := tk } ∧ i ≤ vs.length ∧ k' = vs.length + 1 - i ∧ h'.IsTupleIter I ax i ∧ Fr h₀ env.locals h' m' ∧ News h₀ env.locals h' nx ∧ (∀ p ∈ nx, p.1 ≠ I) ∧ J i m' nx := by
      rintro ⟨h₅, tk₅, m₅, all, rfl, F₅, N₅, nx', rfl, off₅, hJ₅⟩
      exact ⟨vs.length + 1 - (i + 1), by omega, h₅, tk₅, i + 1, m₅, nx', rfl, hlt', rfl, ⟨oI, (N₅ _ (.head _)).1, cI, dI⟩, F₅, fun p hp => N₅ p (.tail _ hp), off₅, hJ₅⟩
    cases f with
    | next => exact fin h₄
    | cont => exact fin h₄
    | brk => exact h₄
    | ret v => exact h₄
  · obtain rfl : i = vs.length := Nat.le_antisymm hi (Nat.not_lt.mp hlt')
    refine wpAny_pyNext_tuple_end hh hst (tup _ F') (by simp) fun h₂ eb => ?_
    obtain ⟨F₂, N₂⟩ := keepB h₂ eb
    exact weak (done m' nx h₂ _ hJ F₂ N₂)
end
section
variable {prog : Program} {w : World} {A : Around} {E : Value → Shared → Prop} {s : Shared} {env : Env} {h₀ : Heap} {body : List Stmt} {Q : Flow → Shared → Prop}
theorem nextOf_tup {it t : Addr} {i : Nat} {items} {x : Value} {Q : Value → Shared → Prop} (hit : s.heap.IsTupleIter it t i) (ht : s.heap.IsTuple t items) (hx : items[i]? = some x)
    (hQ : ∀ h', h'.IsTupleIter it t (i + 1) → Heap.SameBut it s.heap h' → Q x { s with heap := h' }) : wpAny (model prog w) A (Builtin.SmallTypes.nextOf (.ref it)) Q E s := by
  obtain ⟨o, ho, hc, hd⟩ := id hit
  obtain ⟨ol, hol, _, nl, hdl⟩ := ht
  unfold Builtin.SmallTypes.nextOf
  refine wpAny_bind (wpAny_callSpecial?_slot (name := Str.ofString "__next__") hit.typeIs F.slot_tuple_iterator_next
    (wpAny_call_entry F.slot_tuple_iterator_next hit.typeIs F.entry_tuple_iterator_next ?_ (F.args_tuple_iterator_next_1 _)))
  show wpAny _ _ (field (.ref it) 0 >>= _) _ _ s
  refine wpAny_bind (wpAny_field ho hd (x := .ref t) rfl ?_)
  show wpAny _ _ (if (Value.ref t == Value.none) = true then _ else _) _ _ s
  rw [if_neg (show ¬ ((Value.ref t == Value.none) = true) from Bool.false_ne_true)]
  show wpAny _ _ (field (.ref it) 1 >>= _) _ _ s
  refine wpAny_bind (wpAny_field ho hd (x := .int i 0) rfl ?_)
  show wpAny _ _ (seqItems? (.ref t) >>= _) _ _ s
  refine wpAny_bind (wpAny_seqItems hol hdl ?_)
  simp only [Int.toNat_natCast, hx]
  refine wpAny_bind (wpAny_setField ho hd (by simp) (wpAny_pure ⟨x, rfl, wpAny_pure (hQ _ ?_ (Heap.SameBut.update ..))⟩))
  exact ⟨_, Heap.get?_update_self _ ho (Obj.isFreed_of_fields (Obj.data_mapFields hd _)), (Obj.cls_mapFields ..).trans hc, by
    rw [Obj.data_mapFields hd]; simp [rawInt]⟩
theorem nextOf_tupEnd {it t : Addr} {i : Nat} {items} {Q : Value → Shared → Prop} (hh : A.handled = none) (hit : s.heap.IsTupleIter it t i) (ht : s.heap.IsTuple t items) (hx : items[i]? = none)
    (hE : ∀ h' e, Heap.ExtBut it s.heap h' → (∃ o, h'.get? e = some o ∧ o.cls = .type "StopIteration") → E (.ref e) { s with heap := h' }) : wpAny (model prog w) A (Builtin.SmallTypes.nextOf (.ref it)) Q E s := by
  obtain ⟨o, ho, hc, hd⟩ := id hit
  obtain ⟨ol, hol, _, nl, hdl⟩ := ht
  unfold Builtin.SmallTypes.nextOf
  refine wpAny_bind (wpAny_callSpecial?_slot (name := Str.ofString "__next__") hit.typeIs F.slot_tuple_iterator_next
    (wpAny_call_entry F.slot_tuple_iterator_next hit.typeIs F.entry_tuple_iterator_next ?_ (F.args_tuple_iterator_next_1 _)))
  show wpAny _ _ (field (.ref it) 0 >>= _) _ _ s
  refine wpAny_bind (wpAny_field ho hd (x := .ref t) rfl ?_)
  show wpAny _ _ (if (Value.ref t == Value.none) = true then _ else _) _ _ s
  rw [if_neg (show ¬ ((Value.ref t == Value.none) = true) from Bool.false_ne_true)]
  show wpAny _ _ (field (.ref it) 1 >>= _) _ _ s
  refine wpAny_bind (wpAny_field ho hd (x := .int i 0) rfl ?_)
  show wpAny _ _ (seqItems? (.ref t) >>= _) _ _ s
  refine wpAny_bind (wpAny_seqItems hol hdl ?_)
  simp only [Int.toNat_natCast, hx]
  refine wpAny_bind (wpAny_rule (wpAny_bind (wpAny_setField ho hd (by simp) ?_)))
  show wpAny _ _ (newExc (.type "StopIteration") [] >>= _) _ _ _
  refine wpAny_bind ?_
  simp only [newExc, newTuple]
  refine wpAny_bind (wpAny_newObj_type ?_ (by size_fits))
  refine wpAny_bind (m := firstArgMember _ _) (wpAny_of_eq (a := Value.none) (by first | rfl | (simp only [firstArgMember]; rfl)) ?_)
  refine wpAny_newObj_type ?_ (by size_fits)
  simp only [raiseNew]
  refine wpAny_bind (wpAny_handled ?_)
  first | rw [show A.in1.handled = none from hh] | rw [hh]
  refine wpAny_bind (wpAny_pure (wpAny_throw ?_))
  exact hE _ _ (((Heap.SameBut.update ..).extBut.push _).push _) ⟨_, Heap.get?_push_size _ rfl, rfl⟩
theorem drawsTup (hh : A.handled = none) (it l : Addr) (hne : l ≠ it) (items : Array Value) : Draws prog w A it [it, l] items.size (fun i v => items[i]? = some v) (fun i h => h.IsTupleIter it l i ∧ h.IsTuple l items) where
  live := fun _ _ st => let ⟨o, ho, _⟩ := st.1; ⟨o, ho⟩
  frame := fun _ _ _ st hk => by
    obtain ⟨o, ho, r⟩ := st.1
    obtain ⟨ol, hol, r'⟩ := st.2
    exact ⟨⟨o, hk it (by simp) o ho, r⟩, ⟨ol, hk l (by simp) ol hol, r'⟩⟩
  item := fun i s Q E hi st hQ => by
    refine nextOf_tup st.1 st.2 (x := items[i]) (by simp [hi]) fun h' hit' hs' => ?_
    obtain ⟨ol, hol, r'⟩ := st.2
    exact hQ _ h' s.toks (by simp [hi]) ⟨hit', ⟨ol, hs'.extBut _ _ hne hol, r'⟩⟩ hs'
  done := fun s Q E st hE => nextOf_tupEnd hh st.1 st.2 (by simp) hE
theorem meets_enumT (l : Addr) (items : Array Value) (n : Nat) (dct : Option Addr) (sl : Array (Option Value)) :
    Meets (Builtin.«enumerate.__new__» ⟨[.type "enumerate", .ref l], []⟩) (fun _ R s => s.heap.get? l = some { cls := .type "tuple", dict := dct, data := .seq items n, slots := sl } ∧
      R (.ok (.ret (.ref (s.heap.push { cls := .type "tuple_iterator", data := .fields #[.ref l, .int 0 0] }).objs.size)))
        { s with heap := (s.heap.push { cls := .type "tuple_iterator", data := .fields #[.ref l, .int 0 0] }).push { cls := .type "enumerate", data := .fields #[.none, .bool false, .ref s.heap.objs.size, rawInt 0, .none, .none] } }) :=
  .of_wp fun prog w A R s h => by
    obtain ⟨hp, g, d, tk, os⟩ := s; obtain ⟨hl, h⟩ := h
    have hsub := sub_enumerate
    have hL : Heap.IsTuple (Shared.heap ⟨hp, g, d, tk, os⟩) l items := ⟨_, hl, rfl, n, rfl⟩
    wp_walk using wpAny_loadPart' hl
    refine wpAny_stack_any fun st => wpAny_pure ?_
    split
    · rename_i c _ _ _ _ _
      cases (c == Value.type "enumerate")
      · wp_walk using wpAny_loadPart' hl, wpAny_pyIter_tuple hL
        exact ⟨_, rfl, h⟩
      · wp_walk using wpAny_loadPart' hl, wpAny_pyIter_tuple hL
        exact ⟨_, rfl, h⟩
    · wp_walk using wpAny_loadPart' hl, wpAny_pyIter_tuple hL
      exact ⟨_, rfl, h⟩
theorem call_enumT {l : Addr} {items : Array Value} {Q : Value → Shared → Prop} (hL : s.heap.IsTuple l items)
    (h : ∀ h', IsEnum h' (s.heap.objs.size + 1) s.heap.objs.size 0 .none → h'.IsTupleIter s.heap.objs.size l 0 → h'.objs.size = s.heap.objs.size + 2 →
      (∀ b o, s.heap.get? b = some o → h'.get? b = some o) → Q (.ref (s.heap.objs.size + 1)) { s with heap := h' }) :
    wpAny (model prog w) A (call (.type "enumerate") [.ref l]) Q E s := by
  obtain ⟨⟨c, dct, dt, sl⟩, hl, hc, n, hd⟩ := hL
  replace hc : c = .type "tuple" := hc
  replace hd : dt = .seq items n := hd
  subst hc hd
  refine callType_new F.called_enumerate (by decide) (F.typeCall_enumerate_1 _) (F.newCall_enumerate_1 _) (fun obj => F.args_object_init_2 obj _) F.entry_enumerate_new
    (meets_enumT l items n dct sl) ⟨hl, ?_⟩
  have hz : (s.heap.push { cls := .type "tuple_iterator", data := .fields #[.ref l, .int 0 0] }).objs.size = s.heap.objs.size + 1 := Heap.size_push ..
  show _ ∧ _
  rw [hz]
  have he : IsEnum ((s.heap.push { cls := .type "tuple_iterator", data := .fields #[.ref l, .int 0 0] }).push
      { cls := .type "enumerate", data := .fields #[.none, .bool false, .ref s.heap.objs.size, rawInt 0, .none, .none] }) (s.heap.objs.size + 1) s.heap.objs.size 0 .none := by
    have := Heap.get?_push_size (s.heap.push { cls := .type "tuple_iterator", data := .fields #[.ref l, .int 0 0] })
      (o := { cls := .type "enumerate", data := .fields #[.none, .bool false, .ref s.heap.objs.size, rawInt 0, .none, .none] }) rfl
    rw [hz] at this; exact this
  refine ⟨⟨_, he, rfl⟩, h _ he ⟨_, Heap.get?_push_of_some _ (Heap.get?_push_size _ rfl), rfl, rfl⟩ (by rw [Heap.size_push, hz]) fun b o x => Heap.get?_push_of_some _ (Heap.get?_push_of_some _ x)⟩
end
section
variable {prog : Program} {w : World} {A : Around} {E : Value → Shared → Prop} {s : Shared} {env : Env} {h₀ : Heap} {body : List Stmt} {Q : Flow → Shared → Prop}
/-- a for over enumerate(tuple that was there before) -/
theorem forEnumT {elts : List Expr} {k : Nat} {pos : Pos} {l : Addr} {lo : Obj} {vs : List Value} {n : Nat} {m₀ : Str → Option Value} {news : List (Addr × Obj)} (J : Nat → (Str → Option Value) → List (Addr × Obj) → Prop)
    (hh : A.handled = none) (F : Fr h₀ env.locals s.heap m₀) (N : News h₀ env.locals s.heap news) (hg : h₀.get? l = some lo) (hc : lo.cls = .type "tuple") (hd : lo.data = .seq vs.toArray n) (h0 : J 0 m₀ news)
    (step : ∀ i v T t I oe ol m₁ news₁ h tk, vs[i]? = some v → (∀ p ∈ news, p.1 < I) → J i m₁ news₁ → news₁.map (·.1) = news.map (·.1) → Fr h₀ env.locals h m₁ → IsTup h T #[.int ((i : Nat) : Int) t, v] → News h₀ env.locals h ((I + 1, oe) :: (I, ol) :: news₁) →
      wpAny (model prog w) A (assign (.Tuple elts k pos) env (.ref T)) (fun _ s₂ => wpAny (model prog w) A (execs body env) (InvPostN h₀ env.locals (J (i + 1)) [(I + 1, oe), (I, ol)] (news.map (·.1)) { s with heap := h, toks := tk } Q) E s₂) E { s with heap := h, toks := tk })
    (done : ∀ m₁ news₁ h tk, J vs.length m₁ news₁ → Fr h₀ env.locals h m₁ → News h₀ env.locals h news₁ → Q .next { s with heap := h, toks := tk }) :
    wpAny (model prog w) A (call (.type "enumerate") [.ref l]) (fun xv s₁ => wpAny (model prog w) A (pyIter xv) (fun it s₂ => TurnsAt prog w A h₀ env (.Tuple elts k pos) body Q E it s₂) E s₁) E s := by
  have hax : s.heap.get? l = some lo := F.keep _ _ hg
  have hl : s.heap.IsTuple l vs.toArray := ⟨lo, hax, hc, n, hd⟩
  have hlt : l < s.heap.objs.size := Heap.lt_size hax
  have hLs : env.locals < s.heap.objs.size := F.ns.lt
  have hlL : env.locals ≠ l := fun e => by have := Heap.get?_none_of_le F.above; rw [e, hg] at this; cases this
  refine call_enumT hl fun h' hE hI hsz hk => ?_
  refine wpAny_pyIter_enum hE ?_
  have hl' : h'.IsTuple l vs.toArray := ⟨lo, hk _ _ hax, hc, n, hd⟩
  have rest₀ : ∀ I : Addr, (∀ p ∈ news, p.1 < I) → ItemsRest prog w A E h₀ env (.Tuple elts k pos) body Q s [(I + 1, "enumerate"), (I, "tuple_iterator")] [] (enumItems 0 vs) m₀ news := fun I hI =>
    itemsInv J (fun p hp q hq => by
      have hlt := hI p hp
      rcases List.mem_cons.mp hq with rfl | hq
      · exact Nat.ne_of_lt (Nat.lt_succ_of_lt hlt)
      · rw [List.mem_singleton.mp hq]; exact Nat.ne_of_lt hlt) (fun i m nx h => trivial) h0 (fun i a m₁ news₁ v h tk ha hJ hadr hv F₁ oe hoe ol hol N₁ => by
      obtain ⟨u, hu⟩ : ∃ u, vs[i]? = some u := by
        have hi : i < (enumItems 0 vs).length := (List.getElem?_eq_some_iff.mp ha).1
        rw [enumItems_length] at hi
        exact ⟨_, List.getElem?_eq_getElem hi⟩
      have e := enumItems_get vs 0 i hu
      rw [ha] at e
      cases e
      obtain ⟨T, t, rfl, hT⟩ := hv
      exact step i u T t I oe ol m₁ news₁ h tk hu hI hJ hadr F₁ (by simpa using hT) N₁) (by rw [enumItems_length]; exact done)
  refine ktg_core (tk0 := s.toks) (keep := []) (KTurns.ofWalksU (WalksT.enumerateD (drawsTup (A := A.in1) hh s.heap.objs.size l (Nat.ne_of_lt hlt) vs.toArray) (s.heap.objs.size + 1) (Nat.succ_ne_self _) (by simp; exact Nat.ne_of_gt (Nat.lt_succ_of_lt hlt)) (by simp)).toU) (by simp [enumItems_length]) ?_ ?_ ?_ ?_ ?_ ?_ ?_ ?_ (F.keeps hk) (N.grown hk) trivial (rest₀ _ fun p hp => Heap.lt_size (N p hp).1)
  · rintro i v h ⟨T, vals, rfl, ⟨t, x, hx, rfl⟩, hT⟩
    refine ⟨_, enumItems_get vs 0 i (v := x) (by simpa using hx), T, t, rfl, ?_⟩
    show IsTup h T #[.int ((0 + i : Nat) : Int) t, x]
    rw [Nat.zero_add]
    exact hT
  · rintro i h ⟨⟨old, he⟩, ⟨oi, hoi, hic, _⟩, _⟩
    have he' : ∃ oe : Obj, h.get? (s.heap.objs.size + 1) = some oe ∧ oe.cls = .type "enumerate" := ⟨_, he, rfl⟩
    obtain ⟨oe, h1, h2⟩ := he'
    refine ⟨[(s.heap.objs.size + 1, oe), (s.heap.objs.size, oi)], ⟨⟨rfl, h2⟩, ⟨rfl, hic⟩, trivial⟩, fun p hp => ?_⟩
    rcases List.mem_cons.mp hp with rfl | hp
    · exact h1
    · rw [List.mem_singleton.mp hp]; exact hoi
  · intro b hb
    have hb' : b = s.heap.objs.size + 1 ∨ b = s.heap.objs.size := by simpa using hb
    rcases hb' with rfl | rfl
    · exact ⟨by simp, ktu_new F (Nat.le_add_right _ _)⟩
    · exact ⟨by simp, ktu_new F (Nat.le_refl _)⟩
  · intro b hb
    simpa using hb
  · intro b hb
    have hb' : b = s.heap.objs.size + 1 ∨ b = s.heap.objs.size ∨ b = l := by simpa using hb
    rcases hb' with rfl | rfl | rfl
    · exact .inl (by simp)
    · exact .inl (by simp)
    · exact .inr (.inr ⟨lo, hg⟩)
  · intro hI'
    have hb' : env.locals = s.heap.objs.size + 1 ∨ env.locals = s.heap.objs.size ∨ env.locals = l := by simpa using hI'
    rcases hb' with e | e | e
    · exact ktu_ne 1 hLs e
    · exact Nat.ne_of_lt hLs e
    · exact hlL e
  · intro p hp hI'
    have hb' : p.1 = s.heap.objs.size + 1 ∨ p.1 = s.heap.objs.size := by simpa using hI'
    have := Heap.lt_size (N p hp).1
    rcases hb' with e | e
    · rw [e] at this; exact absurd (Nat.lt_of_succ_lt this) (Nat.lt_irrefl _)
    · rw [e] at this; exact absurd this (Nat.lt_irrefl _)
  · exact ⟨⟨_, hE⟩, hI, hl'⟩
end
end
section
theorem lines19 : True := by
  w_top off
  k_with_none
  (k_with "mine:kall" => (first | exact ne_of_lts (by assumption) | exact ne_of_lts1 (by assumption) | exact ne_of_lts2 (by assumption) | exact ne_of_lts3 (by assumption)))
  (k_with "mine:mem" => (first | (with_reducible apply List.Mem.head) | ((with_reducible apply List.Mem.tail); walk_at "mine:mem")))
  (k_with "mine:tail" => (first | (with_reducible assumption) | ((with_reducible apply List.Mem.tail); walk_at "mine:tail")))
  (k_with "mine:all" => (first | (with_reducible apply List.forall_mem_nil) | (intro pzw hzw; with_reducible assumption) | ((with_reducible apply List.forall_mem_cons.mpr); refine ⟨by walk_at "mine:mem", ?_⟩; walk_at "mine:all") | (intro pzw hzw; walk_at "mine:tail")))
  (k_with "mine:kind" => (first | exact rfl | assumption))
  (k_with "mine:con" => ((intro dpzw unzw gdzw cnzw cszw azw ccdzw clzw outerzw Azw basezw hzw Lzw mzw szw Qzw Ezw Bzw Fzw Xzw Nzw Tzw hkzw hdzw huzw hretzw; obtain ⟨kdzw, nmszw, igzw, iczw, morezw⟩ := cszw; cases (show kdzw = ScopeKind.function from hkzw); refine wpAny_call ?_; k_dflt k_enter)))
  (k_with "mine:news" => (first | k_asm | exact cb_drop (by k_asm) (by kcj_all)))
  (k_with "mine:end" => ((rename ∀ v own h' tk', Fr _ _ h' _ → _ → _ → _ → _ => hretzw; refine give0 hretzw (by k_asm) (by walk_at "mine:news") ⟨rfl, ?_⟩)))
  (k_with "mine:ret" => ((walk_at "mine:end"; first | exact rfl | exact ⟨_, rfl⟩)))
  (k_with "mine:fold" => (((try dsimp only); (try k_fold))))
  (k_with "mine:con9" => ((intro vzw ownzw hzw tkzw Fzw Nzw hlzw rzw; (first | (obtain ⟨ezw, tzw, ezw'⟩ := rzw; subst ezw ezw') | (obtain ⟨ezw, ezw'⟩ := rzw; subst ezw ezw')); clear hlzw; (try simp only [List.nil_append] at Nzw); walk_at "mine:fold")))
  (k_with "mine:conL9" => (((try any_goals ((with_reducible show _ ∈ _); k_mem)); (try any_goals ((with_reducible show StrsAre _ _); assumption)); (try any_goals ((with_reducible show _ ≤ _); first | assumption | omega)); intro vzw ownzw hzw tkzw Fzw Nzw hlzw rzw; obtain ⟨Dzw, vszw, nzw, ezw, ezw', szw, qzw, zzw⟩ := rzw; subst ezw ezw'; (simp only [List.cons_append, List.nil_append] at Nzw); (have hlzw := fun q hq => hlzw _ (List.mem_singleton_self _) q hq); (try dsimp only at hlzw); walk_at "mine:fold")))
  (k_with "mine:for" => ((refine noRaise ?_; (rename Fr _ _ _ _ => lFzw); (with_unfolding_all refine' For_turns lFzw ?_); k_whole)))
  (k_with "mine:calls" => (fail "no contract"))
  (k_with "mine:steps" => (repeat' (first | (k_unfold; (try dsimp only [List.cons_append, List.nil_append])) | (k_end; kc_close) | k_fold | walk1 | (dsimp only; walk1) | ((first | with_reducible show (_ : Value → Shared → Prop) _ _ | with_reducible show (_ : Flow → Shared → Prop) _ _ | with_reducible show (_ : List Value → Shared → Prop) _ _); k_unfold; (try dsimp only [List.cons_append, List.nil_append])) | (leave1; (try dsimp only)) | fail "no step")))
  (k_with "call builtin:issubclass" => ((k_dflt (refine call_issub (News.get (by k_asm) (by k_mem)) ?_); intro tkzw)))
  (k_with "exec For Name Name cons nil" => (walk_at "mine:for"))
  (k_with "exec For Tuple Call cons nil" => (walk_at "mine:for"))
  (k_with "exec For Name Call cons nil" => (walk_at "mine:for"))
  (k_with "call ref" => ((k_here; k_dflt (first | walk_at "mine:calls" | refine Stuck.out ?_))))
  (k_with "eval ListComp" => ((k_here; k_dflt (refine CK.evalL (by k_asm) (by with_unfolding_all rfl) (by decide) (by rfl) (by rfl) (by decide) ?_))))
  (k_with "call builtin:str.split" => ((k_here; k_dflt (refine KSpl.split1 (by k_asm) (by k_asm) (by decide) ?_ (by (refine Nat.le_trans ?_ sizeLine_ge); omega)); intro Dzw lzw hzw kzw ezw azw Fzw Nzw l1zw; (try k_lt l1zw))))
  (k_with "exec For Tuple Name cons cons" => ((k_here; k_dflt (refine wpAny_For ?_))))
  (k_with "mine:calls" => (ktr_call con con_ifmt))
  exact trivial
section
variable {prog : Program} {w : World} {A : Around} {E : Value → Shared → Prop} {s : Shared} {h₀ : Heap} {L : Addr} {m : Str → Option Value}
theorem append_mid {D : Addr} {pre post : Led} {vs : List Value} {n : Nat} {x : Value} {Q : Value → Shared → Prop} (F : Fr h₀ L s.heap m) (N : News h₀ L s.heap (pre ++ (D, listOf vs.toArray n) :: post)) (h1 : ∀ p ∈ pre, p.1 ≠ D) (h2 : ∀ p ∈ post, p.1 ≠ D) (hz : vs.toArray.size ≤ sizeLine)
    (h : ∀ h', Fr h₀ L h' m → News h₀ L h' (pre ++ (D, listOf (vs ++ [x]).toArray (n + 1)) :: post) → Q .none { s with heap := h' }) : wpAny (model prog w) A (call (.builtin "list.append") [.ref D, x]) Q E s := by
  have z := N (D, listOf vs.toArray n) (List.mem_append.mpr (.inr (.head _)))
  refine append_at (hsz := hz) z.1 fun h' hs ho => h h' (F.change hs z.2.1 z.2.2) fun p hp => ?_
  rcases List.mem_append.mp hp with hp | hp
  · have y := N p (List.mem_append.mpr (.inl hp))
    exact ⟨hs.extBut _ _ (h1 p hp) y.1, y.2⟩
  · rcases List.mem_cons.mp hp with rfl | hp
    · refine ⟨?_, z.2⟩
      rw [show (vs ++ [x]).toArray = vs.toArray.push x by simp]
      exact ho
    · have y := N p (List.mem_append.mpr (.inr (.tail _ hp)))
      exact ⟨hs.extBut _ _ (h2 p hp) y.1, y.2⟩
end
section
theorem con_ifmt {x : Int} {t : Tok} {news : Led} : Con w p loose mean mg mb 141 4 40 news [.int x t] (GivesI (Builtin.bitAnd x 61440)) := by
  walk_at "mine:con"
  walk_at "mine:steps"
  walk_at "mine:ret"
/-- the table of the module: each row's object, its pairs' objects, bits and signs -/
def fmTab : List (Addr × List (Addr × Int × String)) :=
  [(149, [(142, 40960, "l"), (143, 49152, "s"), (144, 32768, "-"), (145, 24576, "b"), (146, 16384, "d"), (147, 8192, "c"), (148, 4096, "p")]),
   (151, [(150, 256, "r")]), (153, [(152, 128, "w")]), (157, [(154, 2112, "s"), (155, 2048, "S"), (156, 64, "x")]),
   (159, [(158, 32, "r")]), (161, [(160, 16, "w")]), (165, [(162, 1032, "s"), (163, 1024, "S"), (164, 8, "x")]),
   (167, [(166, 4, "r")]), (169, [(168, 2, "w")]), (173, [(170, 513, "t"), (171, 512, "T"), (172, 1, "x")])]
def fmTest (i : Nat) (mode b : Int) : Bool := if i = 0 then Builtin.bitAnd mode 61440 == b else Builtin.bitAnd mode b == b
def fmSign (i : Nat) (mode : Int) : List (Addr × Int × String) → Str
  | [] => if i = 0 then Str.ofString "?" else Str.ofString "-"
  | (_, b, c) :: r => if fmTest i mode b = true then Str.ofString c else fmSign i mode r
def fmFrom (mode : Int) : Nat → List (Addr × List (Addr × Int × String)) → List Str
  | _, [] => []
  | i, (_, r) :: l => fmSign i mode r :: fmFrom mode (i + 1) l
def fmodeL (mode : Int) : List Str := fmFrom mode 0 fmTab
theorem fm_rows {p : Params} : ∀ x ∈ fmTab, ∃ o n, (hd.heap_39 p).lookup x.1 = some o ∧ o.cls = .type "tuple" ∧ o.data = .seq (x.2.map fun q => Value.ref q.1).toArray n := by
  unfold fmTab
  repeat' (first | exact List.forall_mem_nil _ | refine List.forall_mem_cons.mpr ⟨⟨_, _, by k_is, rfl, rfl⟩, ?_⟩)
theorem fm_row {p : Params} {i : Nat} {a : Addr} {r : List (Addr × Int × String)} (h : fmTab[i]? = some (a, r)) : ∃ o n, (hd.heap_39 p).lookup a = some o ∧ o.cls = .type "tuple" ∧ o.data = .seq (r.map fun q => Value.ref q.1).toArray n :=
  fm_rows _ (List.mem_of_getElem? h)
def fmPairs : List (Addr × Int × String) := [(142, 40960, "l"), (143, 49152, "s"), (144, 32768, "-"), (145, 24576, "b"), (146, 16384, "d"), (147, 8192, "c"), (148, 4096, "p"), (150, 256, "r"), (152, 128, "w"), (154, 2112, "s"), (155, 2048, "S"), (156, 64, "x"),
  (158, 32, "r"), (160, 16, "w"), (162, 1032, "s"), (163, 1024, "S"), (164, 8, "x"), (166, 4, "r"), (168, 2, "w"), (170, 513, "t"), (171, 512, "T"), (172, 1, "x")]
theorem fm_pairs {p : Params} : ∀ x ∈ fmPairs, ∃ o n t u, (hd.heap_39 p).lookup x.1 = some o ∧ o.cls = .type "tuple" ∧ o.data = .seq #[.int x.2.1 t, .str (Str.ofString x.2.2) u] n := by
  unfold fmPairs
  repeat' (first | exact List.forall_mem_nil _ | refine List.forall_mem_cons.mpr ⟨⟨_, _, _, _, by k_is, rfl, rfl⟩, ?_⟩)
theorem fm_pair {p : Params} {i : Nat} {a : Addr} {r : List (Addr × Int × String)} (h : fmTab[i]? = some (a, r)) {j : Nat} {q : Addr} {b : Int} {c : String} (hj : r[j]? = some (q, b, c)) : ∃ o n t u, (hd.heap_39 p).lookup q = some o ∧ o.cls = .type "tuple" ∧ o.data = .seq #[.int b t, .str (Str.ofString c) u] n :=
  fm_pairs (q, b, c) (by rw [show fmPairs = fmTab.flatMap (·.2) from rfl]; exact List.mem_flatMap.mpr ⟨_, List.mem_of_getElem? h, List.mem_of_getElem? hj⟩)
theorem fm_top {p : Params} : ∃ o n, (hd.heap_39 p).lookup 174 = some o ∧ o.cls = .type "tuple" ∧ o.data = .seq (fmTab.map fun q => Value.ref q.1).toArray n := ⟨_, _, by k_is, rfl, rfl⟩
theorem fm_snoc {x : Int} : ∀ (l : List (Addr × List (Addr × Int × String))) (s i : Nat) {a : Addr} {r : List (Addr × Int × String)}, l[i]? = some (a, r) → fmFrom x s (l.take (i + 1)) = fmFrom x s (l.take i) ++ [fmSign (s + i) x r]
  | [], _, _, _, _, h => by simp at h
  | (a', r') :: l, s, 0, _, _, h => by
    simp only [List.getElem?_cons_zero, Option.some.injEq] at h
    cases h
    rfl
  | (a', r') :: l, s, i + 1, a, r, h => by
    have h' : l[i]? = some (a, r) := by simpa using h
    show fmSign s x r' :: fmFrom x (s + 1) (l.take (i + 1)) = fmSign s x r' :: (fmFrom x (s + 1) (l.take i) ++ _)
    rw [fm_snoc l (s + 1) i h', Nat.add_assoc, Nat.add_comm 1 i]
theorem fm_len {x : Int} : ∀ (l : List (Addr × List (Addr × Int × String))) (s : Nat), (fmFrom x s l).length = l.length
  | [], _ => rfl
  | _ :: l, s => by show (fmFrom x (s + 1) l).length + 1 = l.length + 1; rw [fm_len l (s + 1)]
section
variable {i j : Nat} {x b : Int} {q : Addr} {c : String} {r rest : List (Addr × Int × String)}
theorem fm_hit0 (hd : r.drop j = (q, b, c) :: rest) (hs : fmSign i x (r.drop j) = fmSign i x r) (h0 : ((i : Nat) : Int) = 0) (hb : Builtin.bitAnd x 61440 = b) : fmSign i x r = Str.ofString c := by
  rw [← hs, hd]
  have e : i = 0 := by omega
  simp [fmSign, fmTest, e, hb]
theorem fm_hit1 (hd : r.drop j = (q, b, c) :: rest) (hs : fmSign i x (r.drop j) = fmSign i x r) (h0 : ((i : Nat) : Int) ≠ 0) (hb : Builtin.bitAnd x b = b) : fmSign i x r = Str.ofString c := by
  rw [← hs, hd]
  have e : i ≠ 0 := by omega
  simp [fmSign, fmTest, e, hb]
theorem fm_miss0 (hd : r.drop j = (q, b, c) :: rest) (hs : fmSign i x (r.drop j) = fmSign i x r) (h0 : ((i : Nat) : Int) = 0) (hb : Builtin.bitAnd x 61440 ≠ b) : fmSign i x rest = fmSign i x r := by
  rw [← hs, hd]
  have e : i = 0 := by omega
  simp [fmSign, fmTest, e, hb]
theorem fm_miss1 (hd : r.drop j = (q, b, c) :: rest) (hs : fmSign i x (r.drop j) = fmSign i x r) (h0 : ((i : Nat) : Int) ≠ 0) (hb : Builtin.bitAnd x b ≠ b) : fmSign i x rest = fmSign i x r := by
  rw [← hs, hd]
  have e : i ≠ 0 := by omega
  simp [fmSign, fmTest, e, hb]
theorem fm_end0 (hs : fmSign i x (r.drop (r.map fun q => Value.ref q.1).length) = fmSign i x r) (h0 : ((i : Nat) : Int) = 0) : fmSign i x r = Str.ofString "?" := by
  rw [← hs, List.length_map, List.drop_length]
  have e : i = 0 := by omega
  simp [fmSign, e]
theorem fm_end1 (hs : fmSign i x (r.drop (r.map fun q => Value.ref q.1).length) = fmSign i x r) (h0 : ((i : Nat) : Int) ≠ 0) : fmSign i x r = Str.ofString "-" := by
  rw [← hs, List.length_map, List.drop_length]
  have e : i ≠ 0 := by omega
  simp [fmSign, e]
end
theorem fm_bnd1 {x : Int} {i : Nat} : ∀ (r : List (Addr × Int × String)), (∀ q ∈ r, (Str.ofString q.2.2).length ≤ 1) → (fmSign i x r).length ≤ 1
  | [], _ => by unfold fmSign; split <;> decide
  | (a, b, c) :: r, h => by
    unfold fmSign
    split
    · exact h (a, b, c) List.mem_cons_self
    · exact fm_bnd1 r fun q hq => h q (List.mem_cons_of_mem _ hq)
theorem fm_bnd {x : Int} : ∀ (l : List (Addr × List (Addr × Int × String))) (i : Nat), (∀ r ∈ l, ∀ q ∈ r.2, (Str.ofString q.2.2).length ≤ 1) → ∀ s ∈ fmFrom x i l, s.length ≤ 1
  | [], _, _, s, hs => by simp [fmFrom] at hs
  | (a, r) :: l, i, h, s, hs => by
    rcases List.mem_cons.mp hs with rfl | hs
    · exact fm_bnd1 r (h (a, r) List.mem_cons_self)
    · exact fm_bnd l (i + 1) (fun r hr => h r (List.mem_cons_of_mem _ hr)) s hs
theorem fm_sum (x : Int) : ((fmodeL x).map (·.length)).sum + (fmodeL x).length ≤ 1048576 := by
  have h1 : (fmodeL x).length = 10 := fm_len _ _
  have h2 : ∀ s ∈ fmodeL x, s.length ≤ 1 := fm_bnd _ _ (by decide)
  have : ∀ ys : List Str, (∀ s ∈ ys, s.length ≤ 1) → (ys.map (·.length)).sum ≤ ys.length := by
    intro ys
    induction ys with
    | nil => intro _; simp
    | cons y ys ih =>
      intro h
      have h1 := h y List.mem_cons_self
      have h2 := ih fun c hc => h c (List.mem_cons_of_mem _ hc)
      simp only [List.map_cons, List.sum_cons, List.length_cons]
      omega
  have := this _ h2
  omega
theorem pre2 {I D : Addr} {o1 o2 : Obj} (h : D < I) : ∀ p ∈ [(I + 1, o1), (I, o2)], p.1 ≠ D := by
  intro p hp
  rcases List.mem_cons.mp hp with rfl | hp
  · exact Nat.ne_of_gt (Nat.lt_succ_of_lt h)
  · rw [List.mem_singleton.mp hp]; exact Nat.ne_of_gt h
theorem pre3 {I2 I D : Addr} {o1 o2 o3 : Obj} (h2 : D ≠ I2) (h : D < I) : ∀ p ∈ [(I2, o3), (I + 1, o1), (I, o2)], p.1 ≠ D := by
  intro p hp
  rcases List.mem_cons.mp hp with rfl | hp
  · exact Ne.symm h2
  · exact pre2 h p hp
set_option maxHeartbeats 4000000 in
theorem con_fmode {x : Int} {t : Tok} {news : Led} : Con w p loose mean mg mb 181 8 60 news [.int x t] (GivesS (Txt.join (Str.ofString "") (fmodeL x))) := by
  walk_at "mine:con"
  walk_at "mine:steps"
  rename Fr _ _ _ _ => F1
  rename News _ _ _ _ => N1
  rename ∀ v own h' tk', Fr _ _ h' _ → _ → _ → _ → _ => hret
  rename Frag.In _ _ => X
  obtain ⟨oT, nT, kT, cT, dT⟩ := fm_top (p := w.params)
  refine forEnumT (lo := oT) (vs := fmTab.map fun q => Value.ref q.1) (fun i m nx => ∃ (vs : List Value) (k : Nat), nx = (_, listOf vs.toArray k) :: news ∧ m (Str.ofString "perm") = some (.ref _) ∧ m (Str.ofString "mode") = some (.int x t) ∧ StrsAre vs (fmFrom x 0 (fmTab.take i))) (by exact rfl) (by exact F1) (by exact N1) (X _ _ kT) cT dT ⟨[], 0, rfl, by with_unfolding_all rfl, by with_unfolding_all rfl, .nil⟩ ?_ ?_
  · rintro i v T t1 I oe ol m1 nx h tk hv hI ⟨vs, k, rfl, hm1, hm2, hs⟩ hadr F2 hT N2
    obtain ⟨a, r, rfl, hr⟩ : ∃ a r, v = Value.ref a ∧ fmTab[i]? = some (a, r) := by
      rw [List.getElem?_map] at hv
      cases hx : fmTab[i]? with
      | none => rw [hx] at hv; cases hv
      | some q => rw [hx] at hv; cases hv; exact ⟨q.1, q.2, rfl, rfl⟩
    obtain ⟨oR, nR, kR, cR, dR⟩ := fm_row (p := w.params) hr
    replace F2 := frShow2 F2 _ _ hm1 hm2
    have hz : vs.toArray.size ≤ sizeLine := by
      rw [List.size_toArray, StrsAre.length hs, fm_len, List.length_take]
      exact Nat.le_trans (Nat.min_le_right _ _) (Nat.le_trans (by decide) sizeLine_ge)
    have hsn := fm_snoc (x := x) fmTab 0 i hr
    rw [Nat.zero_add] at hsn
    walk_at "mine:steps"
    rename Fr _ _ _ _ => F3
    rename News _ _ _ _ => N3
    refine forElse (lo := oR) (vs := r.map fun q => Value.ref q.1) (fun j m nx => nx = (I + 1, oe) :: (I, ol) :: (_, listOf vs.toArray k) :: news ∧ m (Str.ofString "perm") = some (.ref _) ∧ m (Str.ofString "mode") = some (.int x t) ∧ m (Str.ofString "index") = some (.int ((i : Nat) : Int) t1) ∧ fmSign i x (r.drop j) = fmSign i x r) (by exact rfl) (by exact F3) (by exact N3) (X _ _ kR) cR dR ⟨rfl, by with_unfolding_all rfl, by with_unfolding_all rfl, by with_unfolding_all rfl, rfl⟩ ?_ ?_
    · rintro j v I2 oI2 m2 nx h3 tk3 hv2 ⟨rfl, hp1, hp2, hp3, hsg⟩ hoff F4 N4
      obtain ⟨q, b, c, rfl, hq⟩ : ∃ q b c, v = Value.ref q ∧ r[j]? = some (q, b, c) := by
        rw [List.getElem?_map] at hv2
        cases hx : r[j]? with
        | none => rw [hx] at hv2; cases hv2
        | some q => rw [hx] at hv2; cases hv2; exact ⟨q.1, q.2.1, q.2.2, rfl, rfl⟩
      obtain ⟨oP, nP, t2, u2, kP, cP, dP⟩ := fm_pair (p := w.params) hr hq
      have hT2 : IsTup h3 q #[.int b t2, .str (Str.ofString c) u2] := ⟨oP, F4.keep _ _ (X _ _ kP), cP, nP, dP⟩
      have hdrop := MM.drop_at hq
      replace F4 := frShow3 F4 _ _ _ hp1 hp2 hp3
      have hD0 := ltN (hI _ (.head _))
      have hD1 := hoff _ (.tail _ (.tail _ (.head _)))
      have hpre : ∀ p ∈ [(I2, oI2), (I + 1, oe), (I, ol)], p.1 ≠ _ := pre3 hD1 hD0
      walk_at "mine:steps"
      · rename Fr _ _ _ _ => F5
        rename News _ _ _ _ => N5
        rename ((i : Nat) : Int) = 0 => h0
        rename Builtin.bitAnd x 61440 = b => hb
        refine append_mid (pre := [(I2, oI2), (I + 1, oe), (I, ol)]) F5 N5 hpre (by k_all) hz ?_
        intro h6 F6 N6
        simp only [List.cons_append, List.nil_append] at N6
        walk_at "mine:steps"
        exact InvEndN.intro (by k_asm) N6 (nx := (_, listOf (vs ++ [Value.str (Str.ofString c) u2]).toArray (k + 1)) :: news) ⟨vs ++ [Value.str (Str.ofString c) u2], k + 1, rfl, by with_unfolding_all rfl, by with_unfolding_all rfl, by rw [hsn, fm_hit0 hdrop hsg h0 hb]; exact hs.append' (.cons _ _ .nil)⟩ rfl (by kcj_all) (by kcj_all)
      · rename ((i : Nat) : Int) = 0 => h0
        rename Builtin.bitAnd x 61440 ≠ b => hb
        exact TurnEnd.intro (by k_asm) (by k_asm) _ (fun p hp => hp) ⟨_, rfl, hoff, rfl, by with_unfolding_all rfl, by with_unfolding_all rfl, by with_unfolding_all rfl, fm_miss0 hdrop hsg h0 hb⟩
      · rename Fr _ _ _ _ => F5
        rename News _ _ _ _ => N5
        rename ((i : Nat) : Int) ≠ 0 => h0
        rename Builtin.bitAnd x b = b => hb
        refine append_mid (pre := [(I2, oI2), (I + 1, oe), (I, ol)]) F5 N5 hpre (by k_all) hz ?_
        intro h6 F6 N6
        simp only [List.cons_append, List.nil_append] at N6
        walk_at "mine:steps"
        exact InvEndN.intro (by k_asm) N6 (nx := (_, listOf (vs ++ [Value.str (Str.ofString c) u2]).toArray (k + 1)) :: news) ⟨vs ++ [Value.str (Str.ofString c) u2], k + 1, rfl, by with_unfolding_all rfl, by with_unfolding_all rfl, by rw [hsn, fm_hit1 hdrop hsg h0 hb]; exact hs.append' (.cons _ _ .nil)⟩ rfl (by kcj_all) (by kcj_all)
      · rename ((i : Nat) : Int) ≠ 0 => h0
        rename Builtin.bitAnd x b ≠ b => hb
        exact TurnEnd.intro (by k_asm) (by k_asm) _ (fun p hp => hp) ⟨_, rfl, hoff, rfl, by with_unfolding_all rfl, by with_unfolding_all rfl, by with_unfolding_all rfl, fm_miss1 hdrop hsg h0 hb⟩
    · rintro m2 nx h3 tk3 ⟨rfl, hp1, hp2, hp3, hsg⟩ F4 N4
      replace F4 := frShow3 F4 _ _ _ hp1 hp2 hp3
      have hD0 := ltN (hI _ (.head _))
      have hpre : ∀ p ∈ [(I + 1, oe), (I, ol)], p.1 ≠ _ := pre2 hD0
      walk_at "mine:steps"
      · rename Fr _ _ _ _ => F5
        rename News _ _ _ _ => N5
        rename ((i : Nat) : Int) = 0 => h0
        rw [List.push_toArray] at N5
        generalize hV : Value.str (Str.ofString "?") _ = vq at N5
        exact InvEndN.intro (by k_asm) N5 (nx := (_, listOf (vs ++ [vq]).toArray (k + 1)) :: news) ⟨vs ++ [vq], k + 1, rfl, by with_unfolding_all rfl, by with_unfolding_all rfl, by rw [hsn, fm_end0 hsg h0]; exact hs.append' (hV ▸ .cons _ _ .nil)⟩ rfl (by kcj_all) (by kcj_all)
      · rename Fr _ _ _ _ => F5
        rename News _ _ _ _ => N5
        rename ((i : Nat) : Int) ≠ 0 => h0
        rw [List.push_toArray] at N5
        generalize hV : Value.str (Str.ofString "-") _ = vq at N5
        exact InvEndN.intro (by k_asm) N5 (nx := (_, listOf (vs ++ [vq]).toArray (k + 1)) :: news) ⟨vs ++ [vq], k + 1, rfl, by with_unfolding_all rfl, by with_unfolding_all rfl, by rw [hsn, fm_end1 hsg h0]; exact hs.append' (hV ▸ .cons _ _ .nil)⟩ rfl (by kcj_all) (by kcj_all)
  · rintro m1 nx h tk ⟨vs, k, rfl, hm1, hm2, hs⟩ F2 N2
    replace F2 := frShow2 F2 _ _ hm1 hm2
    rw [List.length_map, List.take_length] at hs
    dsimp only
    walk_at "mine:steps"
    rename News _ _ _ _ => N3
    refine join_listW (News.isList (by exact N3) (by exact .head _)) hs (by decide) (fm_sum x) ?_
    intro t5 k5
    walk_at "mine:steps"
    walk_at "mine:ret"
end
end
section
theorem lines20 : True := by
  w_top off
  k_with_none
  (k_with "mine:kall" => (first | exact ne_of_lts (by assumption) | exact ne_of_lts1 (by assumption) | exact ne_of_lts2 (by assumption) | exact ne_of_lts3 (by assumption)))
  (k_with "mine:mem" => (first | (with_reducible apply List.Mem.head) | ((with_reducible apply List.Mem.tail); walk_at "mine:mem")))
  (k_with "mine:tail" => (first | (with_reducible assumption) | ((with_reducible apply List.Mem.tail); walk_at "mine:tail")))
  (k_with "mine:all" => (first | (with_reducible apply List.forall_mem_nil) | (intro pzw hzw; with_reducible assumption) | ((with_reducible apply List.forall_mem_cons.mpr); refine ⟨by walk_at "mine:mem", ?_⟩; walk_at "mine:all") | (intro pzw hzw; walk_at "mine:tail")))
  (k_with "mine:kind" => (first | exact rfl | assumption))
  (k_with "mine:con" => ((intro dpzw unzw gdzw cnzw cszw azw ccdzw clzw outerzw Azw basezw hzw Lzw mzw szw Qzw Ezw Bzw Fzw Xzw Nzw Tzw hkzw hdzw huzw hretzw; obtain ⟨kdzw, nmszw, igzw, iczw, morezw⟩ := cszw; cases (show kdzw = ScopeKind.function from hkzw); refine wpAny_call ?_; k_dflt k_enter)))
  (k_with "mine:news" => (first | k_asm | exact cb_drop (by k_asm) (by kcj_all)))
  (k_with "mine:end" => ((rename ∀ v own h' tk', Fr _ _ h' _ → _ → _ → _ → _ => hretzw; refine give0 hretzw (by k_asm) (by walk_at "mine:news") ⟨rfl, ?_⟩)))
  (k_with "mine:ret" => ((walk_at "mine:end"; first | exact rfl | exact ⟨_, rfl⟩)))
  (k_with "mine:fold" => (((try dsimp only); (try k_fold))))
  (k_with "mine:con9" => ((intro vzw ownzw hzw tkzw Fzw Nzw hlzw rzw; (first | (obtain ⟨ezw, tzw, ezw'⟩ := rzw; subst ezw ezw') | (obtain ⟨ezw, ezw'⟩ := rzw; subst ezw ezw')); clear hlzw; (try simp only [List.nil_append] at Nzw); walk_at "mine:fold")))
  (k_with "mine:conL9" => (((try any_goals ((with_reducible show _ ∈ _); k_mem)); (try any_goals ((with_reducible show StrsAre _ _); assumption)); (try any_goals ((with_reducible show _ ≤ _); first | assumption | omega)); intro vzw ownzw hzw tkzw Fzw Nzw hlzw rzw; obtain ⟨Dzw, vszw, nzw, ezw, ezw', szw, qzw, zzw⟩ := rzw; subst ezw ezw'; (simp only [List.cons_append, List.nil_append] at Nzw); (have hlzw := fun q hq => hlzw _ (List.mem_singleton_self _) q hq); (try dsimp only at hlzw); walk_at "mine:fold")))
  (k_with "mine:for" => ((refine noRaise ?_; (rename Fr _ _ _ _ => lFzw); (with_unfolding_all refine' For_turns lFzw ?_); k_whole)))
  (k_with "mine:calls" => (fail "no contract"))
  (k_with "mine:steps" => (repeat' (first | (k_unfold; (try dsimp only [List.cons_append, List.nil_append])) | (k_end; kc_close) | k_fold | walk1 | (dsimp only; walk1) | ((first | with_reducible show (_ : Value → Shared → Prop) _ _ | with_reducible show (_ : Flow → Shared → Prop) _ _ | with_reducible show (_ : List Value → Shared → Prop) _ _); k_unfold; (try dsimp only [List.cons_append, List.nil_append])) | (leave1; (try dsimp only)) | fail "no step")))
  (k_with "call builtin:issubclass" => ((k_dflt (refine call_issub (News.get (by k_asm) (by k_mem)) ?_); intro tkzw)))
  (k_with "exec For Name Name cons nil" => (walk_at "mine:for"))
  (k_with "exec For Tuple Call cons nil" => (walk_at "mine:for"))
  (k_with "exec For Name Call cons nil" => (walk_at "mine:for"))
  (k_with "call ref" => ((k_here; k_dflt (first | walk_at "mine:calls" | refine Stuck.out ?_))))
  (k_with "eval ListComp" => ((k_here; k_dflt (refine CK.evalL (by k_asm) (by with_unfolding_all rfl) (by decide) (by rfl) (by rfl) (by decide) ?_))))
  (k_with "call builtin:str.split" => ((k_here; k_dflt (refine KSpl.split1 (by k_asm) (by k_asm) (by decide) ?_ (by (refine Nat.le_trans ?_ sizeLine_ge); omega)); intro Dzw lzw hzw kzw ezw azw Fzw Nzw l1zw; (try k_lt l1zw))))
  (k_with "exec While BoolOp" => ((k_here; k_dflt (refine noRaise ?_); k_dflt (refine Stuck.out ?_))))
  (k_with "mine:calls" => (ktr_call con (con_dirname (by assumption))))
  exact trivial
section
/-- a path and all above it, at most n of them -/
def aboveL : Nat → Str → List Str
  | 0, _ => []
  | n + 1, x => if x = Str.ofString "/" then [] else x :: aboveL n (dirF x)
def itD : Nat → Str → Str
  | 0, x => x
  | n + 1, x => dirF (itD n x)
theorem above_root (n : Nat) : aboveL n (Str.ofString "/") = [] := by cases n <;> simp [aboveL]
theorem above_len : ∀ (n : Nat) (x : Str), (aboveL n x).length ≤ n
  | 0, x => Nat.le_refl _
  | n + 1, x => by
    unfold aboveL
    split
    · exact Nat.zero_le _
    · exact Nat.succ_le_succ (above_len n _)
set_option maxHeartbeats 4000000 in
theorem con_above {x : Str} {t : Tok} {news : Led} (hb : ∀ j, j ≤ 9 → (itD j x).length ≤ 1000) : Con w p loose mean mg mb 215 8 60 news [.str x t] (GivesStrs (aboveL 9 x)) := by
  walk_at "mine:con"
  k_steps
  rename Fr _ _ _ _ => F1
  rename News _ _ _ _ => N1
  rename ∀ v own h' tk', Fr _ _ h' _ → _ → _ → _ → _ => hret
  rename ∀ p ∈ news, p.1 < _ => hD
  obtain ⟨D, e, _⟩ := nameIt hD; subst e
  unfold Stuck
  refine While_inv (fun n m nx => ∃ (vs : List Value) (k : Nat) (y : Str) (ty : Tok) (acc : List Str), nx = (D, listOf vs.toArray k) :: news ∧ m (Str.ofString "above") = some (.ref D) ∧ m (Str.ofString "way") = some (.str y ty) ∧ StrsAre vs acc ∧ acc.length + n = 9 ∧ acc ++ aboveL n y = aboveL 9 x ∧ y = itD acc.length x) (n₀ := 9) (by exact F1) (by exact N1) ⟨[], 0, x, t, [], rfl, by with_unfolding_all rfl, by with_unfolding_all rfl, .nil, rfl, rfl, rfl⟩ ?_
  rintro n m1 nx h tk F2 N2 ⟨vs, k, y, ty, acc, rfl, hm1, hm2, hs, hn, he, hy⟩
  replace F2 := frShow2 F2 _ _ hm1 hm2
  have hvl : vs.length = acc.length := StrsAre.length hs
  have hyl : y.length ≤ 1000 := by rw [hy]; exact hb _ (by omega)
  have hz : vs.toArray.size ≤ sizeLine := by rw [List.size_toArray, hvl]; exact Nat.le_trans (show acc.length ≤ 9 by omega) (Nat.le_trans (by decide) sizeLine_ge)
  k_steps
  · rename (y != Str.ofString "/") = true => hne
    rename ((acc.length : Nat) : Int) < 9 => hlt
    rename News _ _ _ _ => N3
    rw [List.push_toArray] at N3
    have hy0 : y ≠ Str.ofString "/" := by simpa using hne
    obtain ⟨n', rfl⟩ : ∃ n', n = n' + 1 := ⟨n - 1, by omega⟩
    refine WhileStep.intro (by k_asm) N3 (Nat.lt_succ_self n') ⟨vs ++ [.str y ty], k + 1, dirF y, _, acc ++ [y], rfl, by with_unfolding_all rfl, by with_unfolding_all rfl, StrsAre.append' (by assumption) (.cons _ _ .nil), by rw [List.length_append]; simp; omega, ?_, by rw [List.length_append, hy]; rfl⟩
    rw [← he, aboveL, if_neg hy0, List.append_assoc]
    rfl
  · rename ¬ (((acc.length : Nat) : Int) < 9) => hlt
    have hn0 : n = 0 := by omega
    subst hn0
    rw [aboveL, List.append_nil] at he
    subst he
    exact hret _ [(D, _)] _ _ (by k_asm) (by k_asm) (fun p hp q hq => by rw [List.mem_singleton.mp hp]; exact hD q hq) ⟨D, vs, k, rfl, rfl, by assumption, Nat.le_trans (above_len 9 x) (by decide), hz⟩
  · rename (y != Str.ofString "/") = false => hne
    have hy0 : y = Str.ofString "/" := by simpa using hne
    rw [hy0, above_root, List.append_nil] at he
    subst he
    exact hret _ [(D, _)] _ _ (by k_asm) (by k_asm) (fun p hp q hq => by rw [List.mem_singleton.mp hp]; exact hD q hq) ⟨D, vs, k, rfl, rfl, hs, Nat.le_trans (above_len 9 x) (by decide), hz⟩
end
end
section
section
variable {prog : Program} {w : World} {A : Around} {E : Value → Shared → Prop} {s : Shared}
theorem eq_nil {a b : Addr} {va : List Value} {na nb : Nat} {Q : Value → Shared → Prop} (hu : A.units < cLine) (ha : s.heap.get? a = some (listOf va.toArray na)) (hb : s.heap.get? b = some (listOf #[] nb))
    (h : Q (.bool va.isEmpty) s) : wpAny (model prog w) A (compareOp .Eq (.ref a) (.ref b)) Q E s := by
  have hTa : s.TypeIs (.ref a) "list" := ⟨_, ha, rfl⟩
  have hTb : s.TypeIs (.ref b) "list" := ⟨_, hb, rfl⟩
  show wpAny _ _ (richCompare .Eq (.ref a) (.ref b)) Q E s
  refine wpAny_richCompare_same_room (op := .Eq) (T := "list") hTa hTb F.slot_list_eq ?_ hu
  refine wpAny_call (codeAny_call_builtin F.slot_list_eq.plain F.entry_list_eq (F.slot_list_eq.check _ _ _ _ _ _ _ _ hTa (F.args_list_eq_2 _ _) ?_))
  have f3 := AutoSeq1.sub_list_list
  obtain ⟨hp, g, d, tk, os⟩ := s
  cases va with
  | nil =>
    have hne : ¬ (([] : List Value).toArray.size != (#[] : Array Value).size) = true := by simp
    wp_walk using AutoSeq1.wpAny_loadPart' ha, AutoSeq1.wpAny_loadPart' hb
    exact ⟨plainId_quiet MeetsSeq3.plain_eq_loop _, codeAny_builtin MeetsSeq3.entry_eq_loop (by
      rw [Around.under_plainId MeetsSeq3.plain_eq_loop _]
      have z := MeetsSeq3.eq_loop a b #[] #[] na nb rfl (fun _ => true) (fun j h1 => absurd h1 (Nat.not_lt_zero _)) _ 0 rfl prog w A (fun r s' => match r with | .ok (.ret v) => v ≠ Value.notImplemented ∧ Q v s' | .ok _ => False | .error e => E e s') ⟨hp, g, d, tk, os⟩ ⟨ha, hb, by simp, h⟩
      exact z)⟩
  | cons v r =>
    have hne : ((v :: r).toArray.size != (#[] : Array Value).size) = true := by simp
    wp_walk using AutoSeq1.wpAny_loadPart' ha, AutoSeq1.wpAny_loadPart' hb
    exact ⟨by simp, h⟩
end
end
section
theorem lines21 : True := by
  w_top off
  k_with_none
  (k_with "mine:kall" => (first | exact ne_of_lts (by assumption) | exact ne_of_lts1 (by assumption) | exact ne_of_lts2 (by assumption) | exact ne_of_lts3 (by assumption)))
  (k_with "mine:mem" => (first | (with_reducible apply List.Mem.head) | ((with_reducible apply List.Mem.tail); walk_at "mine:mem")))
  (k_with "mine:tail" => (first | (with_reducible assumption) | ((with_reducible apply List.Mem.tail); walk_at "mine:tail")))
  (k_with "mine:all" => (first | (with_reducible apply List.forall_mem_nil) | (intro pzw hzw; with_reducible assumption) | ((with_reducible apply List.forall_mem_cons.mpr); refine ⟨by walk_at "mine:mem", ?_⟩; walk_at "mine:all") | (intro pzw hzw; walk_at "mine:tail")))
  (k_with "mine:kind" => (first | exact rfl | assumption))
  (k_with "mine:con" => ((intro dpzw unzw gdzw cnzw cszw azw ccdzw clzw outerzw Azw basezw hzw Lzw mzw szw Qzw Ezw Bzw Fzw Xzw Nzw Tzw hkzw hdzw huzw hretzw; obtain ⟨kdzw, nmszw, igzw, iczw, morezw⟩ := cszw; cases (show kdzw = ScopeKind.function from hkzw); refine wpAny_call ?_; k_dflt k_enter)))
  (k_with "mine:news" => (first | k_asm | exact cb_drop (by k_asm) (by kcj_all)))
  (k_with "mine:end" => ((rename ∀ v own h' tk', Fr _ _ h' _ → _ → _ → _ → _ => hretzw; refine give0 hretzw (by k_asm) (by walk_at "mine:news") ⟨rfl, ?_⟩)))
  (k_with "mine:ret" => ((walk_at "mine:end"; first | exact rfl | exact ⟨_, rfl⟩)))
  (k_with "mine:fold" => (((try dsimp only); (try k_fold))))
  (k_with "mine:con9" => ((intro vzw ownzw hzw tkzw Fzw Nzw hlzw rzw; (first | (obtain ⟨ezw, tzw, ezw'⟩ := rzw; subst ezw ezw') | (obtain ⟨ezw, ezw'⟩ := rzw; subst ezw ezw')); clear hlzw; (try simp only [List.nil_append] at Nzw); walk_at "mine:fold")))
  (k_with "mine:conL9" => (((try any_goals ((with_reducible show _ ∈ _); k_mem)); (try any_goals ((with_reducible show StrsAre _ _); assumption)); (try any_goals ((with_reducible show _ ≤ _); first | assumption | omega)); intro vzw ownzw hzw tkzw Fzw Nzw hlzw rzw; obtain ⟨Dzw, vszw, nzw, ezw, ezw', szw, qzw, zzw⟩ := rzw; subst ezw ezw'; (simp only [List.cons_append, List.nil_append] at Nzw); (have hlzw := fun q hq => hlzw _ (List.mem_singleton_self _) q hq); (try dsimp only at hlzw); walk_at "mine:fold")))
  (k_with "mine:for" => ((refine noRaise ?_; (rename Fr _ _ _ _ => lFzw); (with_unfolding_all refine' For_turns lFzw ?_); k_whole)))
  (k_with "mine:calls" => (fail "no contract"))
  (k_with "mine:steps" => (repeat' (first | (k_unfold; (try dsimp only [List.cons_append, List.nil_append])) | (k_end; kc_close) | k_fold | walk1 | (dsimp only; walk1) | ((first | with_reducible show (_ : Value → Shared → Prop) _ _ | with_reducible show (_ : Flow → Shared → Prop) _ _ | with_reducible show (_ : List Value → Shared → Prop) _ _); k_unfold; (try dsimp only [List.cons_append, List.nil_append])) | (leave1; (try dsimp only)) | fail "no step")))
  (k_with "call builtin:issubclass" => ((k_dflt (refine call_issub (News.get (by k_asm) (by k_mem)) ?_); intro tkzw)))
  (k_with "exec For Name Name cons nil" => (walk_at "mine:for"))
  (k_with "exec For Tuple Call cons nil" => (walk_at "mine:for"))
  (k_with "exec For Name Call cons nil" => (walk_at "mine:for"))
  (k_with "call ref" => ((k_here; k_dflt (first | walk_at "mine:calls" | refine Stuck.out ?_))))
  (k_with "eval ListComp" => ((k_here; k_dflt (refine CK.evalL (by k_asm) (by with_unfolding_all rfl) (by decide) (by rfl) (by rfl) (by decide) ?_))))
  (k_with "call builtin:str.split" => ((k_here; k_dflt (refine KSpl.split1 (by k_asm) (by k_asm) (by decide) ?_ (by (refine Nat.le_trans ?_ sizeLine_ge); omega)); intro Dzw lzw hzw kzw ezw azw Fzw Nzw l1zw; (try k_lt l1zw))))
  (k_with "compareOp Eq ref ref" => ((k_here; k_dflt (refine Stuck.out ?_))))
  exact trivial
section
variable {prog : Program} {w : World} {A : Around} {E : Value → Shared → Prop} {s : Shared} {env : Env} {h₀ : Heap} {target : Expr} {body : List Stmt} {Q : Flow → Shared → Prop}
/-- a for over a range, by what holds between its turns -/
theorem forRange {E' : Value → Shared → Prop} {r : Addr} {a b : Int} {tu ta tb : Tok} {n : Nat} {m₀ : Str → Option Value} {news : List (Addr × Obj)} (J : Nat → (Str → Option Value) → List (Addr × Obj) → Prop)
    (hh : A.handled = none) (F : Fr h₀ env.locals s.heap m₀) (N : News h₀ env.locals s.heap news) (hr : IsRange s.heap r a b 1 ta tb tu) (hsm : Builtin.Range.small a b 1 = true) (hn : Builtin.Range.rangeSize a b 1 = ((n : Nat) : Int)) (h0 : J 0 m₀ news)
    (hgo : ∀ I v (s : Shared) (Q : Unit → Shared → Prop) (E : Value → Shared → Prop), Q () s → wpAny (model prog w) A (letOwnedTupleGo target (.ref I) v) Q E s)
    (step : ∀ i t I o m₁ news₁ h tk, i < n → (∀ p ∈ news, p.1 < I) → J i m₁ news₁ → news₁.map (·.1) = news.map (·.1) → Fr h₀ env.locals h m₁ → News h₀ env.locals h ((I, o) :: news₁) →
      wpAny (model prog w) A (assign target env (.int (a + (i : Int)) t)) (fun _ s₂ => wpAny (model prog w) A (execs body env) (InvPostN h₀ env.locals (J (i + 1)) [(I, o)] (news.map (·.1)) { s with heap := h, toks := tk } Q) E s₂) E { s with heap := h, toks := tk })
    (done : ∀ m₁ news₁ h tk, J n m₁ news₁ → Fr h₀ env.locals h m₁ → News h₀ env.locals h news₁ → Q .next { s with heap := h, toks := tk }) :
    wpAny (model prog w) A (pyIter (.ref r)) (fun it s₂ => TurnsAt prog w A h₀ env target body Q E it s₂) E' s := by
  refine wpAny_pyIter_range hr hsm ?_
  have one : ∀ b, b ∈ [s.heap.objs.size] → b = s.heap.objs.size := fun b hb => List.mem_singleton.mp hb
  have rest₀ : ItemsRest prog w A E h₀ env target body Q s [(s.heap.objs.size, "range_iterator")] [] ((List.range n).map fun (i : Nat) => Itm.tok fun t => .int (a + (i : Int)) t) m₀ news := by
    refine itemsInv J (fun p hp q hq => ?_) (fun i m nx h => trivial) h0 ?_ (by simpa using done)
    · rw [List.mem_singleton.mp hq]; exact Nat.ne_of_lt (Heap.lt_size (N p hp).1)
    · intro i c m₁ news₁ v h tk ha hJ hadr hv F₁ o ho N₁
      have hi : i < n := by have := (List.getElem?_eq_some_iff.mp ha).1; simpa using this
      have e : ((List.range n).map fun (i : Nat) => Itm.tok fun t => .int (a + (i : Int)) t)[i]? = some (Itm.tok fun t => .int (a + (i : Int)) t) := by simp [hi]
      rw [ha] at e
      cases e
      obtain ⟨t, rfl⟩ := hv
      exact step i t _ o m₁ news₁ h tk hi (fun p hp => Heap.lt_size (N p hp).1) hJ hadr F₁ N₁
  refine ktu_core (tk0 := s.toks) (keep := []) (ws := [(s.heap.objs.size, "range_iterator")]) (KTurns.ofWalks (Walks.range hh s.heap.objs.size a 1 n).bound fun i v s Q E st q => hgo _ v s Q E q) (by simp)
    (fun i v h hp => ?_)
    (fun i h st => ⟨[(s.heap.objs.size, _)], ⟨⟨rfl, rfl⟩, trivial⟩, fun p hp => by rw [List.mem_singleton.mp hp]; exact st⟩)
    (fun b hb => by rw [one b hb]; exact ⟨List.mem_cons_self .., next_is_new F⟩)
    (fun b hb => by simpa using hb)
    (fun b hb => .inl (by rw [one b hb]; simp))
    (fun hI => absurd F.ns.lt ((one _ hI) ▸ Nat.lt_irrefl _)) (fun p hp hI => absurd (Heap.lt_size (N p hp).1) (one _ hI ▸ Nat.lt_irrefl _)) (by show IsRangeIter _ _ _ _ _; rw [hn]; simpa using Heap.get?_push_size _ rfl)
    (F.push _) (fun p hp => ⟨Heap.get?_push_of_some _ (N p hp).1, (N p hp).2⟩) trivial rest₀
  obtain ⟨hi, t, rfl⟩ := hp
  exact ⟨Itm.tok fun t => .int (a + (i : Int)) t, by simp [hi], t, by rw [Int.mul_one]⟩
end
section
variable {prog : Program} {w : World} {A : Around} {h₀ : Heap} {L : Addr} {m : Str → Option Value} {env : Env} {news : List (Addr × Obj)}
open LCg (NsObj lst) in
theorem OkL_range {elt : Expr} {ifs : List Expr} {x : Str} {scope : Scope} {cl : List (Str × Addr)} {Fin : Shared → List Value → List (Addr × Obj) → Prop} {s₁ : Shared} {r : Addr} {a b : Int} {ta tb tu : Tok}
    {n : Nat} (J : Nat → List Value → List (Addr × Obj) → Prop) (hh : A.handled = none) (hr : IsRange s₁.heap r a b 1 ta tb tu) (hsm : Builtin.Range.small a b 1 = true) (hn : Builtin.Range.rangeSize a b 1 = ((n : Nat) : Int))
    (hsz : n ≤ sizeLine) (F : Fr h₀ L s₁.heap m) (N : News h₀ L s₁.heap news) (hJ : J 0 [] news)
    (turn : ∀ i v I oI C oC D m₂ ys news h tk (E' : Value → Shared → Prop), i < n → (∃ t, v = .int (a + (i : Int)) t) → ys.length ≤ i → J i ys news → (fun _ : List (Addr × Obj) => True) news → NsObj oC m₂ → m₂ x = some v → Fr h₀ L h m → News h₀ L h ((I, oI) :: (C, oC) :: (D, lst ys) :: news) →
      (∀ p ∈ news, p.1 ≠ I ∧ p.1 ≠ C ∧ p.1 ≠ D) → I ≠ C → I ≠ D → C ≠ D →
      wpAny (model prog w) A (CK.tests (compEnvC scope cl C env) ifs) (fun ok s₃ => if ok = true then
        wpAny (model prog w) A (eval elt (compEnvC scope cl C env)) (fun y => CK.EndL h₀ L m { s₁ with heap := h, toks := tk } I oI C oC D (fun _ => True) (J (i + 1)) ys (ys ++ [y])) E' s₃
        else CK.EndL h₀ L m { s₁ with heap := h, toks := tk } I oI C oC D (fun _ => True) (J (i + 1)) ys ys s₃) E' { s₁ with heap := h, toks := tk })
    (fin : ∀ ys news, J n ys news → Fin s₁ ys news) : CK.OkL prog w A h₀ L m env elt ifs x scope cl Fin (.ref r) s₁ := by
  obtain ⟨oI, W⟩ := CK.srcRange hh hr hsm hn
  exact CK.OkL.intro J W hsz F N trivial hJ turn fin
end
section
def isOn (r : Str) (p : Int) : Int := if (Txt.item r p != Str.ofString "-") = true then 1 else 0
def codeF (i j : Nat) (r : Str) : Int := 2 * isOn r (5 + (i : Int)) + isOn r (5 + (i : Int) + 1 + (j : Int))
def missF (cs : List Int) (q : Nat) : List Int := ((List.range q).filter fun (x : Nat) => !(cs.any fun y => y == 0 + (x : Int))).map fun (x : Nat) => 0 + (x : Int)
theorem miss_yes {cs : List Int} {q : Nat} {t : Tok} {zs : List Value} (h : (cs.any fun y => y == 0 + (q : Int)) = false) (sz : IntsAre zs (missF cs q)) : IntsAre (zs ++ [.int (0 + (q : Int)) t]) (missF cs (q + 1)) := by
  unfold missF at sz ⊢
  rw [List.range_succ, List.filter_append, List.map_append]
  refine IntsAre.append sz ?_
  simp only [List.filter_cons, h, Bool.not_false, if_true, List.filter_nil, List.map_cons, List.map_nil]
  exact .cons _ _ .nil
theorem miss_no {cs : List Int} {q : Nat} {zs : List Value} (h : (cs.any fun y => y == 0 + (q : Int)) = true) (sz : IntsAre zs (missF cs q)) : IntsAre zs (missF cs (q + 1)) := by
  unfold missF at sz ⊢
  rw [List.range_succ, List.filter_append, List.map_append]
  simp only [List.filter_cons, h, Bool.not_true, Bool.false_eq_true, if_false, List.filter_nil, List.map_nil, List.append_nil]
  exact sz
def tornAt (rs : List Str) (i j : Nat) : Bool := (missF (rs.map (codeF i j)) 4).isEmpty
def tornF (rs : List Str) : Bool := (List.range 5).any fun i => (List.range (4 - i)).any fun j => tornAt rs i j
theorem ints_empty {zs : List Value} {ns : List Int} (h : IntsAre zs ns) : ns.isEmpty = zs.isEmpty := by cases h <;> rfl
theorem torn_yes {rs : List Str} {i j : Nat} (hi : i < 5) (hj : j < 4 - i) (h : tornAt rs i j = true) : tornF rs = true := by
  unfold tornF
  rw [List.any_eq_true]
  refine ⟨i, List.mem_range.mpr hi, ?_⟩
  rw [List.any_eq_true]
  exact ⟨j, List.mem_range.mpr hj, h⟩
theorem torn_no {rs : List Str} (h : ∀ i, i < 5 → ∀ j, j < 4 - i → tornAt rs i j = false) : tornF rs = false := by
  cases e : tornF rs with
  | false => rfl
  | true =>
    unfold tornF at e
    rw [List.any_eq_true] at e
    obtain ⟨i, hi, e⟩ := e
    rw [List.any_eq_true] at e
    obtain ⟨j, hj, e⟩ := e
    rw [h i (List.mem_range.mp hi) j (List.mem_range.mp hj)] at e
    cases e
set_option maxHeartbeats 4000000 in
theorem con_torn {l : Addr} {vs : List Value} {n : Nat} {rs : List Str} {news : Led} (hl : (l, listOf vs.toArray n) ∈ news) (hs : StrsAre vs rs) (hlen : rs.length ≤ 1000) (hten : ∀ r ∈ rs, r.length = 10) : Con w p loose mean mg mb 220 8 60 news [.ref l] (GivesB (tornF rs)) := by
  walk_at "mine:con"
  walk_at "mine:steps"
  rename Fr _ _ _ _ => F1
  rename News _ _ _ _ => N1
  rename ∀ v own h' tk', Fr _ _ h' _ → _ → _ → _ → _ => hret
  rename IsRange _ _ _ _ _ _ _ _ => hR
  rename ∀ p ∈ news, p.1 < _ => hD
  obtain ⟨L1, e, _⟩ := nameIt hD; subst e
  refine forRange (n := 5) (fun i m nx => ∃ oc1 oc2 oc3 v1 v2 v3, nx = (L1 + 1 + 1 + 1, oc3) :: (L1 + 1 + 1, oc2) :: (L1 + 1, oc1) :: news ∧ oc1.data = .cell v1 ∧ oc2.data = .cell v2 ∧ oc3.data = .cell v3 ∧ m (Str.ofString "rows") = some (.ref l) ∧ ∀ a, a < i → ∀ b, b < 4 - a → tornAt rs a b = false) (by exact rfl) (by exact F1) (by exact N1) hR (by decide) (by decide) ⟨_, _, _, _, _, _, rfl, by assumption, by assumption, by assumption, by with_unfolding_all rfl, fun a ha => absurd ha (Nat.not_lt_zero _)⟩ (fun I v s Q E q => wpAny_pure q) ?_ ?_
  · rintro i t1 I o m1 nx h tk hi hI ⟨oc1, oc2, oc3, v1, v2, v3, rfl, c1, c2, c3, hm1, hno⟩ hadr F2 N2
    replace F2 := frShow F2 _ hm1
    dsimp only [envOfC] at F2 N2
    k_lt hI
    walk_at "mine:steps"
    rename Fr _ _ _ _ => F3
    rename News _ _ _ _ => N3
    rename IsRange _ _ _ _ _ _ _ _ => hR2
    rename _ = Data.cell (some (Value.int (5 + (i : Int)) t1)) => d1
    have hsz : Builtin.Range.rangeSize (5 + (i : Int) + 1) 10 1 = ((4 - i : Nat) : Int) := by rw [rangeSize_one]; split <;> omega
    refine forRange (n := 4 - i) (fun j m nx => ∃ oc2 oc3 v2 v3, nx = (I, o) :: (L1 + 1 + 1 + 1, oc3) :: (L1 + 1 + 1, oc2) :: (L1 + 1, _) :: news ∧ oc2.data = .cell v2 ∧ oc3.data = .cell v3 ∧ m (Str.ofString "rows") = some (.ref l) ∧ ∀ b, b < j → tornAt rs i b = false) (by exact rfl) (by exact F3) (by exact N3) hR2 (small_one (by omega) (by omega) (by omega) (by omega)) hsz ⟨_, _, _, _, rfl, by assumption, by assumption, by with_unfolding_all rfl, fun b hb => absurd hb (Nat.not_lt_zero _)⟩ (fun I v s Q E q => wpAny_pure q) ?_ ?_
    · rintro j t2 I2 o2 m2 nx h2 tk2 hj hI2 ⟨oc2', oc3', v2', v3', rfl, e2, e3, hm2, hno2⟩ hadr2 F4 N4
      replace F4 := frShow F4 _ hm2
      dsimp only [envOfC] at F4 N4
      k_lt hI2
      clear F3 N3 hR2 hR
      walk_at "mine:steps"
      rename Fr _ _ _ _ => F5
      rename News _ _ _ _ => N5
      rename _ = Data.cell (some (Value.int (5 + (i : Int) + 1 + (j : Int)) t2)) => d2
      obtain ⟨base, hb⟩ := nameLed N5
      have ml : (l, listOf vs.toArray n) ∈ base := by rw [hb]; exact .tail _ (.tail _ (.tail _ (.tail _ (.tail _ hl))))
      refine CK.OkL.intro (fun q ys nw => nw = base ∧ IntsAre ys ((rs.take q).map (codeF i j))) (CK.srcList rfl N5 (hb ▸ ml) rfl rfl) (by rw [List.size_toArray, StrsAre.length hs]; exact Nat.le_trans (Nat.le_trans hlen (by decide)) sizeLine_ge) F5 N5 (hb ▸ ml) ⟨hb.symm, .nil⟩ ?_ ?_
      · intro q v I3 oI3 C3 oC3 D3 m3 ys nw h5 tk5 E5 hq hv hyl hJ hS hoC hx3 F6 N6 off hIC hID hCD
        obtain ⟨rfl, su⟩ := hJ
        obtain ⟨z, tz, rfl, hz⟩ := StrsAre.item hs q v (by simpa using hv)
        have hz10 : z.length = 10 := hten z (List.mem_of_getElem? hz)
        subst hb
        refine wpAny_tests_nil ?_
        simp only [if_true]
        walk_at "mine:steps"
        rename Fr _ _ _ _ => F7
        rename News _ _ _ _ => N7
        exact CK.EndL.intro F7 N7 _ (fun p hp => hp) off hS ⟨rfl, by rw [List.take_add_one, hz, Option.toList_some, List.map_append]; exact IntsAre.append su (.cons _ _ .nil)⟩
      · intro ys nw hJ D3 h5 tk5 F6 N6 off
        obtain ⟨rfl, su⟩ := hJ
        subst hb
        have f1 := neN (Ne.symm (off _ (.head _)))
        have f2 := neN (Ne.symm (off _ (.tail _ (.head _))))
        have f3 := neN (Ne.symm (off _ (.tail _ (.tail _ (.head _)))))
        have f4 := neN (Ne.symm (off _ (.tail _ (.tail _ (.tail _ (.head _))))))
        have f5 := neN (Ne.symm (off _ (.tail _ (.tail _ (.tail _ (.tail _ (.head _)))))))
        rw [List.size_toArray, StrsAre.length hs, List.take_length] at su
        walk_at "mine:steps"
        rename Fr _ _ _ _ => F8
        rename News _ _ _ _ => N8
        rename IsRange _ _ _ _ _ _ _ _ => hR3
        obtain ⟨base2, hb2⟩ := nameLed N8
        have ms : (D3, LCg.lst ys) ∈ base2 := by rw [hb2]; first | exact .head _ | exact .tail _ (.head _)
        refine OkL_range (n := 4) (fun q zs nw => nw = base2 ∧ IntsAre zs (missF (rs.map (codeF i j)) q)) (by exact rfl) (by exact hR3) (by decide) (by decide) (Nat.le_trans (show 4 ≤ 100000 by decide) sizeLine_ge) (by exact F8) (by exact N8) ⟨hb2.symm, .nil⟩ ?_ ?_
        · intro q v I4 oI4 C4 oC4 D4 m4 zs nw h6 tk6 E6 hq hv hyl hJ hS hoC hx4 F9 N9 off4 hIC4 hID4 hCD4
          obtain ⟨rfl, sz⟩ := hJ
          obtain ⟨t4, rfl⟩ := hv
          subst hb2
          refine wpAny_tests_one ?_
          walk_at "mine:steps"
          · exact CK.EndL.intro F9 N9 _ (fun p hp => hp) off4 trivial ⟨rfl, miss_no (by assumption) sz⟩
          · exact CK.EndL.intro F9 N9 _ (fun p hp => hp) off4 trivial ⟨rfl, miss_yes (by assumption) sz⟩
        · intro zs nw hJ D4 h6 tk6 F9 N9 off4
          obtain ⟨rfl, sz⟩ := hJ
          subst hb2
          walk_at "mine:steps"
          rename Fr _ _ _ _ => F10
          rename News _ _ _ _ => N10
          rename _ = Data.cell (some (Value.ref D3)) => d3
          refine Stuck.use ?_
          refine eq_nil (va := zs) (by ktr_units) (N10.get (.tail _ (.head _))) (N10.get (.head _)) ?_
          walk_at "mine:steps"
          · rename zs.isEmpty = true => hz
            have ht : tornF rs = true := torn_yes hi hj (by unfold tornAt; rw [ints_empty sz, hz])
            exact give0 hret (by k_asm) (by first | k_asm | exact cb_drop (by k_asm) (by kcj_all)) ⟨rfl, by rw [ht]⟩
          · rename zs.isEmpty = false => hz
            have ht : tornAt rs i j = false := by unfold tornAt; rw [ints_empty sz, hz]
            exact InvEndN.intro (by k_asm) (by k_asm) ⟨_, _, _, _, rfl, d2, d3, by with_unfolding_all rfl, fun b hb => by
              rcases Nat.lt_succ_iff_lt_or_eq.mp hb with hb | rfl
              · exact hno2 b hb
              · exact ht⟩ rfl (by kcj_all) (by kcj_all)
    · rintro m2 nx h2 tk2 ⟨oc2', oc3', v2', v3', rfl, e2, e3, hm2, hno2⟩ F4 N4
      replace F4 := frShow F4 _ hm2
      dsimp only [envOfC] at F4 N4
      walk_at "mine:steps"
      exact InvEndN.intro (by k_asm) (by k_asm) ⟨_, _, _, _, _, _, rfl, d1, e2, e3, by with_unfolding_all rfl, fun a ha => by
        rcases Nat.lt_succ_iff_lt_or_eq.mp ha with ha | rfl
        · exact hno a ha
        · exact hno2⟩ rfl (by kcj_all) (by kcj_all)
  · rintro m1 nx h tk ⟨oc1, oc2, oc3, v1, v2, v3, rfl, c1, c2, c3, hm1, hno⟩ F2 N2
    replace F2 := frShow F2 _ hm1
    dsimp only [envOfC] at F2 N2
    walk_at "mine:steps"
    have ht : tornF rs = false := torn_no hno
    exact give0 hret (by k_asm) (by first | k_asm | exact cb_drop (by k_asm) (by kcj_all)) ⟨rfl, by rw [ht]⟩
end
end
section
section
variable {prog : Program} {w : World} {A : Around} {E : Value → Shared → Prop} {s : Shared}
theorem collect_range {r : Addr} {a b : Int} {ta tb tu : Tok} {n : Nat} {Q : List Value → Shared → Prop} (hh : A.handled = none) (hr : IsRange s.heap r a b 1 ta tb tu) (hsm : Builtin.Range.small a b 1 = true) (hn : Builtin.Range.rangeSize a b 1 = ((n : Nat) : Int)) (hsz : n ≤ 2 ^ 24)
    (h : ∀ h' tk vs, (∀ b o, s.heap.get? b = some o → h'.get? b = some o) → ItemsOf (fun i v => ∃ t, v = .int (a + i * 1) t) vs n → Q vs.toList { s with heap := h', toks := tk }) : wpAny (model prog w) A (collect (.ref r)) Q E s := by
  have hrlt : r < s.heap.objs.size := Heap.lt_size hr
  unfold collect
  refine wpAny_bind (wpAny_runValue (codeAny_builtin F.entry_proto_collect ?_))
  rw [Around.under_plainId F.plain_proto_collect _]
  show wpAny _ A.in1 (newList [] >>= fun l => again (.builtin "list.__iadd__" ⟨[l, .ref r], []⟩)) _ _ s
  refine wpAny_bind (wpAny_newObj_type ?_)
  refine wpAny_pure ⟨plainId_quiet F.plain_list_iadd _, codeAny_builtin F.entry_list_iadd ?_⟩
  rw [Around.under_plainId F.plain_list_iadd _]
  have hS₁ : (s.heap.push { cls := .type "list", data := .seq ([] : List Value).toArray }).get? s.heap.objs.size = some { cls := .type "list", data := .seq ([] : List Value).toArray } := Heap.get?_push_size _ rfl
  have k1 : ∀ b o, s.heap.get? b = some o → (s.heap.push ({ cls := .type "list", data := .seq ([] : List Value).toArray } : Obj)).get? b = some o := fun b o e => Heap.get?_push_of_some _ e
  show wpAny _ A.in1 (Builtin.List.listExtendWith (.ref s.heap.objs.size) (.ref r) (.ref s.heap.objs.size)) _ _ _
  have key := wpAny_extend_range (prog := prog) (w := w) (A := A) (s := { s with heap := s.heap.push { cls := .type "list", data := .seq ([] : List Value).toArray } })
    (R := fun (q : Result) (s' : Shared) => ∃ (h' : Heap) (tk : Nat) (acc' : Array Value) (c' : Nat), q = .ok (.ret (.ref s.heap.objs.size)) ∧ s' = { s with heap := h', toks := tk } ∧ (∀ b o, s.heap.get? b = some o → h'.get? b = some o) ∧ h'.get? s.heap.objs.size = some { cls := .type "list", dict := none, data := .seq acc' c', slots := #[] } ∧ ItemsOf (fun i v => ∃ t, v = .int (a + i * 1) t) acc' n)
    hh (k1 _ _ hr) hsm hn hsz s.heap.objs.size (.ref s.heap.objs.size) 0 hS₁ fun h' tk acc' c' hk hS' hacc => ⟨h', tk, acc', c', rfl, rfl, fun b o e => hk b o (Nat.ne_of_lt (Heap.lt_size e)) (k1 b o e), hS', hacc⟩
  have last : ∀ (q : Result) (s' : Shared), (∃ (h' : Heap) (tk : Nat) (acc' : Array Value) (c' : Nat), q = .ok (.ret (.ref s.heap.objs.size)) ∧ s' = { s with heap := h', toks := tk } ∧ (∀ b o, s.heap.get? b = some o → h'.get? b = some o) ∧ h'.get? s.heap.objs.size = some { cls := .type "list", dict := none, data := .seq acc' c', slots := #[] } ∧ ItemsOf (fun i v => ∃ t, v = .int (a + i * 1) t) acc' n) →
      ∃ v, q = .ok (.ret v) ∧ wpAny (model prog w) A (match v with
            | Value.ref a => do
              let o ← load a
              match o.data with
                | Data.seq xs epoch => pure xs.toList
                | x => unsupported "internal:collect"
            | x => unsupported "internal:collect") Q E s' := by
    rintro q s' ⟨h', tk, acc', c', rfl, rfl, hk, hS', hacc⟩
    refine ⟨_, rfl, ?_⟩
    show wpAny _ A (load s.heap.objs.size >>= _) _ _ _
    refine wpAny_bind (wpAny_load hS' ?_)
    exact wpAny_pure (h h' tk acc' hk hacc)
  refine wpAny_mono key (fun fin s' x => ?_) fun e s' x => ?_
  · cases fin with
    | done f =>
      obtain ⟨v, e, z⟩ := last _ _ x
      cases e
      exact z
    | again c' =>
      refine ⟨x.1, codeAny_mono x.2 fun q s'' y => ?_⟩
      obtain ⟨v, e, z⟩ := last _ _ y
      subst e
      exact z
  · obtain ⟨v, e, z⟩ := last _ _ x
    cases e
end
open PySem.Calls in
section
variable {prog : Program} {w : World} {A : Around} {E : Value → Shared → Prop} {s : Shared} {h₀ : Heap} {L : Addr} {m : Str → Option Value} {news : List (Addr × Obj)}
theorem sortedRangeK {r : Addr} {a b : Int} {ta tb tu : Tok} {n : Nat} {bb : Bool} {f : Value} {kw : List (Str × Value)} {Q : Value → Shared → Prop} (F : Fr h₀ L s.heap m) (N : News h₀ L s.heap news) (hh : A.handled = none) (hr : IsRange s.heap r a b 1 ta tb tu) (hsm : Builtin.Range.small a b 1 = true) (hn : Builtin.Range.rangeSize a b 1 = ((n : Nat) : Int)) (h2 : 2 ≤ n) (h64 : n < 64)
    (ha1 : argsOk "sorted" ⟨[.ref r], kw⟩) (ha2 : ∀ x, argsOk "list.sort" ⟨[.ref x], kw⟩) (ht : ∀ x, Builtin.«list.sort» ⟨[.ref x], kw⟩ = ksk_tree x f bb)
    (h : ∀ (vs : Array Value) D kS e1 h' tk, ItemsOf (fun i v => ∃ t, v = .int (a + i * 1) t) vs n → Fr h₀ L h' m → News h₀ L h' ((kS, seqObj "list" #[] 0) :: (D, seqObj "list" #[] e1) :: news) → D < kS → (∀ q ∈ news, q.1 < D) →
      KatKeys prog w A.in1.in1 h₀ L m kS f (fun ks e s' => wpAny (model prog w) A.in1.in1 (keyKind' (List.toArray ks)) (fun κ s'' => (kas_sort n).kasWp (kas_ask prog w A.in1.in1 κ (katRev bb ks)) (fun p s3 => KatFin h₀ L m kS D ks e e1 (katRev bb (p.toList.map fun i => (katRev bb vs.toList).getD i Value.none)) (fun s4 => Q (.ref D) s4) s3) s'') (fun _ _ => False) s') vs.toList [] 0 { s with heap := h', toks := tk }) :
    wpAny (model prog w) A (call (.builtin "sorted") [.ref r] kw) Q E s := by
  refine call_function_entry_kw kind_sorted plain_sorted entry_sorted ha1 ?_
  unfold Builtin.«sorted»
  refine wpAny_bind (m := checkCount "sorted" 1 1 _) (wpAny_pure ?_)
  refine wpAny_bind (collect_range (show A.in1.handled = none from hh) hr hsm hn (Nat.le_trans (Nat.le_of_lt h64) (by decide)) fun h1 tk vs k hv => ?_)
  have hvn : vs.toList.length = n := by have := hv.1; simpa using this
  refine wpAny_bind (wpAny_newList ?_ (by rw [sizeLine_eq]; omega))
  have hoL : (h1.push (seqObj "list" vs.toList.toArray 0)).get? h1.objs.size = some (seqObj "list" vs.toList.toArray 0) := Heap.get?_push_size _ rfl
  have keep : ∀ b o, s.heap.get? b = some o → (h1.push (seqObj "list" vs.toList.toArray 0)).get? b = some o := fun b o q => Heap.get?_push_of_some _ (k b o q)
  have F1 : Fr h₀ L h1 m := F.keeps k
  have hL : L < h1.objs.size := F1.ns.lt
  have N1 : News h₀ L h1 news := N.grown k
  show wpAny _ _ _ _ _ { s with heap := h1.push (seqObj "list" vs.toList.toArray 0), toks := tk }
  refine wpAny_bind (wpAny_holding (wpAny_call_entry_kw slot_list_sort ⟨_, hoL, rfl⟩ entry_list_sort ?body (ha2 _)))
  case body =>
    have ht' := ht h1.objs.size
    show wpAny (model prog w) A.in1.in1 (Builtin.«list.sort» ⟨[.ref h1.objs.size], kw⟩) _ _ _
    rw [ht']
    refine kat_keyed (vs := vs.toList) (s := { s with heap := h1.push (seqObj "list" vs.toList.toArray 0), toks := tk })
      (F.keeps keep) (N.grown keep) hoL (Nat.ne_of_gt hL) (Heap.get?_none_of_le (Nat.le_trans F.above (Nat.le_of_lt hL)))
      (fun p hp => Nat.ne_of_lt (Heap.lt_size (N1 p hp).1)) (by rw [hvn]; exact h2) (by rw [hvn]; exact h64) fun kS e1 h' F' N' l0 l1 => ?_
    refine kat_keys_mono (h vs _ kS e1 h' _ hv F' N' l0 fun q hq => Heap.lt_size (N1 q hq).1) fun ks e s' hl' hd => ?_
    have hl2 : ks.length = vs.toList.length := by simpa using hl'
    refine wpAny_mono hd (fun κ s'' hk => ?_) fun _ _ x => x
    rw [← hvn] at hk
    rw [kat_ask_eq (vs := katRev bb vs.toList) (by rw [kat_len, kat_len, hl2])] at hk ⊢
    exact kas_wp_mono hk fun p s3 hk' => hk'.mono fun s4 hq => ⟨_, rfl, wpAny_pure ⟨_, rfl, hq⟩⟩
end
end
section
section
variable {α : Type}
def runK (lt : Nat → Nat → Bool) : KasT α → α
  | .ret a => a
  | .ask i j k => runK lt (k (lt i j))
/-- every question is of two of the first n -/
def okT (n : Nat) : KasT α → Bool
  | .ret _ => true
  | .ask i j k => decide (i < n) && decide (j < n) && okT n (k true) && okT n (k false)
theorem kas_pure {cmp : Nat → Nat → (Bool → Shared → Prop) → Shared → Prop} {n : Nat} (lt : Nat → Nat → Bool) (I : Shared → Prop) (hc : ∀ i j (P : Bool → Shared → Prop) s, i < n → j < n → I s → (∀ s', I s' → P (lt i j) s') → cmp i j P s) :
    ∀ (t : KasT α) (Q : α → Shared → Prop) (s : Shared), okT n t = true → I s → (∀ s', I s' → Q (runK lt t) s') → t.kasWp cmp Q s
  | .ret a, Q, s, _, hi, hq => hq s hi
  | .ask i j k, Q, s, hok, hi, hq => by
    simp only [okT, Bool.and_eq_true, decide_eq_true_eq] at hok
    refine hc i j _ s hok.1.1.1 hok.1.1.2 hi fun s' hi' => ?_
    refine kas_pure lt I hc (k (lt i j)) Q s' ?_ hi' hq
    cases lt i j
    · exact hok.2
    · exact hok.1.2
theorem ok5 : okT 5 (kas_sort 5) = true := by decide +kernel
end
/-- a tuple of two ints -/
def TupK (h : Heap) (v : Value) (a p : Int) : Prop := ∃ x o n t u, v = .ref x ∧ h.get? x = some o ∧ o.cls = .type "tuple" ∧ o.data = .seq #[.int a t, .int p u] n
def ltP (a p a' p' : Int) : Bool := if a = a' then decide (p < p') else decide (a < a')
section
variable {prog : Program} {w : World} {A : Around} {E : Value → Shared → Prop} {s : Shared}
theorem key_lt {v v' : Value} {a p a' p' : Int} {Q : Bool → Shared → Prop} (h1 : TupK s.heap v a p) (h2 : TupK s.heap v' a' p') (h : Q (ltP a p a' p') s) : wpAny (model prog w) A (keyLt' (tuples' true) v v') Q E s := by
  obtain ⟨x, o, n, t, u, rfl, g1, c1, d1⟩ := h1
  obtain ⟨x', o', n', t', u', rfl, g2, c2, d2⟩ := h2
  refine kat_lt g1 d1 g2 d2 ?_
  show KatLex prog w A true (decide (2 < 2)) Q [(.int a t, .int a' t'), (.int p u, .int p' u')] 0 s
  refine kat_cons (wpAny_eqBool_int ?_)
  unfold ltP at h
  by_cases e : a = a'
  · rw [if_pos e] at h
    subst e
    rw [beq_self_eq_true]
    refine kat_yes (kat_cons (wpAny_eqBool_int ?_))
    by_cases e2 : p = p'
    · subst e2
      rw [beq_self_eq_true]
      refine kat_yes (kat_nil ?_)
      simpa using h
    · rw [show (p == p') = false by simpa using e2]
      refine kat_no ?_
      show wpAny _ _ (oneLt' false (.int p u) (.int p' u')) _ _ _
      exact kat_one _ _ (wpAny_lt_int h)
  · rw [if_neg e] at h
    rw [show (a == a') = false by simpa using e]
    refine kat_no ?_
    show wpAny _ _ (oneLt' true (.int a t) (.int a' t')) _ _ _
    exact oneLt_int h
end
end
section
section
variable {prog : Program} {w : World} {A₀ A : Around} {R : Result → Shared → Prop} {s : Shared} {base h₀ : Heap} {L : Addr} {m : Str → Option Value} {news : List (Addr × Obj)} {K : Frag} {p : Program} {loose : List Str} {mean : ExcName → Option Value} {mg mb : Str → Option Value}
/-- a lambda whose one parameter is a cell -/
theorem lamC {env : Env} {outer : List Env} {name qual : Str} {params : Arguments} {body : Expr} {scope : Scope} {cl : List (Str × Addr)} {pm ctv : Value} {c' : Addr} {f : Addr} {args : Args} {x : Str} {v : Value}
    (B : Below A₀ base outer h₀) (F : Fr h₀ L s.heap m) (X₀ : K.In h₀) (N : News h₀ L s.heap news) (T : Top p loose mean mg mb h₀) (hA : A.frames = some (env :: outer)) (hf : env.frame = some L) (hke : env.scope.kind = .function)
    (ho : (f, kla_obj name qual params body scope cl pm c' ctv) ∈ news) (hcd : s.heap.CodeRec (.ref c') qual) (hroom : A.depth < recursionLimit)
    (hbind : bindArgs (kla_fn name qual params body scope cl pm (.ref c') ctv) args = pure [(x, v)])
    (hpc : ∀ h, pushCells h scope.names = h.push { cls := .type "cell", data := .cell none }) (hcf : ∀ a, cellsFrom a scope.names cl = (x, a) :: cl) (hx : scope.names.lookup x = some .cell)
    (h : ∀ g L' h₁ oc tk, Fr h₀ L g m → Fr g L' h₁ (fun _ => none) → News g L' h₁ ((L' + 1, oc) :: news) → oc.data = .cell (some v) → Below A base (env :: outer) g → K.In g → Top p loose mean mg mb g → (∀ q ∈ news, q.1 < L') →
      wpAny (model prog w) (A.deeper (envX qual scope L' f (.ref c') ((x, L' + 1) :: cl))) (eval body (envX qual scope L' f (.ref c') ((x, L' + 1) :: cl)))
        (fun v s' => LeaveK h₀ L m g R v s')
        (fun e s' => wpAny (model prog w) (A.deeper (envX qual scope L' f (.ref c') ((x, L' + 1) :: cl))) (leaving (envX qual scope L' f (.ref c') ((x, L' + 1) :: cl)) e) (fun _ s'' => R (.error e) s'') (fun e' s'' => R (.error e') s'') s')
        { s with heap := h₁, toks := tk })
    (hco : scope.isCoroutine = false) (hgen : scope.isGenerator = false) (hk : scope.kind = .function) : codeAny (model prog w) A (.call (.ref f) args) R s := by
  obtain ⟨FG, BG, st, lv⟩ := groundX (R := R) B F N hA hf hke
  refine kla_callFunE hroom (N _ ho).1 rfl hco hgen rfl hcd ?_
  rw [hbind]
  refine wpAny_pure ?_
  unfold newFunctionEnv
  simp only [Option.isSome_none, Bool.false_eq_true, if_false]
  refine wpAny_bind (wpAny_alloc ?_)
  refine wpAny_bind (wpAny_layCells _ (fun name kind cells => by cases hkc : kind == NameKind.cell <;> simp [hkc]) _ _ _ _ ?_)
  rw [hpc, hcf]
  have hz1 : (s.heap.push { cls := .type "frame", data := .dict #[] }).objs.size = s.heap.objs.size + 1 := Heap.size_push ..
  generalize hB : s.heap.push { cls := .type "frame", data := .dict #[] } = B1 at *
  have ns1 : B1.Ns s.heap.objs.size (fun _ => none) := hB ▸ Heap.Ns.new s.heap (.type "frame")
  have k1 : ∀ b o, s.heap.get? b = some o → B1.get? b = some o := fun b o e => hB ▸ Heap.get?_push_of_some _ e
  dsimp only
  rw [hz1]
  have gc : (B1.push { cls := .type "cell", data := .cell none }).get? (s.heap.objs.size + 1) = some { cls := .type "cell", data := .cell none } := hz1 ▸ Heap.get?_push_size _ rfl
  have ns2 : (B1.push ({ cls := .type "cell", data := .cell none } : Obj)).Ns s.heap.objs.size (fun _ => none) := ns1.keeps fun b o e => Heap.get?_push_of_some _ e
  have k2 : ∀ b o, s.heap.get? b = some o → (B1.push ({ cls := .type "cell", data := .cell none } : Obj)).get? b = some o := fun b o e => Heap.get?_push_of_some _ (k1 b o e)
  generalize B1.push ({ cls := .type "cell", data := .cell none } : Obj) = B2 at *
  simp only [List.forIn_cons, List.forIn_nil]
  refine wpAny_bind (wpAny_bind (wpAny_bind (wpAny_storeName_cell (c := s.heap.objs.size + 1) (v₀ := none) ?e1 ?e2 ?e3 ?e4 fun h₃ hcv hs₃ => ?_)))
  case e1 => exact hk
  case e2 => exact hx
  case e3 => simp
  case e4 => exact ⟨_, gc, rfl⟩
  refine wpAny_pure (wpAny_pure ?_)
  obtain ⟨oc, goc, doc⟩ := hcv
  have k3 : ∀ b o, s.heap.get? b = some o → h₃.get? b = some o := fun b o e => hs₃.extBut b o (Nat.ne_of_lt (Nat.lt_succ_of_lt (Heap.lt_size e))) (k2 b o e)
  refine wpAny_pure ⟨(T.nolimit.keeps F.keep).keeps k3, ?_⟩
  show codeAny _ _ (.expr body (envX qual scope s.heap.objs.size f (.ref c') ((x, s.heap.objs.size + 1) :: cl))) _ _
  refine kla_codeExpr (wpAny_mono (h _ s.heap.objs.size h₃ oc _ FG ⟨ns2.sameBut hs₃ (Nat.ne_of_lt (Nat.lt_succ_self _)), fun b o e => k3 b o (of_hideAll _ e), Nat.le_of_eq (hideAll_size _ _)⟩
    (fun q hq => ?_) doc BG (X₀.keeps st) (T.keeps st) fun q hq => Heap.lt_size (N q hq).1) (fun v s' hl => lv _ _ hl) fun _ _ y => y)
  rcases List.mem_cons.mp hq with rfl | hq
  · refine ⟨goc, Nat.succ_ne_self _, ?_⟩
    cases e : (hideAll s.heap (news.map (·.1))).get? (s.heap.objs.size + 1) with
    | none => rfl
    | some o => exact absurd (Heap.lt_size (of_hideAll _ e)) (Nat.not_lt.mpr (Nat.le_succ _))
  · exact ⟨k3 _ _ (N q hq).1, Nat.ne_of_lt (Heap.lt_size (N q hq).1), hideAll_none _ (List.mem_map_of_mem hq)⟩
end
end
section
/-- what the table of a code object holds: nothing yet, or the one code made at a place -/
def TabSt (pos : Pos) (qual : Str) (led : Led) (ps : Array Value) : Prop :=
  ps = #[] ∨ ∃ c' oc vs t, ps = #[rawInt pos.line, rawInt pos.col, .ref c'] ∧ (c', oc) ∈ led ∧ oc.data = .fields vs ∧ vs[1]? = some (.str qual t)
theorem updF_mid {P : Addr} {o : Obj} : ∀ {hd rest : Led}, (∀ p ∈ hd, p.1 ≠ P) → (∀ p ∈ rest, p.1 ≠ P) → UpdF P o (hd ++ (P, o) :: rest) (fun o' => hd ++ (P, o') :: rest)
  | [], _, _, h2 => .head h2
  | p :: hd, rest, h1, h2 => .tail (h1 p List.mem_cons_self) (updF_mid (fun q hq => h1 q (List.mem_cons_of_mem _ hq)) h2)
section
variable {prog : Program} {w : World} {A : Around} {E : Value → Shared → Prop} {s : Shared} {h₀ : Heap} {L a c P : Addr} {m mg mb : Str → Option Value} {cn : Str} {cs : Scope} {ccd : Value} {cl : List (Str × Addr)}
  {p : Program} {loose : List Str} {mean : ExcName → Option Value} {name qual : Str} {params : Arguments} {body : Expr} {scope : Scope} {ps : Array Value} {pos : Pos} {firstLine : Nat} {clos : List (Str × Addr)}
theorem mkLam {hd rest tl : Led} {Q : Value → Shared → Prop} (F : Fr h₀ L s.heap m) (N : News h₀ L s.heap (hd ++ (P, tabObj ps) :: rest)) (T : Top p loose mean mg mb h₀) (C : CodeHd h₀ c P) (hcd : ccd = .ref c) (h1 : ∀ q ∈ hd, q.1 ≠ P) (h2 : ∀ q ∈ rest, q.1 ≠ P) (hps : TabSt pos qual tl ps)
    (hcl : closureFor scope (envX cn cs L a ccd cl) = pure clos)
    (h : ∀ f c' oc vs t ctv new h' tk, Fr h₀ L h' m → News h₀ L h' ((f, kla_obj name qual params body scope clos ((mg "__name__").getD .none) c' ctv) :: (hd ++ (P, tabObj #[rawInt pos.line, rawInt pos.col, .ref c']) :: (new ++ rest))) →
      (c', oc) ∈ new ++ tl → oc.data = .fields vs → vs[1]? = some (.str qual t) → (∀ q ∈ new, ∀ r ∈ hd ++ (P, tabObj ps) :: rest, r.1 < q.1) → (∀ r ∈ hd ++ (P, tabObj ps) :: (new ++ rest), r.1 < f) → Q (.ref f) { s with heap := h', toks := tk }) :
    wpAny (model prog w) A (makeFunction name qual params (.expr body) scope (envX cn cs L a ccd cl) [] [] [] pos firstLine) Q E s := by
  rcases hps with rfl | ⟨c', oc, vs, t, rfl, hm, hd1, hv1⟩
  · refine kla_nest F N T C hcd (updF_mid h1 h2) trivial rfl hcl ?_
    intro f c' oc vs t ctv h' tk F' N' d1 d2 l1 l2
    refine h f c' oc vs t ctv [(c', oc)] h' tk F' (fun q hq => N' q ?_) (.head _) d1 d2 (fun q hq r hr => by rw [List.mem_singleton.mp hq]; exact l1 r hr) (fun r hr => ?_)
    · rcases List.mem_cons.mp hq with rfl | hq
      · exact .head _
      · rcases List.mem_append.mp hq with hq | hq
        · exact .tail _ (.tail _ (List.mem_append_left _ hq))
        · rcases List.mem_cons.mp hq with rfl | hq
          · exact .tail _ (.tail _ (List.mem_append_right _ (.head _)))
          · rcases List.mem_cons.mp hq with rfl | hq
            · exact .tail _ (.head _)
            · exact .tail _ (.tail _ (List.mem_append_right _ (.tail _ hq)))
    · rcases List.mem_append.mp hr with hr | hr
      · exact Nat.lt_trans (l1 r (List.mem_append_left _ hr)) l2
      · rcases List.mem_cons.mp hr with rfl | hr
        · exact Nat.lt_trans (l1 _ (List.mem_append_right _ (.head _))) l2
        · rcases List.mem_cons.mp hr with rfl | hr
          · exact l2
          · exact Nat.lt_trans (l1 r (List.mem_append_right _ (.tail _ hr))) l2
  · refine kla_hit (c' := c') F N T C hcd (List.mem_append_right _ (.head _)) ⟨⟩ (by simp [codeAmong, rawInt]) hcl ?_
    intro f ctv h' tk F' N' l1
    exact h f c' oc vs t ctv [] h' tk F' N' hm hd1 hv1 (fun q hq => nomatch hq) l1
end
end
section
section
/-- a tuple of two ints on the ledger -/
def TupL (led : Led) (v : Value) (a p : Int) : Prop := ∃ x o n t u, v = .ref x ∧ (x, o) ∈ led ∧ o.cls = .type "tuple" ∧ o.data = .seq #[.int a t, .int p u] n
def KeysL (led : Led) (key : Nat → Int) (a : Int) (i : Nat) (ks : List Value) : Prop := ks.length = i ∧ ∀ j v, ks[j]? = some v → TupL led v (key j) (a + (j : Int))
theorem KeysL.more {led led' : Led} {key : Nat → Int} {a : Int} {i : Nat} {ks : List Value} {k : Value} (h : KeysL led key a i ks) (hs : ∀ q ∈ led, q ∈ led') (hk : TupL led' k (key i) (a + (i : Int))) : KeysL led' key a (i + 1) (ks ++ [k]) := by
  refine ⟨by rw [List.length_append, h.1]; rfl, fun j v hj => ?_⟩
  by_cases e : j < ks.length
  · rw [List.getElem?_append_left e] at hj
    obtain ⟨x, o, n, t, u, e1, hm, c, d⟩ := h.2 j v hj
    exact ⟨x, o, n, t, u, e1, hs _ hm, c, d⟩
  · rw [List.getElem?_append_right (Nat.le_of_not_lt e)] at hj
    obtain ⟨q, rfl⟩ : ∃ q, j = ks.length + q := ⟨j - ks.length, by omega⟩
    rw [Nat.add_sub_cancel_left] at hj
    cases q with
    | zero => simp only [List.getElem?_cons_zero, Option.some.injEq] at hj; subst hj; rw [Nat.add_zero, h.1]; exact hk
    | succ q => simp at hj
theorem TupL.up {h₀ h : Heap} {L : Addr} {led : Led} (N : News h₀ L h led) {v : Value} {a p : Int} (t : TupL led v a p) : TupK h v a p := by
  obtain ⟨x, o, n, t, u, e1, hm, c, d⟩ := t
  exact ⟨x, o, n, t, u, e1, (N _ hm).1, c, d⟩
theorem tups_of {h : Heap} : ∀ (ks : List Value), (∀ v ∈ ks, ∃ a p, TupK h v a p) → ∃ fs, KatTups h ks fs ∧ fs.length = ks.length ∧ ∀ v ∈ fs, ∃ a t, v = .int a t
  | [], _ => ⟨[], .nil, rfl, fun _ h => nomatch h⟩
  | k :: ks, hk => by
    obtain ⟨fs, h1, h2, h3⟩ := tups_of ks fun v hv => hk v (List.mem_cons_of_mem _ hv)
    obtain ⟨a, p, x, o, n, t, u, rfl, g, c, d⟩ := hk k List.mem_cons_self
    refine ⟨.int a t :: fs, .cons g c d rfl h1, by simp [h2], fun v hv => ?_⟩
    rcases List.mem_cons.mp hv with rfl | hv
    · exact ⟨_, _, rfl⟩
    · exact h3 v hv
def ltK (key : Nat → Int) (a : Int) (i j : Nat) : Bool := ltP (key i) (a + (i : Int)) (key j) (a + (j : Int))
def sortK (key : Nat → Int) (a : Int) : List Int := (runK (ltK key a) (kas_sort 5)).toList.map fun (i : Nat) => a + (i : Int)
def before (l : List Nat) (i j : Nat) : Bool := decide (l.idxOf i < l.idxOf j)
/-- at each leaf the one order that is left -/
def chkT : KasT (Array Nat) → List (List Nat) → Bool
  | .ret p, ls => ls.all fun l => l == p.toList
  | .ask i j k, ls => decide (i < 5) && decide (j < 5) && chkT (k true) (ls.filter fun l => before l i j) && chkT (k false) (ls.filter fun l => !before l i j)
def five : List Nat := [0, 1, 2, 3, 4]
def orders5 : List (List Nat) := five.flatMap fun a => five.flatMap fun b => five.flatMap fun c => five.flatMap fun d => (five.filter fun e => [a, b, c, d, e].isPerm five).map fun e => [a, b, c, d, e]
theorem chk_sound (lt : Nat → Nat → Bool) (l : List Nat) (hl : ∀ i j, i < 5 → j < 5 → lt i j = before l i j) : ∀ (t : KasT (Array Nat)) (ls : List (List Nat)), l ∈ ls → chkT t ls = true → (runK lt t).toList = l
  | .ret p, ls, hm, h => by
    rw [chkT, List.all_eq_true] at h
    exact (eq_of_beq (h l hm)).symm
  | .ask i j k, ls, hm, h => by
    simp only [chkT, Bool.and_eq_true, decide_eq_true_eq] at h
    rw [runK, hl i j h.1.1.1 h.1.1.2]
    cases e : before l i j with
    | true => exact chk_sound lt l hl (k true) _ (List.mem_filter.mpr ⟨hm, e⟩) h.1.2
    | false => exact chk_sound lt l hl (k false) _ (List.mem_filter.mpr ⟨hm, by rw [e]; rfl⟩) h.2
theorem chk5 : chkT (kas_sort 5) orders5 = true := by decide +kernel
theorem mem_orders {l : List Nat} (h : l.Perm (List.range 5)) : l ∈ orders5 := by
  have h' : l.Perm five := h
  have hlen : l.length = 5 := h'.length_eq
  obtain ⟨a, b, c, d, e, rfl⟩ : ∃ a b c d e, l = [a, b, c, d, e] := by
    match l, hlen with
    | [a, b, c, d, e], _ => exact ⟨a, b, c, d, e, rfl⟩
  have ha : a ∈ five := h'.mem_iff.mp (by simp)
  have hb : b ∈ five := h'.mem_iff.mp (by simp)
  have hc : c ∈ five := h'.mem_iff.mp (by simp)
  have hd : d ∈ five := h'.mem_iff.mp (by simp)
  have he : e ∈ five := h'.mem_iff.mp (by simp)
  unfold orders5
  simp only [List.mem_flatMap, List.mem_map, List.mem_filter]
  exact ⟨a, ha, b, hb, c, hc, d, hd, e, ⟨he, List.isPerm_iff.mpr h'⟩, rfl⟩
theorem before_of {lt : Nat → Nat → Bool} (irr : ∀ i, lt i i = false) (asy : ∀ i j, lt i j = true → lt j i = false) : ∀ (l : List Nat), l.Pairwise (fun i j => lt i j = true) → ∀ i j, i ∈ l → j ∈ l → lt i j = before l i j
  | [], _, i, j, hi, _ => nomatch hi
  | x :: l, hp, i, j, hi, hj => by
    rw [List.pairwise_cons] at hp
    unfold before
    rw [List.idxOf_cons, List.idxOf_cons]
    by_cases ei : x = i
    · subst ei
      by_cases ej : x = j
      · subst ej; simp [irr]
      · have hjl : j ∈ l := (List.mem_cons.mp hj).resolve_left (Ne.symm ej)
        have : (x == j) = false := by simpa using ej
        rw [this, hp.1 j hjl]; simp
    · have hil : i ∈ l := (List.mem_cons.mp hi).resolve_left (Ne.symm ei)
      have e1 : (x == i) = false := by simpa using ei
      by_cases ej : x = j
      · subst ej
        rw [e1, asy _ _ (hp.1 i hil)]; simp
      · have hjl : j ∈ l := (List.mem_cons.mp hj).resolve_left (Ne.symm ej)
        have e2 : (x == j) = false := by simpa using ej
        rw [e1, e2, before_of irr asy l hp.2 i j hil hjl]
        unfold before
        simp
def leK (key : Nat → Int) (i j : Nat) : Prop := key i < key j ∨ key i = key j ∧ i < j
theorem ltK_iff {key : Nat → Int} {a : Int} {i j : Nat} : ltK key a i j = true ↔ leK key i j := by
  unfold ltK ltP leK
  split <;> rename_i h <;> simp only [decide_eq_true_eq] <;> omega
theorem sort5 (key : Nat → Int) (a : Int) : ∃ l : List Nat, l.Perm (List.range 5) ∧ l.Pairwise (leK key) ∧ (runK (ltK key a) (kas_sort 5)).toList = l := by
  let le : Nat → Nat → Bool := fun i j => !ltK key a j i
  have nle : ∀ i j, le i j = true ↔ ¬ leK key j i := fun i j => by
    show (!ltK key a j i) = true ↔ _
    rw [Bool.not_eq_true', ← ltK_iff (a := a)]
    simp
  have hp : ((List.range 5).mergeSort le).Perm (List.range 5) := List.mergeSort_perm _ _
  have hs : ((List.range 5).mergeSort le).Pairwise (fun i j => le i j = true) := List.pairwise_mergeSort
    (fun i j k h1 h2 => by rw [nle] at h1 h2 ⊢; unfold leK at *; omega)
    (fun i j => by rw [Bool.or_eq_true, nle, nle]; unfold leK; omega) _
  have hn : ((List.range 5).mergeSort le).Nodup := hp.nodup_iff.mpr List.nodup_range
  have hl : ((List.range 5).mergeSort le).Pairwise (leK key) := (hs.and hn).imp fun {i j} ⟨h1, h2⟩ => by
    rw [nle] at h1; unfold leK at *; omega
  refine ⟨_, hp, hl, chk_sound _ _ (fun i j hi hj => ?_) _ _ (mem_orders hp) chk5⟩
  have hm : ∀ i, i < 5 → i ∈ (List.range 5).mergeSort le := fun i hi => hp.mem_iff.mpr (List.mem_range.mpr hi)
  refine before_of (lt := ltK key a) (fun i => ?_) (fun i j h => ?_) _ (hl.imp fun {i j} h => ltK_iff.mpr h) i j (hm i hi) (hm j hj)
  · rw [Bool.eq_false_iff]; intro h; rw [ltK_iff] at h; unfold leK at h; omega
  · rw [Bool.eq_false_iff]; intro h2; rw [ltK_iff] at h h2; unfold leK at h h2; omega
end
section
variable {prog : Program} {w : World} {A : Around} {E : Value → Shared → Prop} {s : Shared} {h₀ : Heap} {L : Addr} {m : Str → Option Value} {news : List (Addr × Obj)}
theorem keysInv {kS D : Addr} {e1 : Nat} {f : Value} {a : Int} {key : Nat → Int} {Fin : List Value → Nat → Shared → Prop} (hD : D < kS) (hn : ∀ q ∈ news, q.1 < D)
    (turn : ∀ i t h tk (pre : Led) (C : Value → Shared → Prop), i < 5 → Fr h₀ L h m → News h₀ L h (news ++ pre) → (∀ q ∈ pre, ∀ r ∈ news, q.1 ≠ r.1) →
      (∀ x n t1 t2 h' tk', Fr h₀ L h' m → News h₀ L h' ((x, seqObj "tuple" #[Value.int (key i) t1, Value.int (a + (i : Int)) t2] n) :: (news ++ pre)) → (∀ q ∈ news ++ pre, q.1 ≠ x) → C (.ref x) { s with heap := h', toks := tk' }) →
      wpAny (model prog w) A (call f [Value.int (a + (i : Int)) t]) C (fun _ _ => False) { s with heap := h, toks := tk })
    (fin : ∀ ks e (pre : Led) h tk, KeysL pre key a 5 ks → (∀ q ∈ pre, q.1 ≠ kS ∧ q.1 ≠ D ∧ ∀ r ∈ news, q.1 ≠ r.1) → Fr h₀ L h m → News h₀ L h ((kS, seqObj "list" (List.toArray ks) e) :: (D, seqObj "list" #[] e1) :: (news ++ pre)) → Fin ks e { s with heap := h, toks := tk }) :
    ∀ (vs ks : List Value) (i e : Nat) (pre : Led) (h : Heap) (tk : Nat), i + vs.length = 5 → (∀ j v, vs[j]? = some v → ∃ t, v = Value.int (a + ((i + j : Nat) : Int)) t) → KeysL pre key a i ks → (∀ q ∈ pre, q.1 ≠ kS ∧ q.1 ≠ D ∧ ∀ r ∈ news, q.1 ≠ r.1) →
      Fr h₀ L h m → News h₀ L h ((kS, seqObj "list" (List.toArray ks) e) :: (D, seqObj "list" #[] e1) :: (news ++ pre)) → KatKeys prog w A h₀ L m kS f Fin vs ks e { s with heap := h, toks := tk }
  | [], ks, i, e, pre, h, tk, hl, hv, hk, ho, F, N => by
    have : i = 5 := by simpa using hl
    subst this
    exact fin ks e pre h tk hk ho F N
  | v :: vs, ks, i, e, pre, h, tk, hl, hv, hk, ho, F, N => by
    rw [List.length_cons] at hl
    obtain ⟨t, rfl⟩ := hv 0 v rfl
    rw [Nat.add_zero]
    refine KatKeys.cons (turn i t h tk ((kS, seqObj "list" (List.toArray ks) e) :: (D, seqObj "list" #[] e1) :: pre) _ (by omega) F (fun q hq => N q ?_) (fun q hq r hr => ?_) ?_)
    · rcases List.mem_append.mp hq with hq | hq
      · exact .tail _ (.tail _ (List.mem_append_left _ hq))
      · rcases List.mem_cons.mp hq with rfl | hq
        · exact .head _
        · rcases List.mem_cons.mp hq with rfl | hq
          · exact .tail _ (.head _)
          · exact .tail _ (.tail _ (List.mem_append_right _ hq))
    · rcases List.mem_cons.mp hq with rfl | hq
      · exact Nat.ne_of_gt (Nat.lt_trans (hn r hr) hD)
      · rcases List.mem_cons.mp hq with rfl | hq
        · exact Nat.ne_of_gt (hn r hr)
        · exact (ho q hq).2.2 r hr
    · intro x n t1 t2 h' tk' F' N' hx
      have hxS : x ≠ kS := Ne.symm (hx (kS, _) (List.mem_append_right _ (.head _)))
      have hxD : x ≠ D := Ne.symm (hx (D, _) (List.mem_append_right _ (.tail _ (.head _))))
      have hxn : ∀ r ∈ news, x ≠ r.1 := fun r hr => Ne.symm (hx r (List.mem_append_left _ hr))
      have ho' : ∀ q ∈ (x, seqObj "tuple" #[Value.int (key i) t1, Value.int (a + (i : Int)) t2] n) :: pre, q.1 ≠ kS ∧ q.1 ≠ D ∧ ∀ r ∈ news, q.1 ≠ r.1 := fun q hq => by
        rcases List.mem_cons.mp hq with rfl | hq
        · exact ⟨hxS, hxD, hxn⟩
        · exact ho q hq
      refine KatBack.intro (news := (kS, seqObj "list" (List.toArray ks) e) :: (D, seqObj "list" #[] e1) :: (news ++ (x, seqObj "tuple" #[Value.int (key i) t1, Value.int (a + (i : Int)) t2] n) :: pre)) F' (fun q hq => N' q ?_) (.head fun q hq => ?_) ?_
      · rcases List.mem_cons.mp hq with rfl | hq
        · exact .tail _ (List.mem_append_right _ (.head _))
        · rcases List.mem_cons.mp hq with rfl | hq
          · exact .tail _ (List.mem_append_right _ (.tail _ (.head _)))
          · rcases List.mem_append.mp hq with hq | hq
            · exact .tail _ (List.mem_append_left _ hq)
            · rcases List.mem_cons.mp hq with rfl | hq
              · exact .head _
              · exact .tail _ (List.mem_append_right _ (.tail _ (.tail _ hq)))
      · rcases List.mem_cons.mp hq with rfl | hq
        · exact Nat.ne_of_lt hD
        · rcases List.mem_append.mp hq with hq | hq
          · exact Nat.ne_of_lt (Nat.lt_trans (hn q hq) hD)
          · exact (ho' q hq).1
      · intro h2 c F2 N2
        exact keysInv hD hn turn fin vs (ks ++ [.ref x]) (i + 1) c _ h2 tk' (by omega) (fun j v hj => by
          obtain ⟨t, e⟩ := hv (j + 1) v hj
          exact ⟨t, by rw [e, show i + (j + 1) = i + 1 + j by omega]⟩) (hk.more (fun q hq => .tail _ hq) ⟨x, _, n, t1, t2, rfl, .head _, rfl, rfl⟩) ho' F2 N2
theorem sortedKeyed {r : Addr} {a b : Int} {ta tb tu : Tok} {f : Value} {kw : List (Str × Value)} {key : Nat → Int} {Q : Value → Shared → Prop} (F : Fr h₀ L s.heap m) (N : News h₀ L s.heap news) (hh : A.handled = none) (hr : IsRange s.heap r a b 1 ta tb tu) (hsm : Builtin.Range.small a b 1 = true) (hn : Builtin.Range.rangeSize a b 1 = ((5 : Nat) : Int))
    (ha1 : argsOk "sorted" ⟨[.ref r], kw⟩) (ha2 : ∀ x, argsOk "list.sort" ⟨[.ref x], kw⟩) (ht : ∀ x, Builtin.«list.sort» ⟨[.ref x], kw⟩ = ksk_tree x f false)
    (turn : ∀ i t h tk (pre : Led) (C : Value → Shared → Prop), i < 5 → Fr h₀ L h m → News h₀ L h (news ++ pre) → (∀ q ∈ pre, ∀ r ∈ news, q.1 ≠ r.1) →
      (∀ x n t1 t2 h' tk', Fr h₀ L h' m → News h₀ L h' ((x, seqObj "tuple" #[Value.int (key i) t1, Value.int (a + (i : Int)) t2] n) :: (news ++ pre)) → (∀ q ∈ news ++ pre, q.1 ≠ x) → C (.ref x) { s with heap := h', toks := tk' }) →
      wpAny (model prog w) A.in1.in1 (call f [Value.int (a + (i : Int)) t]) C (fun _ _ => False) { s with heap := h, toks := tk })
    (h : ∀ D out c h' tk', Fr h₀ L h' m → News h₀ L h' ((D, listOf (List.toArray out) c) :: news) → (∀ q ∈ news, q.1 < D) → IntsAre out (sortK key a) → Q (.ref D) { s with heap := h', toks := tk' }) :
    wpAny (model prog w) A (call (.builtin "sorted") [.ref r] kw) Q E s := by
  refine sortedRangeK (f := f) (bb := false) (n := 5) F N hh hr hsm hn (by decide) (by decide) ha1 ha2 ht ?_
  intro vs D kS e1 h1 tk1 hvs F1 N1 hDk hnD
  have hvl : vs.toList.length = 5 := by have := hvs.1; simpa using this
  refine keysInv hDk hnD turn ?_ vs.toList [] 0 0 [] h1 tk1 (by rw [hvl]) (fun j v hj => ?_) ⟨rfl, fun j v hj => by simp at hj⟩ (fun q hq => nomatch hq) F1 (by rw [List.append_nil]; exact N1)
  · intro ks e pre h2 tk2 hk ho F2 N2
    obtain ⟨fs, t1, t2, t3⟩ := tups_of (h := h2) ks fun v hv => by
      obtain ⟨j, hj⟩ := List.mem_iff_getElem?.mp hv
      obtain ⟨x, o, n, t, u, e1, hm, c, d⟩ := hk.2 j v hj
      exact ⟨_, _, x, o, n, t, u, e1, (N2 _ (.tail _ (.tail _ (List.mem_append_right _ hm)))).1, c, d⟩
    refine kat_kind (T := .type "int") t1 (by rw [t2, hk.1]; decide) (fun v hv => ?_) rfl ?_
    · obtain ⟨a, t, rfl⟩ := t3 v hv
      exact Looks.of_pure rfl
    · refine kas_pure (n := 5) (ltK key a) (fun s' => s' = { s with heap := h2, toks := tk2 }) ?_ (kas_sort 5) _ _ ok5 rfl ?_
      · rintro i j P s' hi hj rfl hP
        have gi : ∀ i, i < 5 → TupK h2 (ks.getD i Value.none) (key i) (a + (i : Int)) := fun i hi => by
          have hil : i < ks.length := by rw [hk.1]; exact hi
          have e1 : ks[i]? = some (ks.getD i Value.none) := by simp [hil]
          obtain ⟨x, o, n, t, u, e1, hm, c, d⟩ := hk.2 i _ e1
          exact ⟨x, o, n, t, u, e1, (N2 _ (.tail _ (.tail _ (List.mem_append_right _ hm)))).1, c, d⟩
        exact key_lt (gi i hi) (gi j hj) (hP _ rfl)
      · rintro s' rfl
        refine KatFin.intro F2 N2 (.head fun q hq => ?_) ?_
        · rcases List.mem_cons.mp hq with rfl | hq
          · exact Nat.ne_of_lt hDk
          · rcases List.mem_append.mp hq with hq | hq
            · exact Nat.ne_of_lt (Nat.lt_trans (hnD q hq) hDk)
            · exact (ho q hq).1
        · intro h3 c F3 N3
          refine KasFin.intro F3 N3 (.tail (Nat.ne_of_gt hDk) (.head fun q hq => ?_)) ?_
          · rcases List.mem_append.mp hq with hq | hq
            · exact Nat.ne_of_lt (hnD q hq)
            · exact (ho q hq).2.1
          · intro h4 c4 F4 N4
            refine h D (katRev false ((runK (ltK key a) (kas_sort 5)).toList.map fun i => (katRev false vs.toList).getD i Value.none)) c4 h4 _ F4 (fun q hq => N4 q ?_) hnD ?_
            · rcases List.mem_cons.mp hq with rfl | hq
              · exact .tail _ (.head _)
              · exact .tail _ (.tail _ (List.mem_append_left _ hq))
            · obtain ⟨l, hp, hpw, hl⟩ := sort5 key a
              have all5 : ∀ i ∈ l, i < 5 := fun i hi => List.mem_range.mp (hp.mem_iff.mp hi)
              unfold sortK
              show IntsAre ((runK (ltK key a) (kas_sort 5)).toList.map _) _
              rw [hl]
              clear hl hp hpw
              show IntsAre (l.map fun i => vs.toList.getD i Value.none) _
              induction l with
              | nil => exact .nil
              | cons i l ih =>
                have hi := all5 i List.mem_cons_self
                have hil : i < vs.toList.length := by rw [hvl]; exact hi
                have e1 : vs[i]? = some (vs.toList.getD i Value.none) := by
                  rw [← Array.getElem?_toList]; simp only [List.getD_eq_getElem?_getD]; rw [List.getElem?_eq_getElem hil]; rfl
                obtain ⟨t, e2⟩ := hvs.2 i _ e1
                rw [List.map_cons, List.map_cons, e2, Int.mul_one]
                exact .cons _ _ (ih fun j hj => all5 j (List.mem_cons_of_mem _ hj))
  · rw [Array.getElem?_toList] at hj
    obtain ⟨t, e⟩ := hvs.2 j v hj
    exact ⟨t, by rw [e, Int.mul_one, Nat.zero_add]⟩
end
end
section
section
def digS (p : Int) : Str := Str.ofString (toString p)
def stepW (ns : List Int) (way : Str) (p : Int) : Str := if (ns.any fun y => y == p) = true then joinF way (digS p) else way
def wayF (ord ns : List Int) : Str := ord.foldl (stepW ns) (Str.ofString "/")
theorem dig_ok {p : Int} (h1 : 5 ≤ p) (h2 : p ≤ 9) : (digS p).length = 1 ∧ Txt.startswith (digS p) (Str.ofString "/") = false := by
  obtain rfl | rfl | rfl | rfl | rfl : p = 5 ∨ p = 6 ∨ p = 7 ∨ p = 8 ∨ p = 9 := by omega
  all_goals exact ⟨by decide +kernel, by decide +kernel⟩
theorem joinF_len {x y : Str} (hy : y.length = 1) : (joinF x y).length ≤ x.length + 2 ∧ (joinF x y).length ≠ 0 := by
  unfold joinF
  split
  · rw [Str.length_append]; omega
  · rw [Str.length_append, Str.length_append]
    have : (Str.ofString "/").length = 1 := by decide +kernel
    omega
theorem root_len : (Str.ofString "/").length = 1 := by decide +kernel
theorem take_fold {ord ns : List Int} {j : Nat} {p : Int} (h : ord[j]? = some p) (a : Str) : (ord.take (j + 1)).foldl (stepW ns) a = stepW ns ((ord.take j).foldl (stepW ns) a) p := by
  rw [List.take_add_one, h, Option.toList_some, List.foldl_append]; rfl
theorem sortK_range {key : Nat → Int} {p : Int} (h : p ∈ sortK key 5) : 5 ≤ p ∧ p ≤ 9 := by
  unfold sortK at h
  obtain ⟨l, hp, _, hl⟩ := sort5 key 5
  rw [hl] at h
  obtain ⟨i, hi, rfl⟩ := List.mem_map.mp h
  have := List.mem_range.mp (hp.mem_iff.mp hi)
  omega
theorem sortK_len (key : Nat → Int) : (sortK key 5).length = 5 := by
  unfold sortK
  obtain ⟨l, hp, _, hl⟩ := sort5 key 5
  rw [hl, List.length_map, hp.length_eq, List.length_range]
end
end
section
theorem lines22 : True := by
  w_top off
  k_with_none
  (k_with "mine:kall" => (first | exact ne_of_lts (by assumption) | exact ne_of_lts1 (by assumption) | exact ne_of_lts2 (by assumption) | exact ne_of_lts3 (by assumption)))
  (k_with "mine:mem" => (first | (with_reducible apply List.Mem.head) | ((with_reducible apply List.Mem.tail); walk_at "mine:mem")))
  (k_with "mine:tail" => (first | (with_reducible assumption) | ((with_reducible apply List.Mem.tail); walk_at "mine:tail")))
  (k_with "mine:all" => (first | (with_reducible apply List.forall_mem_nil) | (intro pzw hzw; with_reducible assumption) | ((with_reducible apply List.forall_mem_cons.mpr); refine ⟨by walk_at "mine:mem", ?_⟩; walk_at "mine:all") | (intro pzw hzw; walk_at "mine:tail")))
  (k_with "mine:kind" => (first | exact rfl | assumption))
  (k_with "mine:con" => ((intro dpzw unzw gdzw cnzw cszw azw ccdzw clzw outerzw Azw basezw hzw Lzw mzw szw Qzw Ezw Bzw Fzw Xzw Nzw Tzw hkzw hdzw huzw hretzw; obtain ⟨kdzw, nmszw, igzw, iczw, morezw⟩ := cszw; cases (show kdzw = ScopeKind.function from hkzw); refine wpAny_call ?_; k_dflt k_enter)))
  (k_with "mine:news" => (first | k_asm | exact cb_drop (by k_asm) (by kcj_all)))
  (k_with "mine:end" => ((rename ∀ v own h' tk', Fr _ _ h' _ → _ → _ → _ → _ => hretzw; refine give0 hretzw (by k_asm) (by walk_at "mine:news") ⟨rfl, ?_⟩)))
  (k_with "mine:ret" => ((walk_at "mine:end"; first | exact rfl | exact ⟨_, rfl⟩)))
  (k_with "mine:fold" => (((try dsimp only); (try k_fold))))
  (k_with "mine:con9" => ((intro vzw ownzw hzw tkzw Fzw Nzw hlzw rzw; (first | (obtain ⟨ezw, tzw, ezw'⟩ := rzw; subst ezw ezw') | (obtain ⟨ezw, ezw'⟩ := rzw; subst ezw ezw')); clear hlzw; (try simp only [List.nil_append] at Nzw); walk_at "mine:fold")))
  (k_with "mine:conL9" => (((try any_goals ((with_reducible show _ ∈ _); k_mem)); (try any_goals ((with_reducible show StrsAre _ _); assumption)); (try any_goals ((with_reducible show _ ≤ _); first | assumption | omega)); intro vzw ownzw hzw tkzw Fzw Nzw hlzw rzw; obtain ⟨Dzw, vszw, nzw, ezw, ezw', szw, qzw, zzw⟩ := rzw; subst ezw ezw'; (simp only [List.cons_append, List.nil_append] at Nzw); (have hlzw := fun q hq => hlzw _ (List.mem_singleton_self _) q hq); (try dsimp only at hlzw); walk_at "mine:fold")))
  (k_with "mine:for" => ((refine noRaise ?_; (rename Fr _ _ _ _ => lFzw); (with_unfolding_all refine' For_turns lFzw ?_); k_whole)))
  (k_with "mine:calls" => (fail "no contract"))
  (k_with "mine:steps" => (repeat' (first | (k_unfold; (try dsimp only [List.cons_append, List.nil_append])) | (k_end; kc_close) | k_fold | walk1 | (dsimp only; walk1) | ((first | with_reducible show (_ : Value → Shared → Prop) _ _ | with_reducible show (_ : Flow → Shared → Prop) _ _ | with_reducible show (_ : List Value → Shared → Prop) _ _); k_unfold; (try dsimp only [List.cons_append, List.nil_append])) | (leave1; (try dsimp only)) | fail "no step")))
  (k_with "call builtin:issubclass" => ((k_dflt (refine call_issub (News.get (by k_asm) (by k_mem)) ?_); intro tkzw)))
  (k_with "exec For Name Name cons nil" => (walk_at "mine:for"))
  (k_with "exec For Tuple Call cons nil" => (walk_at "mine:for"))
  (k_with "exec For Name Call cons nil" => (walk_at "mine:for"))
  (k_with "call ref" => ((k_here; k_dflt (first | walk_at "mine:calls" | refine Stuck.out ?_))))
  (k_with "eval ListComp" => ((k_here; k_dflt (refine CK.evalL (by k_asm) (by with_unfolding_all rfl) (by decide) (by rfl) (by rfl) (by decide) ?_))))
  (k_with "call builtin:str.split" => ((k_here; k_dflt (refine KSpl.split1 (by k_asm) (by k_asm) (by decide) ?_ (by (refine Nat.le_trans ?_ sizeLine_ge); omega)); intro Dzw lzw hzw kzw ezw azw Fzw Nzw l1zw; (try k_lt l1zw))))
  (k_with "call builtin:len" => ((k_here; (with_reducible show wpAny _ _ (call (Value.builtin "len") [Value.ref _]) _ _ _); k_dflt (refine lenAny (News.isList (by k_asm) (by first | k_mem | exact .head _ | exact .tail _ (.head _))) (by assumption) ?_; k_whole))))
  (k_with "mine:kall" => (assumption))
  (k_with "eval ListComp" => ((k_here; k_dflt (refine CK.evalC (by k_asm) (by with_unfolding_all rfl) (by intro _; rfl) (by intro _; rfl) (by rfl) (by rfl) (by decide) ?_))))
  (k_with "call type:range" => ((k_here; (k_dflt (refine rangeLed (by k_asm) (by k_asm) ?_; k_whole)); intro rzw hzw tkzw t1zw u1zw v1zw Fzw Nzw l1zw; (try k_lt l1zw); (try k_sweep))))
  (k_with "mine:calls" => (ktr_call con (con_join (by assumption) (by assumption) (by assumption) (by assumption))))
  (k_with "eval Lambda" => ((k_here; (refine kla_eval (by exact rfl) ?_); k_dflt (refine Stuck.out ?_))))
  exact trivial
/-- the ledger holds lists of ints -/
inductive LInts (bl : Led) : List Value → List (List Int) → Prop
  | nil : LInts bl [] []
  | cons {r : Addr} {vs : List Value} {n : Nat} {ns : List Int} {ys : List Value} {nss : List (List Int)} : (r, listOf vs.toArray n) ∈ bl → IntsAre vs ns → LInts bl ys nss → LInts bl (.ref r :: ys) (ns :: nss)
theorem LInts.mono {bl bl' : Led} (hb : ∀ p ∈ bl, p ∈ bl') {ys : List Value} {nss : List (List Int)} (h : LInts bl ys nss) : LInts bl' ys nss := by
  induction h with
  | nil => exact .nil
  | cons a b _ ih => exact .cons (hb _ a) b ih
theorem LInts.snoc {bl : Led} {r : Addr} {vs : List Value} {n : Nat} {ns : List Int} (hm : (r, listOf vs.toArray n) ∈ bl) (hi : IntsAre vs ns) {ys : List Value} {nss : List (List Int)} (h : LInts bl ys nss) : LInts bl (ys ++ [.ref r]) (nss ++ [ns]) := by
  induction h with
  | nil => exact .cons hm hi .nil
  | cons a b _ ih => exact .cons a b ih
theorem LInts.length {bl : Led} {ys : List Value} {nss : List (List Int)} (h : LInts bl ys nss) : ys.length = nss.length := by
  induction h with
  | nil => rfl
  | cons _ _ _ ih => simp [ih]
theorem LInts.item {bl : Led} {ys : List Value} {nss : List (List Int)} (h : LInts bl ys nss) : ∀ (i : Nat) (v : Value), ys[i]? = some v → ∃ r vs n ns, v = .ref r ∧ (r, listOf vs.toArray n) ∈ bl ∧ IntsAre vs ns ∧ nss[i]? = some ns := by
  induction h with
  | nil => intro i v hv; simp at hv
  | cons a b _ ih =>
    intro i v hv
    cases i with
    | zero => simp only [List.getElem?_cons_zero, Option.some.injEq] at hv; subst hv; exact ⟨_, _, _, _, rfl, a, b, rfl⟩
    | succ i => simpa using ih i v (by simpa using hv)
/-- the first q places in which a row is unlike the root -/
def apU (rt r : Str) (q : Nat) : List Int := ((List.range q).filter fun (x : Nat) => Txt.item r (5 + (x : Int)) != Txt.item rt (5 + (x : Int))).map fun (x : Nat) => 5 + (x : Int)
theorem ap_yes {rt r : Str} {q : Nat} {t : Tok} {zs : List Value} (h : (Txt.item r (5 + (q : Int)) != Txt.item rt (5 + (q : Int))) = true) (sz : IntsAre zs (apU rt r q)) : IntsAre (zs ++ [.int (5 + (q : Int)) t]) (apU rt r (q + 1)) := by
  unfold apU at sz ⊢
  rw [List.range_succ, List.filter_append, List.map_append]
  refine IntsAre.append sz ?_
  simp only [List.filter_cons, h, if_true, List.filter_nil, List.map_cons, List.map_nil]
  exact .cons _ _ .nil
theorem ap_no {rt r : Str} {q : Nat} {zs : List Value} (h : (Txt.item r (5 + (q : Int)) != Txt.item rt (5 + (q : Int))) = false) (sz : IntsAre zs (apU rt r q)) : IntsAre zs (apU rt r (q + 1)) := by
  unfold apU at sz ⊢
  rw [List.range_succ, List.filter_append, List.map_append]
  simp only [List.filter_cons, h, Bool.false_eq_true, if_false, List.filter_nil, List.map_nil, List.append_nil]
  exact sz
def cntF (aps : List (List Int)) (p : Int) : Int := (((aps.filter fun ns => ns.any fun y => y == p).length : Nat) : Int)
def keyF (aps : List (List Int)) (i : Nat) : Int := -(cntF aps (5 + (i : Int)))
def waysF (rs : List Str) (rt : Str) : List Str := (rs.map fun r => apU rt r 5).map (wayF (sortK (keyF (rs.map fun r => apU rt r 5)) 5))
abbrev rngObj (a b : Int) (t u v : Tok) : Obj := { cls := .type "range", dict := none, data := .fields #[.int a t, .int b u, .int 1 v], slots := #[] }
theorem rangeLed {prog : Program} {w : World} {A : Around} {E : Value → Shared → Prop} {s : Shared} {h₀ : Heap} {L : Addr} {m : Str → Option Value} {Q : Value → Shared → Prop} {a b : Int} {t u : Tok} {news : List (Addr × Obj)} (F : Fr h₀ L s.heap m) (N : News h₀ L s.heap news)
    (h : ∀ r h' tk t₁ u₁ v₁, Fr h₀ L h' m → News h₀ L h' ((r, rngObj a b t₁ u₁ v₁) :: news) → (∀ p ∈ news, p.1 < r) → Q (.ref r) { s with heap := h', toks := tk }) :
    wpAny (model prog w) A (call (.type "range") [.int a t, .int b u]) Q E s :=
  range2_rows F N fun h' tk t1 u1 v1 hr F' N' _ => h _ h' tk t1 u1 v1 F' (fun q hq => by
    rcases List.mem_cons.mp hq with rfl | hq
    · exact ⟨hr, Nat.ne_of_gt F.ns.lt, Heap.get?_none_of_le (Nat.le_trans F.above (Nat.le_of_lt F.ns.lt))⟩
    · exact N' q hq) fun p hp => Heap.lt_size (N p hp).1
theorem newsTail {h₀ h : Heap} {L : Addr} {x : Addr × Obj} {news : List (Addr × Obj)} (N : News h₀ L h (x :: news)) : News h₀ L h news := fun q hq => N q (.tail _ hq)
theorem allLt5 {D : Addr} {a b c d e : Addr × Obj} {l : Led} (h : a.1 < D ∧ b.1 < D ∧ c.1 < D ∧ d.1 < D ∧ e.1 < D ∧ AllLt D l) : ∀ q ∈ a :: b :: c :: d :: e :: l, q.1 ≠ D := by
  intro q hq
  simp only [List.mem_cons] at hq
  rcases hq with rfl | rfl | rfl | rfl | rfl | hq
  · exact Nat.ne_of_lt h.1
  · exact Nat.ne_of_lt h.2.1
  · exact Nat.ne_of_lt h.2.2.1
  · exact Nat.ne_of_lt h.2.2.2.1
  · exact Nat.ne_of_lt h.2.2.2.2.1
  · exact Nat.ne_of_lt (allLt_all h.2.2.2.2.2 q hq)
theorem newsDrop2 {h₀ h : Heap} {L : Addr} {x y z : Addr × Obj} {l : Led} (N : News h₀ L h (x :: y :: z :: l)) : News h₀ L h (x :: l) := fun q hq => (List.mem_cons.mp hq).elim (fun e => e ▸ N x (.head _)) fun hq => N q (.tail _ (.tail _ (.tail _ hq)))
theorem nameR {a b : Nat} (_ : a < b) : ∃ b' : Nat, b' = b := ⟨b, rfl⟩
theorem newsDup {h₀ h : Heap} {L : Addr} {x : Addr × Obj} {news : List (Addr × Obj)} (N : News h₀ L h news) (hm : x ∈ news) : News h₀ L h (x :: news) := fun q hq => (List.mem_cons.mp hq).elim (fun e => e ▸ N x hm) (N q)
section
theorem news4 {h₀ h : Heap} {L : Addr} {r a b c x : Addr × Obj} {bl news : Led} (N : News h₀ L h (r :: a :: b :: c :: (bl ++ x :: news))) : News h₀ L h ((r :: a :: b :: c :: bl) ++ x :: news) := N
theorem news5 {h₀ h : Heap} {L : Addr} {f r a b c x : Addr × Obj} {bl news : Led} (N : News h₀ L h (f :: ((r :: a :: b :: c :: bl) ++ x :: news))) : ∃ nwt, nwt = bl ++ x :: news ∧ News h₀ L h (f :: r :: a :: b :: c :: nwt) := ⟨_, rfl, N⟩
theorem hd205 {L1 r D : Addr} {o0 o1 o2 o3 : Obj} {bl : Led} (h : 205 < L1) (hr : r ≠ 205) (hD : D ≠ 205) (hb : ∀ q ∈ bl, q.1 ≠ 205) : ∀ q ∈ (r, o0) :: (D, o1) :: (L1 + 1 + 1, o2) :: (L1 + 1, o3) :: bl, q.1 ≠ 205 := by
  intro q hq
  rcases List.mem_cons.mp hq with rfl | hq
  · exact hr
  rcases List.mem_cons.mp hq with rfl | hq
  · exact hD
  · rcases List.mem_cons.mp hq with rfl | hq
    · exact Nat.ne_of_gt (Nat.lt_succ_of_lt (Nat.lt_succ_of_lt h))
    · rcases List.mem_cons.mp hq with rfl | hq
      · exact Nat.ne_of_gt (Nat.lt_succ_of_lt h)
      · exact hb q hq
def lamPos : Pos := { line := 195, col := 37, endLine := 195, endCol := 107 }
def lamQ : Str := Str.ofString "_law_ways" ++ Str.ofString ".<locals>." ++ Str.ofString "<lambda>"
/-- a contract of the def that makes the lambda: the table of its code may grow -/
abbrev ConW (w : World) (p : Program) (loose : List Str) (mean : ExcName → Option Value) (mg mb : Str → Option Value) (f : Addr) (d u : Nat) (ps : Array Value) (tl news : Led) (vs : List Value) (R : Value → Led → Prop) : Prop :=
  ∀ (dp un : Nat) (gd : Option (List Code)) (cn : Str) (cs : Scope) (a : Addr) (ccd : Value) (cl : List (Str × Addr)) (outer : List Env) (A₀ : Around) (base h₀ : Heap) (L : Addr) (m : Str → Option Value) (s : Shared) (Q E : Value → Shared → Prop),
    CodeHd base 207 205 → Below A₀ base outer h₀ → Fr h₀ L s.heap m → (hd.heap_39 w.params).In h₀ → News h₀ L s.heap ((205, tabObj ps) :: news) → Top p loose mean mg mb h₀ → cs.kind = .function →
    dp + d < recursionLimit → un + u < cLine →
    (∀ v own new ps' h' tk', Fr h₀ L h' m → News h₀ L h' (own ++ (205, tabObj ps') :: (new ++ news)) → TabSt lamPos lamQ (new ++ tl) ps' → (∀ p ∈ own, ∀ q ∈ (205, tabObj ps') :: (new ++ news), q.1 < p.1) → (∀ p ∈ new, ∀ q ∈ (205, tabObj ps') :: news, q.1 < p.1) → R v own → Q v { s with heap := h', toks := tk' }) →
      wpAny (model MP w) (ktrTop dp un gd cn cs L a ccd cl outer) (call (.ref f) vs) Q E s
set_option maxHeartbeats 4000000 in
theorem con_ways {l : Addr} {vs : List Value} {n : Nat} {rs : List Str} {rt : Str} {tr : Tok} {news : Led} (hl : (l, listOf vs.toArray n) ∈ news) (hs : StrsAre vs rs) (hlen : rs.length ≤ 1000) (hten : ∀ r ∈ rs, r.length = 10) (hrt : rt.length = 10) {ps : Array Value} {tl : Led} (hps : TabSt lamPos lamQ tl ps) (htl : ∀ q ∈ tl, q ∈ news) (hap : ∀ q ∈ news, q.1 ≠ 205) : ConW w p loose mean mg mb 208 16 100 ps tl news [.ref l, .str rt tr] (GivesStrs (waysF rs rt)) := by
  intro dp un gd cn cs a ccd cl outer A₀ base0 h₀ L m s Q E C B F X N T hk hd hu hret0
  obtain ⟨kd, nms, ig, ic, more⟩ := cs
  cases (show kd = ScopeKind.function from hk)
  refine wpAny_call ?_
  k_dflt k_enter
  walk_at "mine:steps"
  rename Fr _ _ _ _ => F1
  rename News _ _ _ _ => N1
  rename 205 < _ ∧ AllLt _ news => hD0
  obtain ⟨L1, e⟩ := nameA hD0.2; subst e
  have hD : ∀ p ∈ (205, tabObj ps) :: news, p.1 < L1 := fun p hp => by
    rcases List.mem_cons.mp hp with rfl | hp
    · exact hD0.1
    · exact allLt_all hD0.2 p hp
  obtain ⟨base, hb⟩ := nameLed N1
  have ml : (l, listOf vs.toArray n) ∈ base := by rw [hb]; exact .tail _ (.tail _ (.tail _ hl))
  have hrs : vs.length = rs.length := StrsAre.length hs
  have cR := N1 _ (.tail _ (.head _))
  refine CK.OkC.intro (fun i ys nw => ∃ (bl : Led) (oA oR : Obj), nw = (L1 + 1 + 1, oA) :: (L1 + 1, oR) :: (bl ++ (205, tabObj ps) :: news) ∧ (∀ q ∈ bl, q.1 ≠ L1 + 1 + 1 ∧ q.1 ≠ 205) ∧ (∃ v, oA.data = .cell v) ∧ oR.data = .cell (some (.str rt tr)) ∧ LInts bl ys ((rs.take i).map fun r => apU rt r 5)) (CK.srcList (by exact rfl) (by exact N1) (hb ▸ ml) rfl rfl) (by rw [List.size_toArray, hrs]; exact Nat.le_trans (Nat.le_trans hlen (by decide)) sizeLine_ge) (by exact F1) (by exact N1) (hb ▸ ml) ⟨[], _, _, rfl, (fun q hq => nomatch hq), ⟨_, by assumption⟩, by assumption, .nil⟩ ?_ ?_
  · rintro i v I oI C oC D c oc ys nw h tk E1 hi hv hyl ⟨bl, oA, oR, rfl, hbl, ⟨vA, cA⟩, cR2, hli⟩ hS hoc F2 N2 off hID hDC hCc
    obtain ⟨z, tz, rfl, hz⟩ := StrsAre.item hs i v (by simpa using hv)
    have hz10 : z.length = 10 := hten z (List.mem_of_getElem? hz)
    refine wpAny_tests_nil ?_
    simp only [if_true]
    generalize hbn : bl ++ (205, tabObj ps) :: news = nwt at *
    walk_at "mine:steps"
    rename Fr _ _ _ _ => F3
    rename News _ _ _ _ => N3
    have hR3 := (N3 _ (.head _)).1
    replace N3 := newsTail N3
    obtain ⟨base2, hb2⟩ := nameLed N3
    refine OkL_range (n := 5) (fun q zs nw => nw = base2 ∧ IntsAre zs (apU rt z q)) (by exact rfl) (by exact hR3) (by decide) (by decide) (Nat.le_trans (show 5 ≤ 100000 by decide) sizeLine_ge) (by exact F3) (by exact N3) ⟨hb2.symm, .nil⟩ ?_ ?_
    · intro q v I4 oI4 C4 oC4 D4 m4 zs nw h6 tk6 E6 hq hv2 hyl2 hJ hS2 hoC4 hx4 F9 N9 off4 hIC4 hID4 hCD4
      obtain ⟨rfl, sz⟩ := hJ
      obtain ⟨t4, rfl⟩ := hv2
      subst hb2
      refine wpAny_tests_one ?_
      walk_at "mine:steps"
      · exact CK.EndL.intro F9 N9 _ (fun p hp => hp) off4 trivial ⟨rfl, ap_yes (by assumption) sz⟩
      · exact CK.EndL.intro F9 N9 _ (fun p hp => hp) off4 trivial ⟨rfl, ap_no (by assumption) sz⟩
    · intro zs nw hJ D4 h6 tk6 F9 N9 off4
      obtain ⟨rfl, sz⟩ := hJ
      subst hb2
      walk_at "mine:steps"
      have hli2 : LInts ((D4, LCg.lst zs) :: bl) (ys ++ [.ref D4]) ((rs.take (i + 1)).map fun r => apU rt r 5) := by
        rw [List.take_add_one, hz, Option.toList_some, List.map_append]
        exact LInts.snoc (vs := zs) (n := zs.length) (.head _) sz (hli.mono fun p hp => .tail _ hp)
      refine CK.EndC.intro F9 N9 ((L1 + 1 + 1, oA) :: (L1 + 1, oR) :: (D4, LCg.lst zs) :: nwt) (by kcj_all) ?_ ?_ ⟨(D4, LCg.lst zs) :: bl, oA, oR, by rw [← hbn]; rfl, ?_, ⟨vA, cA⟩, cR2, hli2⟩
      · intro p hp
        rcases List.mem_cons.mp hp with rfl | hp
        · exact off _ (.head _)
        · rcases List.mem_cons.mp hp with rfl | hp
          · exact off _ (.tail _ (.head _))
          · rcases List.mem_cons.mp hp with rfl | hp
            · exact ⟨Ne.symm (off4 _ (.head _)), Ne.symm (off4 _ (.tail _ (.head _))), Ne.symm (off4 _ (.tail _ (.tail _ (.head _)))), Ne.symm (off4 _ (.tail _ (.tail _ (.tail _ (.head _)))))⟩
            · exact off _ (.tail _ (.tail _ hp))
      · rw [← hbn]
        exact .tail _ (.tail _ (.tail _ (List.mem_append_right _ (.tail _ hl))))
      · intro q hq
        rcases List.mem_cons.mp hq with rfl | hq
        · exact ⟨Ne.symm (off4 _ (.tail _ (.tail _ (.tail _ (.tail _ (.head _)))))), Ne.symm (off4 (205, tabObj ps) (.tail _ (.tail _ (.tail _ (.tail _ (.tail _ (.tail _ (by rw [← hbn]; exact List.mem_append_right _ (.head _)))))))))⟩
        · exact hbl q hq
  · rintro ys nw ⟨bl, oA, oR, rfl, hbl, ⟨vA, cA⟩, cR2, hli⟩ D h tk F2 N2 off
    rw [List.size_toArray, hrs, List.take_length] at hli
    have f1 := neN (Ne.symm (off _ (.head _)))
    have f2 := neN (Ne.symm (off _ (.tail _ (.head _))))
    generalize hbn : bl ++ (205, tabObj ps) :: news = nwt at *
    have fA : ∀ p ∈ (L1 + 1, oR) :: nwt, p.1 ≠ L1 + 1 + 1 := by
      intro q hq
      rcases List.mem_cons.mp hq with rfl | hq
      · exact Nat.ne_of_lt (Nat.lt_succ_self _)
      · rw [← hbn] at hq
        rcases List.mem_append.mp hq with hq | hq
        · exact (hbl q hq).1
        · exact Nat.ne_of_lt (Nat.lt_succ_of_lt (Nat.lt_succ_of_lt (hD q hq)))
    walk_at "mine:steps"
    rename Fr _ _ _ _ => F3
    rename News _ _ _ _ => N3
    subst hbn
    unfold Stuck
    rename D < _ ∧ L1 + 1 + 1 < _ ∧ L1 + 1 < _ ∧ AllLt _ _ => hrl
    have N4 := news4 N3
    refine mkLam (P := 205) (c := 207) (ps := ps) (by exact F3) (by exact N4) (by k_asm) (by kn_code) (by exact rfl) (by exact hd205 hD0.1 (Nat.ne_of_gt (Nat.lt_trans (Nat.lt_succ_of_lt hD0.1) hrl.2.2.1)) (Ne.symm (off (205, tabObj ps) (.tail _ (.tail _ (List.mem_append_right _ (.head _)))))) (fun q hq => (hbl q hq).2)) hap hps (by exact rfl) ?_
    intro f c' oc vs5 t5 ctv new h5 tk5 F5 N5 hcm hdc hvc hnew hlf
    obtain ⟨nwt2, hbn2, N6⟩ := news5 N5
    have hR3 := (N6 _ (.tail _ (.head _))).1
    clear N5 N4 N3 F3
    walk_at "mine:steps"
    rename Fr _ _ _ _ => F7
    rename News _ _ _ _ => N7
    show wpAny _ _ (call (Value.builtin "sorted") [Value.ref _] [(Str.ofString "key", Value.ref f)]) _ _ _
    refine sortedKeyed (a := 5) (b := 10) (key := keyF (rs.map fun r => apU rt r 5)) (by exact F7) (by exact N7) (by exact rfl) (by exact hR3) (by decide) (by decide) (ksk_s1 _ _) (fun x => by ksk_a2) (fun x => by ksk_a3) ?_ ?_
    · intro i t h7 tk7 pre C hi F8 N8 hpre hret2
      refine wpAny_call ?_
      have hc8 : (c', oc) ∈ nwt2 := by rw [hbn2]; exact List.mem_append_right _ (.tail _ ((List.mem_append.mp hcm).elim (fun h => List.mem_append_left _ h) fun h => List.mem_append_right _ (htl _ h)))
      simp only [List.cons_append] at N8 hpre hret2
      have hc9 : (c', oc) ∈ nwt2 ++ pre := List.mem_append_left _ hc8
      have hli9 : LInts (nwt2 ++ pre) ys (rs.map fun r => apU rt r 5) := hli.mono fun q hq => List.mem_append_left _ (by rw [hbn2]; exact List.mem_append_left _ hq)
      generalize nwt2 ++ pre = nwt3 at *
      refine lamC (v := .int (5 + (i : Int)) t) (by k_asm) F8 (by k_asm) N8 (by k_asm) (by exact rfl) (by exact rfl) (by exact rfl) (.head _) (codeRec_news N8 (.tail _ (.tail _ (.tail _ (.tail _ (.tail _ hc9))))) hdc hvc) (by ktr_room) (by exact rfl) (fun _ => rfl) (fun _ => rfl) (by exact rfl) ?_ rfl rfl rfl
      intro g L' h8 oc8 tk8 FG F9 N9 doc8 B9 X9 T9 hq9
      k_lt hq9
      walk_at "mine:steps"
      refine CK.OkL.intro (fun q zs nw => nw = (L' + 1, oc8) :: (f, _) :: (_, _) :: (D, LCg.lst ys) :: (L1 + 1 + 1, _) :: (L1 + 1, oR) :: nwt3 ∧ zs.length = ((((rs.map fun r => apU rt r 5).take q).filter fun ns => ns.any fun y => y == 5 + (i : Int)).length)) (CK.srcList (by exact rfl) N9 (.tail _ (.tail _ (.tail _ (.head _)))) rfl rfl) (by rw [List.size_toArray, LInts.length hli9, List.length_map]; exact Nat.le_trans (Nat.le_trans hlen (by decide)) sizeLine_ge) F9 N9 (.tail _ (.tail _ (.tail _ (.head _)))) ⟨rfl, rfl⟩ ?_ ?_
      · intro q v I3 oI3 C3 oC3 D3 m3 zs nw h5 tk5 E5 hq hv hyl hJ hS hoC hx3 F6 N6 off hIC hID hCD
        obtain ⟨rfl, hz⟩ := hJ
        obtain ⟨r9, vs9, n9, ns9, rfl, hm9, hi9, hz9⟩ := hli9.item q v (by simpa using hv)
        refine wpAny_tests_one ?_
        have N7 := newsDup N6 (x := (r9, listOf vs9.toArray n9)) (.tail _ (.tail _ (.tail _ (.tail _ (.tail _ (.tail _ (.tail _ (.tail _ (.tail _ hm9)))))))))
        walk_at "mine:steps"
        · rename List.any _ _ = true => hin
          exact CK.EndL.intro F6 N7 _ (fun p hp => .tail _ hp) off hS ⟨rfl, by rw [List.take_add_one, hz9, Option.toList_some, List.filter_append, List.length_append, List.length_append, ← hz, List.filter_cons, if_pos hin]; rfl⟩
        · rename List.any _ _ = false => hin
          exact CK.EndL.intro F6 N7 _ (fun p hp => .tail _ hp) off hS ⟨rfl, by rw [List.take_add_one, hz9, Option.toList_some, List.filter_append, List.length_append, ← hz, List.filter_cons, if_neg (by rw [hin]; decide)]; rfl⟩
      · rintro zs nw ⟨rfl, hz⟩ D3 h5 tk5 F6 N6 off
        have f3 := neN (Ne.symm (off _ (.head _)))
        have f4 := neN (Ne.symm (off _ (.tail _ (.head _))))
        have f5 := neN (Ne.symm (off _ (.tail _ (.tail _ (.head _)))))
        have f6 := neN (Ne.symm (off _ (.tail _ (.tail _ (.tail _ (.head _))))))
        have f7 := neN (Ne.symm (off _ (.tail _ (.tail _ (.tail _ (.tail _ (.head _)))))))
        have f8 := neN (Ne.symm (off _ (.tail _ (.tail _ (.tail _ (.tail _ (.tail _ (.head _))))))))
        have hz0 : zs.length = ((rs.map fun r => apU rt r 5).filter fun ns => ns.any fun y => y == 5 + (i : Int)).length := by
          rw [hz, List.take_of_length_le (by rw [List.size_toArray, LInts.length hli9]; exact Nat.le_refl _)]
        have hz1 : zs.toArray.size ≤ sizeLine := by
          have h1 := List.length_filter_le (fun ns => ns.any fun y => y == 5 + (i : Int)) (rs.map fun r => apU rt r 5)
          have h2 := sizeLine_ge
          rw [List.length_map] at h1
          rw [List.size_toArray]; omega
        walk_at "mine:steps"
        rename Fr _ _ _ _ => FZ
        rename News _ _ _ _ => NZ
        rename D3 < _ ∧ _ => lZ
        have hkey : keyF (rs.map fun r => apU rt r 5) i = -((zs.length : Nat) : Int) := by unfold keyF cntF; rw [hz0]
        rw [hkey] at hret2
        exact hret2 _ _ _ _ _ _ FZ (newsDrop2 NZ) (allLt5 lZ.2.2)
    · intro D2 out c2 h7 tk7 F8 N8 hD2 hout
      walk_at "mine:steps"
      rename Fr _ _ _ _ => F9
      rename News _ _ _ _ => N9
      rename D2 < _ ∧ f < _ ∧ _ => hW0
      obtain ⟨W, e⟩ := nameR hW0.1; subst e
      have hli2 : LInts nwt2 ys (rs.map fun r => apU rt r 5) := hli.mono fun q hq => by rw [hbn2]; exact List.mem_append_left _ hq
      obtain ⟨base, hbase⟩ := nameLed (newsTail N9)
      have mD : (D, LCg.lst ys) ∈ base := by rw [hbase]; exact .tail _ (.tail _ (.tail _ (.head _)))
      have mO : (D2, listOf out.toArray c2) ∈ base := by rw [hbase]; exact .head _
      have sub2 : ∀ q ∈ nwt2, q ∈ base := fun q hq => by rw [hbase]; exact .tail _ (.tail _ (.tail _ (.tail _ (.tail _ (.tail _ hq)))))
      have bW : ∀ q ∈ base, q.1 < W := by rw [hbase]; exact allLt_all (l := (D2, _) :: (f, _) :: (_, _) :: (D, _) :: (L1 + 1 + 1, _) :: (L1 + 1, _) :: nwt2) hW0
      rw [← hbase] at N9
      refine forList (lo := LCg.lst ys) (vs := ys) (n := ys.length) (fun i m nx => ∃ vs' n', nx = (W, listOf vs'.toArray n') :: base ∧ m (Str.ofString "ways") = some (.ref W) ∧ m (Str.ofString "order") = some (.ref D2) ∧ StrsAre vs' (((rs.map fun r => apU rt r 5).take i).map (wayF (sortK (keyF (rs.map fun r => apU rt r 5)) 5)))) (by exact rfl) (by exact F9) N9 (.tail _ mD) rfl rfl ?_ ?_ ?_ ?_
      · rintro i m nx ⟨vs', n', rfl, _⟩; exact .tail _ mD
      · exact ⟨[], 0, rfl, by with_unfolding_all rfl, by with_unfolding_all rfl, .nil⟩
      · rintro i v I o m1 nx h8 tk8 hv ho hI ⟨vs', n', rfl, hm1, hm2, hs1⟩ hadr F2 N2
        replace F2 := frShow2 F2 _ _ hm1 hm2
        obtain ⟨r9, vs9, n9, ns9, rfl, hm9, hi9, hz9⟩ := hli2.item i v hv
        have hID := ltN (hI _ (.head _))
        have hr9 := ltN (bW _ (sub2 _ hm9))
        have hr8 := ltN (hI _ (.tail _ (sub2 _ hm9)))
        walk_at "mine:steps"
        rename Fr _ _ _ _ => F3
        rename News _ _ _ _ => N3
        have N4 := newsDup (x := (r9, listOf vs9.toArray n9)) N3 (.tail _ (.tail _ (sub2 _ hm9)))
        refine forList (lo := listOf out.toArray c2) (vs := out) (n := c2) (fun j m nx => nx = (r9, listOf vs9.toArray n9) :: (I, o) :: (W, listOf vs'.toArray n') :: base ∧ m (Str.ofString "ways") = some (.ref W) ∧ m (Str.ofString "order") = some (.ref D2) ∧ m (Str.ofString "some") = some (.ref r9) ∧ ∃ t y, m (Str.ofString "way") = some (.str y t) ∧ y = ((sortK (keyF (rs.map fun r => apU rt r 5)) 5).take j).foldl (stepW ns9) (Str.ofString "/") ∧ y.length ≤ 1 + 2 * j ∧ y.length ≠ 0) (by exact rfl) (by exact F3) (by exact N4) (.tail _ (.tail _ (.tail _ mO))) rfl rfl ?_ ?_ ?_ ?_
        · rintro j m nx ⟨rfl, _⟩; exact .tail _ (.tail _ (.tail _ mO))
        · exact ⟨rfl, by with_unfolding_all rfl, by with_unfolding_all rfl, by with_unfolding_all rfl, _, _, by with_unfolding_all rfl, rfl, Nat.le_of_eq root_len, by rw [List.take_zero, List.foldl_nil, root_len]; decide⟩
        · rintro j v I2 o2 m2 nx h9 tk9 hv2 ho2 hI2 ⟨rfl, hm3, hm4, hm5, t, y, hm6, hy, hyl, hy0⟩ hadr2 F5 N5
          replace F5 := frShow4 F5 _ _ _ _ hm3 hm4 hm5 hm6
          obtain ⟨pl, tp, rfl, hpl⟩ := hout.at j v hv2
          have hjl : j < 5 := by have := (List.getElem?_eq_some_iff.mp hpl).1; rw [sortK_len] at this; exact this
          obtain ⟨hp1, hp2⟩ := sortK_range (List.mem_of_getElem? hpl)
          obtain ⟨hd1, hd2⟩ := dig_ok hp1 hp2
          have hd3 : (digS pl).length ≤ 1000 := by rw [hd1]; decide
          have hyl2 : y.length ≤ 1000 := by omega
          have hI3 := ltN (hI2 _ (.head _))
          have hI4 := ltN (hI2 _ (.tail _ (.head _)))
          have hI5 := ltN (hI2 _ (.tail _ (.tail _ (.head _))))
          walk_at "mine:steps"
          · rename List.any _ _ = true => hin
            obtain ⟨jl1, jl2⟩ := joinF_len (x := y) hd1
            exact InvEndN.intro (by k_asm) (by k_asm) ⟨rfl, by with_unfolding_all rfl, by with_unfolding_all rfl, by with_unfolding_all rfl, _, joinF y (digS pl), by with_unfolding_all rfl, by rw [take_fold hpl, ← hy, stepW, if_pos hin], by omega, jl2⟩ rfl (by kcj_all) (by kcj_all)
          · rename List.any _ _ = false => hin
            exact InvEndN.intro (by k_asm) (by k_asm) ⟨rfl, by with_unfolding_all rfl, by with_unfolding_all rfl, by with_unfolding_all rfl, _, y, by with_unfolding_all rfl, by rw [take_fold hpl, ← hy, stepW, if_neg (by rw [hin]; decide)], by omega, hy0⟩ rfl (by kcj_all) (by kcj_all)
        · rintro m2 nx h9 tk9 ⟨rfl, hm3, hm4, hm5, t, y, hm6, hy, hyl, hy0⟩ F5 N5
          replace F5 := frShow4 F5 _ _ _ _ hm3 hm4 hm5 hm6
          walk_at "mine:steps"
          rename Fr _ _ _ _ => F6
          rename News _ _ _ _ => N6
          rw [List.push_toArray] at N6
          refine InvEndN.intro (by k_asm) N6 (nx := (W, listOf (vs' ++ [Value.str y t]).toArray (n' + 1)) :: base) ⟨vs' ++ [.str y t], n' + 1, rfl, by with_unfolding_all rfl, by with_unfolding_all rfl, ?_⟩ rfl (by kcj_all) (by kcj_all)
          rw [List.take_of_length_le (Nat.le_of_eq hout.length.symm)] at hy
          rw [List.take_add_one, hz9, Option.toList_some, List.map_append, List.map_cons, List.map_nil]
          refine StrsAre.append' hs1 ?_
          rw [show wayF (sortK (keyF (rs.map fun r => apU rt r 5)) 5) ns9 = y from hy.symm]
          exact .cons _ _ .nil
      · rintro m1 nx h8 tk8 ⟨vs', n', rfl, hm1, hm2, hs1⟩ F2 N2
        replace F2 := frShow2 F2 _ _ hm1 hm2
        walk_at "mine:steps"
        rename Fr _ _ _ _ => FZ
        rename News _ _ _ _ => NZ
        rw [List.take_of_length_le (by rw [LInts.length hli2]; exact Nat.le_refl _)] at hs1
        have hvl : vs'.length = rs.length := by rw [StrsAre.length hs1, List.length_map, List.length_map]
        refine hret0 _ [(W, listOf vs'.toArray n')] new #[rawInt lamPos.line, rawInt lamPos.col, .ref c'] _ _ FZ (fun q hq => NZ q ?_) (.inr ⟨c', oc, vs5, t5, rfl, hcm, hdc, hvc⟩) ?_ ?_ ⟨W, vs', n', rfl, rfl, hs1, by unfold waysF; rw [List.length_map, List.length_map]; exact hlen, ?_⟩
        · rcases List.mem_cons.mp hq with rfl | hq
          · exact .head _
          · exact .tail _ (sub2 q (by rw [hbn2]; exact List.mem_append_right _ hq))
        · intro q hq r hr
          rw [List.mem_singleton.mp hq]
          exact bW r (sub2 r (by rw [hbn2]; exact List.mem_append_right _ hr))
        · intro q hq r hr
          rcases List.mem_cons.mp hr with rfl | hr
          · exact hnew q hq (205, tabObj ps) (List.mem_append_right _ (.head _))
          · exact hnew q hq r (List.mem_append_right _ (.tail _ hr))
        · rw [List.size_toArray, hvl]; exact Nat.le_trans (Nat.le_trans hlen (by decide)) sizeLine_ge
end
end
section
section
variable {prog : Program} {w : World} {A : Around} {E : Value → Shared → Prop} {s : Shared} {env : Env} {h₀ : Heap} {body : List Stmt} {Q : Flow → Shared → Prop}
/-- a for over zip of two lists of the ledger, of one length -/
theorem forZip {elts : List Expr} {k : Nat} {pos : Pos} {l1 l2 : Addr} {lo1 lo2 : Obj} {xs ys : List Value} {n1 n2 : Nat} {m₀ : Str → Option Value} {news : List (Addr × Obj)} (J : Nat → (Str → Option Value) → List (Addr × Obj) → Prop)
    (hh : A.handled = none) (F : Fr h₀ env.locals s.heap m₀) (N : News h₀ env.locals s.heap news) (hm1 : (l1, lo1) ∈ news) (hc1 : lo1.cls = .type "list") (hd1 : lo1.data = .seq xs.toArray n1) (hm2 : (l2, lo2) ∈ news) (hc2 : lo2.cls = .type "list") (hd2 : lo2.data = .seq ys.toArray n2)
    (hlen : ys.length = xs.length)
    (hkeep : ∀ i m nx, J i m nx → (l1, lo1) ∈ nx ∧ (l2, lo2) ∈ nx) (h0 : J 0 m₀ news)
    (step : ∀ i v u T I o1 o2 o3 o4 o5 m₁ news₁ h tk, xs[i]? = some v → ys[i]? = some u → (∀ p ∈ news, p.1 < I) → J i m₁ news₁ → news₁.map (·.1) = news.map (·.1) → Fr h₀ env.locals h m₁ → IsTup h T #[v, u] → News h₀ env.locals h ((I + 4, o1) :: (I + 2, o2) :: (I + 3, o3) :: (I, o4) :: (I + 1, o5) :: news₁) →
      wpAny (model prog w) A (assign (.Tuple elts k pos) env (.ref T)) (fun _ s₂ => wpAny (model prog w) A (execs body env) (InvPostN h₀ env.locals (J (i + 1)) [(I + 4, o1), (I + 2, o2), (I + 3, o3), (I, o4), (I + 1, o5)] (news.map (·.1)) { s with heap := h, toks := tk } Q) E s₂) E { s with heap := h, toks := tk })
    (done : ∀ m₁ news₁ h tk, J xs.length m₁ news₁ → Fr h₀ env.locals h m₁ → News h₀ env.locals h news₁ → Q .next { s with heap := h, toks := tk }) :
    wpAny (model prog w) A (call (.type "zip") [.ref l1, .ref l2]) (fun xv s₁ => wpAny (model prog w) A (pyIter xv) (fun it s₂ => TurnsAt prog w A h₀ env (.Tuple elts k pos) body Q E it s₂) E s₁) E s := by
  have hzl : (zipItems xs ys).length = xs.length := by rw [zipItems_length, hlen, Nat.min_self]
  refine ktu_zip hh F N hm1 hc1 hd1 hm2 hc2 hd2 fun I hI => itemsInv J (fun p hp q hq => ?_) (fun i m nx h => ⟨(hkeep i m nx h).1, (hkeep i m nx h).2, trivial⟩) h0 ?_ (by rw [hzl]; exact done)
  · have hlt := hI p hp
    simp only [List.mem_cons, List.not_mem_nil, or_false] at hq
    rcases hq with rfl | rfl | rfl | rfl | rfl <;> first | exact Nat.ne_of_lt hlt | exact Nat.ne_of_lt (Nat.lt_of_lt_of_le hlt (Nat.le_add_right _ _))
  · intro i a m₁ news₁ v h tk ha hJ hadr hv F₁ o1 ho1 o2 ho2 o3 ho3 o4 ho4 o5 ho5 N₁
    have hi : i < xs.length := by have := (List.getElem?_eq_some_iff.mp ha).1; rw [hzl] at this; exact this
    have hx : xs[i]? = some xs[i] := List.getElem?_eq_getElem hi
    have hy : ys[i]? = some (ys[i]'(by rw [hlen]; exact hi)) := List.getElem?_eq_getElem _
    have e := zipItems_get xs ys i hx hy
    rw [ha] at e
    cases e
    obtain ⟨T, t, rfl, hT⟩ := hv
    exact step i _ _ T I o1 o2 o3 o4 o5 m₁ news₁ h tk hx hy hI hJ hadr F₁ hT N₁
end
end
section
namespace CK
open LCg (NsObj ns_obj lst lst_snoc fr_but news_but)
abbrev twoC (elt t0 i0 t1 i1 : Expr) (scope : Scope) (pos : Pos) : Expr := .ListComp elt [⟨t0, i0, [], 0⟩, ⟨t1, i1, [], 0⟩] scope pos
theorem compTurn_two1 (elt t0 i0 t1 i1 : Expr) (scope : Scope) (pos : Pos) (it acc : Value) (env : Env) :
    compTurn (twoC elt t0 i0 t1 i1 scope pos) 1 it acc env = (standAt i1.pos >>= fun _ => pyNext it >>= fun r => match r with
      | none => pure (.done .next)
      | some v => letOwnedTupleGo t1 it v >>= fun _ => assign t1 env v >>= fun _ =>
        (eval elt env >>= fun x => call (.builtin "list.append") [acc, x] >>= fun _ => pure ()) >>= fun _ =>
          again (.compLoop (twoC elt t0 i0 t1 i1 scope pos) 1 it acc env)) := by rfl
theorem compTurn_two0 (elt t0 i0 t1 i1 : Expr) (scope : Scope) (pos : Pos) (it acc : Value) (env : Env) :
    compTurn (twoC elt t0 i0 t1 i1 scope pos) 0 it acc env = (standAt i0.pos >>= fun _ => pyNext it >>= fun r => match r with
      | none => pure (.done .next)
      | some v => letOwnedTupleGo t0 it v >>= fun _ => assign t0 env v >>= fun _ =>
        eval i1 env >>= fun x => standAt i1.pos >>= fun _ => foldedSetIterable i1 env x >>= fun x => holding [x] (pyIter x) >>= fun it' => runOwn (.compStart (twoC elt t0 i0 t1 i1 scope pos) 1 it' acc env) env >>= fun _ =>
          again (.compLoop (twoC elt t0 i0 t1 i1 scope pos) 0 it acc env)) := by rfl
section
variable {prog : Program} {w : World} {A : Around} {E : Value → Shared → Prop} {s : Shared} {h₀ : Heap} {L : Addr} {m : Str → Option Value} {env : Env} {news : List (Addr × Obj)} {R : Result → Shared → Prop}
theorem compStart_two {elt t0 i0 t1 i1 : Expr} {scope : Scope} {pos : Pos} {it acc : Value} {env : Env} {d : Nat} (hd : d = 0 ∨ d = 1)
    (h0 : codeAny (model prog w) A (.compLoop (twoC elt t0 i0 t1 i1 scope pos) d it acc env) R s)
    (h : wpAny (model prog w) A (pyIter it) (fun it' s' => codeAny (model prog w) A (.compLoop (twoC elt t0 i0 t1 i1 scope pos) d it' acc env) R s')
      (notedBy (model prog w) A env fun x s' => R (.error x) s') s) :
    codeAny (model prog w) A (.compStart (twoC elt t0 i0 t1 i1 scope pos) d it acc env) R s := by
  refine codeAny_of_tree ?_
  show wpAny _ _ ((compStart (twoC elt t0 i0 t1 i1 scope pos) d it acc env).onRaise (fun x => do noteFrame x env; standAt theWindowsPlace)) _ _ s
  refine wpAny_notedAt ?_
  unfold compStart
  rcases hd with rfl | rfl
  all_goals
    show wpAny _ _ (ask >>= _) _ _ s
    refine wpAny_bind (wpAny_askSetting (wpAny_ite ?_))
    split
    · first
        | exact wpAny_bind (wpAny_pure (wpAny_pure (And.intro rfl h0)))
        | exact wpAny_pure (And.intro rfl h0)
    · first
        | exact wpAny_bind (wpAny_rule (wpAny_bind (wpAny_standAt (wpAny_bind (wpAny_mono h (fun it' s' h' => wpAny_pure (And.intro rfl h')) fun _ _ x => x)))))
        | (refine wpAny_bind (wpAny_rule ?_); show wpAny _ _ (standAt _ >>= _) _ _ s; exact wpAny_bind (wpAny_standAt (wpAny_bind (wpAny_mono h (fun it' s' h' => wpAny_pure (And.intro rfl h')) fun _ _ x => x))))
theorem compLoop_two1 {elt t0 i0 t1 i1 : Expr} {scope : Scope} {pos : Pos} {it acc : Value} {env : Env} (I : Nat → Shared → Prop)
    (turn : ∀ n s, I n s → wpAny (model prog w) A (pyNext it) (fun r s₁ => match r with
      | none => R (.ok .next) s₁
      | some v => wpAny (model prog w) A (assign t1 env v) (fun _ s₂ => wpAny (model prog w) A (eval elt env) (fun x s₃ =>
          wpAny (model prog w) A (call (.builtin "list.append") [acc, x]) (fun _ s₄ => ∃ m, m < n ∧ I m s₄) (notedBy (model prog w) A env fun e s' => R (.error e) s') s₃)
          (notedBy (model prog w) A env fun e s' => R (.error e) s') s₂) (notedBy (model prog w) A env fun e s' => R (.error e) s') s₁) (notedBy (model prog w) A env fun e s' => R (.error e) s') s)
    (n : Nat) (h : I n s) (ht : ∀ v, letOwnedTupleGo t1 it v = pure () := by intro _; rfl) :
    codeAny (model prog w) A (.compLoop (twoC elt t0 i0 t1 i1 scope pos) 1 it acc env) R s := by
  refine codeAny_loop rfl I (fun n s hI => ?_) n h
  show wpAny _ _ ((compTurn (twoC elt t0 i0 t1 i1 scope pos) 1 it acc env).onRaise (fun x => do noteFrame x env; theTreesLotGoes x)) _ _ s
  refine wpAny_noted ?_
  rw [compTurn_two1]
  refine wpAny_bind (wpAny_standAt (wpAny_bind (wpAny_mono (turn n s hI) (fun r s₁ h₁ => ?_) fun _ _ h' => h')))
  cases r with
  | none => exact wpAny_pure h₁
  | some v =>
    refine wpAny_bind (wpAny_of_eq (ht v) ?_)
    exact wpAny_bind (wpAny_mono h₁ (fun _ s₂ h₂ => wpAny_bind (wpAny_bind (wpAny_mono h₂ (fun x s₃ h₃ => wpAny_bind (wpAny_mono h₃
      (fun _ s₄ h₄ => wpAny_pure (wpAny_pure ⟨rfl, h₄⟩)) fun _ _ h' => h')) fun _ _ h' => h'))) fun _ _ h' => h')
theorem compLoop_two0 {elt t0 i0 t1 i1 : Expr} {scope : Scope} {pos : Pos} {it acc : Value} {env : Env} (I : Nat → Shared → Prop)
    (turn : ∀ n s, I n s → wpAny (model prog w) A (pyNext it) (fun r s₁ => match r with
      | none => R (.ok .next) s₁
      | some v => wpAny (model prog w) A (assign t0 env v) (fun _ s₂ => wpAny (model prog w) A (eval i1 env) (fun x s₃ =>
          wpAny (model prog w) A (pyIter x) (fun it' s₄ => codeAny (model prog w) (A.mark none) (.compStart (twoC elt t0 i0 t1 i1 scope pos) 1 it' acc env) (fun r s' => match r with | .ok _ => ∃ m, m < n ∧ I m s' | .error _ => False) s₄)
          (notedBy (model prog w) A env fun e s' => R (.error e) s') s₃)
          (notedBy (model prog w) A env fun e s' => R (.error e) s') s₂) (notedBy (model prog w) A env fun e s' => R (.error e) s') s₁) (notedBy (model prog w) A env fun e s' => R (.error e) s') s)
    (n : Nat) (h : I n s) (hs : ∀ x, foldedSetIterable i1 env x = pure x) (ht : ∀ v, letOwnedTupleGo t0 it v = pure () := by intro _; rfl) :
    codeAny (model prog w) A (.compLoop (twoC elt t0 i0 t1 i1 scope pos) 0 it acc env) R s := by
  refine codeAny_loop rfl I (fun n s hI => ?_) n h
  show wpAny _ _ ((compTurn (twoC elt t0 i0 t1 i1 scope pos) 0 it acc env).onRaise (fun x => do noteFrame x env; theTreesLotGoes x)) _ _ s
  refine wpAny_noted ?_
  rw [compTurn_two0]
  refine wpAny_bind (wpAny_standAt (wpAny_bind (wpAny_mono (turn n s hI) (fun r s₁ h₁ => ?_) fun _ _ h' => h')))
  cases r with
  | none => exact wpAny_pure h₁
  | some v =>
    refine wpAny_bind (wpAny_of_eq (ht v) ?_)
    refine wpAny_bind (wpAny_mono h₁ (fun _ s₂ h₂ => wpAny_bind (wpAny_mono h₂ (fun x s₃ h₃ => ?_) fun _ _ h' => h')) fun _ _ h' => h')
    refine wpAny_bind (wpAny_standAt (wpAny_bind (wpAny_of_eq (hs x) (wpAny_bind (wpAny_holding (wpAny_mono h₃ (fun it' s₄ h₄ => ?_) fun _ _ h' => h'))))))
    refine wpAny_bind (wpAny_runOwn (codeAny_mono h₄ fun r s' hr => ?_))
    cases r with
    | ok f => exact wpAny_pure ⟨rfl, hr⟩
    | error e => exact hr.elim
theorem innerLoop {y : Str} {py py' : Pos} {t0 i0 i1 : Expr} {scope : Scope} {pos : Pos} {env1 : Env} {J r D : Addr} {vs ys : List Value} {m' : Str → Option Value} (hh : A.handled = none)
    (hk : env1.scope.kind = .function) (hy : env1.kindOf y = some .local) (hp : (env1.scope.kind == .class || (env1.scope.kind == .module && env1.locals != env1.globals)) = false) (hdb : (y == ("__debug__" : Str)) = false)
    (hJC : J ≠ env1.locals) (hJD : J ≠ D) (hrJ : r ≠ J) (hCD : env1.locals ≠ D) (hrC : r ≠ env1.locals) (hrD : r ≠ D)
    (hit : s.heap.IsListIter J r 0) (hl : s.heap.IsList r vs.toArray) (hD : s.heap.get? D = some (lst ys)) (hC : s.heap.Ns env1.locals m') (hsz : ys.length + vs.length ≤ sizeLine)
    (h : ∀ h' tk m'', h'.get? D = some (lst (ys ++ vs)) → h'.Ns env1.locals m'' → (∀ b o, b ≠ J → b ≠ env1.locals → b ≠ D → s.heap.get? b = some o → h'.get? b = some o) → R (.ok .next) { s with heap := h', toks := tk }) :
    codeAny (model prog w) A (.compLoop (twoC (.Name y py) t0 i0 (.Name y py') i1 scope pos) 1 (.ref J) (.ref D) env1) R s := by
  have W := Walks.list (prog := prog) (w := w) (A := A) hh J r hrJ vs.toArray
  refine compLoop_two1 (fun n s' => ∃ h' tk i m'', s' = { s with heap := h', toks := tk } ∧ i ≤ vs.length ∧ n = vs.length + 1 - i ∧ (h'.IsListIter J r i ∧ h'.IsList r vs.toArray) ∧ h'.get? D = some (lst (ys ++ vs.take i)) ∧ h'.Ns env1.locals m'' ∧
    (∀ b o, b ≠ J → b ≠ env1.locals → b ≠ D → s.heap.get? b = some o → h'.get? b = some o)) ?_ (vs.length + 1)
    ⟨s.heap, s.toks, 0, m', rfl, Nat.zero_le _, rfl, ⟨hit, hl⟩, by rw [List.take_zero, List.append_nil]; exact hD, hC, fun b o _ _ _ e => e⟩
  rintro n s' ⟨h1, tk, i, m1, rfl, hi, rfl, st, hD1, hC1, hk1⟩
  by_cases hlt : i < vs.length
  · refine W.item i _ _ _ (by simpa using hlt) st fun v h2 tk2 hv st2 hk2 => ?_
    have hv' : vs[i]? = some v := by simpa using hv
    have kJ : ∀ b o, b ≠ J → h1.get? b = some o → h2.get? b = some o := fun b o e => hk2 b o (by simpa using e)
    refine wpAny_assign_Name (wpAny_storeName_local hy (hC1.at' fun o e => kJ _ o (Ne.symm hJC) e) (fun h3 hn3 hs3 => ?_) hp)
    have st3 := W.frame (i + 1) _ _ st2 fun b hb o e => hs3.extBut b o (by
      rcases List.mem_cons.mp hb with rfl | hb
      · exact hJC
      · rw [List.mem_singleton.mp hb]; exact hrC) e
    refine wpAny_Name (wpAny_loadName_local (v := v) hk hy hn3 (by simp) ?_) hdb
    have hD3 : h3.get? D = some (lst (ys ++ vs.take i)) := hs3.extBut _ _ (Ne.symm hCD) (kJ _ _ (Ne.symm hJD) hD1)
    refine append_at (hsz := by show (ys ++ vs.take i).toArray.size ≤ sizeLine; rw [List.size_toArray, List.length_append, List.length_take]; omega) hD3 fun h4 hs4 hD4 => ?_
    refine ⟨vs.length + 1 - (i + 1), by omega, h4, _, i + 1, _, rfl, hlt, rfl, W.frame (i + 1) _ _ st3 fun b hb o e => hs4.extBut b o (by
      rcases List.mem_cons.mp hb with rfl | hb
      · exact hJD
      · rw [List.mem_singleton.mp hb]; exact hrD) e, ?_, hn3.sameBut hs4 hCD, fun b o e1 e2 e3 e => hs4.extBut _ _ e3 (hs3.extBut _ _ e2 (kJ _ _ e1 (hk1 b o e1 e2 e3 e)))⟩
    rw [hD4, List.take_add_one, hv', Option.toList_some, ← List.append_assoc]
    exact congrArg some (lst_snoc _ _)
  · obtain rfl : i = vs.length := Nat.le_antisymm hi (Nat.not_lt.mp hlt)
    refine W.done _ _ _ (by simpa using st) fun h2 tk2 hk2 => ?_
    have kJ : ∀ b o, b ≠ J → h1.get? b = some o → h2.get? b = some o := fun b o e => hk2 b o (by simpa using e)
    rw [List.take_length] at hD1
    exact h h2 tk2 m1 (kJ _ _ (Ne.symm hJD) hD1) (hC1.at' fun o e => kJ _ o (Ne.symm hJC) e) fun b o e1 e2 e3 e => kJ _ _ e1 (hk1 b o e1 e2 e3 e)
/-- where a turn's list is made -/
def EndLL (h₀ : Heap) (L : Addr) (m : Str → Option Value) (s : Shared) (I : Addr) (oI : Obj) (C : Addr) (oC : Obj) (D : Addr) (S : List (Addr × Obj) → Prop) (J : List Value → List (Addr × Obj) → Prop) (ys : List Value) (xv : Value) (s₂ : Shared) : Prop :=
  ∃ h' tk r vs n' news', xv = .ref r ∧ s₂ = { s with heap := h', toks := tk } ∧ Fr h₀ L h' m ∧ News h₀ L h' ((I, oI) :: (C, oC) :: (D, lst ys) :: (r, listOf vs.toArray n') :: news') ∧ (∀ p ∈ (r, listOf vs.toArray n') :: news', p.1 ≠ I ∧ p.1 ≠ C ∧ p.1 ≠ D) ∧ S news' ∧ J (ys ++ vs) news' ∧ ys.length + vs.length ≤ sizeLine
theorem EndLL.intro {I C D : Addr} {s : Shared} {oI oC : Obj} {S : List (Addr × Obj) → Prop} {J : List Value → List (Addr × Obj) → Prop} {ys vs : List Value} {h' : Heap} {tk n' : Nat} {r : Addr} {all : List (Addr × Obj)}
    (F : Fr h₀ L h' m) (N : News h₀ L h' all) (news' : List (Addr × Obj)) (sub : ∀ p ∈ (I, oI) :: (C, oC) :: (D, lst ys) :: (r, listOf vs.toArray n') :: news', p ∈ all) (off : ∀ p ∈ (r, listOf vs.toArray n') :: news', p.1 ≠ I ∧ p.1 ≠ C ∧ p.1 ≠ D) (hS : S news') (k : J (ys ++ vs) news') (hsz : ys.length + vs.length ≤ sizeLine) :
    EndLL h₀ L m s I oI C oC D S J ys (.ref r) { s with heap := h', toks := tk } := ⟨h', tk, r, vs, n', news', rfl, rfl, F, fun p hp => N p (sub p hp), off, hS, k, hsz⟩
theorem blockLL {iter i1 : Expr} {x y : Str} {px py py' : Pos} {scope : Scope} {cl : List (Str × Addr)} {pos : Pos} {s₁ : Shared} {xv : Value} {oI : Obj} {fp : List Addr} {n : Nat} {P : Nat → Value → Prop} {St : Nat → Heap → Prop} {S : List (Addr × Obj) → Prop}
    {J : Nat → List Value → List (Addr × Obj) → Prop} {RR : Value → Addr → Result → Shared → Prop}
    (W : Src prog w A h₀ L xv n P S s₁ oI fp St) 
    (hcell : ∀ y ∈ scope.names, y.2 ≠ .cell) (hkind : scope.kind = .function) (hx : scope.names.lookup x = some .local) (hy : scope.names.lookup y = some .local) (hdb : (y == ("__debug__" : Str)) = false) (hs1 : ∀ C z, foldedSetIterable i1 (compEnvC scope cl C env) z = pure z) (hh : A.handled = none)
    (F : Fr h₀ L s₁.heap m) (N : News h₀ L s₁.heap news) (hS : S news) (hJ : J 0 [] news)
    (turn : ∀ i v I oI C oC D m₂ ys news h tk (E' : Value → Shared → Prop), i < n → P i v → J i ys news → S news → NsObj oC m₂ → m₂ x = some v → Fr h₀ L h m → News h₀ L h ((I, oI) :: (C, oC) :: (D, lst ys) :: news) →
      (∀ p ∈ news, p.1 ≠ I ∧ p.1 ≠ C ∧ p.1 ≠ D) → I ≠ C → I ≠ D → C ≠ D →
      wpAny (model prog w) A (eval i1 (compEnvC scope cl C env)) (EndLL h₀ L m { s₁ with heap := h, toks := tk } I oI C oC D S (J (i + 1)) ys) E' { s₁ with heap := h, toks := tk })
    (hRR : ∀ D C h tk m' ys news', Fr h₀ L h m → News h₀ L h ((D, lst ys) :: news') → (∀ p ∈ news', p.1 ≠ D) → h.Ns C m' → h₀.get? C = none → h₀.get? D = none → C ≠ L → D ≠ L → C ≠ D → (∀ p ∈ news', p.1 ≠ C) → J n ys news' → RR (.ref D) C (.ok .next) { s₁ with heap := h, toks := tk }) :
    wpAny (model prog w) A (pyIter xv) (fun it s₂ => wpAny (model prog w) A (newList []) (fun acc s₃ => wpAny (model prog w) A (newFunctionEnv scope env.globals cl [] env.qual none .none (some env)) (fun cenv s₄ =>
      codeAny (model prog w) A (.compStart (twoC (.Name y py) (.Name x px) iter (.Name y py') i1 scope pos) 0 it acc { cenv with scope := relabel scope env }) (RR acc cenv.locals) s₄) E s₃) E s₂) E s₁ := by
  obtain ⟨Wi, Ww, Ws, Wh, Wm, Wl, Wf⟩ := W
  refine Wi _ _ ?_
  clear Wi
  generalize hI0 : s₁.heap.objs.size = I at *
  have F₁ : Fr h₀ L (s₁.heap.push oI) m := F.push _
  have N₁ : News h₀ L (s₁.heap.push oI) news := N.grown fun b o e => Heap.get?_push_of_some _ e
  have gI : (s₁.heap.push oI).get? I = some oI := hI0 ▸ Heap.get?_push_size _ Wf
  have hLI : L ≠ I := hI0 ▸ Nat.ne_of_lt F.ns.lt
  have fresh1 : ∀ a, I ≤ a → h₀.get? a = none := fun a ha => by
    cases e : h₀.get? a with
    | none => rfl
    | some o' => exact absurd (Heap.lt_size (F.keep a o' e)) (by rw [hI0]; exact Nat.not_lt.mpr ha)
  have hsz1 : (s₁.heap.push oI).objs.size = I + 1 := by rw [Heap.size_push, hI0]
  have offI : ∀ p ∈ news, p.1 < I := fun p hp => hI0 ▸ Heap.lt_size (N p hp).1
  generalize hB : s₁.heap.push oI = B at F₁ N₁ gI hsz1 ⊢
  have hst : St 0 B := hB ▸ Ws
  refine wpAny_newObj_type (wpAny_newFunctionEnv hcell (by intro y hy; simp at hy) (fun h₁ hns₁ hsb₁ => ?_) hkind)
  dsimp only at hns₁ hsb₁ ⊢
  generalize hH2 : B.push { cls := .type "list", dict := none, data := .seq ([] : List Value).toArray } = H2 at hns₁ hsb₁ ⊢
  have hC : H2.objs.size = B.objs.size + 1 := by rw [← hH2, Heap.size_push]
  have hDC : B.objs.size ≠ H2.objs.size := by rw [hC]; exact Nat.ne_of_lt (Nat.lt_succ_self _)
  have below : ∀ b, b < B.objs.size → b ≠ H2.objs.size ∧ b ≠ B.objs.size := fun b hb => ⟨by rw [hC]; exact Nat.ne_of_lt (Nat.lt_succ_of_lt hb), Nat.ne_of_lt hb⟩
  have hfp : ∀ b ∈ fp, b < B.objs.size := fun b hb => by rw [hsz1]; exact Wl b hb
  have hDf : B.objs.size ∉ fp := fun hm => Nat.lt_irrefl _ (hfp _ hm)
  have hCf : H2.objs.size ∉ fp := fun hm => by have := hfp _ hm; rw [hC] at this; exact Nat.lt_irrefl _ (Nat.lt_of_succ_lt this)
  have hIlt : I < B.objs.size := by rw [hsz1]; exact Nat.lt_succ_self _
  have old : ∀ b o, B.get? b = some o → h₁.get? b = some o := fun b o e => hsb₁.extBut b o (below b (Heap.lt_size e)).1 (Heap.get?_push_of_some _ (hH2 ▸ Heap.get?_push_of_some _ e))
  have hacc : h₁.get? B.objs.size = some (lst []) := hsb₁.extBut _ _ hDC (Heap.get?_push_of_some _ (hH2 ▸ Heap.get?_push_size _ rfl))
  have hst₁ : St 0 h₁ := Ww.frame _ _ _ hst fun b _ o e => old b o e
  have hD₀ : h₀.get? B.objs.size = none := fresh1 _ (Nat.le_of_lt hIlt)
  have hC₀ : h₀.get? H2.objs.size = none := fresh1 _ (by rw [hC]; exact Nat.le_succ_of_le (Nat.le_of_lt hIlt))
  have hI₀ : h₀.get? I = none := fresh1 _ (Nat.le_refl _)
  have hLlt : L < B.objs.size := F₁.ns.lt
  have hDL : B.objs.size ≠ L := Ne.symm (below L hLlt).2
  have hCL : H2.objs.size ≠ L := Ne.symm (below L hLlt).1
  have hCI : I ≠ H2.objs.size := (below I hIlt).1
  have hDI : I ≠ B.objs.size := (below I hIlt).2
  have off₀ : ∀ p ∈ news, p.1 ≠ I ∧ p.1 ≠ H2.objs.size ∧ p.1 ≠ B.objs.size := fun p hp => ⟨Nat.ne_of_lt (offI p hp), below _ (Nat.lt_trans (offI p hp) hIlt)⟩
  have loop : ∀ s₃ : Shared, s₃ = { s₁ with heap := h₁, toks := s₁.toks + ([] : List (Str × Value)).length } →
      codeAny (model prog w) A (.compLoop (twoC (.Name y py) (.Name x px) iter (.Name y py') i1 scope pos) 0 (.ref I) (.ref B.objs.size) (compEnvC scope cl H2.objs.size env))
        (RR (.ref B.objs.size) H2.objs.size) s₃ := by
    rintro s₃ rfl
    refine compLoop_two0 (hs := fun z => hs1 _ z)
      (fun k s' => ∃ h' tk i ys m' news', s' = { s₁ with heap := h', toks := tk } ∧ i ≤ n ∧ k = n + 1 - i ∧ St i h' ∧ Fr h₀ L h' m ∧ h'.Ns H2.objs.size m' ∧ News h₀ L h' ((B.objs.size, lst ys) :: news') ∧
        (∀ p ∈ news', p.1 ≠ I ∧ p.1 ≠ H2.objs.size ∧ p.1 ≠ B.objs.size) ∧ S news' ∧ J i ys news') ?_ (n + 1)
      ⟨h₁, _, 0, [], _, news, rfl, Nat.zero_le _, rfl, hst₁, F₁.keeps old, hns₁, fun p hp => ?_, off₀, hS, hJ⟩
    · rintro k s' ⟨h', tk, i, ys, m', news', rfl, hi, rfl, hst', F', hn', N', off', hS', R'⟩
      by_cases hlt : i < n
      · refine Ww.item i _ _ _ hlt hst' fun v h₂ tk₂ hPv hst₂ hk₂ => ?_
        refine wpAny_assign_Name (wpAny_storeName_local (lookup_relabel_local hx) (hn'.at' fun o e => hk₂ _ o (by simpa using Ne.symm hCI) e) (fun h₃ hn₃ hs₃ => ?_) (by simp [compEnvC, relabel, hkind]))
        have hst₃ : St (i + 1) h₃ := Ww.frame _ _ _ hst₂ fun b hb o e => hs₃.extBut b o (fun q => hCf (by have q' : b = H2.objs.size := q; rw [← q']; exact hb)) e
        obtain ⟨oI', heI⟩ := Wh _ _ hst₃
        obtain ⟨oC, heC, hoC⟩ := ns_obj hn₃
        have F₃ : Fr h₀ L h₃ m := (fr_but F' hk₂ hLI hI₀).change hs₃ hCL hC₀
        have N₂ : News h₀ L h₂ ((B.objs.size, lst ys) :: news') := news_but N' hk₂ fun p hp => by
          rcases List.mem_cons.mp hp with rfl | hp
          · exact Ne.symm hDI
          · exact (off' p hp).1
        have N₃ : News h₀ L h₃ ((I, oI') :: (H2.objs.size, oC) :: (B.objs.size, lst ys) :: news') := fun p hp => by
          rcases List.mem_cons.mp hp with rfl | hp
          · exact ⟨heI, Ne.symm hLI, hI₀⟩
          · rcases List.mem_cons.mp hp with rfl | hp
            · exact ⟨heC, hCL, hC₀⟩
            · have z := N₂ p hp
              refine ⟨hs₃.extBut _ _ ?_ z.1, z.2⟩
              rcases List.mem_cons.mp hp with rfl | hp
              · exact hDC
              · exact (off' p hp).2.1
        refine wpAny_mono (turn i v I oI' H2.objs.size oC B.objs.size _ ys news' h₃ _ _ hlt hPv R' hS' hoC (by simp) F₃ N₃ off' hCI hDI (Ne.symm hDC)) (fun xv s₄ h₄ => ?_) fun _ _ e => e
        obtain ⟨h₅, tk₅, r, vs, n', news₅, rfl, rfl, F₅, N₅, off₅, hS₅, R₅, hsz₅⟩ := h₄
        have zI := (N₅ (I, oI') List.mem_cons_self).1
        have zC := (N₅ (H2.objs.size, oC) (.tail _ (.head _))).1
        have zD := (N₅ (B.objs.size, lst ys) (.tail _ (.tail _ (.head _)))).1
        have zr := (N₅ (r, _) (.tail _ (.tail _ (.tail _ (.head _))))).1
        have hst₅ : St (i + 1) h₅ := Wm (i + 1) h₃ h₅ oI' news₅ hst₃ heI zI F₅.keep (fun p hp => N₅ p (.tail _ (.tail _ (.tail _ (.tail _ hp))))) hS₅
        have hlr : h₅.IsList r vs.toArray := ⟨_, zr, rfl, n', rfl⟩
        have offr := off₅ _ (.head _)
        refine wpAny_pyIter_list hlr ?_
        generalize hJ0 : h₅.objs.size = J1
        have gJ : (h₅.push ({ cls := .type "list_iterator", data := .fields #[.ref r, .int 0 0] } : Obj)).get? J1 = some { cls := .type "list_iterator", data := .fields #[.ref r, .int 0 0] } := hJ0 ▸ Heap.get?_push_size _ rfl
        have k5 : ∀ b o, h₅.get? b = some o → (h₅.push ({ cls := .type "list_iterator", data := .fields #[.ref r, .int 0 0] } : Obj)).get? b = some o := fun b o e => Heap.get?_push_of_some _ e
        have ltJ : ∀ b o, h₅.get? b = some o → b ≠ J1 := fun b o e => by rw [← hJ0]; exact Nat.ne_of_lt (Heap.lt_size e)
        have hJ0' : h₀.get? J1 = none := by
          cases e : h₀.get? J1 with
          | none => rfl
          | some o' => exact absurd rfl (ltJ _ _ (F₅.keep _ o' e))
        have hLJ : L ≠ J1 := by rw [← hJ0]; exact Nat.ne_of_lt F₅.ns.lt
        dsimp only
        generalize h₅.push ({ cls := .type "list_iterator", data := .fields #[.ref r, .int 0 0] } : Obj) = B5 at *
        have go : ∀ s₆ : Shared, s₆ = { s₁ with heap := B5, toks := tk₅ } → codeAny (model prog w) (A.mark none) (.compLoop (twoC (.Name y py) (.Name x px) iter (.Name y py') i1 scope pos) 1 (.ref J1) (.ref B.objs.size) (compEnvC scope cl H2.objs.size env))
            (fun r s' => match r with | .ok _ => ∃ m_1, m_1 < n + 1 - i ∧ ∃ h' tk i ys m' news', s' = { s₁ with heap := h', toks := tk } ∧ i ≤ n ∧ m_1 = n + 1 - i ∧ St i h' ∧ Fr h₀ L h' m ∧ h'.Ns H2.objs.size m' ∧ News h₀ L h' ((B.objs.size, lst ys) :: news') ∧
              (∀ p ∈ news', p.1 ≠ I ∧ p.1 ≠ H2.objs.size ∧ p.1 ≠ B.objs.size) ∧ S news' ∧ J i ys news' | .error _ => False) s₆ := by
          rintro s₆ rfl
          refine innerLoop (m' := fun z => if z = x then some v else m' z) (r := r) (vs := vs) (ys := ys) hh (by simp [compEnvC, relabel, hkind]) (lookup_relabel_local hy) (by simp [compEnvC, relabel, hkind]) hdb (Ne.symm (ltJ _ _ zC)) (Ne.symm (ltJ _ _ zD)) (ltJ _ _ zr) (Ne.symm hDC) offr.2.1 offr.2.2
            ⟨_, gJ, rfl, rfl⟩ ⟨_, k5 _ _ zr, rfl, n', rfl⟩ (k5 _ _ zD) ((hoC.ns (k5 _ _ zC)).at' fun o e => e) hsz₅ ?_
          intro h₆ tk₆ m₆ hD₆ hn₆ hk₆
          have kk : ∀ b o, b ≠ H2.objs.size → b ≠ B.objs.size → h₅.get? b = some o → h₆.get? b = some o := fun b o e1 e2 e => hk₆ b o (ltJ _ _ e) e1 e2 (k5 _ _ e)
          have F₆ : Fr h₀ L h₆ m := ⟨F₅.ns.at' fun o e => kk L o (Ne.symm hCL) (Ne.symm hDL) e, fun b o e => kk b o (fun q => by rw [q, hC₀] at e; cases e) (fun q => by rw [q, hD₀] at e; cases e) (F₅.keep b o e), F₅.above⟩
          have N₆ : News h₀ L h₆ ((B.objs.size, lst (ys ++ vs)) :: news₅) := fun p hp => by
            rcases List.mem_cons.mp hp with rfl | hp
            · exact ⟨hD₆, hDL, hD₀⟩
            · have z := N₅ p (.tail _ (.tail _ (.tail _ (.tail _ hp))))
              have o' := off₅ p (.tail _ hp)
              exact ⟨kk _ _ o'.2.1 o'.2.2 z.1, z.2⟩
          refine ⟨n + 1 - (i + 1), by omega, h₆, tk₆, i + 1, ys ++ vs, m₆, news₅, rfl, hlt, rfl, ?_, F₆, hn₆, N₆, fun p hp => off₅ p (.tail _ hp), hS₅, R₅⟩
          exact Wm (i + 1) h₅ h₆ oI' news₅ hst₅ zI (kk _ _ hCI hDI zI) F₆.keep (fun p hp => N₆ p (.tail _ hp)) hS₅
        refine compStart_two (.inr rfl) (go _ rfl) ?_
        exact (Walks.list (prog := prog) (w := w) (A := A.mark none) hh J1 r (ltJ _ _ zr) vs.toArray).self 0 _ _ _ ⟨⟨_, gJ, rfl, rfl⟩, ⟨_, k5 _ _ zr, rfl, n', rfl⟩⟩ (go _ rfl)
      · obtain rfl : i = n := Nat.le_antisymm hi (Nat.not_lt.mp hlt)
        refine Ww.done _ _ _ hst' fun h₂ tk₂ hk₂ => ?_
        exact hRR _ _ h₂ tk₂ _ ys news' (fr_but F' hk₂ hLI hI₀) (news_but N' hk₂ fun p hp => by
          rcases List.mem_cons.mp hp with rfl | hp
          · exact Ne.symm hDI
          · exact (off' p hp).1) (fun p hp => (off' p hp).2.2) (hn'.at' fun o e => hk₂ _ o (by simpa using Ne.symm hCI) e) hC₀ hD₀ hCL hDL (Ne.symm hDC) (fun p hp => (off' p hp).2.1) R'
    · rcases List.mem_cons.mp hp with rfl | hp
      · exact ⟨hacc, hDL, hD₀⟩
      · exact ⟨old _ _ (N₁ p hp).1, (N₁ p hp).2⟩
  exact compStart_two (.inl rfl) (loop _ rfl) (Ww.self 0 _ _ _ hst₁ (loop _ rfl))
def OkLL (prog : Program) (w : World) (A : Around) (h₀ : Heap) (L : Addr) (m : Str → Option Value) (env : Env) (i1 : Expr) (x : Str) (scope : Scope) (cl : List (Str × Addr)) (Fin : Shared → List Value → List (Addr × Obj) → Prop) (xv : Value) (s₁ : Shared) : Prop :=
  ∃ (n : Nat) (P : Nat → Value → Prop) (S : List (Addr × Obj) → Prop) (oI : Obj) (fp : List Addr) (St : Nat → Heap → Prop) (J : Nat → List Value → List (Addr × Obj) → Prop) (news : List (Addr × Obj)),
    Src prog w A h₀ L xv n P S s₁ oI fp St ∧ Fr h₀ L s₁.heap m ∧ News h₀ L s₁.heap news ∧ S news ∧ J 0 [] news ∧
    (∀ i v I oI C oC D m₂ ys news h tk (E' : Value → Shared → Prop), i < n → P i v → J i ys news → S news → NsObj oC m₂ → m₂ x = some v → Fr h₀ L h m → News h₀ L h ((I, oI) :: (C, oC) :: (D, lst ys) :: news) →
      (∀ p ∈ news, p.1 ≠ I ∧ p.1 ≠ C ∧ p.1 ≠ D) → I ≠ C → I ≠ D → C ≠ D →
      wpAny (model prog w) A (eval i1 (compEnvC scope cl C env)) (EndLL h₀ L m { s₁ with heap := h, toks := tk } I oI C oC D S (J (i + 1)) ys) E' { s₁ with heap := h, toks := tk }) ∧
    (∀ ys news, J n ys news → Fin s₁ ys news)
theorem OkLL.intro {i1 : Expr} {x : Str} {scope : Scope} {cl : List (Str × Addr)} {Fin : Shared → List Value → List (Addr × Obj) → Prop} {xv : Value} {s₁ : Shared}
    {n : Nat} {P : Nat → Value → Prop} {S : List (Addr × Obj) → Prop} {oI : Obj} {fp : List Addr} {St : Nat → Heap → Prop} (J : Nat → List Value → List (Addr × Obj) → Prop)
    (W : Src prog w A h₀ L xv n P S s₁ oI fp St) (F : Fr h₀ L s₁.heap m) (N : News h₀ L s₁.heap news) (hS : S news) (hJ : J 0 [] news)
    (turn : ∀ i v I oI C oC D m₂ ys news h tk (E' : Value → Shared → Prop), i < n → P i v → J i ys news → S news → NsObj oC m₂ → m₂ x = some v → Fr h₀ L h m → News h₀ L h ((I, oI) :: (C, oC) :: (D, lst ys) :: news) →
      (∀ p ∈ news, p.1 ≠ I ∧ p.1 ≠ C ∧ p.1 ≠ D) → I ≠ C → I ≠ D → C ≠ D →
      wpAny (model prog w) A (eval i1 (compEnvC scope cl C env)) (EndLL h₀ L m { s₁ with heap := h, toks := tk } I oI C oC D S (J (i + 1)) ys) E' { s₁ with heap := h, toks := tk })
    (fin : ∀ ys news, J n ys news → Fin s₁ ys news) : OkLL prog w A h₀ L m env i1 x scope cl Fin xv s₁ := ⟨n, P, S, oI, fp, St, J, news, W, F, N, hS, hJ, turn, fin⟩
theorem evalLL {iter i1 : Expr} {x y : Str} {px py py' : Pos} {scope : Scope} {cl : List (Str × Addr)} {pos : Pos} {Q : Value → Shared → Prop} (F₀ : Fr h₀ L s.heap m) (hh : A.handled = none)
    (hclos : closureFor scope env = pure cl) (hcell : ∀ y ∈ scope.names, y.2 ≠ .cell) (hkind : scope.kind = .function) (hx : scope.names.lookup x = some .local) (hy : scope.names.lookup y = some .local)
    (hnames : ∀ y ∈ scope.names, y.2 = .local → scope.names.lookup y.1 = some .local)
    (h : wpAny (model prog w) A (eval iter env) (OkLL prog w A h₀ L m env i1 x scope cl (FinEL h₀ L m Q)) E s)
    (hdb : (y == ("__debug__" : Str)) = false := by decide) (hs1 : ∀ C z, foldedSetIterable i1 (compEnvC scope cl C env) z = pure z := by intro _ _; rfl)
    (hs : ∀ x, foldedSetIterable iter env x = pure x := by intro _; rfl) :
    wpAny (model prog w) A (eval (twoC (.Name y py) (.Name x px) iter (.Name y py') i1 scope pos) env) Q E s := by
  rw [eval_ListComp]
  refine wpAny_comprehension_free (use := none) rfl hs hclos hkind hnames (wpAny_mono h (fun xv s₁ h₁ => ?_) fun _ _ e => e)
  obtain ⟨n, P, S, oI, fp, St, J, news, W, F, N, hS, hJ, turn, fin⟩ := h₁
  refine blockLL W hcell hkind hx hy hdb hs1 hh F N hS hJ turn ?_
  intro D C h tk m' ys news' F' N' o1 hn hC₀ hD₀ hCL hDL hCD offC r
  refine ⟨m', hn, fun h'' hs'' => fin ys news' r D h'' tk (F'.change hs'' hCL hC₀) (fun p hp => ?_) o1⟩
  refine ⟨hs''.extBut _ _ ?_ (N' p hp).1, (N' p hp).2⟩
  rcases List.mem_cons.mp hp with rfl | hp
  · exact Ne.symm hCD
  · exact offC p hp
end
end CK
end
section
section
def rowF (v : Int) : Str := Txt.join (Str.ofString "") (fmodeL ((v.fdiv 32).fmod 16 * 4096 + v.fmod 32))
theorem rows_of (ns : List Int) : ∀ r ∈ ns.map rowF, ∃ v, r = rowF v := fun r hr => by
  obtain ⟨v, _, rfl⟩ := List.mem_map.mp hr
  exact ⟨v, rfl⟩
def signF (x : Int) (k : Nat) : Str := if Builtin.bitAnd (x.fdiv (2 ^ (4 - (0 + (k : Int))).toNat)) 1 ≠ 0 then Txt.item (Str.ofString "wxrwx") (0 + (k : Int)) else Str.ofString "-"
def baseF (x : Str) : Str := Txt.slice x (some (Txt.rfind x (Str.ofString "/") + 1)) none
def unlF (rs : List Str) (rt : Str) (x : Int) : List Str := rs.filter fun r => Txt.item r x != Txt.item rt x
def chgF (rs : List Str) (rt : Str) (q : Nat) : List Str := ((List.range q).filter fun (x : Nat) => !(unlF rs rt (5 + (x : Int))).isEmpty).map fun (x : Nat) => digS (5 + (x : Int))
theorem unl_snoc {rs : List Str} {rt z : Str} {x : Int} {q : Nat} (hz : rs[q]? = some z) : unlF (rs.take (q + 1)) rt x = unlF (rs.take q) rt x ++ if (Txt.item z x != Txt.item rt x) = true then [z] else [] := by
  unfold unlF
  rw [List.take_add_one, hz, Option.toList_some, List.filter_append, List.filter_cons, List.filter_nil]
theorem strs_empty {us : List Value} {ss : List Str} (h : StrsAre us ss) : us.isEmpty = ss.isEmpty := by cases h <;> rfl
theorem chg_snoc {rs : List Str} {rt : Str} {q : Nat} : chgF rs rt (q + 1) = chgF rs rt q ++ if (unlF rs rt (5 + (q : Int))).isEmpty = true then [] else [digS (5 + (q : Int))] := by
  unfold chgF
  rw [List.range_succ, List.filter_append, List.map_append]
  congr 1
  rw [List.filter_cons, List.filter_nil]
  cases (unlF rs rt (5 + (q : Int))).isEmpty <;> rfl
def comZ (px py : List Str) : Str := Str.ofString "/" ++ Txt.join (Str.ofString "/") (MM.lcp (px.filter keepC) (py.filter keepC))
def stepsF (x y : Str) : Int := (((aboveL 9 x).length : Nat) : Int) + (((aboveL 9 y).length : Nat) : Int) - 2 * (((aboveL 9 (comZ (Txt.split x (Str.ofString "/")) (Txt.split y (Str.ofString "/")))).length : Nat) : Int)
def unlC (r r' : Str) : Int := ((((List.range 5).filter fun (q : Nat) => Txt.item r (5 + (q : Int)) != Txt.item r' (5 + (q : Int))).length : Nat) : Int)
def pairD (wl rs : List Str) (k j : Nat) : Int := stepsF (wl.getD k (Str.ofString "")) (wl.getD j (Str.ofString "")) - unlC (rs.getD k (Str.ofString "")) (rs.getD j (Str.ofString ""))
def rowSum (wl rs : List Str) (k : Nat) : Nat → Int
  | 0 => 0
  | j + 1 => rowSum wl rs k j + pairD wl rs k j
def furF (wl rs : List Str) : Nat → Int
  | 0 => 0
  | k + 1 => furF wl rs k + rowSum wl rs k k
end
end
section
section
theorem par_of (v m k : Int) (hm : m ≠ 0) (h : m * (2 * k) = 32) : v / m % 2 = v % 32 / m % 2 := by
  have e : v / m = v % 32 / m + v / 32 * (2 * k) := by
    rw [← Int.add_mul_ediv_right _ _ hm, Int.mul_assoc, Int.mul_comm (2 * k) m, h, Int.mul_comm, Int.emod_add_mul_ediv]
  rw [e, Int.mul_comm (v / 32), Int.mul_assoc, Int.add_mul_emod_self_left]
theorem sign_at (v : Int) {i : Nat} (hi : i < 5) : signF v i = if (v.fmod 32 / 2 ^ (4 - i)) % 2 ≠ 0 then Txt.item (Str.ofString "wxrwx") (i : Int) else Str.ofString "-" := by
  unfold signF
  rw [bitAnd_m1, Int.zero_add]
  have e : v.fdiv (2 ^ (4 - (i : Int)).toNat) % 2 = v.fmod 32 / 2 ^ (4 - i) % 2 := by
    rw [Int.fdiv_eq_ediv_of_nonneg _ (Int.le_of_lt (Int.pow_pos (by decide))), Int.fmod_eq_emod_of_nonneg _ (by decide)]
    match i, hi with
    | 0, _ => exact par_of v 16 1 (by decide) rfl
    | 1, _ => exact par_of v 8 2 (by decide) rfl
    | 2, _ => exact par_of v 4 4 (by decide) rfl
    | 3, _ => exact par_of v 2 8 (by decide) rfl
    | 4, _ => exact par_of v 1 16 (by decide) rfl
  rw [e]
def rowX (k b : Nat) : Str := Txt.join (Str.ofString "") (fmodeL ((k : Int) * 4096 + (b : Int)))
/-- all texts in a row, one behind the other -/
def cat : List Str → Str
  | [] => Str.empty
  | x :: l => x ++ cat l
theorem cat_join : ∀ l : List Str, Txt.join (Str.ofString "") l = cat l := by
  have z : ∀ a : Str, a ++ Str.ofString "" = a := fun a => by
    have : (a ++ Str.ofString "").cps = a.cps := by rw [Str.cps_append, show (Str.ofString "").cps = #[] by decide +kernel, Array.append_empty]
    exact congrArg Str.mk this
  have e : ∀ a : Str, a ++ Str.empty = a := fun a => by
    have : (a ++ Str.empty).cps = a.cps := by rw [Str.cps_append, show Str.empty.cps = #[] from rfl, Array.append_empty]
    exact congrArg Str.mk this
  intro l
  show Builtin.Str.glued (Str.ofString "") l = _
  rw [StrLaws.glued_eq_join]
  induction l with
  | nil => rfl
  | cons x l ih =>
    cases l with
    | nil => exact (e x).symm
    | cons y l =>
      show x ++ Str.ofString "" ++ Str.join (Str.ofString "") (y :: l) = x ++ cat (y :: l)
      rw [ih, z]
/-- the low signs of a mode, and its kind -/
def lowX (b : Nat) : List Str := fmFrom (b : Int) 1 (fmTab.drop 1)
def kindX (k : Nat) : Str := fmSign 0 ((k : Int) * 4096) (fmTab.headD (0, [])).2
def expL (b : Nat) : Str := Txt.join (Str.ofString "") ((List.range 5).map fun (i : Nat) => if ((b : Int) / 2 ^ (4 - i)) % 2 ≠ 0 then Txt.item (Str.ofString "wxrwx") (i : Int) else Str.ofString "-")
theorem and_low (k b m : Nat) (hb : b < 4096) (hm : m < 4096) : Builtin.bitAnd ((k : Int) * 4096 + (b : Int)) (m : Int) = Builtin.bitAnd (b : Int) (m : Int) := by
  have e : (k * 4096 + b) &&& m = b &&& m := by
    have h := Nat.and_mod_two_pow (a := k * 4096 + b) (b := m) (n := 12)
    have h1 : (k * 4096 + b) &&& m ≤ m := Nat.and_le_right
    rw [Nat.mod_eq_of_lt (by omega), Nat.mod_eq_of_lt (a := m) (by omega), show (k * 4096 + b) % 2 ^ 12 = b by omega] at h
    exact h
  have z : ∀ x : Nat, Builtin.bitAnd (x : Int) (m : Int) = ((x &&& m : Nat) : Int) := fun x => by
    unfold Builtin.bitAnd
    rw [decide_eq_true (Int.natCast_nonneg x), decide_eq_true (Int.natCast_nonneg m)]
    rfl
  rw [show (k : Int) * 4096 + (b : Int) = ((k * 4096 + b : Nat) : Int) by omega, z, z, e]
def lowRow (r : List (Addr × Int × String)) : Bool := r.all fun q => decide (0 ≤ q.2.1) && decide (q.2.1 < 4096)
theorem sign_low {i k b : Nat} (hb : b < 4096) (hi : i ≠ 0) : ∀ r : List (Addr × Int × String), lowRow r = true → fmSign i ((k : Int) * 4096 + (b : Int)) r = fmSign i (b : Int) r
  | [], _ => rfl
  | (a, m, c) :: r, h => by
    have h' : (0 ≤ m ∧ m < 4096) ∧ lowRow r = true := by simpa [lowRow] using h
    obtain ⟨⟨h0, h1⟩, h2⟩ := h'
    obtain ⟨n, rfl⟩ := Int.eq_ofNat_of_zero_le h0
    unfold fmSign
    rw [sign_low hb hi r h2]
    unfold fmTest
    rw [if_neg hi, if_neg hi, and_low k b n hb (by omega)]
theorem from_low {k b : Nat} (hb : b < 4096) : ∀ (l : List (Addr × List (Addr × Int × String))) (i : Nat), i ≠ 0 → (l.all fun q => lowRow q.2) = true → fmFrom ((k : Int) * 4096 + (b : Int)) i l = fmFrom (b : Int) i l
  | [], _, _, _ => rfl
  | (a, r) :: l, i, hi, h => by
    rw [List.all_cons, Bool.and_eq_true] at h
    unfold fmFrom
    rw [sign_low hb hi r h.1, from_low hb l (i + 1) (by omega) h.2]
theorem chkH : ((List.range 16).all fun k => (List.range 32).all fun b => Builtin.bitAnd ((k : Int) * 4096 + (b : Int)) 61440 == Builtin.bitAnd ((k : Int) * 4096) 61440) = true := by decide +kernel
theorem sign_high {k b : Nat} (hk : k < 16) (hb : b < 32) : ∀ r : List (Addr × Int × String), fmSign 0 ((k : Int) * 4096 + (b : Int)) r = fmSign 0 ((k : Int) * 4096) r
  | [] => rfl
  | (a, m, c) :: r => by
    have h := chkH
    rw [List.all_eq_true] at h
    have h2 := h k (List.mem_range.mpr hk)
    rw [List.all_eq_true] at h2
    have h3 := eq_of_beq (h2 b (List.mem_range.mpr hb))
    unfold fmSign
    rw [sign_high hk hb r]
    unfold fmTest
    rw [if_pos rfl, if_pos rfl, h3]
theorem fmode_split {k b : Nat} (hk : k < 16) (hb : b < 32) : fmodeL ((k : Int) * 4096 + (b : Int)) = kindX k :: lowX b := by
  show fmSign 0 _ _ :: fmFrom _ 1 (fmTab.drop 1) = _
  rw [sign_high hk hb, from_low (by omega) _ 1 (by decide) (by decide +kernel)]
  rfl
theorem chkK : ((List.range 16).all fun k => kindX k == Txt.item (Str.ofString "?pc?d?b?-?l?s???") (k : Int)) = true := by decide +kernel
theorem chkL : ((List.range 32).all fun b => cat (lowX b) == Str.ofString "----" ++ expL b) = true := by decide +kernel
theorem app_assoc (a b c : Str) : a ++ b ++ c = a ++ (b ++ c) := by
  have : (a ++ b ++ c).cps = (a ++ (b ++ c)).cps := by rw [Str.cps_append, Str.cps_append, Str.cps_append, Str.cps_append, Array.append_assoc]
  exact congrArg Str.mk this
theorem row_eq {k b : Nat} (hk : k < 16) (hb : b < 32) : rowX k b = Txt.item (Str.ofString "?pc?d?b?-?l?s???") (k : Int) ++ Str.ofString "----" ++ expL b := by
  have h := chkK
  rw [List.all_eq_true] at h
  have h1 := eq_of_beq (h k (List.mem_range.mpr hk))
  have g := chkL
  rw [List.all_eq_true] at g
  have g1 := eq_of_beq (g b (List.mem_range.mpr hb))
  unfold rowX
  rw [fmode_split hk hb, cat_join, cat, g1, h1, app_assoc]
theorem kb_of (x : Int) : ∃ k b : Nat, k < 16 ∧ b < 32 ∧ (x.fdiv 32).fmod 16 = (k : Int) ∧ x.fmod 32 = (b : Int) := by
  have h1 : 0 ≤ (x.fdiv 32).fmod 16 ∧ (x.fdiv 32).fmod 16 < 16 := ⟨Int.fmod_nonneg_of_pos _ (by decide), Int.fmod_lt_of_pos _ (by decide)⟩
  have h2 : 0 ≤ x.fmod 32 ∧ x.fmod 32 < 32 := ⟨Int.fmod_nonneg_of_pos _ (by decide), Int.fmod_lt_of_pos _ (by decide)⟩
  exact ⟨((x.fdiv 32).fmod 16).toNat, (x.fmod 32).toNat, by omega, by omega, by omega, by omega⟩
theorem row_spec (x : Int) : rowF x = Txt.item (Str.ofString "?pc?d?b?-?l?s???") ((x.fdiv 32).fmod 16) ++ Str.ofString "----" ++ Txt.join (Str.ofString "") ((List.range 5).map (signF x)) := by
  obtain ⟨k, b, hk, hb, e1, e2⟩ := kb_of x
  have e3 : (List.range 5).map (signF x) = (List.range 5).map fun (i : Nat) => if ((b : Int) / 2 ^ (4 - i)) % 2 ≠ 0 then Txt.item (Str.ofString "wxrwx") (i : Int) else Str.ofString "-" :=
    List.map_congr_left fun i hi => by rw [sign_at x (List.mem_range.mp hi), e2]
  unfold rowF
  rw [e1, e2, e3]
  exact row_eq hk hb
/-- what a row tells: ten signs, each of the last five its letter or none -/
def rowOk (r : Str) : Bool := r.length == 10 && (List.range 5).all fun (i : Nat) => Txt.item r (5 + (i : Int)) == Txt.item (Str.ofString "wxrwx") (i : Int) || Txt.item r (5 + (i : Int)) == Str.ofString "-"
def lowOk (b : Nat) : Bool := (Str.ofString "----" ++ expL b).length == 9 && (List.range 5).all fun (i : Nat) => Txt.item (Str.ofString "----" ++ expL b) (4 + (i : Int)) == Txt.item (Str.ofString "wxrwx") (i : Int) || Txt.item (Str.ofString "----" ++ expL b) (4 + (i : Int)) == Str.ofString "-"
theorem chkR : ((List.range 32).all lowOk) = true := by decide +kernel
theorem item_tail {a y : Str} (ha : a.length = 1) (n : Nat) : Txt.item (a ++ y) (1 + (n : Int)) = Txt.item y (n : Int) := by
  have e : Txt.charAt (a ++ y) (1 + (n : Int)) = Txt.charAt y (n : Int) := by
    unfold Txt.charAt seqIndex?
    rw [Str.length_append, ha]
    simp only [if_neg (show ¬ (1 + (n : Int) < 0) by omega), if_neg (show ¬ ((n : Int) < 0) by omega)]
    have ha' : a.cps.size = 1 := ha
    by_cases h : n < y.length
    · rw [if_pos (by simp; omega), if_pos (by simp; omega), Option.bind_some, Option.bind_some, Str.cps_append, show (1 + (n : Int)).toNat = 1 + n by omega, show ((n : Int)).toNat = n by omega,
        Array.getElem?_append_right (by omega), ha', Nat.add_sub_cancel_left]
    · rw [if_neg (by simp; omega), if_neg (by simp; omega)]
      rfl
  unfold Txt.item
  rw [e]
theorem ok_of {k b : Nat} (hk : k < 16) (hb : b < 32) : rowOk (rowX k b) = true := by
  have h := chkR
  rw [List.all_eq_true] at h
  have h2 := h b (List.mem_range.mpr hb)
  unfold lowOk at h2
  rw [Bool.and_eq_true, List.all_eq_true] at h2
  have l1 : (Txt.item (Str.ofString "?pc?d?b?-?l?s???") (k : Int)).length = 1 := rfl
  rw [row_eq hk hb, app_assoc]
  unfold rowOk
  rw [Bool.and_eq_true, List.all_eq_true]
  refine ⟨?_, fun i hi => ?_⟩
  · rw [Str.length_append, l1, eq_of_beq h2.1]; rfl
  · have h3 := h2.2 i hi
    have e : (5 : Int) + (i : Int) = 1 + ((4 + i : Nat) : Int) := by omega
    rw [e, item_tail l1, show ((4 + i : Nat) : Int) = 4 + (i : Int) by omega]
    exact h3
theorem row_ok (x : Int) : rowOk (rowF x) = true := by
  obtain ⟨k, b, hk, hb, e1, e2⟩ := kb_of x
  unfold rowF
  rw [e1, e2]
  exact ok_of hk hb
theorem rows_ten (ns : List Int) : ∀ r ∈ ns.map rowF, r.length = 10 := by
  intro r hr
  obtain ⟨v, _, rfl⟩ := List.mem_map.mp hr
  have h := row_ok v
  unfold rowOk at h
  rw [Bool.and_eq_true] at h
  exact eq_of_beq h.1
theorem row_bin {v : Int} {i : Nat} (hi : i < 5) : Txt.item (rowF v) (5 + (i : Int)) = Txt.item (Str.ofString "wxrwx") (i : Int) ∨ Txt.item (rowF v) (5 + (i : Int)) = Str.ofString "-" := by
  have h := row_ok v
  unfold rowOk at h
  rw [Bool.and_eq_true, List.all_eq_true] at h
  have h2 := h.2 i (List.mem_range.mpr hi)
  rw [Bool.or_eq_true] at h2
  exact h2.imp eq_of_beq eq_of_beq
theorem sign_cases (x : Int) {i : Nat} (hi : i < 5) : signF x i = Txt.item (Str.ofString "wxrwx") (i : Int) ∨ signF x i = Str.ofString "-" := by
  rw [sign_at x hi]; split <;> simp
theorem letter_len {i : Nat} (hi : i < 5) : (Txt.item (Str.ofString "wxrwx") (i : Int)).length = 1 := by
  obtain rfl | rfl | rfl | rfl | rfl : i = 0 ∨ i = 1 ∨ i = 2 ∨ i = 3 ∨ i = 4 := by omega
  all_goals decide +kernel
theorem signF_len5 (x : Int) {i : Nat} (hi : i < 5) : (signF x i).length = 1 := by
  rcases sign_cases x hi with h | h
  · rw [h]; exact letter_len hi
  · rw [h]; decide +kernel
theorem sign_sum (x : Int) : ((((List.range 5).map (signF x)).map (·.length)).sum) + ((List.range 5).map (signF x)).length ≤ 1048576 := by
  have e : ((List.range 5).map (signF x)).map (·.length) = (List.range 5).map fun _ => 1 := by
    rw [List.map_map]
    exact List.map_congr_left fun i hi => signF_len5 x (List.mem_range.mp hi)
  rw [e, List.length_map]; decide
theorem sign_join (x : Int) : (Txt.join (Str.ofString "") ((List.range 5).map (signF x))).length ≤ 100 := by
  obtain ⟨k, b, hk, hb, e1, e2⟩ := kb_of x
  have h := row_spec x
  have h2 := rows_ten [x] (rowF x) (by simp)
  rw [h, Str.length_append, Str.length_append] at h2
  omega
end
end
section
section
def pathL (W : List Int) : Str := W.foldl (fun way p => joinF way (digS p)) (Str.ofString "/")
theorem wayF_eq (ord ns : List Int) : wayF ord ns = pathL (ord.filter fun p => ns.any fun y => y == p) := by
  unfold wayF pathL
  generalize Str.ofString "/" = a
  induction ord generalizing a with
  | nil => rfl
  | cons p ord ih =>
    rw [List.foldl_cons, List.filter_cons, stepW]
    split
    · rw [List.foldl_cons]; exact ih _
    · exact ih _
def five5 : List Int := [5, 6, 7, 8, 9]
def dc (a : Nat) : Str := ⟨#[a + 48]⟩
def pathS (l : List Str) : Str := l.foldl (fun way d => joinF way d) (Str.ofString "/")
theorem kind_pos (x : Str) : 1 ≤ Builtin.Str.strKind x := by
  unfold Builtin.Str.strKind
  split
  · exact Nat.le_refl _
  · split <;> decide
def splitC (x y : Str) : List Str := if (Builtin.Str.occurrences x y 0 x.length (x.length + 1)).isEmpty = true then [x] else Builtin.Str.partsBetween x (Builtin.Str.occurrences x y 0 x.length (x.length + 1)) y.length
theorem split_go {x : Str} (h : 1 ≤ x.length) : Txt.split x (Str.ofString "/") = splitC x (Str.ofString "/") := by
  have h1 : (Str.ofString "/").length = 1 := by decide +kernel
  have h2 : Builtin.Str.strKind (Str.ofString "/") = 1 := by decide +kernel
  unfold Txt.split splitC
  rw [if_neg (by rw [h1, h2, Bool.or_eq_true, decide_eq_true_iff, decide_eq_true_iff]; have := kind_pos x; omega)]
/-- what is to be told of the path whose parts are the texts of the numbers l -/
structure PathOk (l : List Nat) : Prop where
  len : (pathS (l.map dc)).length = 1 + (2 * l.length - 1)
  start : Txt.startswith (pathS (l.map dc)) (Str.ofString "/") = true
  parts : splitC (pathS (l.map dc)) (Str.ofString "/") = if l = [] then [Str.ofString "", Str.ofString ""] else Str.ofString "" :: l.map dc
  glue : Str.ofString "/" ++ Txt.join (Str.ofString "/") (l.map dc) = pathS (l.map dc)
  dir : dirF (pathS (l.map dc)) = pathS (l.dropLast.map dc)
  base : ∀ a, l.getLast? = some a → baseF (pathS (l.map dc)) = dc a
theorem path_ok : ∀ l : List Nat, l.length ≤ 5 → PathOk l
  | [], _ => ⟨by kernel_rfl, by kernel_rfl, by kernel_rfl, by kernel_rfl, by kernel_rfl, fun a h => by cases h⟩
  | [a], _ => ⟨by kernel_rfl, by kernel_rfl, by kernel_rfl, by kernel_rfl, by kernel_rfl, fun _ h => by cases h; kernel_rfl⟩
  | [a, b], _ => ⟨by kernel_rfl, by kernel_rfl, by kernel_rfl, by kernel_rfl, by kernel_rfl, fun _ h => by cases h; kernel_rfl⟩
  | [a, b, c], _ => ⟨by kernel_rfl, by kernel_rfl, by kernel_rfl, by kernel_rfl, by kernel_rfl, fun _ h => by cases h; kernel_rfl⟩
  | [a, b, c, d], _ => ⟨by kernel_rfl, by kernel_rfl, by kernel_rfl, by kernel_rfl, by kernel_rfl, fun _ h => by cases h; kernel_rfl⟩
  | [a, b, c, d, e], _ => ⟨by kernel_rfl, by kernel_rfl, by kernel_rfl, by kernel_rfl, by kernel_rfl, fun _ h => by cases h; kernel_rfl⟩
  | _ :: _ :: _ :: _ :: _ :: _ :: _, h => by simp at h
theorem dig_dc {p : Int} (hp : p ∈ five5) : digS p = dc p.toNat := by
  have c : (five5.all fun p => digS p == dc p.toNat) = true := by decide +kernel
  rw [List.all_eq_true] at c
  exact eq_of_beq (c p hp)
theorem map_dc {W : List Int} (h : ∀ p ∈ W, p ∈ five5) : W.map digS = (W.map Int.toNat).map dc := by
  rw [List.map_map]
  exact List.map_congr_left fun p hp => dig_dc (h p hp)
theorem path_S (W : List Int) : pathL W = pathS (W.map digS) := by
  unfold pathL pathS
  rw [List.foldl_map]
theorem path_dc {W : List Int} (h : ∀ p ∈ W, p ∈ five5) : pathL W = pathS ((W.map Int.toNat).map dc) := by rw [path_S, map_dc h]
end
end
section
section
structure Good (W : List Int) : Prop where
  nd : W.Nodup
  mem : ∀ p ∈ W, p ∈ five5
  len : W.length ≤ 5
theorem Good.sub {W V : List Int} (h : Good W) (s : V.Sublist W) : Good V := ⟨h.nd.sublist s, fun p hp => h.mem p (s.subset hp), Nat.le_trans s.length_le h.len⟩
theorem path_facts {W : List Int} (h : Good W) : (pathL W).length ≤ 20 ∧ Txt.startswith (pathL W) (Str.ofString "/") = true ∧ Txt.split (pathL W) (Str.ofString "/") = (if W = [] then [Str.ofString "", Str.ofString ""] else Str.ofString "" :: W.map digS) ∧
    Str.ofString "/" ++ Txt.join (Str.ofString "/") (W.map digS) = pathL W ∧ dirF (pathL W) = pathL W.dropLast := by
  have k := path_ok (W.map Int.toNat) (by rw [List.length_map]; exact h.len)
  have e := path_dc h.mem
  have m := map_dc h.mem
  have e2 : pathL W.dropLast = pathS ((W.map Int.toNat).dropLast.map dc) := by
    rw [← List.map_dropLast]
    exact path_dc fun p hp => h.mem p (List.dropLast_subset _ hp)
  refine ⟨?_, ?_, ?_, ?_, ?_⟩
  · rw [e, k.len, List.length_map]; have := h.len; omega
  · rw [e]; exact k.start
  · rw [e, split_go (by rw [k.len]; omega), k.parts, m]
    by_cases hw : W = []
    · subst hw; rfl
    · rw [if_neg hw, if_neg (by simpa using hw)]
  · rw [e, m]; exact k.glue
  · rw [e, e2]; exact k.dir
theorem path_base {V : List Int} {p : Int} (h : Good (V ++ [p])) : baseF (pathL (V ++ [p])) = digS p ∧ pathL (V ++ [p]) ≠ Str.ofString "/" := by
  have k := path_ok ((V ++ [p]).map Int.toNat) (by rw [List.length_map]; exact h.len)
  refine ⟨?_, fun q => ?_⟩
  · rw [path_dc h.mem, k.base p.toNat (by rw [List.map_append]; simp), dig_dc (h.mem p (by simp))]
  · have z := congrArg Str.length q
    rw [path_dc h.mem, k.len, show (Str.ofString "/").length = 1 by decide +kernel] at z
    simp at z
    omega
theorem path_dir {V : List Int} {p : Int} (h : Good (V ++ [p])) : dirF (pathL (V ++ [p])) = pathL V := by
  rw [(path_facts h).2.2.2.2, List.dropLast_concat]
theorem dig_inj {p q : Int} (hp : p ∈ five5) (hq : q ∈ five5) (h : digS p = digS q) : p = q := by
  have c : (five5.all fun p => five5.all fun q => (digS p != digS q) || p == q) = true := by decide +kernel
  rw [List.all_eq_true] at c
  have c2 := c p hp
  rw [List.all_eq_true] at c2
  have c3 := c2 q hq
  rw [h] at c3
  simpa using c3
theorem map_dig_inj : ∀ {V W : List Int}, (∀ p ∈ V, p ∈ five5) → (∀ p ∈ W, p ∈ five5) → V.map digS = W.map digS → V = W
  | [], [], _, _, _ => rfl
  | [], _ :: _, _, _, h => by simp at h
  | _ :: _, [], _, _, h => by simp at h
  | p :: V, q :: W, hV, hW, h => by
    rw [List.map_cons, List.map_cons, List.cons.injEq] at h
    rw [dig_inj (hV p (by simp)) (hW q (by simp)) h.1, map_dig_inj (fun x hx => hV x (by simp [hx])) (fun x hx => hW x (by simp [hx])) h.2]
theorem dig_len {p : Int} (hp : p ∈ five5) : (digS p).length = 1 := by
  have : 5 ≤ p ∧ p ≤ 9 := by simp [five5] at hp; omega
  exact (dig_ok this.1 this.2).1
theorem dig_ne {p : Int} (hp : p ∈ five5) : digS p ≠ Str.ofString "" ∧ keepC (digS p) = true := by
  have c : (five5.all fun p => (digS p != Str.ofString "") && keepC (digS p)) = true := by decide +kernel
  rw [List.all_eq_true] at c
  have c2 := c p hp
  simpa using c2
theorem path_inj {V W : List Int} (hV : Good V) (hW : Good W) (h : pathL V = pathL W) : V = W := by
  have e1 := (path_facts hV).2.2.1
  have e2 := (path_facts hW).2.2.1
  rw [h, e2] at e1
  by_cases a : V = [] <;> by_cases b : W = []
  · rw [a, b]
  · rw [if_pos a, if_neg b] at e1
    obtain ⟨q, W', rfl⟩ := List.exists_cons_of_ne_nil b
    have := dig_ne (hW.mem q (by simp))
    simp at e1
    exact absurd e1.1 this.1
  · rw [if_neg a, if_pos b] at e1
    obtain ⟨q, V', rfl⟩ := List.exists_cons_of_ne_nil a
    have := dig_ne (hV.mem q (by simp))
    simp at e1
    exact absurd e1.1.symm this.1
  · rw [if_neg a, if_neg b, List.cons.injEq] at e1
    exact (map_dig_inj hW.mem hV.mem e1.2).symm
/-- all that stands above a path, itself first -/
def prefR : List Int → List (List Int)
  | [] => []
  | p :: R => (p :: R).reverse :: prefR R
theorem above_path : ∀ (R : List Int) (n : Nat), R.length ≤ n → Good R.reverse → aboveL n (pathL R.reverse) = (prefR R).map pathL
  | [], n, _, _ => by
    have : pathL [] = Str.ofString "/" := rfl
    rw [List.reverse_nil, this, above_root]; rfl
  | p :: R, 0, h, _ => by simp at h
  | p :: R, n + 1, h, hg => by
    rw [List.reverse_cons] at hg ⊢
    rw [aboveL, if_neg (path_base hg).2, path_dir hg, above_path R n (by simpa using h) (hg.sub (List.sublist_append_left _ _)), prefR, List.map_cons, List.reverse_cons]
theorem above_path' {W : List Int} (h : Good W) : aboveL 9 (pathL W) = (prefR W.reverse).map pathL := by
  have := above_path W.reverse 9 (by rw [List.length_reverse]; exact Nat.le_trans h.len (by decide)) (by rw [List.reverse_reverse]; exact h)
  rwa [List.reverse_reverse] at this
theorem prefR_len : ∀ R : List Int, (prefR R).length = R.length
  | [] => rfl
  | p :: R => by rw [prefR, List.length_cons, List.length_cons, prefR_len R]
theorem above_len' {W : List Int} (h : Good W) : (aboveL 9 (pathL W)).length = W.length := by
  rw [above_path' h, List.length_map, prefR_len, List.length_reverse]
theorem mem_prefR : ∀ {R U : List Int}, U ∈ prefR R ↔ ∃ p V, R = V ++ p :: U.reverse.tail ∧ U.reverse = p :: U.reverse.tail
  | [], U => by simp [prefR]
  | q :: R, U => by
    rw [prefR, List.mem_cons, mem_prefR (R := R)]
    constructor
    · rintro (rfl | ⟨p, V, e1, e2⟩)
      · exact ⟨q, [], by simp, by simp⟩
      · exact ⟨p, q :: V, by rw [e1]; rfl, e2⟩
    · rintro ⟨p, V, e1, e2⟩
      cases V with
      | nil =>
        left
        simp only [List.nil_append] at e1
        rw [← e2] at e1
        rw [e1, List.reverse_reverse]
      | cons v V =>
        right
        simp only [List.cons_append, List.cons.injEq] at e1
        exact ⟨p, V, e1.2, e2⟩
theorem itD_path : ∀ (j : Nat) {W : List Int}, Good W → ∃ V, Good V ∧ itD j (pathL W) = pathL V
  | 0, W, h => ⟨W, h, rfl⟩
  | j + 1, W, h => by
    obtain ⟨V, hV, e⟩ := itD_path j h
    exact ⟨V.dropLast, hV.sub (List.dropLast_sublist _), by rw [itD, e, (path_facts hV).2.2.2.2]⟩
theorem itD_len {W : List Int} (h : Good W) (j : Nat) : (itD j (pathL W)).length ≤ 1000 := by
  obtain ⟨V, hV, e⟩ := itD_path j h
  rw [e]; exact Nat.le_trans (path_facts hV).1 (by decide)
end
end
section
section
theorem mem_dedupL : ∀ (xs : List Str) {z : Str}, z ∈ dedupL xs ↔ z ∈ xs := by
  intro xs
  have go : ∀ (n : Nat) (xs : List Str), xs.length = n → ∀ z, z ∈ dedupL xs ↔ z ∈ xs := by
    intro n
    induction n with
    | zero => intro xs h z; rw [List.length_eq_zero_iff.mp h]; exact Iff.rfl
    | succ n ih =>
      intro xs h z
      have hne : xs ≠ [] := fun e => by rw [e] at h; simp at h
      have e := List.dropLast_concat_getLast hne
      have i := ih xs.dropLast (by rw [List.length_dropLast, h]; rfl)
      rw [← e, dedupL_snoc]
      split
      · rename_i hin
        rw [i z, List.mem_append, List.mem_singleton]
        exact ⟨.inl, fun q => q.elim id fun q => q ▸ (i _).mp hin⟩
      · rw [List.mem_append, List.mem_append, i z]
  exact fun {z} => go _ xs rfl z
theorem nodup_dedupL (xs : List Str) : (dedupL xs).Nodup := by
  have go : ∀ (n : Nat) (xs : List Str), xs.length = n → (dedupL xs).Nodup := by
    intro n
    induction n with
    | zero => intro xs h; rw [List.length_eq_zero_iff.mp h]; exact List.nodup_nil
    | succ n ih =>
      intro xs h
      have hne : xs ≠ [] := fun e => by rw [e] at h; simp at h
      have e := List.dropLast_concat_getLast hne
      have i := ih xs.dropLast (by rw [List.length_dropLast, h]; rfl)
      rw [← e, dedupL_snoc]
      split
      · exact i
      · rename_i hin
        rw [List.nodup_append]
        exact ⟨i, by simp, fun a ha b hb q => hin (by rw [List.mem_singleton.mp hb] at q; exact q ▸ ha)⟩
  exact go _ xs rfl
theorem rm_iff : ∀ (a b : List Str), a.Nodup → b.Nodup → (rmAll a b = some [] ↔ ∀ z, z ∈ a ↔ z ∈ b)
  | [], b, _, _ => by
    rw [rmAll, Option.some.injEq]
    constructor
    · rintro rfl z; exact Iff.rfl
    · intro h
      cases b with
      | nil => rfl
      | cons x b => exact absurd ((h x).mpr (by simp)) (by simp)
  | x :: a, b, ha, hb => by
    rw [List.nodup_cons] at ha
    rw [rmAll]
    by_cases hx : x ∈ b
    · rw [if_pos hx, rm_iff a (b.erase x) ha.2 (hb.erase x)]
      constructor
      · intro h z
        rw [List.mem_cons, h z, hb.mem_erase_iff]
        constructor
        · rintro (rfl | q)
          · exact hx
          · exact q.2
        · intro q
          by_cases e : z = x
          · exact .inl e
          · exact .inr ⟨e, q⟩
      · intro h z
        rw [hb.mem_erase_iff, ← h z, List.mem_cons]
        constructor
        · intro q; exact ⟨fun e => ha.1 (e ▸ q), .inr q⟩
        · rintro ⟨e, q⟩; exact q.resolve_left e
    · rw [if_neg hx]
      constructor
      · intro q; cases q
      · intro h; exact absurd ((h x).mp (by simp)) hx
theorem cmp_iff (xs ys : List Str) : cmpF xs ys = true ↔ ∀ z, z ∈ xs ↔ z ∈ ys := by
  unfold cmpF
  rw [beq_iff_eq, rm_iff _ _ (nodup_dedupL xs) (nodup_dedupL ys)]
  constructor
  · intro h z; rw [← mem_dedupL xs, ← mem_dedupL ys]; exact h z
  · intro h z; rw [mem_dedupL, mem_dedupL]; exact h z
theorem cmp_eq {xs ys : List Str} {P : Prop} [Decidable P] (h : (∀ z, z ∈ xs ↔ z ∈ ys) ↔ P) : cmpF xs ys = decide P := by
  by_cases hp : P
  · rw [decide_eq_true hp]; exact (cmp_iff xs ys).mpr (h.mpr hp)
  · rw [decide_eq_false hp, Bool.eq_false_iff]; exact fun q => hp (h.mp ((cmp_iff xs ys).mp q))
end
end
section
section
def ordI (rs : List Str) (rt : Str) : List Int := sortK (keyF (rs.map fun r => apU rt r 5)) 5
/-- the places of a way, the root's first -/
def wayI (rs : List Str) (rt r : Str) : List Int := (ordI rs rt).filter fun p => (apU rt r 5).any fun y => y == p
theorem ways_map (rs : List Str) (rt : Str) : waysF rs rt = rs.map fun r => pathL (wayI rs rt r) := by
  unfold waysF
  rw [List.map_map]
  exact List.map_congr_left fun r _ => wayF_eq _ _
/-- the order: the five places, the one in which more rows are unlike the root first -/
theorem ord_spec (rs : List Str) (rt : Str) : ∃ l : List Nat, l.Perm (List.range 5) ∧ l.Pairwise (leK (keyF (rs.map fun r => apU rt r 5))) ∧ ordI rs rt = l.map fun (i : Nat) => (5 : Int) + (i : Int) := by
  obtain ⟨l, h1, h2, h3⟩ := sort5 (keyF (rs.map fun r => apU rt r 5)) 5
  exact ⟨l, h1, h2, by unfold ordI sortK; rw [h3]⟩
theorem ord_good (rs : List Str) (rt : Str) : Good (ordI rs rt) := by
  obtain ⟨l, h1, _, h3⟩ := ord_spec rs rt
  rw [h3]
  refine ⟨?_, fun p hp => ?_, by rw [List.length_map, h1.length_eq]; decide⟩
  · have hn : l.Nodup := h1.nodup_iff.mpr List.nodup_range
    rw [List.Nodup, List.pairwise_map]
    exact hn.imp fun {a b} h e => h (by omega)
  · obtain ⟨i, hi, rfl⟩ := List.mem_map.mp hp
    have := List.mem_range.mp (h1.mem_iff.mp hi)
    simp only [five5, List.mem_cons, List.not_mem_nil, or_false]
    omega
theorem ord_mem {rs : List Str} {rt : Str} {p : Int} : p ∈ ordI rs rt ↔ p ∈ five5 := by
  refine ⟨(ord_good rs rt).mem p, fun hp => ?_⟩
  obtain ⟨l, h1, _, h3⟩ := ord_spec rs rt
  rw [h3, List.mem_map]
  have : 5 ≤ p ∧ p ≤ 9 := by simp only [five5, List.mem_cons, List.not_mem_nil, or_false] at hp; omega
  exact ⟨(p - 5).toNat, h1.mem_iff.mpr (List.mem_range.mpr (by omega)), by omega⟩
theorem wayI_good (rs : List Str) (rt r : Str) : Good (wayI rs rt r) := (ord_good rs rt).sub List.filter_sublist
theorem ap_mem {rt r : Str} {p : Int} : p ∈ apU rt r 5 ↔ p ∈ five5 ∧ (Txt.item r p != Txt.item rt p) = true := by
  unfold apU
  rw [List.mem_map]
  constructor
  · rintro ⟨x, hx, rfl⟩
    rw [List.mem_filter, List.mem_range] at hx
    refine ⟨?_, hx.2⟩
    simp only [five5, List.mem_cons, List.not_mem_nil, or_false]
    omega
  · rintro ⟨h1, h2⟩
    have : 5 ≤ p ∧ p ≤ 9 := by simp only [five5, List.mem_cons, List.not_mem_nil, or_false] at h1; omega
    have e : (5 : Int) + ((p - 5).toNat : Int) = p := by omega
    exact ⟨(p - 5).toNat, List.mem_filter.mpr ⟨List.mem_range.mpr (by omega), by rw [e]; exact h2⟩, e⟩
theorem wayI_mem {rs : List Str} {rt r : Str} {p : Int} : p ∈ wayI rs rt r ↔ p ∈ five5 ∧ (Txt.item r p != Txt.item rt p) = true := by
  unfold wayI
  rw [List.mem_filter, ord_mem, List.any_eq_true]
  constructor
  · rintro ⟨_, y, hy, e⟩
    rw [← eq_of_beq e]; exact ap_mem.mp hy
  · intro h
    exact ⟨h.1, p, ap_mem.mpr h, by simp⟩
theorem way_of {rs : List Str} {rt z : Str} (h : z ∈ waysF rs rt) : ∃ r ∈ rs, z = pathL (wayI rs rt r) := by
  rw [ways_map] at h
  obtain ⟨r, hr, rfl⟩ := List.mem_map.mp h
  exact ⟨r, hr, rfl⟩
theorem way_bounds {rs : List Str} {rt z : Str} (h : z ∈ waysF rs rt) : ∀ j, j ≤ 9 → (itD j z).length ≤ 1000 := by
  obtain ⟨r, _, rfl⟩ := way_of h
  exact fun j _ => itD_len (wayI_good rs rt r) j
theorem way_facts {rs : List Str} {rt z : Str} (h : z ∈ waysF rs rt) : z.length ≤ 1000 ∧ Txt.startswith z (Str.ofString "/") = true ∧ (Txt.split z (Str.ofString "/")).length ≤ 1000 ∧ (∀ c ∈ Txt.split z (Str.ofString "/"), c.length ≤ 1000) ∧ ∀ j, j ≤ 9 → (itD j z).length ≤ 1000 := by
  have hb := way_bounds h
  obtain ⟨r, _, rfl⟩ := way_of h
  have g := wayI_good rs rt r
  obtain ⟨f1, f2, f3, _, _⟩ := path_facts g
  have z0 : (Str.ofString "").length = 0 := by decide +kernel
  refine ⟨Nat.le_trans f1 (by decide), f2, ?_, fun c hc => ?_, hb⟩
  · rw [f3]
    split
    · decide
    · rw [List.length_cons, List.length_map]; have := g.len; omega
  · rw [f3] at hc
    split at hc
    · simp only [List.mem_cons, List.not_mem_nil, or_false, or_self] at hc
      rw [hc, z0]; decide
    · rcases List.mem_cons.mp hc with rfl | hc
      · rw [z0]; decide
      · obtain ⟨p, hp, rfl⟩ := List.mem_map.mp hc
        rw [dig_len (g.mem p hp)]; decide
theorem mem_prefR' : ∀ {R U : List Int}, U ∈ prefR R → U.Sublist R.reverse
  | [], U, h => by simp [prefR] at h
  | q :: R, U, h => by
    rw [prefR, List.mem_cons] at h
    rcases h with rfl | h
    · exact List.Sublist.refl _
    · rw [List.reverse_cons]; exact (mem_prefR' h).trans (List.sublist_append_left _ _)
theorem above_mem {W : List Int} (g : Good W) {z : Str} (h : z ∈ aboveL 9 (pathL W)) : ∃ U ∈ prefR W.reverse, Good U ∧ z = pathL U := by
  rw [above_path' g] at h
  obtain ⟨U, hU, rfl⟩ := List.mem_map.mp h
  exact ⟨U, hU, g.sub (by have := mem_prefR' hU; rwa [List.reverse_reverse] at this), rfl⟩
theorem folder_len {rs : List Str} {rt z : Str} (h : z ∈ dedupL ((waysF rs rt).flatMap (aboveL 9))) : z.length ≤ 1000 := by
  rw [mem_dedupL, List.mem_flatMap] at h
  obtain ⟨y, hy, hz⟩ := h
  obtain ⟨r, _, rfl⟩ := way_of hy
  obtain ⟨U, _, gU, rfl⟩ := above_mem (wayI_good rs rt r) hz
  exact Nat.le_trans (path_facts gU).1 (by decide)
theorem flat_len9 : ∀ l : List Str, (l.flatMap (aboveL 9)).length ≤ 9 * l.length
  | [] => by simp
  | x :: l => by
    have := flat_len9 l
    have := above_len 9 x
    rw [List.flatMap_cons, List.length_append, List.length_cons]; omega
theorem ways_flat {rs : List Str} {rt : Str} (h : rs.length ≤ 5) : ((waysF rs rt).flatMap (aboveL 9)).length ≤ 1000 := by
  have := flat_len9 (waysF rs rt)
  rw [ways_map, List.length_map] at this
  rw [ways_map]; omega
end
end
section
section
def lcpI : List Int → List Int → List Int
  | p :: V, q :: W => if p = q then p :: lcpI V W else []
  | _, _ => []
theorem lcp_dig : ∀ {V W : List Int}, (∀ p ∈ V, p ∈ five5) → (∀ p ∈ W, p ∈ five5) → MM.lcp (V.map digS) (W.map digS) = (lcpI V W).map digS
  | [], _, _, _ => by simp [lcpI, MM.lcp]
  | _ :: _, [], _, _ => by simp [lcpI, MM.lcp]
  | p :: V, q :: W, hV, hW => by
    rw [List.map_cons, List.map_cons, MM.lcp, lcpI]
    by_cases e : p = q
    · subst e
      rw [if_pos rfl, if_pos rfl, List.map_cons, lcp_dig (fun x hx => hV x (by simp [hx])) (fun x hx => hW x (by simp [hx]))]
    · rw [if_neg e, if_neg fun h => e (dig_inj (hV p (by simp)) (hW q (by simp)) h), List.map_nil]
theorem lcpI_sub : ∀ (V W : List Int), (lcpI V W).Sublist V
  | [], _ => by simp [lcpI]
  | _ :: _, [] => by simp [lcpI]
  | p :: V, q :: W => by
    rw [lcpI]
    split
    · exact (lcpI_sub V W).cons₂ p
    · exact List.nil_sublist _
theorem keep_split {V : List Int} (g : Good V) : (Txt.split (pathL V) (Str.ofString "/")).filter keepC = V.map digS := by
  have k0 : keepC (Str.ofString "") = false := by decide +kernel
  have kd : (V.map digS).filter keepC = V.map digS := List.filter_eq_self.mpr fun c hc => by
    obtain ⟨p, hp, rfl⟩ := List.mem_map.mp hc
    exact (dig_ne (g.mem p hp)).2
  rw [(path_facts g).2.2.1]
  split
  · rename_i h; subst h
    simp [k0]
  · rw [List.filter_cons, k0]; simpa using kd
theorem com_path {V W : List Int} (gV : Good V) (gW : Good W) : comZ (Txt.split (pathL V) (Str.ofString "/")) (Txt.split (pathL W) (Str.ofString "/")) = pathL (lcpI V W) ∧ Good (lcpI V W) := by
  have g := gV.sub (lcpI_sub V W)
  refine ⟨?_, g⟩
  unfold comZ
  rw [keep_split gV, keep_split gW, lcp_dig gV.mem gW.mem]
  exact (path_facts g).2.2.2.1
theorem steps_path {V W : List Int} (gV : Good V) (gW : Good W) : stepsF (pathL V) (pathL W) = (V.length : Int) + (W.length : Int) - 2 * ((lcpI V W).length : Int) := by
  unfold stepsF
  rw [(com_path gV gW).1, above_len' gV, above_len' gW, above_len' (com_path gV gW).2]
/-- a place in which the two are unlike stands before one that both have -/
def Viol (a b : Int → Bool) : List Int → Prop
  | [] => False
  | q :: o => (a q ≠ b q ∧ ∃ p ∈ o, a p = true ∧ b p = true) ∨ Viol a b o
def bothN (a b : Int → Bool) (o : List Int) : Nat := (o.filter fun p => a p && b p).length
def unlN (a b : Int → Bool) (o : List Int) : Nat := (o.filter fun p => a p != b p).length
theorem count_split (a b : Int → Bool) : ∀ o : List Int, (o.filter a).length + (o.filter b).length = unlN a b o + 2 * bothN a b o
  | [] => rfl
  | p :: o => by
    have ih := count_split a b o
    unfold unlN bothN at *
    simp only [List.filter_cons]
    cases ha : a p <;> cases hb : b p <;> simp [ha, hb] <;> omega
theorem lcp_filter (a b : Int → Bool) : ∀ o : List Int, o.Nodup → (lcpI (o.filter a) (o.filter b)).length ≤ bothN a b o ∧ ((lcpI (o.filter a) (o.filter b)).length < bothN a b o ↔ Viol a b o)
  | [], _ => by simp [lcpI, bothN, Viol]
  | p :: o, hn => by
    rw [List.nodup_cons] at hn
    obtain ⟨ih1, ih2⟩ := lcp_filter a b o hn.2
    have off : ∀ c : Int → Bool, p ∉ o.filter c := fun c h => hn.1 (List.mem_filter.mp h).1
    have head : ∀ c d : Int → Bool, lcpI (p :: o.filter c) (o.filter d) = [] := fun c d => by
      cases e : o.filter d with
      | nil => rfl
      | cons q W => rw [lcpI, if_neg fun h => off d (by rw [e, h]; simp)]
    have head2 : ∀ c d : Int → Bool, lcpI (o.filter c) (p :: o.filter d) = [] := fun c d => by
      cases e : o.filter c with
      | nil => rfl
      | cons q W => rw [lcpI, if_neg fun h => off c (by rw [e, h]; simp)]
    have pos : 0 < bothN a b o ↔ ∃ q ∈ o, a q = true ∧ b q = true := by
      unfold bothN
      rw [List.length_pos_iff_exists_mem]
      constructor
      · rintro ⟨q, hq⟩
        rw [List.mem_filter, Bool.and_eq_true] at hq
        exact ⟨q, hq.1, hq.2⟩
      · rintro ⟨q, hq, h⟩
        exact ⟨q, List.mem_filter.mpr ⟨hq, by rw [Bool.and_eq_true]; exact h⟩⟩
    have vi : ∀ h : a p ≠ b p, (Viol a b (p :: o) ↔ 0 < bothN a b o) := fun h => by
      rw [Viol, pos]
      constructor
      · rintro (q | q)
        · exact q.2
        · have := ih2.mpr q
          exact pos.mp (by omega)
      · exact fun q => .inl ⟨h, q⟩
    have vs : a p = b p → (Viol a b (p :: o) ↔ Viol a b o) := fun h => by
      rw [Viol]
      exact ⟨fun q => q.elim (fun q => absurd h q.1) id, .inr⟩
    cases ha : a p <;> cases hb : b p
    · rw [List.filter_cons_of_neg (by simp [ha]), List.filter_cons_of_neg (by simp [hb]), vs (by rw [ha, hb])]
      have e : bothN a b (p :: o) = bothN a b o := by unfold bothN; rw [List.filter_cons_of_neg (by simp [ha])]
      rw [e]; exact ⟨ih1, ih2⟩
    · rw [List.filter_cons_of_neg (by simp [ha]), List.filter_cons_of_pos (by simp [hb]), vi (by rw [ha, hb]; decide), head2]
      have e : bothN a b (p :: o) = bothN a b o := by unfold bothN; rw [List.filter_cons_of_neg (by simp [ha])]
      rw [e]; exact ⟨Nat.zero_le _, Iff.rfl⟩
    · rw [List.filter_cons_of_pos (by simp [ha]), List.filter_cons_of_neg (by simp [hb]), vi (by rw [ha, hb]; decide), head]
      have e : bothN a b (p :: o) = bothN a b o := by unfold bothN; rw [List.filter_cons_of_neg (by simp [hb])]
      rw [e]; exact ⟨Nat.zero_le _, Iff.rfl⟩
    · rw [List.filter_cons_of_pos (by simp [ha]), List.filter_cons_of_pos (by simp [hb]), vs (by rw [ha, hb]), lcpI, if_pos rfl]
      have e : bothN a b (p :: o) = bothN a b o + 1 := by unfold bothN; rw [List.filter_cons_of_pos (by simp [ha, hb])]; rfl
      rw [e, List.length_cons]
      exact ⟨Nat.succ_le_succ ih1, Iff.trans (by omega) ih2⟩
end
end
section
section
def unl (rt r : Str) (p : Int) : Bool := Txt.item r p != Txt.item rt p
theorem wayI_eq (rs : List Str) (rt r : Str) : wayI rs rt r = (ordI rs rt).filter (unl rt r) := by
  unfold wayI
  refine List.filter_congr fun p hp => ?_
  have h5 := (ord_mem (rs := rs) (rt := rt)).mp hp
  rw [Bool.eq_iff_iff, List.any_eq_true]
  constructor
  · rintro ⟨y, hy, e⟩
    rw [← eq_of_beq e]; exact (ap_mem.mp hy).2
  · intro h
    exact ⟨p, ap_mem.mpr ⟨h5, h⟩, by simp⟩
theorem bin3 {x y z c d : Str} (hx : x = c ∨ x = d) (hy : y = c ∨ y = d) (hz : z = c ∨ z = d) : (x != y) = ((x != z) != (y != z)) := by
  by_cases h : c = d
  · subst h
    have hx' := hx.elim id id; have hy' := hy.elim id id; have hz' := hz.elim id id
    subst hx' hy' hz'; simp
  · have h' : d ≠ c := Ne.symm h
    have b1 : (c != d) = true := by simpa using h
    have b2 : (d != c) = true := by simpa using h'
    rcases hx with rfl | rfl <;> rcases hy with rfl | rfl <;> rcases hz with rfl | rfl <;> simp [b1, b2]
theorem five_nat {p : Int} (h : p ∈ five5) : ∃ i : Nat, i < 5 ∧ p = 5 + (i : Int) := by
  simp only [five5, List.mem_cons, List.not_mem_nil, or_false] at h
  exact ⟨(p - 5).toNat, by omega, by omega⟩
theorem unl_bin {rt r r' : Str} (h0 : ∃ v, rt = rowF v) (h1 : ∃ v, r = rowF v) (h2 : ∃ v, r' = rowF v) {p : Int} (hp : p ∈ five5) : (Txt.item r p != Txt.item r' p) = (unl rt r p != unl rt r' p) := by
  obtain ⟨v0, rfl⟩ := h0
  obtain ⟨v1, rfl⟩ := h1
  obtain ⟨v2, rfl⟩ := h2
  obtain ⟨i, hi, rfl⟩ := five_nat hp
  exact bin3 (row_bin hi) (row_bin hi) (row_bin hi)
theorem ord_perm (rs : List Str) (rt : Str) : (ordI rs rt).Perm ((List.range 5).map fun (i : Nat) => (5 : Int) + (i : Int)) := by
  obtain ⟨l, h1, _, h3⟩ := ord_spec rs rt
  rw [h3]; exact h1.map _
theorem count_ord (rs : List Str) (rt : Str) (f : Int → Bool) : ((List.range 5).filter fun (q : Nat) => f (5 + (q : Int))).length = ((ordI rs rt).filter f).length := by
  rw [((ord_perm rs rt).filter f).length_eq, List.filter_map, List.length_map]
  rfl
theorem unlC_eq {rs : List Str} {rt r r' : Str} (h0 : ∃ v, rt = rowF v) (h1 : ∃ v, r = rowF v) (h2 : ∃ v, r' = rowF v) : unlC r r' = (unlN (unl rt r) (unl rt r') (ordI rs rt) : Int) := by
  unfold unlC unlN
  rw [count_ord rs rt fun p => Txt.item r p != Txt.item r' p]
  rw [List.filter_congr fun p hp => unl_bin h0 h1 h2 ((ord_good rs rt).mem p hp)]
theorem split_mem {V : List Int} (g : Good V) {z : Str} : z ∈ Txt.split (pathL V) (Str.ofString "/") ↔ z = Str.ofString "" ∨ ∃ p ∈ V, z = digS p := by
  rw [(path_facts g).2.2.1]
  split
  · rename_i h; subst h; simp
  · rw [List.mem_cons, List.mem_map]
    constructor
    · rintro (h | ⟨p, hp, rfl⟩)
      · exact .inl h
      · exact .inr ⟨p, hp, rfl⟩
    · rintro (h | ⟨p, hp, rfl⟩)
      · exact .inl h
      · exact .inr ⟨p, hp, rfl⟩
/-- steps less unlike signs: twice what both have beyond the way in common -/
theorem steps_unl {rs : List Str} {rt r r' : Str} (h0 : ∃ v, rt = rowF v) (h1 : ∃ v, r = rowF v) (h2 : ∃ v, r' = rowF v) :
    stepsF (pathL (wayI rs rt r)) (pathL (wayI rs rt r')) - unlC r r' = 2 * ((bothN (unl rt r) (unl rt r') (ordI rs rt) : Int) - ((lcpI ((ordI rs rt).filter (unl rt r)) ((ordI rs rt).filter (unl rt r'))).length : Int)) := by
  rw [steps_path (wayI_good rs rt r) (wayI_good rs rt r'), unlC_eq (rs := rs) h0 h1 h2, wayI_eq, wayI_eq]
  have c := count_split (unl rt r) (unl rt r') (ordI rs rt)
  omega
theorem steps_viol {rs : List Str} {rt r r' : Str} (h0 : ∃ v, rt = rowF v) (h1 : ∃ v, r = rowF v) (h2 : ∃ v, r' = rowF v) :
    0 ≤ stepsF (pathL (wayI rs rt r)) (pathL (wayI rs rt r')) - unlC r r' ∧ (0 < stepsF (pathL (wayI rs rt r)) (pathL (wayI rs rt r')) - unlC r r' ↔ Viol (unl rt r) (unl rt r') (ordI rs rt)) := by
  obtain ⟨l1, l2⟩ := lcp_filter (unl rt r) (unl rt r') (ordI rs rt) (ord_good rs rt).nd
  rw [steps_unl h0 h1 h2, ← l2]
  omega
theorem unl_zero {rs : List Str} {rt r r' : Str} (h0 : ∃ v, rt = rowF v) (h1 : ∃ v, r = rowF v) (h2 : ∃ v, r' = rowF v) :
    (∀ z, z ∈ Txt.split (pathL (wayI rs rt r)) (Str.ofString "/") ↔ z ∈ Txt.split (pathL (wayI rs rt r')) (Str.ofString "/")) ↔ unlC r r' = 0 := by
  rw [unlC_eq (rs := rs) h0 h1 h2]
  have key : ((unlN (unl rt r) (unl rt r') (ordI rs rt) : Int) = 0) ↔ ∀ p ∈ ordI rs rt, unl rt r p = unl rt r' p := by
    unfold unlN
    rw [Int.natCast_eq_zero, List.length_eq_zero_iff, List.filter_eq_nil_iff]
    exact ⟨fun h p hp => by simpa using h p hp, fun h p hp => by simpa using h p hp⟩
  rw [key]
  constructor
  · intro h p hp
    have h5 := (ord_good rs rt).mem p hp
    have mv : ∀ r : Str, unl rt r p = true ↔ digS p ∈ Txt.split (pathL (wayI rs rt r)) (Str.ofString "/") := fun r => by
      rw [split_mem (wayI_good rs rt r)]
      constructor
      · exact fun q => .inr ⟨p, wayI_mem.mpr ⟨h5, q⟩, rfl⟩
      · rintro (q | ⟨p', hp', q⟩)
        · exact absurd q (dig_ne h5).1
        · rw [dig_inj h5 (wayI_mem.mp hp').1 q]
          exact (wayI_mem.mp hp').2
    rw [Bool.eq_iff_iff, mv r, mv r']
    exact h _
  · intro h z
    rw [wayI_eq, wayI_eq, List.filter_congr h]
theorem pair_facts {rs : List Str} {rt x y r r' : Str} {k j : Nat} (hrt : rt ∈ rs) (hrows : ∀ r ∈ rs, ∃ v, r = rowF v) (hx : (waysF rs rt)[k]? = some x) (hy : (waysF rs rt)[j]? = some y) (hr : rs[k]? = some r) (hr' : rs[j]? = some r') :
    (∀ i, i ≤ 9 → (itD i (Str.ofString "/" ++ Txt.join (Str.ofString "/") (MM.lcp ((Txt.split x (Str.ofString "/")).filter keepC) ((Txt.split y (Str.ofString "/")).filter keepC)))).length ≤ 1000) ∧ unlC r r' ≤ stepsF x y ∧ cmpF (Txt.split x (Str.ofString "/")) (Txt.split y (Str.ofString "/")) = decide (unlC r r' = 0) := by
  rw [ways_map, List.getElem?_map, hr] at hx
  rw [ways_map, List.getElem?_map, hr'] at hy
  cases hx
  cases hy
  have h0 := hrows rt hrt
  have h1 := hrows r (List.mem_of_getElem? hr)
  have h2 := hrows r' (List.mem_of_getElem? hr')
  refine ⟨fun i _ => ?_, ?_, cmp_eq (unl_zero h0 h1 h2)⟩
  · obtain ⟨e, g⟩ := com_path (wayI_good rs rt r) (wayI_good rs rt r')
    unfold comZ at e
    rw [e]; exact itD_len g i
  · show unlC r r' ≤ stepsF (pathL (wayI rs rt r)) (pathL (wayI rs rt r'))
    have := (steps_viol (rs := rs) h0 h1 h2).1
    omega
end
end
section
section
def Before (o : List Int) (q p : Int) : Prop := ∃ o1 o2, o = o1 ++ q :: o2 ∧ p ∈ o2
theorem viol_iff (a b : Int → Bool) : ∀ o : List Int, Viol a b o ↔ ∃ q p, Before o q p ∧ a q ≠ b q ∧ a p = true ∧ b p = true
  | [] => by
    rw [Viol]
    exact ⟨fun h => h.elim, fun ⟨_, _, ⟨_, _, e, _⟩, _⟩ => by simp at e⟩
  | x :: o => by
    rw [Viol, viol_iff a b o]
    constructor
    · rintro (⟨h1, p, hp, h2, h3⟩ | ⟨q, p, ⟨o1, o2, e, hp⟩, h⟩)
      · exact ⟨x, p, ⟨[], o, rfl, hp⟩, h1, h2, h3⟩
      · exact ⟨q, p, ⟨x :: o1, o2, by rw [e]; rfl, hp⟩, h⟩
    · rintro ⟨q, p, ⟨o1, o2, e, hp⟩, h⟩
      cases o1 with
      | nil =>
        simp only [List.nil_append, List.cons.injEq] at e
        obtain ⟨rfl, rfl⟩ := e
        exact .inl ⟨h.1, p, hp, h.2⟩
      | cons y o1 =>
        simp only [List.cons_append, List.cons.injEq] at e
        exact .inr ⟨q, p, ⟨o1, o2, e.2, hp⟩, h⟩
theorem before_or : ∀ {o : List Int} {p q : Int}, p ∈ o → q ∈ o → p ≠ q → Before o p q ∨ Before o q p
  | [], _, _, h, _, _ => nomatch h
  | x :: o, p, q, hp, hq, hne => by
    by_cases e1 : p = x
    · subst e1
      exact .inl ⟨[], o, rfl, (List.mem_cons.mp hq).resolve_left (Ne.symm hne)⟩
    · by_cases e2 : q = x
      · subst e2
        exact .inr ⟨[], o, rfl, (List.mem_cons.mp hp).resolve_left hne⟩
      · rcases before_or ((List.mem_cons.mp hp).resolve_left e1) ((List.mem_cons.mp hq).resolve_left e2) hne with ⟨o1, o2, e, h⟩ | ⟨o1, o2, e, h⟩
        · exact .inl ⟨x :: o1, o2, by rw [e]; rfl, h⟩
        · exact .inr ⟨x :: o1, o2, by rw [e]; rfl, h⟩
theorem Before.mem {o : List Int} {q p : Int} (h : Before o q p) : q ∈ o ∧ p ∈ o := by
  obtain ⟨o1, o2, rfl, hp⟩ := h
  exact ⟨by simp, by simp [hp]⟩
def cntS (rs : List Str) (rt : Str) (p : Int) : Nat := (rs.filter fun r => unl rt r p).length
theorem cntF_eq (rs : List Str) (rt : Str) {p : Int} (h : p ∈ five5) : cntF (rs.map fun r => apU rt r 5) p = (cntS rs rt p : Int) := by
  unfold cntF cntS
  rw [List.filter_map, List.length_map]
  congr 2
  refine List.filter_congr fun r _ => ?_
  show (apU rt r 5).any _ = _
  rw [Bool.eq_iff_iff, List.any_eq_true]
  constructor
  · rintro ⟨y, hy, e⟩
    rw [← eq_of_beq e]; exact (ap_mem.mp hy).2
  · exact fun q => ⟨p, ap_mem.mpr ⟨h, q⟩, by simp⟩
theorem before_cnt {rs : List Str} {rt : Str} {q p : Int} (h : Before (ordI rs rt) q p) : cntS rs rt p ≤ cntS rs rt q := by
  have hq := (ord_good rs rt).mem q h.mem.1
  have hp := (ord_good rs rt).mem p h.mem.2
  have e1 := cntF_eq rs rt hq
  have e2 := cntF_eq rs rt hp
  obtain ⟨l, h1, h2, h3⟩ := ord_spec rs rt
  have pw : (ordI rs rt).Pairwise fun x y => cntF (rs.map fun r => apU rt r 5) y ≤ cntF (rs.map fun r => apU rt r 5) x := by
    rw [h3, List.pairwise_map]
    refine h2.imp fun {i j} hk => ?_
    unfold leK keyF at hk
    omega
  obtain ⟨o1, o2, e, hm⟩ := h
  rw [e, List.pairwise_append, List.pairwise_cons] at pw
  have := pw.2.1.1 p hm
  omega
theorem filter_lt {α : Type} {f g : α → Bool} : ∀ {l : List α}, (∀ r ∈ l, f r = true → g r = true) → (∃ r ∈ l, g r = true ∧ f r = false) → (l.filter f).length < (l.filter g).length
  | [], _, h => by obtain ⟨_, h, _⟩ := h; simp at h
  | x :: l, h1, h2 => by
    have le : (l.filter f).length ≤ (l.filter g).length := by
      have : ∀ {l : List α}, (∀ r ∈ l, f r = true → g r = true) → (l.filter f).length ≤ (l.filter g).length := by
        intro l
        induction l with
        | nil => intro _; simp
        | cons y l ih =>
          intro h
          have i := ih fun r hr => h r (by simp [hr])
          have hy := h y (by simp)
          simp only [List.filter_cons]
          cases hf : f y <;> cases hg : g y <;> simp_all <;> omega
      exact this fun r hr => h1 r (by simp [hr])
    have hx := h1 x (by simp)
    obtain ⟨r, hr, hg, hf⟩ := h2
    rcases List.mem_cons.mp hr with rfl | hr
    · rw [List.filter_cons_of_neg (by simp [hf]), List.filter_cons_of_pos (by simp [hg])]
      simp; omega
    · have ih := filter_lt (l := l) (fun r hr => h1 r (by simp [hr])) ⟨r, hr, hg, hf⟩
      simp only [List.filter_cons]
      cases hf : f x <;> cases hg : g x <;> simp_all <;> omega
def TornS (rs : List Str) (rt : Str) : Prop := ∃ p ∈ five5, ∃ q ∈ five5, p ≠ q ∧ ∀ x y : Bool, ∃ r ∈ rs, unl rt r p = x ∧ unl rt r q = y
def ViolS (rs : List Str) (rt : Str) : Prop := ∃ r ∈ rs, ∃ r' ∈ rs, Viol (unl rt r) (unl rt r') (ordI rs rt)
theorem unl_self (rt : Str) (p : Int) : unl rt rt p = false := by simp [unl]
theorem torn_viol {rs : List Str} {rt : Str} (hrt : rt ∈ rs) : TornS rs rt ↔ ViolS rs rt := by
  constructor
  · rintro ⟨p, hp, q, hq, hne, h⟩
    have go : ∀ p q, Before (ordI rs rt) q p → (∀ x y : Bool, ∃ r ∈ rs, unl rt r p = x ∧ unl rt r q = y) → ViolS rs rt := fun p q hb h => by
      obtain ⟨r, hr, h1, h2⟩ := h true true
      obtain ⟨r', hr', h3, h4⟩ := h true false
      exact ⟨r, hr, r', hr', (viol_iff _ _ _).mpr ⟨q, p, hb, by rw [h2, h4]; decide, h1, h3⟩⟩
    rcases before_or (ord_mem (rs := rs) (rt := rt) |>.mpr hp) (ord_mem.mpr hq) hne with hb | hb
    · exact go q p hb fun x y => by obtain ⟨r, hr, h1, h2⟩ := h y x; exact ⟨r, hr, h2, h1⟩
    · exact go p q hb h
  · rintro ⟨r, hr, r', hr', hv⟩
    obtain ⟨q, p, hb, hne, h1, h2⟩ := (viol_iff _ _ _).mp hv
    have main : ∀ r r', r ∈ rs → r' ∈ rs → unl rt r q = true → unl rt r' q = false → unl rt r p = true → unl rt r' p = true → TornS rs rt := fun r r' hr hr' q1 q2 p1 p2 => by
      have ⟨s, hs, s1, s2⟩ : ∃ s ∈ rs, unl rt s q = true ∧ unl rt s p = false := by
        refine Classical.byContradiction fun hno => ?_
        have lt := filter_lt (l := rs) (f := fun r => unl rt r q) (g := fun r => unl rt r p) (fun s hs e => by
          cases e2 : unl rt s p with
          | true => rfl
          | false => exact absurd ⟨s, hs, e, e2⟩ hno) ⟨r', hr', p2, q2⟩
        have := before_cnt hb
        unfold cntS at this
        omega
      refine ⟨p, (ord_good rs rt).mem p hb.mem.2, q, (ord_good rs rt).mem q hb.mem.1, ?_, fun x y => ?_⟩
      · rintro rfl; rw [p2] at q2; cases q2
      · cases x <;> cases y
        · exact ⟨rt, hrt, unl_self _ _, unl_self _ _⟩
        · exact ⟨s, hs, s2, s1⟩
        · exact ⟨r', hr', p2, q2⟩
        · exact ⟨r, hr, p1, q1⟩
    cases e1 : unl rt r q <;> cases e2 : unl rt r' q
    · exact absurd (e1.trans e2.symm) hne
    · exact main r' r hr' hr e2 e1 h2 h1
    · exact main r r' hr hr' e1 e2 h1 h2
    · exact absurd (e1.trans e2.symm) hne
end
end
section
section
def onB (r : Str) (p : Int) : Bool := Txt.item r p != Str.ofString "-"
theorem isOn_eq (r : Str) (p : Int) : isOn r p = if onB r p = true then 1 else 0 := rfl
theorem unl_on {rt r : Str} (h0 : ∃ v, rt = rowF v) (h1 : ∃ v, r = rowF v) {p : Int} (hp : p ∈ five5) : unl rt r p = (onB r p != onB rt p) := by
  obtain ⟨v0, rfl⟩ := h0
  obtain ⟨v1, rfl⟩ := h1
  obtain ⟨i, hi, rfl⟩ := five_nat hp
  exact bin3 (row_bin hi) (row_bin hi) (.inr rfl)
theorem xor_iff {a b x : Bool} : (a != b) = x ↔ a = (x != b) := by cases a <;> cases b <;> cases x <;> decide
theorem miss_iff (cs : List Int) : (missF cs 4).isEmpty = true ↔ ∀ x : Nat, x < 4 → (x : Int) ∈ cs := by
  unfold missF
  rw [List.isEmpty_map, List.isEmpty_iff, List.filter_eq_nil_iff]
  constructor
  · intro h x hx
    have := h x (List.mem_range.mpr hx)
    rw [Bool.not_eq_true, Bool.not_eq_false', List.any_eq_true] at this
    obtain ⟨y, hy, e⟩ := this
    have e2 := eq_of_beq e
    rw [Int.zero_add] at e2
    rw [← e2]; exact hy
  · intro h x hx
    rw [Bool.not_eq_true, Bool.not_eq_false', List.any_eq_true]
    exact ⟨x, h x (List.mem_range.mp hx), by rw [Int.zero_add]; exact beq_self_eq_true _⟩
theorem code_on (i j : Nat) (r : Str) : codeF i j r = 2 * (if onB r (5 + (i : Int)) = true then 1 else 0) + (if onB r (5 + (i : Int) + 1 + (j : Int)) = true then 1 else 0) := rfl
theorem torn_at {rs : List Str} {i j : Nat} : tornAt rs i j = true ↔ ∀ x y : Bool, ∃ r ∈ rs, onB r (5 + (i : Int)) = x ∧ onB r (5 + (i : Int) + 1 + (j : Int)) = y := by
  unfold tornAt
  rw [miss_iff]
  constructor
  · intro h x y
    have := h (2 * x.toNat + y.toNat) (by cases x <;> cases y <;> decide)
    obtain ⟨r, hr, e⟩ := List.mem_map.mp this
    refine ⟨r, hr, ?_⟩
    rw [code_on] at e
    cases x <;> cases y <;> cases h1 : onB r (5 + (i : Int)) <;> cases h2 : onB r (5 + (i : Int) + 1 + (j : Int)) <;> simp [h1, h2] at e ⊢
  · intro h x hx
    have go : ∀ a b : Bool, (x : Int) = 2 * (if a = true then 1 else 0) + (if b = true then 1 else 0) → (x : Int) ∈ rs.map (codeF i j) := fun a b e => by
      obtain ⟨r, hr, h1, h2⟩ := h a b
      refine List.mem_map.mpr ⟨r, hr, ?_⟩
      rw [code_on, h1, h2, e]
    obtain rfl | rfl | rfl | rfl : x = 0 ∨ x = 1 ∨ x = 2 ∨ x = 3 := by omega
    · exact go false false (by decide)
    · exact go false true (by decide)
    · exact go true false (by decide)
    · exact go true true (by decide)
theorem tornF_iff {rs : List Str} {rt : Str} (hrt : rt ∈ rs) (hrows : ∀ r ∈ rs, ∃ v, r = rowF v) : tornF rs = true ↔ TornS rs rt := by
  have tr : ∀ {p q : Int}, p ∈ five5 → q ∈ five5 → ((∀ x y : Bool, ∃ r ∈ rs, onB r p = x ∧ onB r q = y) ↔ ∀ x y : Bool, ∃ r ∈ rs, unl rt r p = x ∧ unl rt r q = y) := fun {p q} hp hq => by
    constructor
    · intro h x y
      obtain ⟨r, hr, h1, h2⟩ := h (x != onB rt p) (y != onB rt q)
      exact ⟨r, hr, by rw [unl_on (hrows rt hrt) (hrows r hr) hp, xor_iff]; exact h1, by rw [unl_on (hrows rt hrt) (hrows r hr) hq, xor_iff]; exact h2⟩
    · intro h x y
      obtain ⟨r, hr, h1, h2⟩ := h (x != onB rt p) (y != onB rt q)
      rw [unl_on (hrows rt hrt) (hrows r hr) hp] at h1
      rw [unl_on (hrows rt hrt) (hrows r hr) hq] at h2
      exact ⟨r, hr, by revert h1; cases onB r p <;> cases onB rt p <;> cases x <;> decide, by revert h2; cases onB r q <;> cases onB rt q <;> cases y <;> decide⟩
  have m5 : ∀ i : Nat, i < 5 → (5 : Int) + (i : Int) ∈ five5 := fun i hi => by
    simp only [five5, List.mem_cons, List.not_mem_nil, or_false]; omega
  unfold tornF
  rw [List.any_eq_true]
  constructor
  · rintro ⟨i, hi, h⟩
    rw [List.any_eq_true] at h
    obtain ⟨j, hj, h⟩ := h
    have hi' := List.mem_range.mp hi
    have hj' := List.mem_range.mp hj
    have e : (5 : Int) + (i : Int) + 1 + (j : Int) = 5 + ((i + 1 + j : Nat) : Int) := by omega
    rw [torn_at, e] at h
    refine ⟨_, m5 i hi', _, m5 (i + 1 + j) (by omega), by omega, (tr (m5 i hi') (m5 _ (by omega))).mp h⟩
  · rintro ⟨p, hp, q, hq, hne, h⟩
    obtain ⟨a, ha, rfl⟩ := five_nat hp
    obtain ⟨b, hb, rfl⟩ := five_nat hq
    have go : ∀ a b : Nat, a < b → b < 5 → (∀ x y : Bool, ∃ r ∈ rs, unl rt r (5 + (a : Int)) = x ∧ unl rt r (5 + (b : Int)) = y) → ∃ x ∈ List.range 5, ((List.range (4 - x)).any fun j => tornAt rs x j) = true := fun a b hab hb h => by
      refine ⟨a, List.mem_range.mpr (by omega), ?_⟩
      rw [List.any_eq_true]
      refine ⟨b - a - 1, List.mem_range.mpr (by omega), ?_⟩
      have e : (5 : Int) + (a : Int) + 1 + ((b - a - 1 : Nat) : Int) = 5 + (b : Int) := by omega
      rw [torn_at, e]
      exact (tr (m5 a (by omega)) (m5 b hb)).mpr h
    rcases Nat.lt_or_ge a b with hab | hab
    · exact go a b hab hb h
    · exact go b a (by omega) ha fun x y => by obtain ⟨r, hr, h1, h2⟩ := h y x; exact ⟨r, hr, h2, h1⟩
end
end
section
section
theorem viol_symm {a b : Int → Bool} {o : List Int} (h : Viol a b o) : Viol b a o := by
  obtain ⟨q, p, h1, h2, h3, h4⟩ := (viol_iff _ _ _).mp h
  exact (viol_iff _ _ _).mpr ⟨q, p, h1, Ne.symm h2, h4, h3⟩
theorem pairD_eq {rs : List Str} {rt r r' : Str} {k j : Nat} (hr : rs[k]? = some r) (hr' : rs[j]? = some r') : pairD (waysF rs rt) rs k j = stepsF (pathL (wayI rs rt r)) (pathL (wayI rs rt r')) - unlC r r' := by
  unfold pairD
  rw [ways_map]
  simp only [List.getD_eq_getElem?_getD, List.getElem?_map, hr, hr', Option.map_some, Option.getD_some]
theorem rowSum_pos {wl rs : List Str} {k : Nat} : ∀ m : Nat, (∀ j, j < m → 0 ≤ pairD wl rs k j) → 0 ≤ rowSum wl rs k m ∧ (0 < rowSum wl rs k m ↔ ∃ j, j < m ∧ 0 < pairD wl rs k j)
  | 0, _ => by simp [rowSum]
  | m + 1, h => by
    obtain ⟨i1, i2⟩ := rowSum_pos m fun j hj => h j (by omega)
    have hm := h m (by omega)
    rw [rowSum]
    refine ⟨by omega, ?_⟩
    constructor
    · intro hp
      by_cases e : 0 < pairD wl rs k m
      · exact ⟨m, by omega, e⟩
      · obtain ⟨j, hj, e2⟩ := i2.mp (by omega)
        exact ⟨j, by omega, e2⟩
    · rintro ⟨j, hj, e⟩
      by_cases ej : j = m
      · subst ej; omega
      · have := i2.mpr ⟨j, by omega, e⟩; omega
theorem furF_pos {wl rs : List Str} : ∀ n : Nat, (∀ k j, k < n → j < k → 0 ≤ pairD wl rs k j) → 0 ≤ furF wl rs n ∧ (0 < furF wl rs n ↔ ∃ k j, k < n ∧ j < k ∧ 0 < pairD wl rs k j)
  | 0, _ => by simp [furF]
  | n + 1, h => by
    obtain ⟨i1, i2⟩ := furF_pos n fun k j hk hj => h k j (by omega) hj
    obtain ⟨r1, r2⟩ := rowSum_pos (wl := wl) (rs := rs) (k := n) n fun j hj => h n j (by omega) hj
    rw [furF]
    refine ⟨by omega, ?_⟩
    constructor
    · intro hp
      by_cases e : 0 < rowSum wl rs n n
      · obtain ⟨j, hj, e2⟩ := r2.mp e
        exact ⟨n, j, by omega, hj, e2⟩
      · obtain ⟨k, j, hk, hj, e2⟩ := i2.mp (by omega)
        exact ⟨k, j, by omega, hj, e2⟩
    · rintro ⟨k, j, hk, hj, e⟩
      by_cases ek : k = n
      · subst ek
        have := r2.mpr ⟨j, hj, e⟩; omega
      · have := i2.mpr ⟨k, j, by omega, hj, e⟩; omega
theorem plain_far {rs : List Str} {rt : Str} (h : rs.getLast? = some rt) (hrows : ∀ r ∈ rs, ∃ v, r = rowF v) : (decide (0 < furF (waysF rs rt) rs rs.length) == tornF rs) = true := by
  have hrt : rt ∈ rs := List.mem_of_getLast? h
  have at_ : ∀ k, k < rs.length → ∃ r, rs[k]? = some r := fun k hk => ⟨_, List.getElem?_eq_getElem hk⟩
  have sp : ∀ k j, k < rs.length → j < k → ∃ r r', rs[k]? = some r ∧ rs[j]? = some r' ∧ 0 ≤ pairD (waysF rs rt) rs k j ∧ (0 < pairD (waysF rs rt) rs k j ↔ Viol (unl rt r) (unl rt r') (ordI rs rt)) := fun k j hk hj => by
    obtain ⟨r, hr⟩ := at_ k hk
    obtain ⟨r', hr'⟩ := at_ j (by omega)
    have := steps_viol (rs := rs) (hrows rt hrt) (hrows r (List.mem_of_getElem? hr)) (hrows r' (List.mem_of_getElem? hr'))
    rw [← pairD_eq hr hr'] at this
    exact ⟨r, r', hr, hr', this⟩
  obtain ⟨_, f2⟩ := furF_pos (wl := waysF rs rt) (rs := rs) rs.length fun k j hk hj => by
    obtain ⟨_, _, _, _, h1, _⟩ := sp k j hk hj
    exact h1
  have key : 0 < furF (waysF rs rt) rs rs.length ↔ tornF rs = true := by
    rw [f2, tornF_iff hrt hrows, torn_viol hrt]
    constructor
    · rintro ⟨k, j, hk, hj, e⟩
      obtain ⟨r, r', hr, hr', _, h2⟩ := sp k j hk hj
      exact ⟨r, List.mem_of_getElem? hr, r', List.mem_of_getElem? hr', h2.mp e⟩
    · rintro ⟨r, hr, r', hr', hv⟩
      obtain ⟨k, hk⟩ := List.mem_iff_getElem?.mp hr
      obtain ⟨j, hj⟩ := List.mem_iff_getElem?.mp hr'
      have hkl := (List.getElem?_eq_some_iff.mp hk).1
      have hjl := (List.getElem?_eq_some_iff.mp hj).1
      rcases Nat.lt_trichotomy j k with hjk | hjk | hjk
      · obtain ⟨s, s', e1, e2, _, h2⟩ := sp k j hkl hjk
        rw [hk] at e1; rw [hj] at e2; cases e1; cases e2
        exact ⟨k, j, hkl, hjk, h2.mpr hv⟩
      · subst hjk
        rw [hk] at hj; cases hj
        obtain ⟨q, p, _, h2, _⟩ := (viol_iff _ _ _).mp hv
        exact absurd rfl h2
      · obtain ⟨s, s', e1, e2, _, h2⟩ := sp j k hjl hjk
        rw [hj] at e1; rw [hk] at e2; cases e1; cases e2
        exact ⟨j, k, hjl, hjk, h2.mpr (viol_symm hv)⟩
  rw [beq_iff_eq]
  cases e : tornF rs with
  | true => exact decide_eq_true (key.mpr e)
  | false => exact decide_eq_false fun q => by rw [key.mp q] at e; cases e
end
end
section
section
theorem pref_iff : ∀ {R U : List Int}, U ∈ prefR R ↔ ∃ T p R', R = T ++ p :: R' ∧ U = R'.reverse ++ [p]
  | [], U => by simp [prefR]
  | q :: R, U => by
    rw [prefR, List.mem_cons, pref_iff (R := R)]
    constructor
    · rintro (rfl | ⟨T, p, R', e1, e2⟩)
      · exact ⟨[], q, R, rfl, by rw [List.reverse_cons]⟩
      · exact ⟨q :: T, p, R', by rw [e1]; rfl, e2⟩
    · rintro ⟨T, p, R', e1, e2⟩
      cases T with
      | nil =>
        simp only [List.nil_append, List.cons.injEq] at e1
        obtain ⟨rfl, rfl⟩ := e1
        exact .inl (by rw [e2, List.reverse_cons])
      | cons t T =>
        simp only [List.cons_append, List.cons.injEq] at e1
        exact .inr ⟨T, p, R', e1.2, e2⟩
/-- the beginnings of a list, each with its last -/
theorem pref_of {W U : List Int} : U ∈ prefR W.reverse ↔ ∃ V p T, W = V ++ p :: T ∧ U = V ++ [p] := by
  rw [pref_iff]
  constructor
  · rintro ⟨T, p, R', e1, e2⟩
    refine ⟨R'.reverse, p, T.reverse, ?_, e2⟩
    have := congrArg List.reverse e1
    rw [List.reverse_reverse] at this
    rw [this]; simp
  · rintro ⟨V, p, T, e1, e2⟩
    exact ⟨T.reverse, p, V.reverse, by rw [e1]; simp, by rw [e2, List.reverse_reverse]⟩
theorem folder_iff {rs : List Str} {rt z : Str} : z ∈ dedupL ((waysF rs rt).flatMap (aboveL 9)) ↔ ∃ r ∈ rs, ∃ V p T, wayI rs rt r = V ++ p :: T ∧ z = pathL (V ++ [p]) := by
  rw [mem_dedupL, List.mem_flatMap]
  constructor
  · rintro ⟨y, hy, hz⟩
    obtain ⟨r, hr, rfl⟩ := way_of hy
    rw [above_path' (wayI_good rs rt r)] at hz
    obtain ⟨U, hU, rfl⟩ := List.mem_map.mp hz
    obtain ⟨V, p, T, e1, rfl⟩ := pref_of.mp hU
    exact ⟨r, hr, V, p, T, e1, rfl⟩
  · rintro ⟨r, hr, V, p, T, e1, rfl⟩
    refine ⟨pathL (wayI rs rt r), by rw [ways_map]; exact List.mem_map.mpr ⟨r, hr, rfl⟩, ?_⟩
    rw [above_path' (wayI_good rs rt r)]
    exact List.mem_map.mpr ⟨V ++ [p], pref_of.mpr ⟨V, p, T, e1, rfl⟩, rfl⟩
theorem pre_good {rs : List Str} {rt r : Str} {V T : List Int} {p : Int} (e : wayI rs rt r = V ++ p :: T) : Good (V ++ [p]) := (wayI_good rs rt r).sub (by
  rw [e]
  exact List.Sublist.append_left ((List.nil_sublist T).cons₂ p) V)
theorem name_iff {rs : List Str} {rt z : Str} : z ∈ (dedupL ((waysF rs rt).flatMap (aboveL 9))).map baseF ↔ ∃ p ∈ five5, (∃ r ∈ rs, unl rt r p = true) ∧ z = digS p := by
  rw [List.mem_map]
  constructor
  · rintro ⟨f, hf, rfl⟩
    obtain ⟨r, hr, V, p, T, e, rfl⟩ := folder_iff.mp hf
    have hp : p ∈ wayI rs rt r := by rw [e]; simp
    exact ⟨p, (wayI_mem.mp hp).1, ⟨r, hr, (wayI_mem.mp hp).2⟩, (path_base (pre_good e)).1⟩
  · rintro ⟨p, hp, ⟨r, hr, h⟩, rfl⟩
    have hw : p ∈ wayI rs rt r := wayI_mem.mpr ⟨hp, h⟩
    obtain ⟨V, T, e⟩ := List.append_of_mem hw
    exact ⟨_, folder_iff.mpr ⟨r, hr, V, p, T, e, rfl⟩, (path_base (pre_good e)).1⟩
theorem chg_iff {rs : List Str} {rt z : Str} : z ∈ chgF rs rt 5 ↔ ∃ p ∈ five5, (∃ r ∈ rs, unl rt r p = true) ∧ z = digS p := by
  unfold chgF
  rw [List.mem_map]
  have ne : ∀ p : Int, (!(unlF rs rt p).isEmpty) = true ↔ ∃ r ∈ rs, unl rt r p = true := fun p => by
    unfold unlF
    rw [Bool.not_eq_true', ← Bool.not_eq_true, List.isEmpty_iff, List.filter_eq_nil_iff]
    constructor
    · intro h
      refine Classical.byContradiction fun hn => h fun r hr q => hn ⟨r, hr, q⟩
    · rintro ⟨r, hr, q⟩ h
      exact h r hr q
  constructor
  · rintro ⟨i, hi, rfl⟩
    rw [List.mem_filter, List.mem_range, ne] at hi
    refine ⟨_, ?_, hi.2, rfl⟩
    simp only [five5, List.mem_cons, List.not_mem_nil, or_false]; omega
  · rintro ⟨p, hp, h, rfl⟩
    obtain ⟨i, hi, rfl⟩ := five_nat hp
    exact ⟨i, by rw [List.mem_filter, List.mem_range, ne]; exact ⟨hi, h⟩, rfl⟩
theorem plain_cmp {rs : List Str} {rt : Str} (_h : rt ∈ rs) (_hrows : ∀ r ∈ rs, ∃ v, r = rowF v) : cmpF ((dedupL ((waysF rs rt).flatMap (aboveL 9))).map baseF) (chgF rs rt 5) = true :=
  (cmp_iff _ _).mpr fun z => by rw [name_iff, chg_iff]
theorem chg_nodup (rs : List Str) (rt : Str) : (chgF rs rt 5).Nodup := by
  unfold chgF
  rw [List.Nodup, List.pairwise_map]
  have hn : ((List.range 5).filter fun (x : Nat) => !(unlF rs rt (5 + (x : Int))).isEmpty).Nodup := List.nodup_range.sublist List.filter_sublist
  have hm : ∀ i ∈ (List.range 5).filter fun (x : Nat) => !(unlF rs rt (5 + (x : Int))).isEmpty, i < 5 := fun i hi => List.mem_range.mp (List.mem_filter.mp hi).1
  refine List.Pairwise.imp_of_mem (R := fun a b => a ≠ b) (fun {a b} ha hb hne e => hne ?_) hn
  have m5 : ∀ i : Nat, i < 5 → (5 : Int) + (i : Int) ∈ five5 := fun i hi => by
    simp only [five5, List.mem_cons, List.not_mem_nil, or_false]; omega
  have := dig_inj (m5 a (hm a ha)) (m5 b (hm b hb)) e
  omega
theorem dedupL_len_eq : ∀ (n : Nat) (xs : List Str), xs.length = n → (dedupL xs).length = xs.length → xs.Nodup
  | 0, xs, h, _ => by rw [List.length_eq_zero_iff.mp h]; exact List.nodup_nil
  | n + 1, xs, h, he => by
    have hne : xs ≠ [] := fun e => by rw [e] at h; simp at h
    have e := List.dropLast_concat_getLast hne
    have hl : xs.dropLast.length = n := by rw [List.length_dropLast, h]; rfl
    have le := dedupL_len xs.dropLast
    rw [← e, dedupL_snoc] at he
    rw [← e]
    split at he
    · rw [List.length_append, List.length_singleton] at he; omega
    · rename_i hin
      rw [List.length_append, List.length_append] at he
      have i := dedupL_len_eq n xs.dropLast hl (by omega)
      rw [mem_dedupL] at hin
      rw [List.nodup_append]
      exact ⟨i, by simp, fun a ha b hb q => hin (by rw [List.mem_singleton.mp hb] at q; exact q ▸ ha)⟩
theorem len_iff {xs cs : List Str} (hc : cs.Nodup) (hm : ∀ z, z ∈ xs ↔ z ∈ cs) : xs.length = cs.length ↔ xs.Nodup := by
  have hp : (dedupL xs).length = cs.length := ((List.perm_ext_iff_of_nodup (nodup_dedupL xs) hc).mpr fun z => by rw [mem_dedupL]; exact hm z).length_eq
  constructor
  · intro h; exact dedupL_len_eq _ xs rfl (by omega)
  · intro h; exact ((List.perm_ext_iff_of_nodup h hc).mpr hm).length_eq
theorem map_nodup_iff {f : Str → Str} : ∀ {l : List Str}, l.Nodup → ((l.map f).Nodup ↔ ∀ a ∈ l, ∀ b ∈ l, f a = f b → a = b)
  | [], _ => by simp
  | x :: l, hn => by
    rw [List.nodup_cons] at hn
    rw [List.map_cons, List.nodup_cons, map_nodup_iff hn.2]
    constructor
    · rintro ⟨h1, h2⟩ a ha b hb e
      rcases List.mem_cons.mp ha with ea | ha1 <;> rcases List.mem_cons.mp hb with eb | hb1
      · rw [ea, eb]
      · rw [ea] at e
        exact absurd (List.mem_map.mpr ⟨b, hb1, e.symm⟩) h1
      · rw [eb] at e
        exact absurd (List.mem_map.mpr ⟨a, ha1, e⟩) h1
      · exact h2 a ha1 b hb1 e
    · intro h
      refine ⟨fun hx => ?_, fun a ha b hb e => h a (by simp [ha]) b (by simp [hb]) e⟩
      obtain ⟨y, hy, e⟩ := List.mem_map.mp hx
      exact hn.1 (h y (by simp [hy]) x (by simp) e ▸ hy)
theorem split_uniq : ∀ {V V2 T T2 : List Int} {p : Int}, V ++ p :: T = V2 ++ p :: T2 → p ∉ V → p ∉ V2 → V = V2
  | [], [], _, _, _, _, _, _ => rfl
  | [], x :: V2, _, _, _, e, _, h2 => by
    simp only [List.nil_append, List.cons_append, List.cons.injEq] at e
    exact absurd (by simp [e.1]) h2
  | x :: V, [], _, _, _, e, h1, _ => by
    simp only [List.nil_append, List.cons_append, List.cons.injEq] at e
    exact absurd (by simp [e.1]) h1
  | x :: V, y :: V2, _, _, _, e, h1, h2 => by
    simp only [List.cons_append, List.cons.injEq] at e
    rw [e.1, split_uniq e.2 (fun h => h1 (by simp [h])) (fun h => h2 (by simp [h]))]
/-- where a place stands in the order, there its folder ends -/
theorem way_split {rs : List Str} {rt r : Str} {V T o1 o2 : List Int} {p : Int} (e : wayI rs rt r = V ++ p :: T) (eo : ordI rs rt = o1 ++ p :: o2) : V = o1.filter (unl rt r) := by
  have hp : p ∈ wayI rs rt r := by rw [e]; simp
  have hu : unl rt r p = true := (wayI_mem.mp hp).2
  have g := (wayI_good rs rt r).nd
  have go := (ord_good rs rt).nd
  have e2 : wayI rs rt r = o1.filter (unl rt r) ++ p :: o2.filter (unl rt r) := by
    rw [wayI_eq, eo, List.filter_append, List.filter_cons_of_pos hu]
  rw [e, List.nodup_append] at g
  rw [eo, List.nodup_append] at go
  refine split_uniq (e.symm.trans e2) (fun h => g.2.2 _ h p (by simp) rfl) fun h => ?_
  exact go.2.2 _ (List.mem_filter.mp h).1 p (by simp) rfl
theorem inj_iff {rs : List Str} {rt : Str} : (∀ a ∈ dedupL ((waysF rs rt).flatMap (aboveL 9)), ∀ b ∈ dedupL ((waysF rs rt).flatMap (aboveL 9)), baseF a = baseF b → a = b) ↔ ¬ ViolS rs rt := by
  constructor
  · rintro h ⟨r, hr, r', hr', hv⟩
    obtain ⟨q, p, ⟨o1, o2, eo, hp2⟩, hne, h1, h2⟩ := (viol_iff _ _ _).mp hv
    have hq5 := (ord_good rs rt).mem q (by rw [eo]; simp)
    have hp5 := (ord_good rs rt).mem p (by rw [eo]; simp [hp2])
    obtain ⟨o3, o4, e2⟩ := List.append_of_mem hp2
    have eo' : ordI rs rt = (o1 ++ q :: o3) ++ p :: o4 := by rw [eo, e2]; simp
    obtain ⟨V, T, eV⟩ := List.append_of_mem (wayI_mem (rs := rs).mpr ⟨hp5, h1⟩)
    obtain ⟨V', T', eV'⟩ := List.append_of_mem (wayI_mem (rs := rs).mpr ⟨hp5, h2⟩)
    have s1 := way_split eV eo'
    have s2 := way_split eV' eo'
    have := h _ (folder_iff.mpr ⟨r, hr, V, p, T, eV, rfl⟩) _ (folder_iff.mpr ⟨r', hr', V', p, T', eV', rfl⟩) (by rw [(path_base (pre_good eV)).1, (path_base (pre_good eV')).1])
    have eq := path_inj (pre_good eV) (pre_good eV') this
    have eq2 : V = V' := (List.append_inj' eq rfl).1
    rw [s1, s2] at eq2
    have m : ∀ r, q ∈ (o1 ++ q :: o3).filter (unl rt r) ↔ unl rt r q = true := fun r => by simp [List.mem_filter]
    refine hne ?_
    rw [Bool.eq_iff_iff]
    show unl rt r q = true ↔ unl rt r' q = true
    rw [← m r, ← m r', eq2]
  · intro hno a ha b hb e
    obtain ⟨r, hr, V, p, T, eV, rfl⟩ := folder_iff.mp ha
    obtain ⟨r', hr', V', p', T', eV', rfl⟩ := folder_iff.mp hb
    rw [(path_base (pre_good eV)).1, (path_base (pre_good eV')).1] at e
    have hp := wayI_mem.mp (show p ∈ wayI rs rt r by rw [eV]; simp)
    have hp' := wayI_mem.mp (show p' ∈ wayI rs rt r' by rw [eV']; simp)
    have epp := dig_inj hp.1 hp'.1 e
    subst epp
    obtain ⟨o1, o2, eo⟩ := List.append_of_mem (ord_mem (rs := rs) (rt := rt).mpr hp.1)
    rw [way_split eV eo, way_split eV' eo]
    refine congrArg (fun V => pathL (V ++ [p])) (List.filter_congr fun q hq => Classical.byContradiction fun hne => hno ?_)
    obtain ⟨o3, o4, e3⟩ := List.append_of_mem hq
    exact ⟨r, hr, r', hr', (viol_iff _ _ _).mpr ⟨q, p, ⟨o3, o4 ++ p :: o2, by rw [eo, e3]; simp, by simp⟩, hne, hp.2, hp'.2⟩⟩
theorem plain_len {rs : List Str} {rt : Str} (h : rt ∈ rs) (hrows : ∀ r ∈ rs, ∃ v, r = rowF v) : (((((dedupL ((waysF rs rt).flatMap (aboveL 9))).map baseF).length : Nat) : Int) == (((chgF rs rt 5).length : Nat) : Int)) = !tornF rs := by
  have key : ((dedupL ((waysF rs rt).flatMap (aboveL 9))).map baseF).length = (chgF rs rt 5).length ↔ ¬ tornF rs = true := by
    rw [len_iff (chg_nodup rs rt) fun z => by rw [name_iff, chg_iff], map_nodup_iff (nodup_dedupL _), inj_iff, tornF_iff h hrows, torn_viol h]
  cases e : tornF rs with
  | true =>
    rw [Bool.not_true, beq_eq_false_iff_ne]
    intro q
    exact key.mp (by omega) e
  | false =>
    rw [Bool.not_false, beq_iff_eq]
    have := key.mpr (by rw [e]; decide)
    omega
end
end
section
section
variable {prog : Program} {w : World} {A : Around} {E : Value → Shared → Prop} {s : Shared} {env : Env} {h₀ : Heap} {target : Expr} {body : List Stmt} {Q : Flow → Shared → Prop}
theorem endW {h₀ : Heap} {L : Addr} {s₁ : Shared} {its : List (Addr × Obj)} {rest : (Str → Option Value) → List (Addr × Obj) → Prop} {h' : Heap} {tk : Nat} {m' : Str → Option Value} {all : List (Addr × Obj)} (F : Fr h₀ L h' m') (N : News h₀ L h' all) (nx : List (Addr × Obj)) (sub : ∀ p ∈ its ++ nx, p ∈ all)
    (off : ∀ p ∈ nx, ∀ q ∈ its, p.1 ≠ q.1) (r : rest m' nx) : UnrEndW h₀ L s₁ its rest { s₁ with heap := h', toks := tk } := ⟨h', tk, m', nx, rfl, F, fun p hp => N p (sub p hp), off, r⟩
/-- a for over a list of the ledger, by what holds between its turns; the ledger may grow -/
theorem forListG {E' : Value → Shared → Prop} {l : Addr} {lo : Obj} {vs : List Value} {n : Nat} {m₀ : Str → Option Value} {news : List (Addr × Obj)} (J : Addr → Nat → (Str → Option Value) → List (Addr × Obj) → Prop)
    (hh : A.handled = none) (F : Fr h₀ env.locals s.heap m₀) (N : News h₀ env.locals s.heap news) (hm : (l, lo) ∈ news) (hc : lo.cls = .type "list") (hd : lo.data = .seq vs.toArray n)
    (hkeep : ∀ I i m nx, J I i m nx → (l, lo) ∈ nx) (h0 : ∀ I, (∀ p ∈ news, p.1 < I) → J I 0 m₀ news)
    (step : ∀ i v I o m₁ nx h tk, vs[i]? = some v → J I i m₁ nx → Fr h₀ env.locals h m₁ → News h₀ env.locals h ((I, o) :: nx) →
      wpAny (model prog w) A (assign target env v) (fun _ s₂ => wpAny (model prog w) A (execs body env) (UnrPostW h₀ env.locals { s with heap := h, toks := tk } [(I, o)] (J I (i + 1)) Q) E s₂) E { s with heap := h, toks := tk })
    (done : ∀ I m₁ nx h tk, J I vs.length m₁ nx → Fr h₀ env.locals h m₁ → News h₀ env.locals h nx → Q .next { s with heap := h, toks := tk }) :
    wpAny (model prog w) A (pyIter (.ref l)) (fun it s₂ => TurnsAt prog w A h₀ env target body Q E it s₂) E' s := by
  refine listTurns hh F N hm hc hd fun I hI => ?_
  suffices ∀ k j m₁ nx, k = vs.length - j → j ≤ vs.length → J I j m₁ nx → ItemsRest prog w A E h₀ env target body Q s [(I, "list_iterator")] [(l, lo)] ((vs.drop j).map .val) m₁ nx from this _ 0 m₀ news rfl (Nat.zero_le _) (h0 I hI)
  intro k
  induction k with
  | zero =>
    intro j m₁ nx hk hj hJ
    have : j = vs.length := by omega
    subst this
    rw [List.drop_length]
    exact fun h tk F N => done I m₁ nx h tk hJ F N
  | succ k ih =>
    intro j m₁ nx hk hj hJ
    have hlt : j < vs.length := by omega
    rw [List.drop_eq_getElem_cons hlt, List.map_cons]
    intro v h tk hv F₁ o ho N₁
    have hv' : v = vs[j] := hv
    subst hv'
    refine wpAny_mono (step j _ I o m₁ nx h tk (List.getElem?_eq_getElem hlt) hJ F₁ N₁) (fun _ s₂ h₂ => wpAny_mono h₂ (fun f s₃ p => ?_) fun _ _ e => e) fun _ _ e => e
    have fin : UnrEndW h₀ env.locals { s with heap := h, toks := tk } [(I, o)] (J I (j + 1)) s₃ → UnrEndW h₀ env.locals { s with heap := h, toks := tk } [(I, o)] (fun m' n' => SubL [(l, lo)] n' ∧ ItemsRest prog w A E h₀ env target body Q s [(I, "list_iterator")] [(l, lo)] ((vs.drop (j + 1)).map .val) m' n') s₃ := by
      rintro ⟨h', tk', m', nx', e, F', N', off, hJ'⟩
      exact ⟨h', tk', m', nx', e, F', N', off, ⟨hkeep _ _ _ _ hJ', trivial⟩, ih (j + 1) m' nx' (by omega) hlt hJ'⟩
    cases f with
    | ret v => exact p
    | brk => exact p
    | next => exact fin p
    | cont => exact fin p
end
end
section
theorem ConW.use {w : World} {p : Program} {loose : List Str} {mean : ExcName → Option Value} {mg mb : Str → Option Value} {f : Addr} {d u : Nat} {ps : Array Value} {tl news : Led} {vs : List Value} {R : Value → Led → Prop} (C : ConW w p loose mean mg mb f d u ps tl news vs R)
    {dp un : Nat} {gd : Option (List Code)} {cn : Str} {cs : Scope} {a : Addr} {ccd : Value} {cl : List (Str × Addr)} {outer : List Env} {A₀ : Around} {base h₀ : Heap} {L : Addr} {m : Str → Option Value} {s : Shared} {Q E : Value → Shared → Prop}
    (B : Below A₀ base outer h₀) (F : Fr h₀ L s.heap m) (X : (hd.heap_39 w.params).In h₀) (N : News h₀ L s.heap ((205, tabObj ps) :: news)) (T : Top p loose mean mg mb h₀) (hk : cs.kind = .function)
    (hd : dp + d < recursionLimit) (hu : un + u < cLine) (H : CodeHd base 207 205)
    (ret : ∀ v own new ps' h' tk', Fr h₀ L h' m → News h₀ L h' (own ++ (205, tabObj ps') :: (new ++ news)) → TabSt lamPos lamQ (new ++ tl) ps' → (∀ p ∈ own, ∀ q ∈ (205, tabObj ps') :: (new ++ news), q.1 < p.1) → (∀ p ∈ new, ∀ q ∈ (205, tabObj ps') :: news, q.1 < p.1) → R v own → Q v { s with heap := h', toks := tk' }) :
      wpAny (model MP w) (ktrTop dp un gd cn cs L a ccd cl outer) (call (.ref f) vs) Q E s :=
  C dp un gd cn cs a ccd cl outer A₀ base h₀ L m s Q E H B F X N T hk hd hu ret
theorem TabSt.mono {pos : Pos} {qual : Str} {led led' : Led} {ps : Array Value} (h : TabSt pos qual led ps) (hs : ∀ q ∈ led, q ∈ led') : TabSt pos qual led' ps := by
  rcases h with rfl | ⟨c', oc, vs, t, e, hm, r⟩
  · exact .inl rfl
  · exact .inr ⟨c', oc, vs, t, e, hs _ hm, r⟩
theorem no205 {L1 D I : Addr} {o x a b c d e : Obj} {new : Led} (hL : 205 < L1) (hD : D ≠ 205) (hI : L1 + 1 + 1 + 1 + 1 + 1 < I) (hn : ∀ q ∈ new, L1 + 1 + 1 + 1 + 1 + 1 < q.1) : ∀ q ∈ (I, o) :: (D, x) :: (L1 + 1 + 1 + 1 + 1 + 1, a) :: (L1 + 1 + 1 + 1 + 1, b) :: (L1 + 1 + 1 + 1, c) :: (L1 + 1 + 1, d) :: (L1 + 1, e) :: new, q.1 ≠ 205 := by
  have up : ∀ k : Nat, (205 : Nat) < L1 + k := fun k => Nat.lt_of_lt_of_le hL (Nat.le_add_right _ _)
  intro q hq
  simp only [List.mem_cons] at hq
  rcases hq with rfl | rfl | rfl | rfl | rfl | rfl | rfl | hq
  · exact Nat.ne_of_gt (Nat.lt_trans (up 5) hI)
  · exact hD
  · exact Nat.ne_of_gt (up 5)
  · exact Nat.ne_of_gt (up 4)
  · exact Nat.ne_of_gt (up 3)
  · exact Nat.ne_of_gt (up 2)
  · exact Nat.ne_of_gt (up 1)
  · exact Nat.ne_of_gt (Nat.lt_trans (up 5) (hn q hq))
theorem newsW {h₀ h : Heap} {L : Addr} {w a b c d e f g k : Addr × Obj} {new' new : Led} (N : News h₀ L h ([w] ++ k :: (new' ++ a :: b :: c :: d :: e :: f :: g :: new))) : News h₀ L h (w :: a :: b :: c :: d :: e :: f :: g :: k :: (new' ++ new)) := N.perm fun q hq => by
  simp only [List.mem_cons, List.mem_append, List.not_mem_nil, or_false] at hq ⊢
  rcases hq with h | h | h | h | h | h | h | h | h | h | h <;> simp [h]
theorem newsUp {h₀ h : Heap} {L : Addr} {a b c d e f g k : Addr × Obj} {new : Led} (N : News h₀ L h (a :: b :: c :: d :: e :: f :: g :: k :: new)) : News h₀ L h (k :: a :: b :: c :: d :: e :: f :: g :: new) := N.perm fun q hq => by
  simp only [List.mem_cons] at hq ⊢
  rcases hq with h | h | h | h | h | h | h | h | h <;> simp [h]
theorem afterW {h₀ h : Heap} {L : Addr} {w a b c d e f g k : Addr × Obj} {new' new : Led} {P : Led → Prop} (N : News h₀ L h ([w] ++ k :: (new' ++ a :: b :: c :: d :: e :: f :: g :: new))) (lt : ∀ p ∈ [w], ∀ q ∈ k :: (new' ++ a :: b :: c :: d :: e :: f :: g :: new), q.1 < p.1)
    (hn : ∀ p ∈ new', ∀ q ∈ k :: a :: b :: c :: d :: e :: f :: g :: new, q.1 < p.1) (hP : P (new' ++ new)) :
    ∃ new2, News h₀ L h (w :: a :: b :: c :: d :: e :: f :: g :: k :: new2) ∧ P new2 ∧ (∀ q ∈ a :: b :: c :: d :: e :: f :: g :: k :: new2, q.1 < w.1) ∧ (∀ q ∈ new2, q ∈ new ∨ a.1 < q.1 ∧ b.1 < q.1 ∧ c.1 < q.1) := by
  refine ⟨new' ++ new, newsW N, hP, fun q hq => lt w (.head _) q ?_, fun q hq => ?_⟩
  · simp only [List.mem_cons, List.mem_append] at hq ⊢
    rcases hq with h | h | h | h | h | h | h | h | h | h <;> simp [h]
  · rcases List.mem_append.mp hq with h | h
    · exact .inr ⟨hn q h a (by simp), hn q h b (by simp), hn q h c (by simp)⟩
    · exact .inl h
theorem ne_nil {prog : Program} {w : World} {A : Around} {E : Value → Shared → Prop} {s : Shared} {a b : Addr} {va : List Value} {Q : Value → Shared → Prop} (hu : A.units < cLine) (ha : s.heap.IsList a va.toArray) (hb : s.heap.IsList b #[])
    (h : Q (.bool (!va.isEmpty)) s) : wpAny (model prog w) A (compareOp .NotEq (.ref a) (.ref b)) Q E s := by
  show wpAny _ _ (richCompare .NotEq (.ref a) (.ref b)) Q E s
  cases va with
  | nil => exact PySem.SeqAt.RcNeAt.lists (e := fun _ => true) ha hb rfl hu (fun j h1 => absurd h1 (Nat.not_lt_zero _)) prog w E Q (by simpa using h)
  | cons v r => exact PySem.SeqAt.RcNeAt.lists_lengths ha hb (by simp) hu prog w E Q (by simpa using h)
theorem newsDrop3 {h₀ h : Heap} {L : Addr} {x a b c : Addr × Obj} {l : Led} (N : News h₀ L h (x :: a :: b :: c :: l)) : News h₀ L h (x :: l) := fun q hq => (List.mem_cons.mp hq).elim (fun e => e ▸ N x (.head _)) fun hq => N q (.tail _ (.tail _ (.tail _ (.tail _ hq))))
end
section
theorem lines30 : True := by
  w_top off
  k_with_none
  (k_with "mine:kall" => (first | exact ne_of_lts (by assumption) | exact ne_of_lts1 (by assumption) | exact ne_of_lts2 (by assumption) | exact ne_of_lts3 (by assumption)))
  (k_with "mine:mem" => (first | (with_reducible apply List.Mem.head) | ((with_reducible apply List.Mem.tail); walk_at "mine:mem")))
  (k_with "mine:tail" => (first | (with_reducible assumption) | ((with_reducible apply List.Mem.tail); walk_at "mine:tail")))
  (k_with "mine:all" => (first | (with_reducible apply List.forall_mem_nil) | (intro pzw hzw; with_reducible assumption) | ((with_reducible apply List.forall_mem_cons.mpr); refine ⟨by walk_at "mine:mem", ?_⟩; walk_at "mine:all") | (intro pzw hzw; walk_at "mine:tail")))
  (k_with "mine:kind" => (first | exact rfl | assumption))
  (k_with "mine:con" => ((intro dpzw unzw gdzw cnzw cszw azw ccdzw clzw outerzw Azw basezw hzw Lzw mzw szw Qzw Ezw Bzw Fzw Xzw Nzw Tzw hkzw hdzw huzw hretzw; obtain ⟨kdzw, nmszw, igzw, iczw, morezw⟩ := cszw; cases (show kdzw = ScopeKind.function from hkzw); refine wpAny_call ?_; k_dflt k_enter)))
  (k_with "mine:news" => (first | k_asm | exact cb_drop (by k_asm) (by kcj_all)))
  (k_with "mine:end" => ((rename ∀ v own h' tk', Fr _ _ h' _ → _ → _ → _ → _ => hretzw; refine give0 hretzw (by k_asm) (by walk_at "mine:news") ⟨rfl, ?_⟩)))
  (k_with "mine:ret" => ((walk_at "mine:end"; first | exact rfl | exact ⟨_, rfl⟩)))
  (k_with "mine:fold" => (((try dsimp only); (try k_fold))))
  (k_with "mine:con9" => ((intro vzw ownzw hzw tkzw Fzw Nzw hlzw rzw; (first | (obtain ⟨ezw, tzw, ezw'⟩ := rzw; subst ezw ezw') | (obtain ⟨ezw, ezw'⟩ := rzw; subst ezw ezw')); clear hlzw; (try simp only [List.nil_append] at Nzw); walk_at "mine:fold")))
  (k_with "mine:conL9" => (((try any_goals ((with_reducible show _ ∈ _); k_mem)); (try any_goals ((with_reducible show StrsAre _ _); assumption)); (try any_goals ((with_reducible show _ ≤ _); first | assumption | omega)); intro vzw ownzw hzw tkzw Fzw Nzw hlzw rzw; obtain ⟨Dzw, vszw, nzw, ezw, ezw', szw, qzw, zzw⟩ := rzw; subst ezw ezw'; (simp only [List.cons_append, List.nil_append] at Nzw); (have hlzw := fun q hq => hlzw _ (List.mem_singleton_self _) q hq); (try dsimp only at hlzw); walk_at "mine:fold")))
  (k_with "mine:for" => ((refine noRaise ?_; (rename Fr _ _ _ _ => lFzw); (with_unfolding_all refine' For_turns lFzw ?_); k_whole)))
  (k_with "mine:calls" => (fail "no contract"))
  (k_with "mine:steps" => (repeat' (first | (k_unfold; (try dsimp only [List.cons_append, List.nil_append])) | (k_end; kc_close) | k_fold | walk1 | (dsimp only; walk1) | ((first | with_reducible show (_ : Value → Shared → Prop) _ _ | with_reducible show (_ : Flow → Shared → Prop) _ _ | with_reducible show (_ : List Value → Shared → Prop) _ _); k_unfold; (try dsimp only [List.cons_append, List.nil_append])) | (leave1; (try dsimp only)) | fail "no step")))
  (k_with "call builtin:issubclass" => ((k_dflt (refine call_issub (News.get (by k_asm) (by k_mem)) ?_); intro tkzw)))
  (k_with "exec For Name Name cons nil" => (walk_at "mine:for"))
  (k_with "exec For Tuple Call cons nil" => (walk_at "mine:for"))
  (k_with "exec For Name Call cons nil" => (walk_at "mine:for"))
  (k_with "call ref" => ((k_here; k_dflt (first | walk_at "mine:calls" | refine Stuck.out ?_))))
  (k_with "eval ListComp" => ((k_here; k_dflt (refine CK.evalL (by k_asm) (by with_unfolding_all rfl) (by decide) (by rfl) (by rfl) (by decide) ?_))))
  (k_with "call builtin:str.split" => ((k_here; k_dflt (refine KSpl.split1 (by k_asm) (by k_asm) (by decide) ?_ (by (refine Nat.le_trans ?_ sizeLine_ge); omega)); intro Dzw lzw hzw kzw ezw azw Fzw Nzw l1zw; (try k_lt l1zw))))
  (k_with "call builtin:len" => ((k_here; (with_reducible show wpAny _ _ (call (Value.builtin "len") [Value.ref _]) _ _ _); k_dflt (refine lenAny (News.isList (by k_asm) (by first | k_mem | exact .head _ | exact .tail _ (.head _))) (by assumption) ?_; k_whole))))
  (k_with "mine:kall" => (assumption))
  (k_with "eval ListComp" => ((k_here; k_dflt ((with_reducible show wpAny _ _ (eval (Expr.ListComp _ [_, _] _ _) _) _ _ _); refine CK.evalLL (by k_asm) (by exact rfl) (by with_unfolding_all rfl) (by decide) (by rfl) (by rfl) (by rfl) (by decide) ?_))))
  (k_with "exec Assign cons ListComp" => ((k_here; k_dflt (first | refine CK.assignL (by k_asm) (by rfl) (by with_unfolding_all rfl) (by rfl) (by decide) (by rfl) (by rfl) (by decide) (by rfl) (by rfl) ?_ | refine CK.assignC (by k_asm) (by rfl) (by with_unfolding_all rfl) (by rfl) (by intro _; rfl) (by intro _; rfl) (by rfl) (by rfl) (by decide) (by rfl) (by rfl) ?_))))
  (k_with "compareOp NotEq ref ref" => ((k_here; k_dflt (refine Stuck.out ?_))))
  (k_with "mine:calls" => (first | ktr_call con (con_basename (by assumption)) | ktr_call conL (con_above (by assumption))))
  exact trivial
section
def lawFn : List Stmt × Scope := match PySem.Challenge.pw_un0039_01.main.body.getLast? with
  | some (.FunctionDef _ _ b _ _ _ sc _ _ _) => (b, sc)
  | _ => ([], { kind := .function, names := [], isGenerator := false, isCoroutine := false })
def rootFor : Expr × List Stmt := match (Prod.fst lawFn).drop 4 with
  | Stmt.For t _ b _ _ :: _ => (t, b)
  | _ => (.Name (Str.ofString "x") ⟨0, 0, 0, 0⟩, [])
theorem keysS_of : ∀ (kvs : List (Str × Value)) {C : List Value → Prop}, (∀ us, StrsAre us (kvs.map (·.1)) → C us) → KdlKeysS kvs C
  | [], _, h => h [] .nil
  | _ :: r, _, h => fun t => keysS_of r fun _ hus => h _ (.cons _ t hus)
theorem kvs_keys (xs : List Str) : (FK.kvs xs).map (·.1) = dedupL xs := by
  unfold FK.kvs
  rw [List.map_map]
  exact List.map_id _
theorem notSys {d L1 : Addr} (hL : 205 < L1) (h : L1 + 1 < d) : (d == sysModules) = false := by
  have : d ≠ sysModules := Nat.ne_of_gt (Nat.lt_trans (show sysModules < 205 by decide) (Nat.lt_trans (Nat.lt_succ_of_lt hL) h))
  simpa using this
theorem flat_len : ∀ l : List Str, (l.flatMap (aboveL 9)).length ≤ 9 * l.length
  | [] => by simp
  | x :: l => by
    have := flat_len l
    have := above_len 9 x
    rw [List.flatMap_cons, List.length_append, List.length_cons]; omega
theorem led5 {a b c d : Addr × Obj} {l all : Led} (h : ∀ q ∈ d :: a :: b :: c :: l, q ∈ all) : ∀ q ∈ a :: b :: c :: d :: l, q ∈ all := fun q hq => h q (by
  simp only [List.mem_cons] at hq ⊢
  rcases hq with h | h | h | h | h <;> simp [h])
set_option maxHeartbeats 4000000 in
theorem root_turn {A₀ : Around} {base h₀ : Heap} {L1 D I fa : Addr} {cd : Value} {s : Shared} {m1 : Str → Option Value} {o oj oro ok ors ov : Obj} {ps : Array Value} {new : Led} {rs : List Str} {rt : Str} {trt : Tok} {ys : List Value} {E : Value → Shared → Prop} {Post : Flow → Shared → Prop}
    (B : Below A₀ base [] h₀) (X : (hd.heap_39 w.params).In h₀) (T : Top p loose mean mg mb h₀) (codeHd : CodeHd base 207 205) (hL : 205 < L1) (f9 : D ≠ 205) (d4 : D ≠ L1 + 1 + 1 + 1 + 1)
    (F7 : Fr h₀ L1 s.heap (fun y => if y = Str.ofString "torn" then some (.bool (tornF rs)) else m1 y)) (N7 : News h₀ L1 s.heap ((I, o) :: (D, listOf ys.toArray ys.length) :: (L1 + 1 + 1 + 1 + 1 + 1, oj) :: (L1 + 1 + 1 + 1 + 1, oro) :: (L1 + 1 + 1 + 1, ok) :: (L1 + 1 + 1, ors) :: (L1 + 1, ov) :: (205, tabObj ps) :: new))
    (drs : ors.data = .cell (some (.ref D))) {xr : Option Value} (dro : oro.data = .cell xr) (hts : TabSt lamPos lamQ new ps) (hnw : ∀ q ∈ new, D < q.1 ∧ L1 + 1 + 1 + 1 + 1 + 1 < q.1 ∧ q.1 ≠ I) (hID : D < I) (hIL : L1 + 1 + 1 + 1 + 1 + 1 < I)
    (hzs : StrsAre ys rs) (hrl2 : rs.length ≤ 1000) (hrl5 : rs.length ≤ 5) (hten : ∀ r ∈ rs, r.length = 10) (hrt : rt ∈ rs) (hrows : ∀ r ∈ rs, ∃ v, r = rowF v)
    (ret : ∀ oro' xr' ps' new' m' h' tk', Fr h₀ L1 h' m' → News h₀ L1 h' ((I, o) :: (D, listOf ys.toArray ys.length) :: (L1 + 1 + 1 + 1 + 1 + 1, oj) :: (L1 + 1 + 1 + 1 + 1, oro') :: (L1 + 1 + 1 + 1, ok) :: (L1 + 1 + 1, ors) :: (L1 + 1, ov) :: (205, tabObj ps') :: new') → oro'.data = .cell xr' → TabSt lamPos lamQ new' ps' →
      (∀ q ∈ new', D < q.1 ∧ L1 + 1 + 1 + 1 + 1 + 1 < q.1 ∧ q.1 ≠ I) → m' (Str.ofString "torn") = some (.bool (tornF rs)) → Post .next { s with heap := h', toks := tk' }) :
    wpAny (model MP w) (callerA.deeper (envOfC (Str.ofString "law") lawFn.2 L1 fa cd)) (assign rootFor.1 (envOfC (Str.ofString "law") lawFn.2 L1 fa cd) (.str rt trt)) (fun _ s₂ => wpAny (model MP w) (callerA.deeper (envOfC (Str.ofString "law") lawFn.2 L1 fa cd)) (execs rootFor.2 (envOfC (Str.ofString "law") lawFn.2 L1 fa cd)) Post E s₂) E s := by
  show wpAny _ (callerA.deeper (envOfC (Str.ofString "law") { kind := _, names := _, isGenerator := _, isCoroutine := _, more := _ } L1 fa cd)) (assign (.Name _ _) (envOfC (Str.ofString "law") { kind := _, names := _, isGenerator := _, isCoroutine := _, more := _ } L1 fa cd) _) (fun _ s₂ => wpAny _ (callerA.deeper (envOfC (Str.ofString "law") { kind := _, names := _, isGenerator := _, isCoroutine := _, more := _ } L1 fa cd)) (execs [_, _, _, _, _, _] (envOfC (Str.ofString "law") { kind := _, names := _, isGenerator := _, isCoroutine := _, more := _ } L1 fa cd)) _ _ s₂) _ _
  have hrt10 := hten rt hrt
  have hn4 : ∀ q ∈ new, q.1 ≠ L1 + 1 + 1 + 1 + 1 := fun q hq => Nat.ne_of_gt (Nat.lt_of_succ_lt (hnw q hq).2.1)
  have hI4 := neN (Nat.ne_of_gt (Nat.lt_of_succ_lt hIL))
  have d4' := neN d4
  have hL' := ltN hL
  have hID' := ltN hID
  have hIL' := ltN hIL
  walk_at "mine:steps"
  rename Fr _ _ _ _ => F8
  rename News _ _ _ _ => N8
  rename _ = Data.cell (some (Value.str rt trt)) => dro2
  unfold Stuck
  refine ConW.use (con_ways (n := ys.length) (vs := ys) (tl := new) (by exact .tail _ (.head _)) hzs hrl2 hten hrt10 hts (by exact fun q hq => .tail _ (.tail _ (.tail _ (.tail _ (.tail _ (.tail _ (.tail _ hq))))))) (by exact no205 hL f9 hIL fun q hq => (hnw q hq).2.1)) (by k_asm) (by exact F8) (by k_asm) (newsUp N8) (by k_asm) rfl (by ktr_room) (by ktr_units) codeHd ?_
  intro v9 own new' ps' h10 tk10 F9 N9 hts9 ho9 hn9 r9
  obtain ⟨W, ws, nW, rfl, rfl, hsW, hlW, hzW⟩ := r9
  obtain ⟨new2, N10, hts2, lW, lnw⟩ := afterW (P := fun l => TabSt lamPos lamQ l ps') N9 ho9 hn9 hts9
  clear N9 ho9 hn9 hts9 F8 N8
  walk_at "mine:steps"
  rename Fr _ _ _ _ => F11
  rename News _ _ _ _ => N11
  obtain ⟨base2, hb2⟩ := nameLed N11
  refine CK.OkLL.intro (fun i zs nw => nw = base2 ∧ StrsAre zs (((waysF rs rt).take i).flatMap (aboveL 9))) (CK.srcList (by exact rfl) (by exact N11) (.head _) rfl rfl) (by exact F11) (by exact N11) (.head _) ⟨hb2.symm, .nil⟩ ?_ ?_
  · intro i v I1 oI1 C1 oC1 D1 m2 zs nw h tk E1 hi hv hJ hS hoC hx F12 N12 off hIC hID1 hCD
    obtain ⟨rfl, hz1⟩ := hJ
    obtain ⟨z, tz, rfl, hz⟩ := StrsAre.item hsW i v (by simpa using hv)
    have hb9 := way_bounds (List.mem_of_getElem? hz)
    walk_at "mine:steps"
    rename Fr _ _ _ _ => F13
    rename News _ _ _ _ => N13
    rename StrsAre _ (aboveL 9 z) => hs9
    rename ∀ q ∈ (I1, oI1) :: _, q.1 < _ => lt9
    have hi2 : i < (waysF rs rt).length := by rw [← StrsAre.length hsW]; simpa using hi
    refine CK.EndLL.intro F13 N13 _ (led5 (fun p hp => hp)) (fun p hp => ?_) hS ⟨rfl, ?_⟩ ?_
    · rcases List.mem_cons.mp hp with rfl | hp
      · exact ⟨Nat.ne_of_gt (lt9 _ (.head _)), Nat.ne_of_gt (lt9 _ (.tail _ (.head _))), Nat.ne_of_gt (lt9 _ (.tail _ (.tail _ (.head _))))⟩
      · exact off p hp
    · rw [List.take_add_one, hz, Option.toList_some, List.flatMap_append, List.flatMap_singleton]
      exact StrsAre.append' hz1 hs9
    · have h1 := StrsAre.length hz1
      have h2 := StrsAre.length hs9
      have h3 := above_len 9 z
      have h4 := flat_len ((waysF rs rt).take i)
      have h5 := sizeLine_ge
      rw [List.length_take] at h4
      omega
  · rintro zs nw ⟨rfl, hz1⟩ D3 h tk F12 N12 off
    rw [List.size_toArray, StrsAre.length hsW, List.take_length] at hz1
    subst hb2
    walk_at "mine:steps"
    unfold Stuck
    have hfl : ((waysF rs rt).flatMap (aboveL 9)).length ≤ 1000 := ways_flat (rt := rt) hrl5
    refine Con.use (con_dedk (n := zs.length) (.head _) hz1 hfl) (by k_asm) (by exact F12) (by k_asm) (by exact N12) (by k_asm) rfl (by ktr_room) (by ktr_units) ?_
    intro v13 own13 h13 tk13 F13 N13 ho13 r13
    obtain ⟨dk, dko, rfl, rfl, hdk⟩ := r13
    have l13 := ho13 _ (.head _)
    simp only [List.cons_append, List.nil_append] at N13
    walk_at "mine:steps"
    refine kdl_list_keysS (by exact rfl) (by exact F13) (by exact N13) (.head _) hdk (notSys hL (l13 (L1 + 1, ov) (by simp))) (by unfold FK.kvs; rw [List.length_map]; exact Nat.le_trans (dedupL_len _) (Nat.le_trans hfl (by decide))) ?_
    intro B14 c14 h14 tk14
    refine keysS_of _ fun us hus => ?_
    intro F14 N14 l14
    have hus' : StrsAre us (dedupL ((waysF rs rt).flatMap (aboveL 9))) := by rw [kvs_keys] at hus; exact hus
    generalize hfo : dedupL ((waysF rs rt).flatMap (aboveL 9)) = fo at *
    walk_at "mine:steps"
    rename Fr _ _ _ _ => F15
    rename News _ _ _ _ => N15r
    have N15 := newsDrop3 N15r
    have l15 : ∀ q ∈ (I, o) :: (D, listOf ys.toArray ys.length) :: (L1 + 1 + 1 + 1 + 1 + 1, oj) :: (L1 + 1 + 1 + 1 + 1, _) :: (L1 + 1 + 1 + 1, ok) :: (L1 + 1 + 1, ors) :: (L1 + 1, ov) :: (205, tabObj ps') :: new2, q.1 < B14 := fun q hq => l14 q (.tail _ (.tail _ (.tail _ hq)))
    clear N15r l14 l13 ho13
    have hfol : fo.length ≤ 1000 := by rw [← hfo]; exact Nat.le_trans (dedupL_len _) hfl
    obtain ⟨base3, hb3⟩ := nameLed N15
    refine CK.OkL.intro (fun i zs nw => nw = base3 ∧ StrsAre zs ((fo.take i).map baseF)) (CK.srcList (by exact rfl) (by exact N15) (.head _) rfl rfl) (by rw [List.size_toArray, StrsAre.length hus']; exact Nat.le_trans (Nat.le_trans hfol (by decide)) sizeLine_ge) (by exact F15) (by exact N15) (.head _) ⟨hb3.symm, .nil⟩ ?_ ?_
    · intro i v I4 oI4 C4 oC4 D4 m4 zs nw h6 tk6 E6 hi hv hyl hJ hS hoC hx F16 N16 off4 hIC hID4 hCD
      obtain ⟨rfl, hz2⟩ := hJ
      obtain ⟨z, tz, rfl, hz⟩ := StrsAre.item hus' i v (by simpa using hv)
      have hzl : z.length ≤ 1000 := folder_len (rs := rs) (rt := rt) (by rw [hfo]; exact List.mem_of_getElem? hz)
      refine wpAny_tests_nil ?_
      simp only [if_true]
      walk_at "mine:steps"
      rename Fr _ _ _ _ => F17
      rename News _ _ _ _ => N17
      refine CK.EndL.intro F17 N17 _ (fun p hp => hp) off4 hS ⟨rfl, ?_⟩
      rw [List.take_add_one, hz, Option.toList_some, List.map_append]
      exact StrsAre.append' hz2 (.cons _ _ .nil)
    · rintro ns nw ⟨rfl, hns⟩ D5 h tk F16 N16 off5
      rw [List.size_toArray, StrsAre.length hus', List.take_length] at hns
      subst hb3
      walk_at "mine:steps"
      rename Fr _ _ _ _ => F18
      rename News _ _ _ _ => N18
      rename IsRange _ _ _ _ _ _ _ _ => hR3
      obtain ⟨oIr, Wr⟩ := CK.srcRange (prog := MP) (w := w) (A := callerA.deeper (envOfC (Str.ofString "law") lawFn.2 L1 fa cd)) (h₀ := h₀) (L := L1) (s := { s with heap := _, toks := _ }) (by exact rfl) (by exact hR3) (by decide) (show Builtin.Range.rangeSize 5 10 1 = ((5 : Nat) : Int) by decide)
      obtain ⟨base4, hb4⟩ := nameLed N18
      refine CK.OkC.intro (fun i zs nw => nw = base4 ∧ StrsAre zs (chgF rs rt i)) Wr (Nat.le_trans (show 5 ≤ 100000 by decide) sizeLine_ge) (by exact F18) (by exact N18) trivial ⟨hb4.symm, .nil⟩ ?_ ?_
      · rintro i v I6 oI6 C6 oC6 D6 c6 oc6 zs nw h7 tk7 E7 hi ⟨t6, rfl⟩ hyl ⟨rfl, hz6⟩ hS hoc F19 N19 off6 hID6 hDC6 hCc6
        subst hb4
        refine wpAny_tests_one ?_
        walk_at "mine:steps"
        obtain ⟨base5, hb5⟩ := nameLed N19
        refine CK.OkL.intro (fun q us2 nw => nw = base5 ∧ StrsAre us2 (unlF (rs.take q) rt (5 + (i : Int)))) (CK.srcList (by exact rfl) (by exact N19) (.tail _ (.tail _ (.tail _ (.tail _ (.tail _ (.tail _ (.tail _ (.head _)))))))) rfl rfl) (by rw [List.size_toArray, StrsAre.length hzs]; exact Nat.le_trans (Nat.le_trans hrl2 (by decide)) sizeLine_ge) (by exact F19) (by exact N19) (.tail _ (.tail _ (.tail _ (.tail _ (.tail _ (.tail _ (.tail _ (.head _)))))))) ⟨hb5.symm, .nil⟩ ?_ ?_
        · intro q v I8 oI8 C8 oC8 D8 m8 us2 nw h8 tk8 E8 hq hv hyl8 hJ8 hS8 hoC8 hx8 F20 N20 off8 hIC8 hID8 hCD8
          obtain ⟨rfl, hu8⟩ := hJ8
          obtain ⟨z, tz, rfl, hz⟩ := StrsAre.item hzs q v (by simpa using hv)
          have hz10 := hten z (List.mem_of_getElem? hz)
          subst hb5
          refine wpAny_tests_one ?_
          walk_at "mine:steps"
          · rename (Txt.item z _ != _) = true => hc8
            refine CK.EndL.intro F20 N20 _ (fun p hp => hp) off8 hS8 ⟨rfl, ?_⟩
            rw [unl_snoc hz, if_pos hc8]
            exact StrsAre.append' hu8 (.cons _ _ .nil)
          · rename (Txt.item z _ != _) = false => hc8
            refine CK.EndL.intro F20 N20 _ (fun p hp => hp) off8 hS8 ⟨rfl, ?_⟩
            rw [unl_snoc hz, if_neg (by rw [hc8]; decide), List.append_nil]
            exact hu8
        · rintro us2 nw ⟨rfl, hu8⟩ D8 h8 tk8 F20 N20 off8
          rw [List.size_toArray, StrsAre.length hzs, List.take_length] at hu8
          subst hb5
          walk_at "mine:steps"
          rename Fr _ _ _ _ => F21
          rename News _ _ _ _ => N21
          unfold Stuck
          refine ne_nil (va := us2) (by ktr_units) (News.isList N21 (.tail _ (.head _))) (News.isList N21 (.head _)) ?_
          walk_at "mine:steps"
          · rename us2.isEmpty = true => he8
            refine CK.EndC.intro F21 N21 _ (fun p hp => .tail _ (.tail _ hp)) off6 trivial ⟨rfl, ?_⟩
            rw [chg_snoc, ← strs_empty hu8, if_pos he8, List.append_nil]
            exact hz6
          · rename us2.isEmpty = false => he8
            refine CK.EndC.intro F21 N21 _ (fun p hp => .tail _ (.tail _ hp)) off6 trivial ⟨rfl, ?_⟩
            rw [chg_snoc, ← strs_empty hu8, if_neg (by rw [he8]; decide)]
            exact StrsAre.append' hz6 (.cons _ _ .nil)
      · rintro cs nw ⟨rfl, hcs⟩ D7 h7 tk7 F19 N19 off7
        subst hb4
        walk_at "mine:steps"
        unfold Stuck
        have hnl : (fo.map baseF).length ≤ 1000 := by rw [List.length_map]; exact hfol
        have hcl : (chgF rs rt 5).length ≤ 1000 := by
          unfold chgF
          rw [List.length_map]
          exact Nat.le_trans (List.length_filter_le _ _) (by rw [List.length_range]; decide)
        refine Con1.use (con_cmp (n1 := ns.length) (n2 := cs.length) (.tail _ (.head _)) (.head _) hns hcs hnl hcl) (by k_asm) (by exact F19) (by k_asm) (by exact N19) (by k_asm) rfl (by ktr_room) (by ktr_units) ?_
        intro v23 own23 h23 tk23 F23 N23 ho23 r23
        obtain ⟨rfl, rfl⟩ := r23
        simp only [List.nil_append] at N23
        have hP1 : cmpF (fo.map baseF) (chgF rs rt 5) = true := by rw [← hfo]; exact plain_cmp hrt hrows
        rw [hP1]
        have hzN : ns.toArray.size ≤ sizeLine := by rw [List.size_toArray, StrsAre.length hns]; exact Nat.le_trans (Nat.le_trans hnl (by decide)) sizeLine_ge
        have hzC : cs.toArray.size ≤ sizeLine := by rw [List.size_toArray, StrsAre.length hcs]; exact Nat.le_trans (Nat.le_trans hcl (by decide)) sizeLine_ge
        walk_at "mine:steps"
        · rename (_ == tornF rs) = true => hbad
          have hP2 := plain_len hrt hrows
          rw [hfo, ← StrsAre.length hns, ← StrsAre.length hcs] at hP2
          rw [hP2] at hbad
          exact absurd hbad (by cases tornF rs <;> decide)
        · exact ret _ _ ps' new2 _ _ _ F23 (newsTail (newsTail (newsTail N23))) dro2 hts2 (fun q hq => (lnw q hq).elim (fun h => hnw q h) fun h => ⟨h.2.1, h.2.2, Nat.ne_of_gt h.1⟩) (by with_unfolding_all rfl)
end
end
section
theorem lines31 : True := by
  w_top off
  k_with_none
  (k_with "mine:kall" => (first | exact ne_of_lts (by assumption) | exact ne_of_lts1 (by assumption) | exact ne_of_lts2 (by assumption) | exact ne_of_lts3 (by assumption)))
  (k_with "mine:mem" => (first | (with_reducible apply List.Mem.head) | ((with_reducible apply List.Mem.tail); walk_at "mine:mem")))
  (k_with "mine:tail" => (first | (with_reducible assumption) | ((with_reducible apply List.Mem.tail); walk_at "mine:tail")))
  (k_with "mine:all" => (first | (with_reducible apply List.forall_mem_nil) | (intro pzw hzw; with_reducible assumption) | ((with_reducible apply List.forall_mem_cons.mpr); refine ⟨by walk_at "mine:mem", ?_⟩; walk_at "mine:all") | (intro pzw hzw; walk_at "mine:tail")))
  (k_with "mine:kind" => (first | exact rfl | assumption))
  (k_with "mine:con" => ((intro dpzw unzw gdzw cnzw cszw azw ccdzw clzw outerzw Azw basezw hzw Lzw mzw szw Qzw Ezw Bzw Fzw Xzw Nzw Tzw hkzw hdzw huzw hretzw; obtain ⟨kdzw, nmszw, igzw, iczw, morezw⟩ := cszw; cases (show kdzw = ScopeKind.function from hkzw); refine wpAny_call ?_; k_dflt k_enter)))
  (k_with "mine:news" => (first | k_asm | exact cb_drop (by k_asm) (by kcj_all)))
  (k_with "mine:end" => ((rename ∀ v own h' tk', Fr _ _ h' _ → _ → _ → _ → _ => hretzw; refine give0 hretzw (by k_asm) (by walk_at "mine:news") ⟨rfl, ?_⟩)))
  (k_with "mine:ret" => ((walk_at "mine:end"; first | exact rfl | exact ⟨_, rfl⟩)))
  (k_with "mine:fold" => (((try dsimp only); (try k_fold))))
  (k_with "mine:con9" => ((intro vzw ownzw hzw tkzw Fzw Nzw hlzw rzw; (first | (obtain ⟨ezw, tzw, ezw'⟩ := rzw; subst ezw ezw') | (obtain ⟨ezw, ezw'⟩ := rzw; subst ezw ezw')); clear hlzw; (try simp only [List.nil_append] at Nzw); walk_at "mine:fold")))
  (k_with "mine:conL9" => (((try any_goals ((with_reducible show _ ∈ _); k_mem)); (try any_goals ((with_reducible show StrsAre _ _); assumption)); (try any_goals ((with_reducible show _ ≤ _); first | assumption | omega)); intro vzw ownzw hzw tkzw Fzw Nzw hlzw rzw; obtain ⟨Dzw, vszw, nzw, ezw, ezw', szw, qzw, zzw⟩ := rzw; subst ezw ezw'; (simp only [List.cons_append, List.nil_append] at Nzw); (have hlzw := fun q hq => hlzw _ (List.mem_singleton_self _) q hq); (try dsimp only at hlzw); walk_at "mine:fold")))
  (k_with "mine:for" => ((refine noRaise ?_; (rename Fr _ _ _ _ => lFzw); (with_unfolding_all refine' For_turns lFzw ?_); k_whole)))
  (k_with "mine:calls" => (fail "no contract"))
  (k_with "mine:steps" => (repeat' (first | (k_unfold; (try dsimp only [List.cons_append, List.nil_append])) | (k_end; kc_close) | k_fold | walk1 | (dsimp only; walk1) | ((first | with_reducible show (_ : Value → Shared → Prop) _ _ | with_reducible show (_ : Flow → Shared → Prop) _ _ | with_reducible show (_ : List Value → Shared → Prop) _ _); k_unfold; (try dsimp only [List.cons_append, List.nil_append])) | (leave1; (try dsimp only)) | fail "no step")))
  (k_with "call builtin:issubclass" => ((k_dflt (refine call_issub (News.get (by k_asm) (by k_mem)) ?_); intro tkzw)))
  (k_with "exec For Name Name cons nil" => (walk_at "mine:for"))
  (k_with "exec For Tuple Call cons nil" => (walk_at "mine:for"))
  (k_with "exec For Name Call cons nil" => (walk_at "mine:for"))
  (k_with "call ref" => ((k_here; k_dflt (first | walk_at "mine:calls" | refine Stuck.out ?_))))
  (k_with "eval ListComp" => ((k_here; k_dflt (refine CK.evalL (by k_asm) (by with_unfolding_all rfl) (by decide) (by rfl) (by rfl) (by decide) ?_))))
  (k_with "call builtin:str.split" => ((k_here; k_dflt (refine KSpl.split1 (by k_asm) (by k_asm) (by decide) ?_ (by (refine Nat.le_trans ?_ sizeLine_ge); omega)); intro Dzw lzw hzw kzw ezw azw Fzw Nzw l1zw; (try k_lt l1zw))))
  (k_with "call builtin:len" => ((k_here; (with_reducible show wpAny _ _ (call (Value.builtin "len") [Value.ref _]) _ _ _); k_dflt (refine lenAny (News.isList (by k_asm) (by first | k_mem | exact .head _ | exact .tail _ (.head _))) (by assumption) ?_; k_whole))))
  (k_with "mine:kall" => (assumption))
  (k_with "eval ListComp" => ((k_here; k_dflt ((with_reducible show wpAny _ _ (eval (Expr.ListComp _ [_, _] _ _) _) _ _ _); refine CK.evalLL (by k_asm) (by exact rfl) (by with_unfolding_all rfl) (by decide) (by rfl) (by rfl) (by rfl) (by decide) ?_))))
  (k_with "subscriptTail" => ((k_here; (with_reducible show wpAny _ _ (subscriptTail _ _ (Value.ref _) (Value.int _ _)) _ _ _); k_dflt (refine itemAt (by k_asm) (by k_mem) (by assumption) (by assumption) ?_ (by with_unfolding_all rfl); k_whole))))
  (k_with "mine:calls" => (first | ktr_call conL (con_above (by assumption)) | ktr_call con (con_common (.head _) (by assumption) (by assumption) (by assumption) (by assumption) (by assumption) (by assumption) (by assumption) (by assumption) (by assumption) (by assumption))))
  exact trivial
section
def forOf (k : Nat) : List Stmt := match (Prod.fst lawFn).drop k with
  | Stmt.For _ _ b _ _ :: _ => b
  | _ => []
def innerFor : Expr × List Stmt := match forOf 7 with
  | Stmt.For t _ b _ _ :: _ => (t, b)
  | _ => (.Name (Str.ofString "x") ⟨0, 0, 0, 0⟩, [])
theorem itemAt {prog : Program} {w : World} {A : Around} {E : Value → Shared → Prop} {s : Shared} {h₀ : Heap} {L : Addr} {news : Led} {value slice : Expr} {l : Addr} {vs : List Value} {n k : Nat} {u : Tok} {x : Value} {Q : Value → Shared → Prop} (N : News h₀ L s.heap news) (hm : (l, listOf vs.toArray n) ∈ news) (hx : vs[k]? = some x) (hk : k < 1000) (h : Q x s)
    (hs : subscripted slice false (.ref l) (.int ((k : Nat) : Int) u) = operate [.ref l, .int ((k : Nat) : Int) u] (getItem (.ref l) (.int ((k : Nat) : Int) u)) := by with_unfolding_all rfl) :
    wpAny (model prog w) A (subscriptTail value slice (.ref l) (.int ((k : Nat) : Int) u)) Q E s :=
  item_listR (News.isList N hm) (Int.natCast_nonneg k) (by omega) (by simpa using hx) h hs
theorem steps_eq {x y : Str} {px py : List Str} {v1 v2 v3 : List Value} (hpx : Txt.split x (Str.ofString "/") = px) (hpy : Txt.split y (Str.ofString "/") = py) (s1 : StrsAre v1 (aboveL 9 x)) (s2 : StrsAre v2 (aboveL 9 y)) (s3 : StrsAre v3 (aboveL 9 (Str.ofString "/" ++ Txt.join (Str.ofString "/") (MM.lcp (px.filter keepC) (py.filter keepC))))) :
    ((v1.length : Nat) : Int) + ((v2.length : Nat) : Int) - 2 * ((v3.length : Nat) : Int) = stepsF x y := by
  unfold stepsF comZ
  rw [hpx, hpy, StrsAre.length s1, StrsAre.length s2, StrsAre.length s3]
theorem ap_len (rt r : Str) (q : Nat) : (apU rt r q).length ≤ q := by
  unfold apU
  rw [List.length_map]
  exact Nat.le_trans (List.length_filter_le _ _) (by rw [List.length_range]; exact Nat.le_refl _)
set_option maxHeartbeats 4000000 in
theorem pair_turn {A₀ : Around} {base h₀ : Heap} {L1 D W S e1 e2 e3 e4 T fa : Addr} {cd : Value} {s : Shared} {m1 : Str → Option Value} {x1 x2 x3 x4 x5 oj oro ok ors ov : Obj} {ps : Array Value} {new : Led} {rs : List Str} {ys ws : List Value} {nW : Nat} {E : Value → Shared → Prop} {Post : Flow → Shared → Prop}
    {x y r r' : Str} {tx ty tr tr' tj tk tf : Tok} {j k : Nat} {fu : Int} {tn : Bool} {px py : List Str}
    (B : Below A₀ base [] h₀) (X : (hd.heap_39 w.params).In h₀) (TT : Top p loose mean mg mb h₀) (codeHd : CodeHd base 207 205) (hL : 205 < L1)
    (l1 : L1 + 1 + 1 + 1 + 1 + 1 < e1) (l2 : L1 + 1 + 1 + 1 + 1 + 1 < e2) (l3 : S ≠ L1 + 1 + 1 + 1 + 1 + 1) (l4 : L1 + 1 + 1 + 1 + 1 + 1 < e3) (l5 : L1 + 1 + 1 + 1 + 1 + 1 < e4) (l6 : L1 + 1 + 1 + 1 + 1 + 1 < W) (dne : D ≠ L1 + 1 + 1 + 1 + 1 + 1)
    (hnw : ∀ q ∈ new, q.1 ≠ L1 + 1 + 1 + 1 + 1 + 1)
    (F7 : Fr h₀ L1 s.heap (fun n => if n = Str.ofString "one" then some (.str x tx) else if n = Str.ofString "further" then some (.int fu tf) else if n = Str.ofString "torn" then some (.bool tn) else if n = Str.ofString "ways" then some (.ref W) else m1 n))
    (N7 : News h₀ L1 s.heap ((e1, x1) :: (e2, x2) :: (S, x3) :: (e3, x4) :: (e4, x5) :: (W, listOf ws.toArray nW) :: (D, listOf ys.toArray ys.length) :: (L1 + 1 + 1 + 1 + 1 + 1, oj) :: (L1 + 1 + 1 + 1 + 1, oro) :: (L1 + 1 + 1 + 1, ok) :: (L1 + 1 + 1, ors) :: (L1 + 1, ov) :: (205, tabObj ps) :: new))
    (hT : IsTup s.heap T #[.int ((j : Nat) : Int) tj, .str y ty])
    (drs : ors.data = .cell (some (.ref D))) {xj : Option Value} (dj : oj.data = .cell xj) (dk : ok.data = .cell (some (.int ((k : Nat) : Int) tk)))
    (hzs : StrsAre ys rs) (hrl5 : rs.length ≤ 5) (hr : rs[k]? = some r) (hr' : rs[j]? = some r') (hyr : ys[k]? = some (.str r tr)) (hyr' : ys[j]? = some (.str r' tr')) (hr10 : r.length = 10) (hr10' : r'.length = 10)
    (hx : x.length ≤ 1000) (hy : y.length ≤ 1000) (sx : Txt.startswith x (Str.ofString "/") = true) (sy : Txt.startswith y (Str.ofString "/") = true) (hpx : Txt.split x (Str.ofString "/") = px) (hpy : Txt.split y (Str.ofString "/") = py) (lpx : px.length ≤ 1000) (lpy : py.length ≤ 1000)
    (bpx : ∀ c ∈ px, c.length ≤ 1000) (bpy : ∀ c ∈ py, c.length ≤ 1000) (hbx : ∀ j, j ≤ 9 → (itD j x).length ≤ 1000) (hby : ∀ j, j ≤ 9 → (itD j y).length ≤ 1000) (hbz : ∀ j, j ≤ 9 → (itD j (Str.ofString "/" ++ Txt.join (Str.ofString "/") (MM.lcp (px.filter keepC) (py.filter keepC)))).length ≤ 1000)
    (hge : unlC r r' ≤ stepsF x y) (hcmp : cmpF px py = decide (unlC r r' = 0))
    (ret : ∀ oj' xj' t' m' h' tk', Fr h₀ L1 h' m' → News h₀ L1 h' ((e1, x1) :: (e2, x2) :: (S, x3) :: (e3, x4) :: (e4, x5) :: (W, listOf ws.toArray nW) :: (D, listOf ys.toArray ys.length) :: (L1 + 1 + 1 + 1 + 1 + 1, oj') :: (L1 + 1 + 1 + 1 + 1, oro) :: (L1 + 1 + 1 + 1, ok) :: (L1 + 1 + 1, ors) :: (L1 + 1, ov) :: (205, tabObj ps) :: new) →
      oj'.data = .cell xj' → m' (Str.ofString "one") = some (.str x tx) → m' (Str.ofString "further") = some (.int (fu + (stepsF x y - unlC r r')) t') → m' (Str.ofString "torn") = some (.bool tn) → m' (Str.ofString "ways") = some (.ref W) → Post .next { s with heap := h', toks := tk' }) :
    wpAny (model MP w) (callerA.deeper (envOfC (Str.ofString "law") lawFn.2 L1 fa cd)) (assign innerFor.1 (envOfC (Str.ofString "law") lawFn.2 L1 fa cd) (.ref T)) (fun _ s₂ => wpAny (model MP w) (callerA.deeper (envOfC (Str.ofString "law") lawFn.2 L1 fa cd)) (execs innerFor.2 (envOfC (Str.ofString "law") lawFn.2 L1 fa cd)) Post E s₂) E s := by
  show wpAny _ (callerA.deeper (envOfC (Str.ofString "law") { kind := _, names := _, isGenerator := _, isCoroutine := _, more := _ } L1 fa cd)) (assign (.Tuple _ _ _) (envOfC (Str.ofString "law") { kind := _, names := _, isGenerator := _, isCoroutine := _, more := _ } L1 fa cd) _) (fun _ s₂ => wpAny _ (callerA.deeper (envOfC (Str.ofString "law") { kind := _, names := _, isGenerator := _, isCoroutine := _, more := _ } L1 fa cd)) (execs [_, _, _, _] (envOfC (Str.ofString "law") { kind := _, names := _, isGenerator := _, isCoroutine := _, more := _ } L1 fa cd)) _ _ s₂) _ _
  have hL' := ltN hL
  have l1' := ltN l1
  have l2' := ltN l2
  have l3' := neN l3
  have l4' := ltN l4
  have l5' := ltN l5
  have l6' := ltN l6
  have dne' := neN dne
  have hk5 : k < 1000 := by have := (List.getElem?_eq_some_iff.mp hr).1; omega
  have hj5 : j < 1000 := by have := (List.getElem?_eq_some_iff.mp hr').1; omega
  walk_at "mine:steps"
  rename _ = Data.cell (some (Value.int ((j : Nat) : Int) tj)) => dj2
  rename Fr _ _ _ _ => F8
  rename News _ _ _ _ => N8
  rename StrsAre _ (aboveL 9 x) => sx9
  rename StrsAre _ (aboveL 9 y) => sy9
  unfold Stuck
  refine Con.use (con_common (.head _) hx hy sx sy hpx hpy lpx lpy bpx bpy) (by k_asm) (by exact F8) (by k_asm) (by exact N8) (by k_asm) rfl (by ktr_room) (by ktr_units) ?_
  intro v10 own10 h10 tk10 F10 N10 ho10 r10
  obtain ⟨rfl, tz, rfl⟩ := r10
  simp only [List.nil_append] at N10
  clear F8 ho10
  walk_at "mine:steps"
  rename Fr _ _ _ _ => F11
  rename News _ _ _ _ => N11r
  rename IsRange _ _ _ _ _ _ _ _ => hR3
  rename StrsAre _ (aboveL 9 (_ ++ _)) => sz9
  have N11 := newsTail (newsTail (newsTail (newsTail N11r)))
  clear N11r
  obtain ⟨base2, hb2⟩ := nameLed N11
  refine OkL_range (n := 5) (fun q zs nw => nw = base2 ∧ IntsAre zs (apU r' r q)) (by exact rfl) (by exact hR3) (by decide) (by decide) (Nat.le_trans (show 5 ≤ 100000 by decide) sizeLine_ge) (by exact F11) (by exact N11) ⟨hb2.symm, .nil⟩ ?_ ?_
  · intro q v I4 oI4 C4 oC4 D4 m4 zs nw h6 tk6 E6 hq hv2 hyl2 hJ hS2 hoC4 hx4 F12 N12 off4 hIC4 hID4 hCD4
    obtain ⟨rfl, sz⟩ := hJ
    obtain ⟨t4, rfl⟩ := hv2
    subst hb2
    refine wpAny_tests_one ?_
    walk_at "mine:steps"
    · rename (Txt.item _ _ != _) = true => hc
      exact CK.EndL.intro F12 N12 _ (fun p hp => hp) off4 trivial ⟨rfl, ap_yes hc sz⟩
    · rename (Txt.item _ _ != _) = false => hc
      exact CK.EndL.intro F12 N12 _ (fun p hp => hp) off4 trivial ⟨rfl, ap_no hc sz⟩
  · rintro zs nw ⟨rfl, sz⟩ D4 h6 tk6 F12 N12 off4
    subst hb2
    have hzl : zs.toArray.size ≤ sizeLine := by
      rw [List.size_toArray, sz.length]
      exact Nat.le_trans (ap_len r' r 5) (Nat.le_trans (by decide) sizeLine_ge)
    have hun : ((zs.length : Nat) : Int) = unlC r r' := by rw [sz.length]; unfold unlC apU; rw [List.length_map]
    have hst := steps_eq hpx hpy sx9 sy9 sz9
    walk_at "mine:steps"
    rename Fr _ _ _ _ => F13
    rename News _ _ _ _ => N13
    unfold Stuck
    rename _ = Txt.split y _ => ey
    rename _ = Txt.split x _ => ex
    rename StrsAre (strValues _) (List.map _ _) => ay
    rw [ey, hpy] at ay
    rename StrsAre (strValues _) (List.map _ _) => ax
    rw [ex, hpx] at ax
    refine Con1.use (con_cmp (.tail _ (.head _)) (.head _) ax ay lpx lpy) (by k_asm) (by exact F13) (by k_asm) (by exact N13) (by k_asm) rfl (by ktr_room) (by ktr_units) ?_
    intro v14 own14 h14 tk14 F14 N14 ho14 r14
    obtain ⟨rfl, rfl⟩ := r14
    simp only [List.nil_append] at N14
    rw [hcmp]
    walk_at "mine:steps"
    · rename (_ != (_ == 0)) = true => hbad
      rw [hun, show (unlC r r' == 0) = decide (unlC r r' = 0) from rfl] at hbad
      simp at hbad
    · rename Fr _ _ _ _ => FZ
      rename News _ _ _ _ => NZ
      exact ret _ _ _ _ _ _ FZ (newsTail (newsTail (newsTail NZ))) dj2 (by with_unfolding_all rfl) (by rw [← hst, ← hun]; with_unfolding_all rfl) (by with_unfolding_all rfl) (by with_unfolding_all rfl)
end
end
section
theorem lines32 : True := by
  w_top off
  k_with_none
  (k_with "mine:kall" => (first | exact ne_of_lts (by assumption) | exact ne_of_lts1 (by assumption) | exact ne_of_lts2 (by assumption) | exact ne_of_lts3 (by assumption)))
  (k_with "mine:mem" => (first | (with_reducible apply List.Mem.head) | ((with_reducible apply List.Mem.tail); walk_at "mine:mem")))
  (k_with "mine:tail" => (first | (with_reducible assumption) | ((with_reducible apply List.Mem.tail); walk_at "mine:tail")))
  (k_with "mine:all" => (first | (with_reducible apply List.forall_mem_nil) | (intro pzw hzw; with_reducible assumption) | ((with_reducible apply List.forall_mem_cons.mpr); refine ⟨by walk_at "mine:mem", ?_⟩; walk_at "mine:all") | (intro pzw hzw; walk_at "mine:tail")))
  (k_with "mine:kind" => (first | exact rfl | assumption))
  (k_with "mine:con" => ((intro dpzw unzw gdzw cnzw cszw azw ccdzw clzw outerzw Azw basezw hzw Lzw mzw szw Qzw Ezw Bzw Fzw Xzw Nzw Tzw hkzw hdzw huzw hretzw; obtain ⟨kdzw, nmszw, igzw, iczw, morezw⟩ := cszw; cases (show kdzw = ScopeKind.function from hkzw); refine wpAny_call ?_; k_dflt k_enter)))
  (k_with "mine:news" => (first | k_asm | exact cb_drop (by k_asm) (by kcj_all)))
  (k_with "mine:end" => ((rename ∀ v own h' tk', Fr _ _ h' _ → _ → _ → _ → _ => hretzw; refine give0 hretzw (by k_asm) (by walk_at "mine:news") ⟨rfl, ?_⟩)))
  (k_with "mine:ret" => ((walk_at "mine:end"; first | exact rfl | exact ⟨_, rfl⟩)))
  (k_with "mine:fold" => (((try dsimp only); (try k_fold))))
  (k_with "mine:con9" => ((intro vzw ownzw hzw tkzw Fzw Nzw hlzw rzw; (first | (obtain ⟨ezw, tzw, ezw'⟩ := rzw; subst ezw ezw') | (obtain ⟨ezw, ezw'⟩ := rzw; subst ezw ezw')); clear hlzw; (try simp only [List.nil_append] at Nzw); walk_at "mine:fold")))
  (k_with "mine:conL9" => (((try any_goals ((with_reducible show _ ∈ _); k_mem)); (try any_goals ((with_reducible show StrsAre _ _); assumption)); (try any_goals ((with_reducible show _ ≤ _); first | assumption | omega)); intro vzw ownzw hzw tkzw Fzw Nzw hlzw rzw; obtain ⟨Dzw, vszw, nzw, ezw, ezw', szw, qzw, zzw⟩ := rzw; subst ezw ezw'; (simp only [List.cons_append, List.nil_append] at Nzw); (have hlzw := fun q hq => hlzw _ (List.mem_singleton_self _) q hq); (try dsimp only at hlzw); walk_at "mine:fold")))
  (k_with "mine:for" => ((refine noRaise ?_; (rename Fr _ _ _ _ => lFzw); (with_unfolding_all refine' For_turns lFzw ?_); k_whole)))
  (k_with "mine:calls" => (fail "no contract"))
  (k_with "mine:steps" => (repeat' (first | (k_unfold; (try dsimp only [List.cons_append, List.nil_append])) | (k_end; kc_close) | k_fold | walk1 | (dsimp only; walk1) | ((first | with_reducible show (_ : Value → Shared → Prop) _ _ | with_reducible show (_ : Flow → Shared → Prop) _ _ | with_reducible show (_ : List Value → Shared → Prop) _ _); k_unfold; (try dsimp only [List.cons_append, List.nil_append])) | (leave1; (try dsimp only)) | fail "no step")))
  (k_with "call builtin:issubclass" => ((k_dflt (refine call_issub (News.get (by k_asm) (by k_mem)) ?_); intro tkzw)))
  (k_with "exec For Name Name cons nil" => (walk_at "mine:for"))
  (k_with "exec For Tuple Call cons nil" => (walk_at "mine:for"))
  (k_with "exec For Name Call cons nil" => (walk_at "mine:for"))
  (k_with "call ref" => ((k_here; k_dflt (first | walk_at "mine:calls" | refine Stuck.out ?_))))
  (k_with "eval ListComp" => ((k_here; k_dflt (refine CK.evalL (by k_asm) (by with_unfolding_all rfl) (by decide) (by rfl) (by rfl) (by decide) ?_))))
  (k_with "call builtin:str.split" => ((k_here; k_dflt (refine KSpl.split1 (by k_asm) (by k_asm) (by decide) ?_ (by (refine Nat.le_trans ?_ sizeLine_ge); omega)); intro Dzw lzw hzw kzw ezw azw Fzw Nzw l1zw; (try k_lt l1zw))))
  (k_with "call builtin:len" => ((k_here; (with_reducible show wpAny _ _ (call (Value.builtin "len") [Value.ref _]) _ _ _); k_dflt (refine lenAny (News.isList (by k_asm) (by first | k_mem | exact .head _ | exact .tail _ (.head _))) (by assumption) ?_; k_whole))))
  (k_with "mine:kall" => (assumption))
  (k_with "eval ListComp" => ((k_here; k_dflt ((with_reducible show wpAny _ _ (eval (Expr.ListComp _ [_, _] _ _) _) _ _ _); refine CK.evalLL (by k_asm) (by exact rfl) (by with_unfolding_all rfl) (by decide) (by rfl) (by rfl) (by rfl) (by decide) ?_))))
  (k_with "subscriptTail" => ((k_here; (with_reducible show wpAny _ _ (subscriptTail _ _ (Value.ref _) (Value.int _ _)) _ _ _); k_dflt (refine itemLast (by k_asm) (by k_mem) (by assumption) ?_ (by with_unfolding_all rfl); k_whole))))
  (k_with "call type:enumerate" => ((k_here; k_dflt (refine Stuck.out ?_))))
  exact trivial
section
def outerTgt : Expr := match (Prod.fst lawFn).drop 7 with
  | Stmt.For t _ _ _ _ :: _ => t
  | _ => .Name (Str.ofString "x") ⟨0, 0, 0, 0⟩
theorem newsUp6 {h₀ h : Heap} {L : Addr} {a b c d e f k : Addr × Obj} {new : Led} (N : News h₀ L h (a :: b :: c :: d :: e :: f :: k :: new)) : News h₀ L h (k :: a :: b :: c :: d :: e :: f :: new) := N.perm fun q hq => by
  simp only [List.mem_cons] at hq ⊢
  rcases hq with h | h | h | h | h | h | h | h <;> simp [h]
theorem afterW6 {h₀ h : Heap} {L : Addr} {w a b c d e f k : Addr × Obj} {new' new : Led} {P : Led → Prop} (N : News h₀ L h ([w] ++ k :: (new' ++ a :: b :: c :: d :: e :: f :: new))) (lt : ∀ p ∈ [w], ∀ q ∈ k :: (new' ++ a :: b :: c :: d :: e :: f :: new), q.1 < p.1)
    (hn : ∀ p ∈ new', ∀ q ∈ k :: a :: b :: c :: d :: e :: f :: new, q.1 < p.1) (hP : P (new' ++ new)) :
    ∃ new2, News h₀ L h (w :: a :: b :: c :: d :: e :: f :: k :: new2) ∧ P new2 ∧ (∀ q ∈ a :: b :: c :: d :: e :: f :: k :: new2, q.1 < w.1) ∧ (∀ q ∈ new2, q ∈ new ∨ a.1 < q.1 ∧ b.1 < q.1) := by
  refine ⟨new' ++ new, N.perm fun q hq => ?_, hP, fun q hq => lt w (.head _) q ?_, fun q hq => ?_⟩
  · simp only [List.mem_cons, List.mem_append, List.not_mem_nil, or_false] at hq ⊢
    rcases hq with h | h | h | h | h | h | h | h | h | h <;> simp [h]
  · simp only [List.mem_cons, List.mem_append] at hq ⊢
    rcases hq with h | h | h | h | h | h | h | h | h <;> simp [h]
  · rcases List.mem_append.mp hq with h | h
    · exact .inr ⟨hn q h a (by simp), hn q h b (by simp)⟩
    · exact .inl h
theorem itemLast {prog : Program} {w : World} {A : Around} {E : Value → Shared → Prop} {s : Shared} {h₀ : Heap} {L : Addr} {news : Led} {value slice : Expr} {l : Addr} {vs : List Value} {n : Nat} {u : Tok} {x : Value} {Q : Value → Shared → Prop} (N : News h₀ L s.heap news) (hm : (l, listOf vs.toArray n) ∈ news) (hx : vs.getLast? = some x) (h : Q x s)
    (hs : subscripted slice false (.ref l) (.int (-1) u) = operate [.ref l, .int (-1) u] (getItem (.ref l) (.int (-1) u)) := by with_unfolding_all rfl) :
    wpAny (model prog w) A (subscriptTail value slice (.ref l) (.int (-1) u)) Q E s := by
  have hne : vs.length ≠ 0 := fun e => by rw [List.length_eq_zero_iff.mp e] at hx; simp at hx
  refine subscriptTail_builtinR (News.isList N hm).typeIs slot_list_getitem.lookup (wpAny_getItem_list_neg (Q := fun r s' => r = x ∧ Q r s') (News.isList N hm) (by decide) (by rw [List.size_toArray]; omega) (by decide) ?_ ⟨rfl, h⟩) hs
  rw [List.getLast?_eq_getElem?] at hx
  rw [List.size_toArray, show (-1 + (vs.length : Int)).toNat = vs.length - 1 by omega]
  simpa using hx
theorem nameAddr {h₀ h : Heap} {L a : Addr} {o : Obj} {l : Led} (_ : News h₀ L h ((a, o) :: l)) : ∃ S : Addr, S = a := ⟨a, rfl⟩
theorem nameObj {o : Obj} {c : Data} (_ : o.data = c) : ∃ o', o' = o := ⟨o, rfl⟩
theorem ne_cell {h₀ h : Heap} {L a b : Addr} {x y : Obj} {led : Led} {q : Array Value} {n : Nat} {c : Option Value} (N : News h₀ L h led) (ha : (a, x) ∈ led) (hb : (b, y) ∈ led) (hx : x.data = .seq q n) (hy : y.data = .cell c) : a ≠ b := by
  rintro rfl
  have e := (N _ ha).1.symm.trans (N _ hb).1
  have e2 : x = y := Option.some.inj e
  rw [e2, hy] at hx; cases hx
set_option maxHeartbeats 4000000 in
theorem tail_part {A₀ : Around} {base h₀ : Heap} {L1 D fa : Addr} {cd : Value} {s : Shared} {m1 : Str → Option Value} {oj oro ok ors ov : Obj} {ps : Array Value} {new : Led} {rs : List Str} {rt : Str} {trt : Tok} {ys : List Value} {E : Value → Shared → Prop} {Post : Flow → Shared → Prop}
    (B : Below A₀ base [] h₀) (X : (hd.heap_39 w.params).In h₀) (TT : Top p loose mean mg mb h₀) (codeHd : CodeHd base 207 205) (hL : 205 < L1) (f9 : D ≠ 205) (d5 : D ≠ L1 + 1 + 1 + 1 + 1 + 1) (d3 : D ≠ L1 + 1 + 1 + 1)
    (F7 : Fr h₀ L1 s.heap (fun y => if y = Str.ofString "torn" then some (.bool (tornF rs)) else m1 y)) (N7 : News h₀ L1 s.heap ((D, listOf ys.toArray ys.length) :: (L1 + 1 + 1 + 1 + 1 + 1, oj) :: (L1 + 1 + 1 + 1 + 1, oro) :: (L1 + 1 + 1 + 1, ok) :: (L1 + 1 + 1, ors) :: (L1 + 1, ov) :: (205, tabObj ps) :: new))
    (drs : ors.data = .cell (some (.ref D))) {xj xk : Option Value} (dj : oj.data = .cell xj) (dk : ok.data = .cell xk) (hts : TabSt lamPos lamQ new ps) (hnw : ∀ q ∈ new, D < q.1 ∧ L1 + 1 + 1 + 1 + 1 + 1 < q.1)
    (hzs : StrsAre ys rs) (hrl5 : rs.length ≤ 5) (hten : ∀ r ∈ rs, r.length = 10) (hlast : ys.getLast? = some (.str rt trt)) (hrt : rt ∈ rs) (hlast' : rs.getLast? = some rt) (hrows : ∀ r ∈ rs, ∃ v, r = rowF v)
    (ret : ∀ h' tk' m', Fr h₀ L1 h' m' → GrownAt 205 h' → Post (.ret (.bool true)) { s with heap := h', toks := tk' }) :
    wpAny (model MP w) (callerA.deeper (envOfC (Str.ofString "law") lawFn.2 L1 fa cd)) (execs ((Prod.fst lawFn).drop 5) (envOfC (Str.ofString "law") lawFn.2 L1 fa cd)) Post E s := by
  show wpAny _ (callerA.deeper (envOfC (Str.ofString "law") { kind := _, names := _, isGenerator := _, isCoroutine := _, more := _ } L1 fa cd)) (execs [_, _, _, _] (envOfC (Str.ofString "law") { kind := _, names := _, isGenerator := _, isCoroutine := _, more := _ } L1 fa cd)) _ _ _
  have hrt10 := hten rt hrt
  have hrl2 : rs.length ≤ 1000 := Nat.le_trans hrl5 (by decide)
  have hL' := ltN hL
  have d5' := neN d5
  have d3' := neN d3
  walk_at "mine:steps"
  unfold Stuck
  refine ConW.use (con_ways (n := ys.length) (vs := ys) (tl := new) (by exact .head _) hzs hrl2 hten hrt10 hts (by exact fun q hq => .tail _ (.tail _ (.tail _ (.tail _ (.tail _ (.tail _ hq)))))) (by exact fun q hq => no205 (I := L1 + 1 + 1 + 1 + 1 + 1 + 1) (o := listOf #[] 0) hL f9 (Nat.lt_succ_self _) (fun q hq => (hnw q hq).2) q (.tail _ hq))) (by k_asm) (by exact F7) (by k_asm) (newsUp6 N7) (by k_asm) rfl (by ktr_room) (by ktr_units) codeHd ?_
  intro v9 own new' ps' h10 tk10 F9 N9 hts9 ho9 hn9 r9
  obtain ⟨W, ws, nW, rfl, rfl, hsW, hlW, hzW⟩ := r9
  obtain ⟨new2, N10, hts2, lW, lnw⟩ := afterW6 (P := fun l => TabSt lamPos lamQ l ps') N9 ho9 hn9 hts9
  have hnw2 : ∀ q ∈ new2, L1 + 1 + 1 + 1 + 1 + 1 < q.1 := fun q hq => (lnw q hq).elim (fun h => (hnw q h).2) fun h => h.2
  have hn3 : ∀ q ∈ new2, q.1 ≠ L1 + 1 + 1 + 1 := fun q hq => Nat.ne_of_gt (Nat.lt_of_succ_lt (Nat.lt_of_succ_lt (hnw2 q hq)))
  have hn5 : ∀ q ∈ new2, q.1 ≠ L1 + 1 + 1 + 1 + 1 + 1 := fun q hq => Nat.ne_of_gt (hnw2 q hq)
  have lWL : L1 + 1 + 1 + 1 + 1 + 1 < W := lW _ (.tail _ (.head _))
  have lWL' := ltN lWL
  have lWD := ltN (lW _ (.head _))
  clear N9 ho9 hn9 hts9 lnw N7
  generalize hwl : waysF rs rt = wl at *
  have hwlen : wl.length = rs.length := by rw [← hwl]; unfold waysF; rw [List.length_map, List.length_map]
  walk_at "mine:steps"
  rename Fr _ _ _ _ => F11
  rename News _ _ _ _ => N11
  unfold Stuck
  refine forEnum (lo := listOf ws.toArray nW) (vs := ws) (n := nW) (fun K m nx => ∃ oj' ok' xj xk tf, nx = (W, listOf ws.toArray nW) :: (D, listOf ys.toArray ys.length) :: (L1 + 1 + 1 + 1 + 1 + 1, oj') :: (L1 + 1 + 1 + 1 + 1, oro) :: (L1 + 1 + 1 + 1, ok') :: (L1 + 1 + 1, ors) :: (L1 + 1, ov) :: (205, tabObj ps') :: new2 ∧
    oj'.data = .cell xj ∧ ok'.data = .cell xk ∧ m (Str.ofString "further") = some (.int (furF wl rs K) tf) ∧ m (Str.ofString "torn") = some (.bool (tornF rs)) ∧ m (Str.ofString "ways") = some (.ref W)) (by exact rfl) (by exact F11) (by exact N11) (.head _) rfl rfl ?_ ?_ ?_ ?_
  · rintro K m nx ⟨oj', ok', xj, xk, tf, rfl, _⟩; exact .head _
  · exact ⟨_, _, _, _, _, rfl, dj, dk, by with_unfolding_all rfl, by with_unfolding_all rfl, by with_unfolding_all rfl⟩
  · rintro K v T t I oe ol m2 nx h12 tk12 hv hI ⟨oj', ok', xj, xk, tf, rfl, dj', dk', hm1, hm2, hm3⟩ hadr F12 hT N12
    obtain ⟨x, tx, rfl, hx⟩ := StrsAre.item hsW K v hv
    replace F12 := frShow3 F12 _ _ _ hm1 hm2 hm3
    k_lt hI
    k_steps
    rename _ = Data.cell (some (Value.int ((K : Nat) : Int) t)) => dk2
    rename Fr _ _ _ _ => F13
    rename News _ _ _ _ => N13
    rw [slice_pre] at N13
    dsimp only at N13
    unfold Stuck
    obtain ⟨S, hS⟩ := nameAddr N13
    rw [← hS] at N13 ⊢
    obtain ⟨ok2, e⟩ := nameObj dk2
    subst e
    have hKw : K < ws.length := (List.getElem?_eq_some_iff.mp hv).1
    have hKr : K < rs.length := by rw [← hwlen, ← StrsAre.length hsW]; exact hKw
    have hSne := ne_cell N13 (.head _) (.tail _ (.tail _ (.tail _ (.tail _ (.tail _ (.head _)))))) rfl dj'
    refine forEnum (lo := listOf (ws.take K).toArray 0) (vs := ws.take K) (n := 0) (fun j m nx => ∃ oj2 xj2 tf2, nx = (S, listOf (ws.take K).toArray 0) :: (I + 1, oe) :: (I, ol) :: (W, listOf ws.toArray nW) :: (D, listOf ys.toArray ys.length) :: (L1 + 1 + 1 + 1 + 1 + 1, oj2) :: (L1 + 1 + 1 + 1 + 1, oro) :: (L1 + 1 + 1 + 1, ok2) :: (L1 + 1 + 1, ors) :: (L1 + 1, ov) :: (205, tabObj ps') :: new2 ∧
      oj2.data = .cell xj2 ∧ m (Str.ofString "one") = some (.str x tx) ∧ m (Str.ofString "further") = some (.int (furF wl rs K + rowSum wl rs K j) tf2) ∧ m (Str.ofString "torn") = some (.bool (tornF rs)) ∧ m (Str.ofString "ways") = some (.ref W)) (by exact rfl) (by exact F13) (by exact N13) (.head _) rfl rfl ?_ ?_ ?_ ?_
    · rintro j m nx ⟨oj2, xj2, tf2, rfl, _⟩; exact .head _
    · exact ⟨_, _, _, rfl, dj', by with_unfolding_all rfl, by rw [rowSum, Int.add_zero]; with_unfolding_all rfl, by with_unfolding_all rfl, by with_unfolding_all rfl⟩
    · rintro j v T2 t2 I2 oe2 ol2 m3 nx h14 tk14 hv2 hI2 ⟨oj2, xj2, tf2, rfl, dj2, o1, o2, o3, o4⟩ hadr2 F14 hT2 N14
      have hjK : j < K := by
        have := (List.getElem?_eq_some_iff.mp hv2).1
        rw [List.length_take] at this; omega
      rw [List.getElem?_take_of_lt hjK] at hv2
      obtain ⟨y, ty, rfl, hy⟩ := StrsAre.item hsW j v hv2
      replace F14 := frShow4 F14 _ _ _ _ o1 o2 o3 o4
      have hjr : j < rs.length := Nat.lt_trans hjK hKr
      obtain ⟨r, hr⟩ : ∃ r, rs[K]? = some r := ⟨_, List.getElem?_eq_getElem hKr⟩
      obtain ⟨r', hr'⟩ : ∃ r', rs[j]? = some r' := ⟨_, List.getElem?_eq_getElem hjr⟩
      obtain ⟨tr, hyr⟩ := StrsAre.get hzs K r hr
      obtain ⟨tr', hyr'⟩ := StrsAre.get hzs j r' hr'
      have wx := way_facts (hwl ▸ List.mem_of_getElem? hx)
      have wy := way_facts (hwl ▸ List.mem_of_getElem? hy)
      have pf := pair_facts hrt hrows (hwl ▸ hx) (hwl ▸ hy) hr hr'
      refine pair_turn (j := j) (k := K) (rs := rs) (r := r) (r' := r') (x := x) (y := y) (by k_asm) (by k_asm) (by k_asm) codeHd hL (Nat.lt_trans hI.2.2.1 (Nat.lt_trans (hI2 _ (.tail _ (.tail _ (.head _)))) (Nat.lt_succ_self _))) (Nat.lt_trans hI.2.2.1 (hI2 _ (.tail _ (.tail _ (.head _))))) hSne (Nat.lt_succ_of_lt hI.2.2.1) hI.2.2.1 lWL d5 hn5 (by exact F14) (by exact N14) hT2 drs dj2 dk2 hzs hrl5 hr hr' hyr hyr' (hten _ (List.mem_of_getElem? hr)) (hten _ (List.mem_of_getElem? hr'))
        wx.1 wy.1 wx.2.1 wy.2.1 rfl rfl wx.2.2.1 wy.2.2.1 wx.2.2.2.1 wy.2.2.2.1 wx.2.2.2.2 wy.2.2.2.2 pf.1 pf.2.1 pf.2.2 ?_
      intro oj3 xj3 t3 m4 h15 tk15 F15 N15 dj3 q1 q2 q3 q4
      refine InvEndN.intro F15 N15 ⟨oj3, xj3, t3, rfl, dj3, q1, ?_, q3, q4⟩ rfl (by kcj_all) (by kcj_all)
      rw [q2, rowSum, pairD, List.getD_eq_getElem?_getD, List.getD_eq_getElem?_getD, List.getD_eq_getElem?_getD, List.getD_eq_getElem?_getD, hx, hy, hr, hr', Int.add_assoc]
      rfl
    · rintro m3 nx h14 tk14 ⟨oj2, xj2, tf2, rfl, dj2, o1, o2, o3, o4⟩ F14 N14
      rw [List.length_take, Nat.min_eq_left (Nat.le_of_lt hKw)] at o2
      replace F14 := frShow4 F14 _ _ _ _ o1 o2 o3 o4
      walk_at "mine:steps"
      exact InvEndN.intro F14 N14 ⟨oj2, ok2, _, _, tf2, rfl, dj2, dk2, by with_unfolding_all rfl, by with_unfolding_all rfl, by with_unfolding_all rfl⟩ rfl (by kcj_all) (by kcj_all)
  · rintro m2 nx h12 tk12 ⟨oj', ok', xj, xk, tf, rfl, dj', dk', hm1, hm2, hm3⟩ F12 N12
    replace F12 := frShow3 F12 _ _ _ hm1 hm2 hm3
    have hP5 : (decide (0 < furF wl rs ws.length) == tornF rs) = true := by
      rw [StrsAre.length hsW, hwlen, ← hwl]; exact plain_far hlast' hrows
    walk_at "mine:steps"
    rw [hP5]
    rename Fr _ _ _ _ => FZ
    rename News _ _ _ _ => NZ
    exact ret _ _ _ FZ (GrownAt.of NZ (.tail _ (.tail _ (.tail _ (.tail _ (.tail _ (.tail _ (.tail _ (.head _)))))))))
end
end
section
theorem lines40 : True := by
  w_top off
  k_with_none
  (k_with "mine:kall" => (first | exact ne_of_lts (by assumption) | exact ne_of_lts1 (by assumption) | exact ne_of_lts2 (by assumption) | exact ne_of_lts3 (by assumption)))
  (k_with "mine:mem" => (first | (with_reducible apply List.Mem.head) | ((with_reducible apply List.Mem.tail); walk_at "mine:mem")))
  (k_with "mine:tail" => (first | (with_reducible assumption) | ((with_reducible apply List.Mem.tail); walk_at "mine:tail")))
  (k_with "mine:all" => (first | (with_reducible apply List.forall_mem_nil) | (intro pzw hzw; with_reducible assumption) | ((with_reducible apply List.forall_mem_cons.mpr); refine ⟨by walk_at "mine:mem", ?_⟩; walk_at "mine:all") | (intro pzw hzw; walk_at "mine:tail")))
  (k_with "mine:kind" => (first | exact rfl | assumption))
  (k_with "mine:con" => ((intro dpzw unzw gdzw cnzw cszw azw ccdzw clzw outerzw Azw basezw hzw Lzw mzw szw Qzw Ezw Bzw Fzw Xzw Nzw Tzw hkzw hdzw huzw hretzw; obtain ⟨kdzw, nmszw, igzw, iczw, morezw⟩ := cszw; cases (show kdzw = ScopeKind.function from hkzw); refine wpAny_call ?_; k_dflt k_enter)))
  (k_with "mine:news" => (first | k_asm | exact cb_drop (by k_asm) (by kcj_all)))
  (k_with "mine:end" => ((rename ∀ v own h' tk', Fr _ _ h' _ → _ → _ → _ → _ => hretzw; refine give0 hretzw (by k_asm) (by walk_at "mine:news") ⟨rfl, ?_⟩)))
  (k_with "mine:ret" => ((walk_at "mine:end"; first | exact rfl | exact ⟨_, rfl⟩)))
  (k_with "mine:fold" => (((try dsimp only); (try k_fold))))
  (k_with "mine:con9" => ((intro vzw ownzw hzw tkzw Fzw Nzw hlzw rzw; (first | (obtain ⟨ezw, tzw, ezw'⟩ := rzw; subst ezw ezw') | (obtain ⟨ezw, ezw'⟩ := rzw; subst ezw ezw')); clear hlzw; (try simp only [List.nil_append] at Nzw); walk_at "mine:fold")))
  (k_with "mine:conL9" => (((try any_goals ((with_reducible show _ ∈ _); k_mem)); (try any_goals ((with_reducible show StrsAre _ _); assumption)); (try any_goals ((with_reducible show _ ≤ _); first | assumption | omega)); intro vzw ownzw hzw tkzw Fzw Nzw hlzw rzw; obtain ⟨Dzw, vszw, nzw, ezw, ezw', szw, qzw, zzw⟩ := rzw; subst ezw ezw'; (simp only [List.cons_append, List.nil_append] at Nzw); (have hlzw := fun q hq => hlzw _ (List.mem_singleton_self _) q hq); (try dsimp only at hlzw); walk_at "mine:fold")))
  (k_with "mine:for" => ((refine noRaise ?_; (rename Fr _ _ _ _ => lFzw); (with_unfolding_all refine' For_turns lFzw ?_); k_whole)))
  (k_with "mine:calls" => (fail "no contract"))
  (k_with "mine:steps" => (repeat' (first | (k_unfold; (try dsimp only [List.cons_append, List.nil_append])) | (k_end; kc_close) | k_fold | walk1 | (dsimp only; walk1) | ((first | with_reducible show (_ : Value → Shared → Prop) _ _ | with_reducible show (_ : Flow → Shared → Prop) _ _ | with_reducible show (_ : List Value → Shared → Prop) _ _); k_unfold; (try dsimp only [List.cons_append, List.nil_append])) | (leave1; (try dsimp only)) | fail "no step")))
  (k_with "call builtin:issubclass" => ((k_dflt (refine call_issub (News.get (by k_asm) (by k_mem)) ?_); intro tkzw)))
  (k_with "exec For Name Name cons nil" => (walk_at "mine:for"))
  (k_with "exec For Tuple Call cons nil" => (walk_at "mine:for"))
  (k_with "exec For Name Call cons nil" => (walk_at "mine:for"))
  (k_with "call ref" => ((k_here; k_dflt (first | walk_at "mine:calls" | refine Stuck.out ?_))))
  (k_with "eval ListComp" => ((k_here; k_dflt (refine CK.evalL (by k_asm) (by with_unfolding_all rfl) (by decide) (by rfl) (by rfl) (by decide) ?_))))
  (k_with "call builtin:str.split" => ((k_here; k_dflt (refine KSpl.split1 (by k_asm) (by k_asm) (by decide) ?_ (by (refine Nat.le_trans ?_ sizeLine_ge); omega)); intro Dzw lzw hzw kzw ezw azw Fzw Nzw l1zw; (try k_lt l1zw))))
  (k_with "call builtin:len" => ((k_here; (with_reducible show wpAny _ _ (call (Value.builtin "len") [Value.ref _]) _ _ _); k_dflt (refine lenAny (News.isList (by k_asm) (by first | k_mem | exact .head _ | exact .tail _ (.head _))) (by assumption) ?_; k_whole))))
  (k_with "mine:kall" => (assumption))
  (k_with "eval ListComp" => ((k_here; k_dflt ((with_reducible show wpAny _ _ (eval (Expr.ListComp _ [_, _] _ _) _) _ _ _); refine CK.evalLL (by k_asm) (by exact rfl) (by with_unfolding_all rfl) (by decide) (by rfl) (by rfl) (by rfl) (by decide) ?_))))
  (k_with "call type:zip" => ((k_here; k_dflt (refine Stuck.out ?_))))
  (k_with "mine:calls" => (first | ktr_call con con_fmode | ktr_call con (con_torn (.head _) (by assumption) (by assumption) (by assumption))))
  exact trivial
section
theorem newsDrop1 {h₀ h : Heap} {L : Addr} {x y : Addr × Obj} {l : Led} (N : News h₀ L h (x :: y :: l)) : News h₀ L h (x :: l) := fun q hq => (List.mem_cons.mp hq).elim (fun e => e ▸ N x (.head _)) fun hq => N q (.tail _ (.tail _ hq))
theorem strsLast {us : List Value} {ss : List Str} {r : Str} (h : StrsAre us ss) (hr : ss.getLast? = some r) : ∃ t, us.getLast? = some (.str r t) := by
  rw [List.getLast?_eq_getElem?] at hr
  obtain ⟨t, e⟩ := StrsAre.get h _ _ hr
  exact ⟨t, by rw [List.getLast?_eq_getElem?, StrsAre.length h]; exact e⟩
theorem offI {L1 D I : Addr} {o x a b c d e k : Obj} {new : Led} (hD : D < I) (hI : L1 + 1 + 1 + 1 + 1 + 1 < I) (hL : 205 < L1) (hn : ∀ q ∈ new, D < q.1 ∧ L1 + 1 + 1 + 1 + 1 + 1 < q.1 ∧ q.1 ≠ I) :
    ∀ p ∈ (D, x) :: (L1 + 1 + 1 + 1 + 1 + 1, a) :: (L1 + 1 + 1 + 1 + 1, b) :: (L1 + 1 + 1 + 1, c) :: (L1 + 1 + 1, d) :: (L1 + 1, e) :: (205, k) :: new, ∀ q ∈ [(I, o)], p.1 ≠ q.1 := by
  intro p hp q hq
  rw [List.mem_singleton.mp hq]
  have h5 : L1 + 5 < I := hI
  have dn : ∀ k : Nat, k ≤ 5 → L1 + k < I := fun k hk => Nat.lt_of_le_of_lt (Nat.add_le_add_left hk _) h5
  simp only [List.mem_cons] at hp
  rcases hp with rfl | rfl | rfl | rfl | rfl | rfl | rfl | hp
  · exact Nat.ne_of_lt hD
  · exact Nat.ne_of_lt (dn 5 (by decide))
  · exact Nat.ne_of_lt (dn 4 (by decide))
  · exact Nat.ne_of_lt (dn 3 (by decide))
  · exact Nat.ne_of_lt (dn 2 (by decide))
  · exact Nat.ne_of_lt (dn 1 (by decide))
  · exact Nat.ne_of_lt (Nat.lt_trans hL (dn 0 (by decide)))
  · exact (hn p hp).2.2
theorem led10 {h₀ h : Heap} {L : Addr} {a c d k : Addr × Obj} {b1 a5 a4 a3 a2 a1 : Addr} {bo o5 o4 o3 o2 o1 : Obj} (N : News h₀ L h [a, (b1, bo), c, d, (a5, o5), (a4, o4), (a3, o3), (a2, o2), (a1, o1), k]) :
    ∃ nu q5 q4 q3 q2 q1, nu = b1 ∧ q5 = o5 ∧ q4 = o4 ∧ q3 = o3 ∧ q2 = o2 ∧ q1 = o1 ∧ News h₀ L h [a, (nu, bo), (a5, q5), (a4, q4), (a3, q3), (a2, q2), (a1, q1), k] := by
  refine ⟨_, _, _, _, _, _, rfl, rfl, rfl, rfl, rfl, rfl, fun q hq => N q ?_⟩
  simp only [List.mem_cons, List.not_mem_nil, or_false] at hq ⊢
  rcases hq with h | h | h | h | h | h | h | h <;> simp [h]
set_option maxHeartbeats 0 in
theorem law_holds : PySem.Challenge.rw_un0039_01.Holds := hd (by
  (conv => arg 6; whnf)
  k_go0
  (all_goals try k_fold)
  k_steps
  rename Shared => s1
  rename World => w
  rename 205 < _ => hL
  rename Fr _ _ _ _ => F1
  rename News _ _ _ _ => N1
  rename IntsAre _ (_ ++ _) => hI
  rename List Int => script
  generalize hL1 : s1.heap.objs.size = L1 at *
  obtain ⟨base, hb⟩ := nameLed N1
  have hnl : (script.take 3 ++ [20, 18]).length ≤ 5 := by rw [List.length_append, List.length_take]; simp; omega
  refine CK.OkL.intro (fun i ys nw => nw = base ∧ StrsAre ys (((script.take 3 ++ [20, 18]).take i).map rowF)) (CK.srcList (by exact rfl) (by exact N1) (.head _) rfl rfl) (by rw [List.size_toArray, hI.length]; exact Nat.le_trans hnl (Nat.le_trans (by decide) sizeLine_ge)) (by exact F1) (by exact N1) (.head _) ⟨hb.symm, .nil⟩ ?_ ?_
  · intro q v I4 oI4 C4 oC4 D4 m4 zs nw h6 tk6 E6 hq hv2 hyl2 hJ hS2 hoC4 hx4 F9 N9 off4 hIC4 hID4 hCD4
    obtain ⟨rfl, hzs⟩ := hJ
    obtain ⟨u, tu, rfl, hu⟩ := hI.at q v (by simpa using hv2)
    refine wpAny_tests_nil ?_
    simp only [if_true]
    walk_at "mine:steps"
    rename Fr _ _ _ _ => F10
    rename News _ _ _ _ => N10
    refine CK.EndL.intro F10 N10 _ (fun p hp => hp) off4 hS2 ⟨rfl, ?_⟩
    rw [List.take_add_one, hu, Option.toList_some, List.map_append]
    exact StrsAre.append' hzs (.cons _ _ .nil)
  · rintro ys nw ⟨rfl, hzs⟩ D h7 tk7 F2 N2 off
    rw [List.size_toArray, hI.length, List.take_length] at hzs
    generalize hrs : (script.take 3 ++ [20, 18]).map rowF = rs at hzs
    have hrl : rs.length ≤ 5 := by rw [← hrs, List.length_map]; exact hnl
    subst hb
    have f1 := neN (Ne.symm (off _ (.head _)))
    have f2 := neN (Ne.symm (off _ (.tail _ (.head _))))
    have f3 := neN (Ne.symm (off _ (.tail _ (.tail _ (.head _)))))
    have f4 := neN (Ne.symm (off _ (.tail _ (.tail _ (.tail _ (.head _))))))
    have f5 := neN (Ne.symm (off _ (.tail _ (.tail _ (.tail _ (.tail _ (.head _)))))))
    have f6 := neN (Ne.symm (off _ (.tail _ (.tail _ (.tail _ (.tail _ (.tail _ (.head _))))))))
    have f7 := neN (Ne.symm (off _ (.tail _ (.tail _ (.tail _ (.tail _ (.tail _ (.tail _ (.head _)))))))))
    have f8 := neN (Ne.symm (off _ (.tail _ (.tail _ (.tail _ (.tail _ (.tail _ (.tail _ (.tail _ (.head _))))))))))
    have f9 := neN (Ne.symm (off _ (.tail _ (.tail _ (.tail _ (.tail _ (.tail _ (.tail _ (.tail _ (.tail _ (.head _)))))))))))
    walk_at "mine:steps"
    rename Fr _ _ _ _ => F3
    rename News _ _ _ _ => N3
    unfold Stuck
    obtain ⟨NU, oj, oro, ok, ors, ov, e1, e2, e3, e4, e5, e6, N4⟩ := led10 N3
    subst e1 e2 e3 e4 e5 e6
    have dj : ∃ x, oj.data = .cell x := ⟨_, by assumption⟩
    have dro : ∃ x, oro.data = .cell x := ⟨_, by assumption⟩
    have dk : ∃ x, ok.data = .cell x := ⟨_, by assumption⟩
    have dv : ∃ x, ov.data = .cell x := ⟨_, by assumption⟩
    have drs : ors.data = .cell (some (.ref D)) := by assumption
    have hyl : ys.length = rs.length := StrsAre.length hzs
    clear N3
    refine forZip (xs := ys) (n1 := ys.length) (n2 := 0) (fun i m nx => ∃ ov', nx = [(D, LCg.lst ys), (NU, listOf _ 0), (L1 + 1 + 1 + 1 + 1 + 1, oj), (L1 + 1 + 1 + 1 + 1, oro), (L1 + 1 + 1 + 1, ok), (L1 + 1 + 1, ors), (L1 + 1, ov'), (205, tabObj #[])] ∧ ∃ x, ov'.data = .cell x) (by exact rfl) (by exact F3) (by exact N4) (.head _) rfl rfl (.tail _ (.head _)) rfl rfl (by rw [hyl, ← hrs, List.length_map]; exact hI.length) ?_ ⟨_, rfl, dv⟩ ?_ ?_
    · rintro i m nx ⟨ov', rfl, _⟩; exact ⟨.head _, .tail _ (.head _)⟩
    · rintro i v u T I o1 o2 o3 o4 o5 m1 nx h8 tk8 hv hu hI2 ⟨ov', rfl, xv, dv'⟩ hadr F5 hT N5
      obtain ⟨z, tz, rfl, hz⟩ := StrsAre.item hzs i v hv
      obtain ⟨x, tx, rfl, hx⟩ := hI.at i u hu
      have hzx : z = rowF x := by rw [← hrs, List.getElem?_map, hx] at hz; exact (Option.some.inj hz).symm
      k_lt hI2
      walk_at "mine:steps"
      rename IsRange _ _ _ _ _ _ _ _ => hR3
      rename Fr _ _ _ _ => F6
      rename News _ _ _ _ => N6
      obtain ⟨base2, hb2⟩ := nameLed N6
      refine OkL_range (n := 5) (fun q zs nw => nw = base2 ∧ StrsAre zs ((List.range q).map (signF x))) (by exact rfl) (by exact hR3) (by decide) (by decide) (Nat.le_trans (show 5 ≤ 100000 by decide) sizeLine_ge) (by exact F6) (by exact N6) ⟨hb2.symm, .nil⟩ ?_ ?_
      · intro q v I4 oI4 C4 oC4 D4 m4 zs nw h9 tk9 E6 hq hv2 hyl2 hJ hS2 hoC4 hx4 F9 N9 off4 hIC4 hID4 hCD4
        obtain ⟨rfl, hzs2⟩ := hJ
        obtain ⟨t4, rfl⟩ := hv2
        subst hb2
        refine wpAny_tests_nil ?_
        simp only [if_true]
        walk_at "mine:steps"
        · rename Builtin.bitAnd _ _ ≠ 0 => hbit
          refine CK.EndL.intro F9 N9 _ (fun p hp => hp) off4 trivial ⟨rfl, ?_⟩
          rw [List.range_succ, List.map_append]
          refine StrsAre.append' hzs2 ?_
          rw [List.map_singleton, signF, if_pos hbit]
          exact .cons _ _ .nil
        · rename Builtin.bitAnd _ _ = 0 => hbit
          refine CK.EndL.intro F9 N9 _ (fun p hp => hp) off4 trivial ⟨rfl, ?_⟩
          rw [List.range_succ, List.map_append]
          refine StrsAre.append' hzs2 ?_
          rw [List.map_singleton, signF, if_neg (fun h => h hbit)]
          exact .cons _ _ .nil
      · rintro zs nw ⟨rfl, hzs2⟩ D4 h9 tk9 F9 N9 off4
        subst hb2
        have hzl : zs.length = 5 := by rw [StrsAre.length hzs2, List.length_map, List.length_range]
        have hzs3 : ∀ c ∈ (List.range 5).map (signF x), c.length ≤ 1 := fun c hc => by
          obtain ⟨k, hk, rfl⟩ := List.mem_map.mp hc
          exact Nat.le_of_eq (signF_len5 x (List.mem_range.mp hk))
        walk_at "mine:steps"
        refine join_listW (News.isList (by exact N9) (by exact .head _)) hzs2 (by decide) (sign_sum x) ?_
        intro t5 k5
        have hjl := sign_join x
        have hrx := row_spec x
        generalize Txt.join (Str.ofString "") ((List.range 5).map (signF x)) = jn at *
        rw [hrx] at hzx
        walk_at "mine:steps"
        rename _ = Data.cell (some (Value.int x tx)) => dv2
        exact InvEndN.intro (by k_asm) (by k_asm) ⟨_, rfl, _, dv2⟩ rfl (by kcj_all) (by kcj_all)
    · rintro m1 nx h8 tk8 ⟨ov', rfl, xv, dv'⟩ F5 N5
      have hrl2 : rs.length ≤ 1000 := by omega
      have hten : ∀ r ∈ rs, r.length = 10 := by rw [← hrs]; exact rows_ten _
      walk_at "mine:steps"
      rename Fr _ _ _ _ => F6
      rename News _ _ _ _ => N6
      refine forListG (lo := listOf ys.toArray ys.length) (vs := ys) (n := ys.length) (fun I i m nx => ∃ oro' ps new, nx = (D, listOf ys.toArray ys.length) :: (L1 + 1 + 1 + 1 + 1 + 1, oj) :: (L1 + 1 + 1 + 1 + 1, oro') :: (L1 + 1 + 1 + 1, ok) :: (L1 + 1 + 1, ors) :: (L1 + 1, ov') :: (205, tabObj ps) :: new ∧
        (∃ x, oro'.data = .cell x) ∧ TabSt lamPos lamQ new ps ∧ (∀ q ∈ new, D < q.1 ∧ L1 + 1 + 1 + 1 + 1 + 1 < q.1 ∧ q.1 ≠ I) ∧ m (Str.ofString "torn") = some (.bool (tornF rs)) ∧ D < I ∧ L1 + 1 + 1 + 1 + 1 + 1 < I) (by exact rfl) (by exact F6) (newsDrop1 N6) (.head _) rfl rfl ?_ ?_ ?_ ?_
      · rintro I i m nx ⟨oro', ps, new, rfl, _⟩; exact .head _
      · intro I hI2
        exact ⟨_, _, [], rfl, dro, .inl rfl, (fun q hq => nomatch hq), by with_unfolding_all rfl, ltN (hI2 _ (.head _)), ltN (hI2 _ (.tail _ (.head _)))⟩
      · rintro i v I o m1 nx h9 tk9 hv ⟨oro', ps, new, rfl, ⟨xr, dro'⟩, hts, hnw, hmt, hID, hIL⟩ F7 N7
        obtain ⟨rt, trt, rfl, hrt⟩ := StrsAre.item hzs i v hv
        have hrt10 := hten rt (List.mem_of_getElem? hrt)
        replace F7 := frShow F7 _ hmt
        refine root_turn (rs := rs) (by k_asm) (by k_asm) (by k_asm) codeHd hL f9 f5 (by exact F7) N7 drs dro' hts hnw hID hIL hzs hrl2 hrl hten (List.mem_of_getElem? hrt) (by rw [← hrs]; exact rows_of _) ?_
        intro oro2 xr2 ps2 new2 m2 h10 tk10 F10 N10 dro2 hts2 hnw2 hmt2
        exact endW F10 N10 _ (fun p hp => hp) (offI hID hIL hL hnw2) ⟨_, _, _, rfl, ⟨_, dro2⟩, hts2, hnw2, hmt2, hID, hIL⟩
      · rintro I m1 nx h9 tk9 ⟨oro', ps, new, rfl, ⟨xr, dro'⟩, hts, hnw, hmt, hID, hIL⟩ F7 N7
        replace F7 := frShow F7 _ hmt
        obtain ⟨xj, dj⟩ := dj
        obtain ⟨xk, dk⟩ := dk
        have hlast' : rs.getLast? = some (rowF 18) := by rw [← hrs]; simp
        obtain ⟨trt, hlast⟩ := strsLast hzs hlast'
        dsimp only
        refine tail_part (rs := rs) (by k_asm) (by k_asm) (by k_asm) codeHd hL f9 f4 f6 (by exact F7) N7 drs dj dk hts (fun q hq => ⟨(hnw q hq).1, (hnw q hq).2.1⟩) hzs hrl hten hlast (List.mem_of_getLast? hlast') hlast' (by rw [← hrs]; exact rows_of _) ?_
        intro h10 tk10 m10 FZ hg
        refine ⟨?_, hg, trivial⟩
        dsimp only
        wrow_close)
end
end
end Mine
theorem PySem.Challenge.cw_un0039_01_holds : PySem.Challenge.rw_un0039_01.Holds :=
  Mine.law_holds
