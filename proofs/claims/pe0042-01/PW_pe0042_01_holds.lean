import PyProof.Rows.All
import Wide.All
import OpenK.AllK
import Wide.FinOn
import PySem.Challenge.RW_pe0042_01
open PySem PySem.W PyProof.Rows PySem.Spec PySem.Calls
set_option Elab.async false
namespace Mine
set_option maxRecDepth 100000
set_option maxHeartbeats 8000000
open_top hd for PySem.Challenge.rw_pe0042_01

end Mine
namespace Mine
set_option maxRecDepth 100000

/-- the walk halts here -/
def Halt (P : Prop) : Prop := P
theorem halt {P : Prop} (h : Halt P) : P := h
theorem frSays {h₀ h : Heap} {L : Addr} {m : Str → Option Value} (F : Fr h₀ L h m) (ps : List (Str × Value)) (e : ∀ p ∈ ps, m p.1 = some p.2) : Fr h₀ L h (kstB m ps) := by
  have q : kstB m ps = m := funext fun y => kstB_eq e fun _ => rfl
  rw [q]; exact F
theorem all1 {p : Str × Value → Prop} {a : Str × Value} (h : p a) : ∀ x ∈ [a], p x := fun x hx => by rw [List.mem_singleton.mp hx]; exact h
theorem allc {p : Str × Value → Prop} {a : Str × Value} {l : List (Str × Value)} (h : p a) (hl : ∀ x ∈ l, p x) : ∀ x ∈ a :: l, p x := fun x hx => by
  rcases List.mem_cons.mp hx with rfl | hx
  · exact h
  · exact hl x hx
theorem frSay {h₀ h : Heap} {L : Addr} {m : Str → Option Value} {x : Str} {v : Value} (F : Fr h₀ L h m) (e : m x = some v) : Fr h₀ L h (fun y => if y = x then some v else m y) := by
  have q : (fun y => if y = x then some v else m y) = m := by
    funext y
    by_cases hy : y = x
    · rw [if_pos hy, hy, e]
    · rw [if_neg hy]
  rw [q]; exact F

/-- a list iterator's object: over the list at l, next place i -/
def LiIter (o : Obj) (l : Addr) (i : Nat) : Prop := o.cls = .type "list_iterator" ∧ o.data = .fields #[.ref l, .int i 0]

section
variable {prog : Program} {w : World} {A : Around} {E : Value → Shared → Prop} {s : Shared} {h₀ : Heap} {L l it : Addr} {m : Str → Option Value} {news rest : List (Addr × Obj)} {io : Obj} {i c : Nat} {x : Value} {vs : List Value}

theorem li_iter {Q : Value → Shared → Prop} (F : Fr h₀ L s.heap m) (N : News h₀ L s.heap news) (hp : (l, listOf vs.toArray c) ∈ news)
    (h : ∀ (I : Addr) h' oI, Fr h₀ L h' m → News h₀ L h' ((I, oI) :: news) → (∀ p ∈ news, p.1 < I) → LiIter oI l 0 → Q (.ref I) { s with heap := h' }) :
    wpAny (model prog w) A (call (.builtin "iter") [.ref l]) Q E s := by
  have hl : s.heap.IsList l vs.toArray := ⟨_, (N _ hp).1, rfl, c, rfl⟩
  refine call_function_entry (by decide +kernel) (by decide +kernel) kdk_entry_iter (kdk_args_iter _) ?_
  unfold Builtin.«iter»
  refine wpAny_bind (m := someArgs "iter" 1 2 _) (wpAny_of_eq (a := [Value.ref l]) (by first | rfl | kernel_rfl!) ?_)
  show wpAny _ _ (pyIter (.ref l) >>= _) _ _ _
  refine wpAny_bind (wpAny_pyIter_list hl ?_)
  exact wpAny_pure ⟨_, rfl, h _ _ _ (F.push _) (News.push F N _ rfl) (fun q hq => Heap.lt_size (N q hq).1) ⟨rfl, rfl⟩⟩

theorem li_next {Q : Value → Shared → Prop} (F : Fr h₀ L s.heap m) (N : News h₀ L s.heap ((it, io) :: rest)) (hne : ∀ p ∈ rest, p.1 ≠ it) (hi : LiIter io l i) (hl : (l, listOf vs.toArray c) ∈ rest) (hx : vs[i]? = some x)
    (h : ∀ h' o', Fr h₀ L h' m → News h₀ L h' ((it, o') :: rest) → LiIter o' l (i + 1) → Q x { s with heap := h' }) :
    wpAny (model prog w) A (call (.builtin "next") [.ref it]) Q E s := by
  have hm := N (it, io) (.head _)
  have hit : s.heap.IsListIter it l i := ⟨io, hm.1, hi.1, hi.2⟩
  have hls : s.heap.IsList l vs.toArray := ⟨_, (N _ (.tail _ hl)).1, rfl, c, rfl⟩
  refine call_function_entry (by decide +kernel) (by decide +kernel) kdk_entry_next (kdk_args_next _) ?_
  unfold Builtin.«next»
  refine wpAny_bind (m := someArgs "next" 1 2 _) (wpAny_of_eq (a := [Value.ref it]) (by first | rfl | kernel_rfl!) ?_)
  dsimp only
  refine wpAny_bind (wpAny_specialOf (name := Str.ofString "__next__") hit.typeIs slot_listiter_next.lookup ?_)
  refine wpAny_ite_split (fun hab => absurd hab (by decide)) (fun _ => ?_)
  obtain ⟨o, ho, hc, hd⟩ := id hit
  obtain ⟨ol, hol, _, nl, hdl⟩ := hls
  refine wpAny_bind (wpAny_callSpecial?_slot (name := Str.ofString "__next__") hit.typeIs slot_listiter_next
    (wpAny_call_entry slot_listiter_next hit.typeIs entry_listiter_next ?_ (args_listiter_next _)))
  show wpAny _ _ (field (.ref it) 0 >>= _) _ _ s
  refine wpAny_bind (wpAny_field ho hd (x := .ref l) rfl ?_)
  show wpAny _ _ (if (Value.ref l == Value.none) = true then _ else _) _ _ s
  rw [if_neg (show ¬ ((Value.ref l == Value.none) = true) from Bool.false_ne_true)]
  show wpAny _ _ (field (.ref it) 1 >>= _) _ _ s
  refine wpAny_bind (wpAny_field ho hd (x := .int i 0) rfl ?_)
  show wpAny _ _ (seqItems? (.ref l) >>= _) _ _ s
  refine wpAny_bind (wpAny_seqItems hol hdl ?_)
  have hx' : vs.toArray[i]? = some x := by simpa using hx
  simp only [Int.toNat_natCast, hx']
  refine wpAny_bind (wpAny_setField ho hd (by simp) (wpAny_pure ⟨x, rfl, wpAny_pure ⟨x, rfl, ?_⟩⟩))
  have hit' : (s.heap.update it (Obj.mapFields (·.setIfInBounds 1 (rawInt ((i : Int) + 1))))).IsListIter it l (i + 1) :=
    ⟨_, Heap.get?_update_self _ ho (Obj.isFreed_of_fields (Obj.data_mapFields hd _)), (Obj.cls_mapFields ..).trans hc, by
      rw [Obj.data_mapFields hd]; simp [rawInt]⟩
  obtain ⟨o', ho', hc', hd'⟩ := hit'
  have hs : Heap.SameBut it s.heap (s.heap.update it (Obj.mapFields (·.setIfInBounds 1 (rawInt ((i : Int) + 1))))) := Heap.SameBut.update ..
  exact h _ o' (F.change hs hm.2.1 hm.2.2) ((show News h₀ L s.heap ([] ++ (it, io) :: rest) from N).setIn (fun _ hq => nomatch hq) hne hs ho') ⟨hc', hd'⟩

theorem li_stop {Q : Value → Shared → Prop} (hh : A.handled = none) (F : Fr h₀ L s.heap m) (N : News h₀ L s.heap ((it, io) :: rest)) (hne : ∀ p ∈ rest, p.1 ≠ it) (hi : LiIter io l i) (hl : (l, listOf vs.toArray c) ∈ rest) (hx : vs[i]? = none)
    (h : ∀ h₁ h' e, Fr h₀ L h₁ m → News h₀ L h₁ rest → Heap.MadeExcOf h₁ h' e (.type "StopIteration") [] → E (.ref e) { s with heap := h' }) :
    wpAny (model prog w) A (call (.builtin "next") [.ref it]) Q E s := by
  have hm := N (it, io) (.head _)
  have hit : s.heap.IsListIter it l i := ⟨io, hm.1, hi.1, hi.2⟩
  have hls : s.heap.IsList l vs.toArray := ⟨_, (N _ (.tail _ hl)).1, rfl, c, rfl⟩
  refine call_function_entry (by decide +kernel) (by decide +kernel) kdk_entry_next (kdk_args_next _) ?_
  unfold Builtin.«next»
  refine wpAny_bind (m := someArgs "next" 1 2 _) (wpAny_of_eq (a := [Value.ref it]) (by first | rfl | kernel_rfl!) ?_)
  dsimp only
  refine wpAny_bind (wpAny_specialOf (name := Str.ofString "__next__") hit.typeIs slot_listiter_next.lookup ?_)
  refine wpAny_ite_split (fun hab => absurd hab (by decide)) (fun _ => ?_)
  obtain ⟨o, ho, hc, hd⟩ := id hit
  obtain ⟨ol, hol, _, nl, hdl⟩ := hls
  refine wpAny_bind (wpAny_callSpecial?_slot (name := Str.ofString "__next__") hit.typeIs slot_listiter_next
    (wpAny_call_entry slot_listiter_next hit.typeIs entry_listiter_next ?_ (args_listiter_next _)))
  show wpAny _ _ (field (.ref it) 0 >>= _) _ _ s
  refine wpAny_bind (wpAny_field ho hd (x := .ref l) rfl ?_)
  show wpAny _ _ (if (Value.ref l == Value.none) = true then _ else _) _ _ s
  rw [if_neg (show ¬ ((Value.ref l == Value.none) = true) from Bool.false_ne_true)]
  show wpAny _ _ (field (.ref it) 1 >>= _) _ _ s
  refine wpAny_bind (wpAny_field ho hd (x := .int i 0) rfl ?_)
  show wpAny _ _ (seqItems? (.ref l) >>= _) _ _ s
  refine wpAny_bind (wpAny_seqItems hol hdl ?_)
  have hx' : vs.toArray[i]? = none := by simpa using hx
  simp only [Int.toNat_natCast, hx']
  refine wpAny_bind (wpAny_rule (wpAny_bind (wpAny_setField ho hd (by simp) ?_)))
  show wpAny _ _ (newExc (.type "StopIteration") [] >>= _) _ _ _
  refine wpAny_bind ?_
  simp only [newExc, newTuple]
  refine wpAny_bind (wpAny_newObj_type ?_ (by size_fits))
  refine wpAny_bind (m := firstArgMember _ _) (wpAny_of_eq (a := Value.none) (by first | rfl | (simp only [firstArgMember]; rfl)) ?_)
  refine wpAny_newObj_type ?_ (by size_fits)
  simp only [raiseNew]
  refine wpAny_bind (wpAny_handled ?_)
  first | rw [show A.in1.handled = none from hh] | rw [hh]
  refine wpAny_bind (wpAny_pure (wpAny_throw ?_))
  have hs : Heap.SameBut it s.heap (s.heap.update it (Obj.mapFields (·.setIfInBounds 0 Value.none))) := Heap.SameBut.update ..
  refine h _ _ _ (F.change hs hm.2.1 hm.2.2) (fun p hp => ?_) ⟨fun b o hb => Heap.get?_push_of_some _ (Heap.get?_push_of_some _ hb), Heap.get?_none_of_le (by simp), _, Heap.get?_push_size _ rfl, Heap.get?_none_of_le (by simp), Heap.get?_push_of_some _ (Heap.get?_push_size _ rfl)⟩
  have P := N p (.tail _ hp)
  exact ⟨(hs.2 p.1 (hne p hp)).trans P.1, P.2⟩
end

/-- what a turn of a loop leaves: the iterator I stands, the ledger nx is off it -/
def TurnEnd (h₀ : Heap) (L I : Addr) (io : Obj) (J : (Str → Option Value) → List (Addr × Obj) → Prop) (s : Shared) (Q : Flow → Shared → Prop) (f : Flow) (s₂ : Shared) : Prop :=
  match f with
  | .ret v => Q (.ret v) s₂
  | .brk => Q .next s₂
  | _ => ∃ h' tk m' nx, s₂ = { s with heap := h', toks := tk } ∧ Fr h₀ L h' m' ∧ News h₀ L h' ((I, io) :: nx) ∧ (∀ p ∈ nx, p.1 ≠ I) ∧ J m' nx

section
variable {prog : Program} {w : World} {A : Around} {E : Value → Shared → Prop} {s : Shared} {env : Env} {h₀ : Heap} {x : Str} {body : List Stmt} {Q : Flow → Shared → Prop}

theorem rangeLoop {r : Addr} {a₀ b₀ : Int} {t₀ u₀ v₀ : Tok} {n : Nat} {m₀ : Str → Option Value} {news : List (Addr × Obj)} (J : Nat → (Str → Option Value) → List (Addr × Obj) → Prop)
    (hh : A.handled = none) (hr : IsRange s.heap r a₀ b₀ 1 t₀ u₀ v₀) (hsmall : Builtin.Range.small a₀ b₀ 1 = true) (hn : Builtin.Range.rangeSize a₀ b₀ 1 = (n : Int))
    (F : Fr h₀ env.locals s.heap m₀) (N : News h₀ env.locals s.heap news) (hj : J 0 m₀ news)
    (turn : ∀ i t m₁ nx h tk I io, i < n → J i m₁ nx → (∀ p ∈ nx, p.1 ≠ I) → Fr h₀ env.locals h (fun y => if y = x then some (.int (a₀ + (i : Int)) t) else m₁ y) → News h₀ env.locals h ((I, io) :: nx) →
      wpAny (model prog w) A (execs body env) (TurnEnd h₀ env.locals I io (J (i + 1)) s Q) E { s with heap := h, toks := tk })
    (done : ∀ m₁ nx h tk, J n m₁ nx → Fr h₀ env.locals h m₁ → News h₀ env.locals h nx → Q .next { s with heap := h, toks := tk }) :
    wpAny (model prog w) A (pyIter (.ref r)) (fun it s₂ => LoopAtV prog w A h₀ env x body Q E it s₂) E s := by
  refine wpAny_pyIter_range hr hsmall ?_
  have W : Walks prog w A s.heap.objs.size [s.heap.objs.size] [s.heap.objs.size] n (fun i v => i < n ∧ ∃ t, v = .int (a₀ + i * 1) t)
      (fun i h => IsRangeIter h s.heap.objs.size (a₀ + (i : Nat) * 1) ((n : Int) - (i : Nat)) 1) := (Walks.range hh _ a₀ 1 n).bound
  refine ⟨_, _, _, n, _, _, m₀, news, J, rfl, W, ?_, ?_, ?_, (by show IsRangeIter _ _ _ _ _; rw [hn]; simpa using Heap.get?_push_size _ rfl), F.push _, (fun p hp => ⟨Heap.get?_push_of_some _ (N p hp).1, (N p hp).2⟩), hj, ?_, ?_⟩
  · intro hm
    exact absurd F.ns.lt ((List.mem_singleton.mp hm) ▸ Nat.lt_irrefl _)
  · intro b hb
    rw [List.mem_singleton.mp hb]
    exact next_is_new F
  · intro p hp hI
    exact absurd (Heap.lt_size (N p hp).1) ((List.mem_singleton.mp hI) ▸ Nat.lt_irrefl _)
  · rintro i v m₁ nx s₁ own ⟨hh', tk', rfl⟩ hin ⟨_, t, rfl⟩ hJ hoff hsub hget hall hst F₁ N₁
    have e1 : a₀ + (i : Int) * 1 = a₀ + (i : Int) := by omega
    rw [e1] at F₁
    have hio : ∃ io, hh'.get? s.heap.objs.size = some io := ⟨_, hst⟩
    obtain ⟨io, hio⟩ := hio
    have hmem : (s.heap.objs.size, io) ∈ own := hall _ (.head _) (next_is_new F) io hio
    have hown : ∀ p ∈ own, p = (s.heap.objs.size, io) := fun p hp => by
      have h1 := List.mem_singleton.mp (hsub p hp)
      have h2 := hget p hp
      rw [h1] at h2
      exact Prod.ext h1 (Option.some.inj (h2.symm.trans hio))
    refine wpAny_mono (turn i t m₁ nx hh' tk' s.heap.objs.size io hin hJ (fun p hp q => hoff p hp (q ▸ .head _)) F₁ (fun p hp => ?_)) (fun f s₂ q => ?_) fun _ _ e => e
    · rcases List.mem_cons.mp hp with rfl | hp
      · exact N₁ _ (List.mem_append_left _ hmem)
      · exact N₁ _ (List.mem_append_right _ hp)
    · have fin : (∃ h' tk m' nx, s₂ = { s with heap := h', toks := tk } ∧ Fr h₀ env.locals h' m' ∧ News h₀ env.locals h' ((s.heap.objs.size, io) :: nx) ∧ (∀ p ∈ nx, p.1 ≠ s.heap.objs.size) ∧ J (i + 1) m' nx) →
          LoopStepU h₀ env.locals [s.heap.objs.size] own (J (i + 1)) { s with heap := hh', toks := tk' } .next s₂ := by
        rintro ⟨h', tk, m', nx', rfl, F', N', hne, hJ'⟩
        refine ⟨rfl, h', tk, m', nx', rfl, F', fun p hp => ?_, fun p hp q => hne p hp (List.mem_singleton.mp q), hJ'⟩
        rcases List.mem_append.mp hp with hp | hp
        · rw [hown p hp]
          exact N' _ (.head _)
        · exact N' _ (.tail _ hp)
      cases f with
      | ret v => exact .ret q
      | brk => exact .brk q
      | next => exact .next (fin q)
      | cont => exact .cont (fin q)
  · intro h' tk m' nx F' N' _ hJ
    exact done m' nx h' tk hJ F' N'

theorem listLoop {l : Addr} {vs : List Value} {nn : Nat} {m₀ : Str → Option Value} {news : List (Addr × Obj)} (J : Nat → (Str → Option Value) → List (Addr × Obj) → Prop)
    (hh : A.handled = none) (hl : (l, listOf vs.toArray nn) ∈ news)
    (F : Fr h₀ env.locals s.heap m₀) (N : News h₀ env.locals s.heap news) (hj : J 0 m₀ news) (hJl : ∀ i m nx, J i m nx → (l, listOf vs.toArray nn) ∈ nx)
    (turn : ∀ i v m₁ nx h tk I io, vs[i]? = some v → J i m₁ nx → (∀ p ∈ nx, p.1 ≠ I) → Fr h₀ env.locals h (fun y => if y = x then some v else m₁ y) → News h₀ env.locals h ((I, io) :: nx) →
      wpAny (model prog w) A (execs body env) (TurnEnd h₀ env.locals I io (J (i + 1)) s Q) E { s with heap := h, toks := tk })
    (done : ∀ m₁ nx h tk, J vs.length m₁ nx → Fr h₀ env.locals h m₁ → News h₀ env.locals h nx → Q .next { s with heap := h, toks := tk }) :
    wpAny (model prog w) A (pyIter (.ref l)) (fun it s₂ => LoopAtV prog w A h₀ env x body Q E it s₂) E s := by
  have hol : s.heap.get? l = some (listOf vs.toArray nn) := (N _ hl).1
  have hls : s.heap.IsList l vs.toArray := ⟨_, hol, rfl, nn, rfl⟩
  have hne : l ≠ s.heap.objs.size := Nat.ne_of_lt (Heap.lt_size hol)
  refine wpAny_pyIter_list hls ?_
  have W := Walks.list (prog := prog) (w := w) hh s.heap.objs.size l hne vs.toArray
  have hlen : vs.toArray.size = vs.length := by simp
  rw [hlen] at W
  refine ⟨_, _, _, vs.length, _, _, m₀, news, J, rfl, W, ?_, ?_, ?_, ⟨⟨_, Heap.get?_push_size _ rfl, rfl, rfl⟩, hls.at fun o e => Heap.get?_push_of_some _ e⟩, F.push _, (fun p hp => ⟨Heap.get?_push_of_some _ (N p hp).1, (N p hp).2⟩), hj, ?_, ?_⟩
  · intro hm
    rcases List.mem_cons.mp hm with e | hm
    · exact absurd F.ns.lt (e ▸ Nat.lt_irrefl _)
    · exact (N _ hl).2.1 ((List.mem_singleton.mp hm).symm)
  · intro b hb
    rw [List.mem_singleton.mp hb]
    exact next_is_new F
  · intro p hp hI
    exact absurd (Heap.lt_size (N p hp).1) ((List.mem_singleton.mp hI) ▸ Nat.lt_irrefl _)
  · rintro i v m₁ nx s₁ own ⟨hh', tk', rfl⟩ hin hP hJ hoff hsub hget hall hst F₁ N₁
    have hx : vs[i]? = some v := by simpa using hP
    have hio : ∃ io, hh'.get? s.heap.objs.size = some io := by
      obtain ⟨o, ho, _⟩ := hst.1
      exact ⟨o, ho⟩
    obtain ⟨io, hio⟩ := hio
    have hmem : (s.heap.objs.size, io) ∈ own := hall _ (.head _) (next_is_new F) io hio
    have hlo : hh'.get? l = some (listOf vs.toArray nn) := (N₁ _ (List.mem_append_right _ (hJl _ _ _ hJ))).1
    have hown : ∀ p ∈ own, p = (s.heap.objs.size, io) ∨ p = (l, listOf vs.toArray nn) := fun p hp => by
      have h2 := hget p hp
      rcases List.mem_cons.mp (hsub p hp) with h1 | h1
      · rw [h1] at h2
        exact .inl (Prod.ext h1 (Option.some.inj (h2.symm.trans hio)))
      · have h1 := List.mem_singleton.mp h1
        rw [h1] at h2
        exact .inr (Prod.ext h1 (Option.some.inj (h2.symm.trans hlo)))
    refine wpAny_mono (turn i v m₁ nx hh' tk' s.heap.objs.size io hx hJ (fun p hp q => hoff p hp (q ▸ .head _)) F₁ (fun p hp => ?_)) (fun f s₂ q => ?_) fun _ _ e => e
    · rcases List.mem_cons.mp hp with rfl | hp
      · exact N₁ _ (List.mem_append_left _ hmem)
      · exact N₁ _ (List.mem_append_right _ hp)
    · have fin : (∃ h' tk m' nx, s₂ = { s with heap := h', toks := tk } ∧ Fr h₀ env.locals h' m' ∧ News h₀ env.locals h' ((s.heap.objs.size, io) :: nx) ∧ (∀ p ∈ nx, p.1 ≠ s.heap.objs.size) ∧ J (i + 1) m' nx) →
          LoopStepU h₀ env.locals [s.heap.objs.size] own (J (i + 1)) { s with heap := hh', toks := tk' } .next s₂ := by
        rintro ⟨h', tk, m', nx', rfl, F', N', hne, hJ'⟩
        refine ⟨rfl, h', tk, m', nx', rfl, F', fun p hp => ?_, fun p hp q => hne p hp (List.mem_singleton.mp q), hJ'⟩
        rcases List.mem_append.mp hp with hp | hp
        · rcases hown p hp with h | h
          · rw [h]
            exact N' _ (.head _)
          · rw [h]
            exact N' _ (.tail _ (hJl _ _ _ hJ'))
        · exact N' _ (.tail _ hp)
      cases f with
      | ret v => exact .ret q
      | brk => exact .brk q
      | next => exact .next (fin q)
      | cont => exact .cont (fin q)
  · intro h' tk m' nx F' N' _ hJ
    exact done m' nx h' tk hJ F' N'
end

section
variable {prog : Program} {w : World} {A₀ A : Around} {s : Shared} {base h₀ : Heap} {L : Addr} {m : Str → Option Value} {env : Env} {news : List (Addr × Obj)} {K : Frag} {p : Program} {loose : List Str} {mean : ExcName → Option Value} {mg mb : Str → Option Value}
    {R : Result → Shared → Prop} {name qual : Str} {params : Arguments} {body : List Stmt} {scope : Scope} {dV kV doc pm cdv ct oc : Value} {an od : Option Addr} {osl : Array (Option Value)} {f : Addr} {args : Args} {binds : List (Str × Value)}

/-- a call from the outermost frame whose body may catch: the ground may turn in the caller's slots -/
theorem code_defT (B : Below A₀ base [] h₀) (F : Fr h₀ L s.heap m) (X₀ : K.In h₀) (N : News h₀ L s.heap news) (T : Top p loose mean mg mb h₀) (hA : A.frames = some [env]) (hf : env.frame = some L) (hke : env.scope.kind = .function)
    (ho : K.lookup f = some ⟨oc, od, .func (fnOf name qual params body scope dV kV doc pm an cdv ct), osl⟩) (hcd : codeIn K cdv qual = true) (hroom : A.depth < recursionLimit)
    (hbind : BindsTo s (fnOf name qual params body scope dV kV doc pm an cdv ct) args binds) (hloc : ∀ y ∈ binds, scope.names.lookup y.1 = some .local)
    (h : ∀ g L' h₁, Fr h₀ L g m → Fr g L' h₁ (fun y => binds.reverse.lookup y) → News g L' h₁ news → Below A base [env] g → K.In g → Top p loose mean mg mb g → KtsDicts ([env].filterMap (·.frame)) g → (∀ p ∈ news, p.1 < L') →
      wpAny (model prog w) (A.deeper (envOf qual scope L' f cdv)) (execs body (envOf qual scope L' f cdv))
        (fun fl s' => LeaveS0 ([env].filterMap (·.frame)) h₀ L m g R (match fl with | .ret v => v | _ => .none) s')
        (fun e s' => wpAny (model prog w) (A.deeper (envOf qual scope L' f cdv)) (leaving (envOf qual scope L' f cdv) e) (fun _ s'' => R (.error e) s'') (fun e' s'' => R (.error e') s'') s')
        { s with heap := h₁, toks := s.toks + binds.length })
    (hco : scope.isCoroutine = false) (hgen : scope.isGenerator = false) (hk : scope.kind = .function)
    (hcell : ∀ x ∈ scope.names, x.2 ≠ .cell) : codeAny (model prog w) A (.call (.ref f) args) R s := by
  have X := X₀.keeps F.keep
  have efs : [env].filterMap (·.frame) = [L] := by simp [hf]
  refine codeAny_call_def (fd := fnOf name qual params body scope dV kV doc pm an cdv ct) (body := body) (binds := binds) hroom (X _ _ ho) rfl (T.nolimit.keeps F.keep) (codeRec_of X hcd) rfl hbind hcell hloc (fun h₁ hns hk₁ => ?_) hco hgen hk
  obtain ⟨FG, BG, st, _⟩ := groundX (R := R) B F N hA hf hke
  obtain ⟨oL, es, ep, hLg, hLd, hLk, hLf⟩ := FG.ns
  refine wpAny_mono (h _ s.heap.objs.size h₁ FG ⟨hns, fun b o e => hk₁ b o (of_hideAll _ e), Nat.le_of_eq (hideAll_size _ _)⟩
    (fun p hp => ⟨hk₁ _ _ (N p hp).1, Nat.ne_of_lt (Heap.lt_size (N p hp).1), hideAll_none _ (List.mem_map_of_mem hp)⟩) BG (X₀.keeps st) (T.keeps st) (fun b hb => by
      rw [efs] at hb
      rw [List.mem_singleton.mp hb]
      exact ⟨oL, es, ep, hLg, hLd⟩) (fun p hp => Heap.lt_size (N p hp).1)) (fun fl s' hl => ?_) fun _ _ y => y
  obtain ⟨g', L', m', news', T', F', N', k⟩ := hl
  have nL₀ : h₀.get? L = none := kts_self F
  obtain ⟨sl, hs⟩ := T'.up hLg
  refine k ⟨⟨_, es, ep, F'.keep _ _ hs, hLd, hLk, hLf⟩, fun b o e => F'.keep b o (T'.other b o (st b o e) (fun q => by
    rw [efs] at q
    rw [List.mem_singleton.mp q, nL₀] at e
    cases e)), F.above⟩ fun p hp => ⟨(N' p hp).1, fun q => ?_, ?_⟩
  · have := (N' p hp).2.2; rw [q, hs] at this; cases this
  · cases q : h₀.get? p.1 with
    | none => rfl
    | some o =>
      obtain ⟨sl', hs'⟩ := T'.up (st _ _ q)
      have := (N' p hp).2.2
      rw [hs'] at this
      cases this
end

end Mine
namespace Mine
theorem start_P42 : True := by
  w_top off
  exact True.intro
abbrev TopF (mean : ExcName → Option Value) (mg mb : Str → Option Value) (h : Heap) : Prop := Top hd.view_39 (looseW hd.view_39 []) mean mg mb h

/-- what _parse_varint does behind its first octet: b the last octet, v the value so far -/
def parseGo : Int → Int → List Int → Option (Int × List Int)
  | b, v, [] => if b % 128 < 64 then some (v, []) else none
  | b, v, x :: r => if b % 128 < 64 then some (v, x :: r) else parseGo x (v * 64 + x % 64) r
def parse : List Int → Option (Int × List Int)
  | [] => none
  | b :: r => parseGo b (b % 64) r

theorem and64 (b : Int) : Builtin.bitAnd b 64 = (b / 64 % 2) * 64 := kbt_bit b 6
theorem go_end {b v : Int} {r : List Int} (h : Builtin.bitAnd b 64 = 0) : parseGo b v r = some (v, r) := by
  rw [and64] at h
  have hb : b % 128 < 64 := by omega
  cases r <;> simp [parseGo, hb]
theorem go_on {b v x : Int} {r : List Int} (h : Builtin.bitAnd b 64 ≠ 0) : parseGo b v (x :: r) = parseGo x (v * 64 + x % 64) r := by
  rw [and64] at h
  have hb : ¬ b % 128 < 64 := by omega
  simp [parseGo, hb]
theorem go_out {b v : Int} (h : Builtin.bitAnd b 64 ≠ 0) : parseGo b v [] = none := by
  rw [and64] at h
  have hb : ¬ b % 128 < 64 := by omega
  simp [parseGo, hb]
theorem and_dbl (a b : Int) (h : Builtin.bitAnd a (b / 2) = 0) : Builtin.bitAnd (a * 2) b = 0 := by
  have e1 : a * 2 / 2 = a := Int.mul_ediv_cancel a (by decide)
  have e2 : a * 2 % 2 = 0 := Int.mul_emod_left a 2
  rw [kbt_halves, e1, e2, h]
  simp
theorem or64 {v x : Int} (hx : 0 ≤ x) (hx2 : x < 64) : Builtin.bitOr (v * 64) x = v * 64 + x := by
  have z : Builtin.bitAnd (v * 64) x = 0 := by
    rw [show v * 64 = v * 2 * 2 * 2 * 2 * 2 * 2 from by omega]
    refine and_dbl _ _ (and_dbl _ _ (and_dbl _ _ (and_dbl _ _ (and_dbl _ _ (and_dbl _ _ ?_)))))
    have e0 : x / 2 / 2 / 2 / 2 / 2 / 2 = 0 := by omega
    have := bitAnd_range v (y := 0) (by omega)
    rw [e0]; omega
  rw [bitOr_and, z, Int.sub_zero]
theorem drop_of_get {α : Type} {l : List α} {i : Nat} {x : α} (h : l[i]? = some x) : l.drop i = x :: l.drop (i + 1) := by
  obtain ⟨hi, rfl⟩ := List.getElem?_eq_some_iff.mp h
  exact List.drop_eq_getElem_cons hi
theorem ints_none {vs : List Value} {ns : List Int} {i : Nat} (h : IntsAre vs ns) (e : ns[i]? = none) : vs[i]? = none := by
  have := h.length
  rw [List.getElem?_eq_none_iff] at e ⊢
  omega
theorem bits_pow {v : Int} {k : Nat} (h0 : 0 ≤ v) (h : v < 64 ^ k) (hk : k ≤ 1000) : (Builtin.Int.intBits v : Int) + 6 ≤ 2 ^ 27 := by
  have h1 : v.natAbs < 64 ^ k := by
    have h2 : ((v.natAbs : Nat) : Int) < ((64 ^ k : Nat) : Int) := by
      rw [Int.natCast_pow]
      have : ((v.natAbs : Nat) : Int) = v := by omega
      rw [this]; exact h
    exact Int.ofNat_lt.mp h2
  have h3 : v.natAbs < 2 ^ (6 * k) := by
    have e : (64 : Nat) ^ k = 2 ^ (6 * k) := by rw [Nat.pow_mul]
    rw [← e]; exact h1
  have h4 : Builtin.Int.intBits v ≤ 6000 := by
    unfold Builtin.Int.intBits
    split
    · omega
    · rename_i hz
      have hz' : v.natAbs ≠ 0 := by
        intro q
        exact hz (by rw [Int.natAbs_eq_zero.mp q]; rfl)
      have := (Nat.log2_lt hz').mpr h3
      omega
  have h5 : ((Builtin.Int.intBits v : Nat) : Int) ≤ 6000 := Int.ofNat_le.mpr h4
  have h6 : (2 : Int) ^ 27 = 134217728 := by decide
  omega

local macro_rules | `(tactic| walk_at "exec While BinOp cons nil") => `(tactic| ((with_reducible show wpAny _ _ (exec (Stmt.While _ _ _ _) _) _ _ _); refine halt ?_))
set_option maxRecDepth 100000 in
set_option maxHeartbeats 8000000 in
theorem parse_ctr {w : World} {mean : ExcName → Option Value} {mg mb : Str → Option Value} {dp un : Nat} {gd : Option (List Code)} {cn : Str} {cs : Scope} {a : Addr} {ccd : Value} {cl : List (Str × Addr)} {outer : List Env} {A₀ : Around} {base h₀ : Heap} {L : Addr} {m : Str → Option Value} {s : Shared} {Q E : Value → Shared → Prop}
    {it lt : Addr} {io : Obj} {c i : Nat} {tvs : List Value} {tn : List Int} {rest : List (Addr × Obj)}
    (B : Below A₀ base outer h₀) (F : Fr h₀ L s.heap m) (X : (hd.heap_39 w.params).In h₀) (N : News h₀ L s.heap ((it, io) :: rest)) (T : TopF mean mg mb h₀) (hk : cs.kind = .function)
    (hne : ∀ p ∈ rest, p.1 ≠ it) (hi : LiIter io lt i) (hl : (lt, listOf tvs.toArray c) ∈ rest) (hti : IntsAre tvs tn) (hlen : tn.length ≤ 1000)
    (hd : dp + 3 < recursionLimit) (hu : un + 24 < cLine)
    (hret : ∀ v t o' i' h' tk', parse (tn.drop i) = some (v, tn.drop i') → i < i' → i' ≤ tn.length → 0 ≤ v → Fr h₀ L h' m → News h₀ L h' ((it, o') :: rest) → LiIter o' lt i' → Q (.int v t) { s with heap := h', toks := tk' })
    (hexc : ∀ g e t h' tk', parse (tn.drop i) = none → Fr h₀ L g m → RaisedS base g (envX cn cs L a ccd cl :: outer) e (.type "StopIteration") t [] rest h' → g.UpToSlots h' → E (.ref e) { s with heap := h', toks := tk' }) :
    wpAny (model PySem.Challenge.rw_pe0042_01.row.prog w) (ktrTop dp un gd cn cs L a ccd cl outer) (call (.ref 21) [.ref it]) Q E s := by
  revert X; k_fill; intro X
  refine wpAny_call ?_
  k_dflt cell_enter
  k_steps
  (rename Fr _ _ _ _ => F1); (rename News _ _ _ _ => N1)
  cases hx : tn[i]? with
  | some n =>
    obtain ⟨t, hv⟩ := hti.get i n hx
    refine li_next F1 N1 hne hi hl hv ?_
    intro h2 o2 F2 N2 hi2
    k_steps
    unfold Halt
    (rename Fr _ _ _ _ => F3); (rename News _ _ _ _ => N3)
    have hlt : i < tn.length := (List.getElem?_eq_some_iff.mp hx).1
    have hp0 : parse (tn.drop i) = parseGo n (n % 64) (tn.drop (i + 1)) := by rw [drop_of_get hx]; rfl
    refine While_inv2 (fun k m' nx => ∃ i' b v o' tb tv, k = tn.length - i' ∧ m' (Str.ofString "iterator") = some (.ref it) ∧ m' (Str.ofString "b") = some (.int b tb) ∧ m' (Str.ofString "val") = some (.int v tv) ∧ nx = (it, o') :: rest ∧ LiIter o' lt i' ∧ i < i' ∧ i' ≤ tn.length ∧ 0 ≤ v ∧ v < 64 ^ i' ∧ parse (tn.drop i) = parseGo b v (tn.drop i'))
      F3 N3 ⟨i + 1, n, Builtin.bitAnd n 63, o2, _, _, rfl, by with_unfolding_all rfl, by with_unfolding_all rfl, by with_unfolding_all rfl, rfl, hi2, by omega, by omega, ?_, ?_, ?_⟩ ?_
    · rw [bitAnd_m6]; omega
    · rw [bitAnd_m6]
      have h1 : (64 : Int) ^ (i + 1) = 64 ^ i * 64 := by rw [Int.pow_succ]
      have h2 : (0 : Int) < 64 ^ i := Int.pow_pos (by decide)
      rw [h1]; omega
    · rw [bitAnd_m6]; exact hp0
    · rintro k m1 nx h1 tk1 F4 N4 ⟨i', b, v, o', tb, tv, rfl, e1, e2, e3, rfl, hi', hlt', hle', hv0, hvb, hp⟩
      have F5 := frSays F4 [(Str.ofString "val", .int v tv), (Str.ofString "b", .int b tb), (Str.ofString "iterator", .ref it)] (allc e3 (allc e2 (all1 e1)))
      clear F4 F3 N3
      k_steps
      · refine ilshift_int (by decide) (bits_pow hv0 hvb (by omega)) ?_
        have hb : Builtin.bitAnd b 64 ≠ 0 := by assumption
        k_steps
        (rename Fr _ _ _ _ => F6); (rename News _ _ _ _ => N6)
        cases hx' : tn[i']? with
        | some n' =>
          obtain ⟨t', hv'⟩ := hti.get i' n' hx'
          refine li_next F6 N6 hne hi' hl hv' ?_
          intro h7 o7 F7 N7 hi7
          k_steps
          (rename Fr _ _ _ _ => F8); (rename News _ _ _ _ => N8)
          have hlt7 : i' < tn.length := (List.getElem?_eq_some_iff.mp hx').1
          have ev : Builtin.bitOr (v * 2 ^ Int.toNat 6) (Builtin.bitAnd n' 63) = v * 64 + n' % 64 := by
            rw [bitAnd_m6, show (2 : Int) ^ Int.toNat 6 = 64 from rfl]
            exact or64 (by omega) (by omega)
          have hp9 : parse (tn.drop i) = parseGo n' (v * 64 + n' % 64) (tn.drop (i' + 1)) := by rw [hp, drop_of_get hx']; exact go_on hb
          refine ⟨_, _, _, _, tn.length - (i' + 1), rfl, F8, N8, by omega, i' + 1, n', Builtin.bitOr (v * 2 ^ Int.toNat 6) (Builtin.bitAnd n' 63), o7, _, _, rfl, by with_unfolding_all rfl, by with_unfolding_all rfl, by with_unfolding_all rfl, rfl, hi7, by omega, by omega, ?_, ?_, ?_⟩
          · rw [ev]; omega
          · rw [ev]
            have h1 : (64 : Int) ^ (i' + 1) = 64 ^ i' * 64 := by rw [Int.pow_succ]
            rw [h1]; omega
          · rw [ev]; exact hp9
        | none =>
          refine li_stop rfl F6 N6 hne hi' hl (ints_none hti hx') ?_
          intro h7 h8 e7 F7 N7 M7
          have hp1 : parse (tn.drop i) = none := by rw [hp, List.drop_eq_nil_iff.mpr (List.getElem?_eq_none_iff.mp hx')]; exact go_out hb
          rename Below _ _ _ _ => B2
          exact leave_raiseS B2 M7 F7 N7 (fun h' t R _ hsl => hexc _ _ _ _ _ hp1 (by assumption) R hsl)
      · exact hret _ _ _ _ _ _ (hp.trans (go_end (by assumption))) hlt' hle' hv0 (by assumption) (by assumption) hi'
  | none =>
    refine li_stop rfl F1 N1 hne hi hl (ints_none hti hx) ?_
    intro h1 h2 e F2 N2 M2
    have hp0 : parse (tn.drop i) = none := by rw [List.drop_eq_nil_iff.mpr (List.getElem?_eq_none_iff.mp hx)]; rfl
    rename Below _ _ _ _ => B2
    exact leave_raiseS B2 M2 F2 N2 (fun h' t R _ hsl => hexc _ _ _ _ _ hp0 (by assumption) R hsl)

end Mine
namespace Mine
theorem start_S42 : True := by
  w_top off
  exact True.intro

section
variable {w : World} {mean : ExcName → Option Value} {mg mb : Str → Option Value} {dp un : Nat} {gd : Option (List Code)} {cn : Str} {cs : Scope} {a : Addr} {ccd : Value} {cl : List (Str × Addr)} {outer : List Env} {A₀ : Around} {base h₀ : Heap} {L : Addr} {m : Str → Option Value} {s : Shared} {Q E : Value → Shared → Prop}
    {news : List (Addr × Obj)} {x y : Int} {t u : Tok}

set_option maxRecDepth 100000 in
set_option maxHeartbeats 8000000 in
theorem floordiv_ctr (B : Below A₀ base outer h₀) (F : Fr h₀ L s.heap m) (X : (hd.heap_39 w.params).In h₀) (N : News h₀ L s.heap news) (T : TopF mean mg mb h₀) (hk : cs.kind = .function) (hroom : dp + 1 < recursionLimit) (hy : 0 < y) (hy2 : y ≤ 1000)
    (hret : ∀ t' h' tk', Fr h₀ L h' m → News h₀ L h' news → Q (.int (x.fdiv y) t') { s with heap := h', toks := tk' }) :
    wpAny (model PySem.Challenge.rw_pe0042_01.row.prog w) (ktrTop dp un gd cn cs L a ccd cl outer) (call (.ref 35) [.int x t, .int y u]) Q E s := by
  revert X; k_fill; intro X
  refine wpAny_call ?_
  k_dflt cell_enter
  k_steps
  all_goals exact hret _ _ _ (by assumption) (by assumption)

set_option maxRecDepth 100000 in
set_option maxHeartbeats 8000000 in
theorem mod_ctr (B : Below A₀ base outer h₀) (F : Fr h₀ L s.heap m) (X : (hd.heap_39 w.params).In h₀) (N : News h₀ L s.heap news) (T : TopF mean mg mb h₀) (hk : cs.kind = .function) (hroom : dp + 1 < recursionLimit) (hy : 0 < y)
    (hret : ∀ t' h' tk', Fr h₀ L h' m → News h₀ L h' news → Q (.int (x.fmod y) t') { s with heap := h', toks := tk' }) :
    wpAny (model PySem.Challenge.rw_pe0042_01.row.prog w) (ktrTop dp un gd cn cs L a ccd cl outer) (call (.ref 42) [.int x t, .int y u]) Q E s := by
  revert X; k_fill; intro X
  refine wpAny_call ?_
  k_dflt cell_enter
  k_steps
  all_goals exact hret _ _ _ (by assumption) (by assumption)

set_option maxRecDepth 100000 in
set_option maxHeartbeats 8000000 in
theorem add_ctr (B : Below A₀ base outer h₀) (F : Fr h₀ L s.heap m) (X : (hd.heap_39 w.params).In h₀) (N : News h₀ L s.heap news) (T : TopF mean mg mb h₀) (hk : cs.kind = .function) (hroom : dp + 1 < recursionLimit)
    (hret : ∀ t' h' tk', Fr h₀ L h' m → News h₀ L h' news → Q (.int (x + y) t') { s with heap := h', toks := tk' }) :
    wpAny (model PySem.Challenge.rw_pe0042_01.row.prog w) (ktrTop dp un gd cn cs L a ccd cl outer) (call (.ref 28) [.int x t, .int y u]) Q E s := by
  revert X; k_fill; intro X
  refine wpAny_call ?_
  k_dflt cell_enter
  k_steps
  all_goals exact hret _ _ _ (by assumption) (by assumption)

set_option maxRecDepth 100000 in
set_option maxHeartbeats 8000000 in
theorem iadd_ctr (B : Below A₀ base outer h₀) (F : Fr h₀ L s.heap m) (X : (hd.heap_39 w.params).In h₀) (N : News h₀ L s.heap news) (T : TopF mean mg mb h₀) (hk : cs.kind = .function) (hroom : dp + 1 < recursionLimit)
    (hret : ∀ t' h' tk', Fr h₀ L h' m → News h₀ L h' news → Q (.int (x + y) t') { s with heap := h', toks := tk' }) :
    wpAny (model PySem.Challenge.rw_pe0042_01.row.prog w) (ktrTop dp un gd cn cs L a ccd cl outer) (call (.ref 84) [.int x t, .int y u]) Q E s := by
  revert X; k_fill; intro X
  refine wpAny_call ?_
  k_dflt cell_enter
  k_steps
  all_goals exact hret _ _ _ (by assumption) (by assumption)

set_option maxRecDepth 100000 in
set_option maxHeartbeats 8000000 in
theorem isub_ctr (B : Below A₀ base outer h₀) (F : Fr h₀ L s.heap m) (X : (hd.heap_39 w.params).In h₀) (N : News h₀ L s.heap news) (T : TopF mean mg mb h₀) (hk : cs.kind = .function) (hroom : dp + 1 < recursionLimit)
    (hret : ∀ t' h' tk', Fr h₀ L h' m → News h₀ L h' news → Q (.int (x - y) t') { s with heap := h', toks := tk' }) :
    wpAny (model PySem.Challenge.rw_pe0042_01.row.prog w) (ktrTop dp un gd cn cs L a ccd cl outer) (call (.ref 91) [.int x t, .int y u]) Q E s := by
  revert X; k_fill; intro X
  refine wpAny_call ?_
  k_dflt cell_enter
  k_steps
  all_goals exact hret _ _ _ (by assumption) (by assumption)

set_option maxRecDepth 100000 in
set_option maxHeartbeats 8000000 in
theorem neg_ctr (B : Below A₀ base outer h₀) (F : Fr h₀ L s.heap m) (X : (hd.heap_39 w.params).In h₀) (N : News h₀ L s.heap news) (T : TopF mean mg mb h₀) (hk : cs.kind = .function) (hroom : dp + 1 < recursionLimit)
    (hret : ∀ t' h' tk', Fr h₀ L h' m → News h₀ L h' news → Q (.int (-x) t') { s with heap := h', toks := tk' }) :
    wpAny (model PySem.Challenge.rw_pe0042_01.row.prog w) (ktrTop dp un gd cn cs L a ccd cl outer) (call (.ref 56) [.int x t]) Q E s := by
  revert X; k_fill; intro X
  refine wpAny_call ?_
  k_dflt cell_enter
  k_steps
  all_goals exact hret _ _ _ (by assumption) (by assumption)

set_option maxRecDepth 100000 in
set_option maxHeartbeats 8000000 in
theorem mul_ctr (B : Below A₀ base outer h₀) (F : Fr h₀ L s.heap m) (X : (hd.heap_39 w.params).In h₀) (N : News h₀ L s.heap news) (T : TopF mean mg mb h₀) (hk : cs.kind = .function) (hroom : dp + 1 < recursionLimit) (hm : IntMulOk x y)
    (hret : ∀ t' h' tk', Fr h₀ L h' m → News h₀ L h' news → Q (.int (x * y) t') { s with heap := h', toks := tk' }) :
    wpAny (model PySem.Challenge.rw_pe0042_01.row.prog w) (ktrTop dp un gd cn cs L a ccd cl outer) (call (.ref 49) [.int x t, .int y u]) Q E s := by
  revert X; k_fill; intro X
  refine wpAny_call ?_
  k_dflt cell_enter
  k_steps
  all_goals exact hret _ _ _ (by assumption) (by assumption)

set_option maxRecDepth 100000 in
set_option maxHeartbeats 8000000 in
theorem getitem_ctr {l : Addr} {vs : List Value} {ns : List Int} {c : Nat} (B : Below A₀ base outer h₀) (F : Fr h₀ L s.heap m) (X : (hd.heap_39 w.params).In h₀) (N : News h₀ L s.heap news) (T : TopF mean mg mb h₀) (hk : cs.kind = .function) (hroom : dp + 1 < recursionLimit)
    (hl : (l, listOf vs.toArray c) ∈ news) (hi : IntsAre vs ns) (h0 : 0 ≤ x) (h1 : x < ns.length) (h2 : ns.length ≤ 1000)
    (hret : ∀ t' h' tk', Fr h₀ L h' m → News h₀ L h' news → Q (.int (ns.getD x.toNat 0) t') { s with heap := h', toks := tk' }) :
    wpAny (model PySem.Challenge.rw_pe0042_01.row.prog w) (ktrTop dp un gd cn cs L a ccd cl outer) (call (.ref 70) [.ref l, .int x t]) Q E s := by
  revert X; k_fill; intro X
  have N₂ : News h₀ L s.heap ((l, listOf vs.toArray c) :: news) := fun p hp => by
    rcases List.mem_cons.mp hp with rfl | hp
    · exact N _ hl
    · exact N _ hp
  clear N
  refine wpAny_call ?_
  k_dflt cell_enter
  k_steps
  all_goals exact hret _ _ _ (by assumption) (fun p hp => News.get (by assumption) (.tail _ hp) |> fun _ => (by assumption : News _ _ _ (_ :: news)) p (.tail _ hp))

set_option maxRecDepth 100000 in
set_option maxHeartbeats 8000000 in
theorem setitem_ctr {l : Addr} {vs : List Value} {ns : List Int} {c : Nat} {rest : List (Addr × Obj)} (B : Below A₀ base outer h₀) (F : Fr h₀ L s.heap m) (X : (hd.heap_39 w.params).In h₀) (N : News h₀ L s.heap ((l, listOf vs.toArray c) :: rest)) (T : TopF mean mg mb h₀) (hk : cs.kind = .function) (hroom : dp + 1 < recursionLimit)
    (hne : ∀ p ∈ rest, p.1 ≠ l) (hi : IntsAre vs ns) (h0 : 0 ≤ x) (h1 : x < ns.length) (h2 : ns.length ≤ 1000)
    (hret : ∀ h' tk', Fr h₀ L h' m → News h₀ L h' ((l, listOf (vs.set x.toNat (.int y u)).toArray c) :: rest) → IntsAre (vs.set x.toNat (.int y u)) (ns.set x.toNat y) → Q .none { s with heap := h', toks := tk' }) :
    wpAny (model PySem.Challenge.rw_pe0042_01.row.prog w) (ktrTop dp un gd cn cs L a ccd cl outer) (call (.ref 77) [.ref l, .int x t, .int y u]) Q E s := by
  revert X; k_fill; intro X
  refine wpAny_call ?_
  k_dflt cell_enter
  k_steps
  (rename Fr _ _ _ _ => F1); (rename News _ _ _ _ => N1)
  refine ksa_set F1 N1 (Upd.head hne) hi h0 h1 (by omega) ?_
  intro h' F' N' hi' hl' hs'
  k_steps
  all_goals exact hret _ _ (by assumption) (by assumption) hi'
end

end Mine
namespace Mine
theorem start_R42 : True := by
  w_top off
  exact True.intro
local macro_rules | `(tactic| walk_at "pyIter ref") => `(tactic| ((with_reducible show wpAny _ _ (pyIter (Value.ref _)) (fun it s₂ => LoopAtV _ _ _ _ _ _ _ _ _ it s₂) _ _); refine halt ?_))
local macro_rules | `(tactic| walk_at "call type:list") => `(tactic| ((with_reducible show wpAny _ _ (call (Value.type _) [Value.ref _]) _ _ _); refine halt ?_))
/-- what the machine does by one instruction -/
def iOf (w : Int) : Int := ((w.fdiv 4).fmod 6).fdiv 2
def jOf (w : Int) : Int := (((w.fdiv 4).fmod 6).fdiv 2 + 1 + (w.fdiv 4).fmod 2).fmod 3
def step (r : List Int) (w : Int) : List Int :=
  if w.fmod 4 = 0 then r.set (iOf w).toNat (r.getD (iOf w).toNat 0 + w.fdiv 24 * r.getD (jOf w).toNat 0)
  else if w.fmod 4 = 1 then r.set (iOf w).toNat (r.getD (iOf w).toNat 0 - w.fdiv 24 * r.getD (jOf w).toNat 0)
  else if w.fmod 4 = 2 then (r.set (iOf w).toNat (r.getD (jOf w).toNat 0)).set (jOf w).toNat (r.getD (iOf w).toNat 0)
  else r.set (iOf w).toNat (-(r.getD (iOf w).toNat 0))
/-- the instructions that lie whole in a tape -/
def wordsOf : Nat → List Int → List Int
  | 0, _ => []
  | n + 1, t => match parse t with
    | none => []
    | some (w, t') => w :: wordsOf n t'

theorem fd (a : Int) {b : Int} (h : 0 ≤ b) : a.fdiv b = a / b := Int.fdiv_eq_ediv_of_nonneg a h
theorem fm (a : Int) {b : Int} (h : 0 ≤ b) : a.fmod b = a % b := Int.fmod_eq_emod_of_nonneg a h
theorem iOf_nn (v : Int) : 0 ≤ ((v.fdiv 4).fmod 6).fdiv 2 := by
  rw [fd _ (by decide), fm _ (by decide), fd _ (by decide)]; omega
theorem jOf_nn (v : Int) : 0 ≤ (((v.fdiv 4).fmod 6).fdiv 2 + 1 + (v.fdiv 4).fmod 2).fmod 3 := by
  rw [fm _ (b := 3) (by decide)]; omega
theorem iOf_lt {v : Int} {ns : List Int} (h : ns.length = 3) : ((v.fdiv 4).fmod 6).fdiv 2 < ns.length := by
  rw [fd _ (by decide), fm _ (by decide), fd _ (by decide)]; omega
theorem jOf_lt {v : Int} {ns : List Int} (h : ns.length = 3) : (((v.fdiv 4).fmod 6).fdiv 2 + 1 + (v.fdiv 4).fmod 2).fmod 3 < ns.length := by
  rw [fm _ (b := 3) (by decide)]; omega
theorem len3 {ns : List Int} (h : ns.length = 3) : ns.length ≤ 1000 := by omega
theorem mulOk24 {v y : Int} (h0 : 0 ≤ v) (h1 : v < 98304) : IntMulOk (v.fdiv 24) y := by
  rw [fd _ (by decide)]
  exact IntMulOk.of_left (PySem.intBits_le_64 (by omega) (by omega))

local macro_rules | `(tactic| walk_at "call ref") => `(tactic| ((with_reducible show wpAny _ _ (call (Value.ref 35) _) _ _ _); k_dflt (refine' floordiv_ctr ?k1 ?k2 ?k3 ?k4 ?k5 ?kK ?kr ?ky ?kz ?_; (case k1 => k_asm); (case k2 => k_asm); (case k3 => k_asm); (case k4 => k_asm); (case k5 => k_asm); (case kK => first | exact rfl | assumption); (case kr => ktr_room); (case ky => decide); (case kz => decide)); intro t9 h9 tk9 F9 N9; (try dsimp only); (try k_fold)))
local macro_rules | `(tactic| walk_at "call ref") => `(tactic| ((with_reducible show wpAny _ _ (call (Value.ref 42) _) _ _ _); k_dflt (refine' mod_ctr ?k1 ?k2 ?k3 ?k4 ?k5 ?kK ?kr ?ky ?_; (case k1 => k_asm); (case k2 => k_asm); (case k3 => k_asm); (case k4 => k_asm); (case k5 => k_asm); (case kK => first | exact rfl | assumption); (case kr => ktr_room); (case ky => decide)); intro t9 h9 tk9 F9 N9; (try dsimp only); (try k_fold)))
local macro_rules | `(tactic| walk_at "call ref") => `(tactic| ((with_reducible show wpAny _ _ (call (Value.ref 28) _) _ _ _); k_dflt (refine' add_ctr ?k1 ?k2 ?k3 ?k4 ?k5 ?kK ?kr  ?_; (case k1 => k_asm); (case k2 => k_asm); (case k3 => k_asm); (case k4 => k_asm); (case k5 => k_asm); (case kK => first | exact rfl | assumption); (case kr => ktr_room)); intro t9 h9 tk9 F9 N9; (try dsimp only); (try k_fold)))
local macro_rules | `(tactic| walk_at "call ref") => `(tactic| ((with_reducible show wpAny _ _ (call (Value.ref 84) _) _ _ _); k_dflt (refine' iadd_ctr ?k1 ?k2 ?k3 ?k4 ?k5 ?kK ?kr  ?_; (case k1 => k_asm); (case k2 => k_asm); (case k3 => k_asm); (case k4 => k_asm); (case k5 => k_asm); (case kK => first | exact rfl | assumption); (case kr => ktr_room)); intro t9 h9 tk9 F9 N9; (try dsimp only); (try k_fold)))
local macro_rules | `(tactic| walk_at "call ref") => `(tactic| ((with_reducible show wpAny _ _ (call (Value.ref 91) _) _ _ _); k_dflt (refine' isub_ctr ?k1 ?k2 ?k3 ?k4 ?k5 ?kK ?kr  ?_; (case k1 => k_asm); (case k2 => k_asm); (case k3 => k_asm); (case k4 => k_asm); (case k5 => k_asm); (case kK => first | exact rfl | assumption); (case kr => ktr_room)); intro t9 h9 tk9 F9 N9; (try dsimp only); (try k_fold)))
local macro_rules | `(tactic| walk_at "call ref") => `(tactic| ((with_reducible show wpAny _ _ (call (Value.ref 56) _) _ _ _); k_dflt (refine' neg_ctr ?k1 ?k2 ?k3 ?k4 ?k5 ?kK ?kr  ?_; (case k1 => k_asm); (case k2 => k_asm); (case k3 => k_asm); (case k4 => k_asm); (case k5 => k_asm); (case kK => first | exact rfl | assumption); (case kr => ktr_room)); intro t9 h9 tk9 F9 N9; (try dsimp only); (try k_fold)))
local macro_rules | `(tactic| walk_at "call ref") => `(tactic| ((with_reducible show wpAny _ _ (call (Value.ref 49) _) _ _ _); k_dflt (refine' mul_ctr ?k1 ?k2 ?k3 ?k4 ?k5 ?kK ?kr ?km ?_; (case k1 => k_asm); (case k2 => k_asm); (case k3 => k_asm); (case k4 => k_asm); (case k5 => k_asm); (case kK => first | exact rfl | assumption); (case kr => ktr_room); (case km => exact mulOk24 (by assumption) (by assumption))); intro t9 h9 tk9 F9 N9; (try dsimp only); (try k_fold)))
local macro_rules | `(tactic| walk_at "call ref") => `(tactic| ((with_reducible show wpAny _ _ (call (Value.ref 70) _) _ _ _); k_dflt (refine' getitem_ctr ?k1 ?k2 ?k3 ?k4 ?k5 ?kK ?kr ?kl ?ki ?k0 ?kh ?kg ?_; (case k1 => k_asm); (case k2 => k_asm); (case k3 => k_asm); (case k4 => k_asm); (case k5 => k_asm); (case kK => first | exact rfl | assumption); (case kr => ktr_room); (case kl => k_mem); (case ki => with_reducible assumption); (case k0 => first | exact iOf_nn _ | exact jOf_nn _); (case kh => first | exact iOf_lt (by first | assumption | (simp only [List.length_set]; assumption)) | exact jOf_lt (by first | assumption | (simp only [List.length_set]; assumption))); (case kg => exact len3 (by first | assumption | (simp only [List.length_set]; assumption)))); intro t9 h9 tk9 F9 N9; (try dsimp only); (try k_fold)))
local macro_rules | `(tactic| walk_at "call ref") => `(tactic| ((with_reducible show wpAny _ _ (call (Value.ref 77) _) _ _ _); k_dflt (refine' setitem_ctr ?k1 ?k2 ?k3 ?k4 ?k5 ?kK ?kr ?kn ?ki ?k0 ?kh ?kg ?_; (case k1 => k_asm); (case k2 => k_asm); (case k3 => k_asm); (case k4 => k_asm); (case k5 => k_asm); (case kK => first | exact rfl | assumption); (case kr => ktr_room); (case kn => assumption); (case ki => with_reducible assumption); (case k0 => first | exact iOf_nn _ | exact jOf_nn _); (case kh => first | exact iOf_lt (by first | assumption | (simp only [List.length_set]; assumption)) | exact jOf_lt (by first | assumption | (simp only [List.length_set]; assumption))); (case kg => exact len3 (by first | assumption | (simp only [List.length_set]; assumption)))); intro h9 tk9 F9 N9 hi9; (try dsimp only); (try k_fold)))
local macro_rules | `(tactic| walk_at "call ref") => `(tactic| ((with_reducible show wpAny _ _ (call (Value.ref 21) _) _ _ _); refine halt ?_))

theorem step0 {v : Int} {r : List Int} (h : v.fmod 4 = 0) : r.set (((v.fdiv 4).fmod 6).fdiv 2).toNat (r.getD (((v.fdiv 4).fmod 6).fdiv 2).toNat 0 + v.fdiv 24 * r.getD ((((v.fdiv 4).fmod 6).fdiv 2 + 1 + (v.fdiv 4).fmod 2).fmod 3).toNat 0) = step r v := by
  unfold step; rw [if_pos h]; rfl
theorem step1 {v : Int} {r : List Int} (h : v.fmod 4 = 1) : r.set (((v.fdiv 4).fmod 6).fdiv 2).toNat (r.getD (((v.fdiv 4).fmod 6).fdiv 2).toNat 0 - v.fdiv 24 * r.getD ((((v.fdiv 4).fmod 6).fdiv 2 + 1 + (v.fdiv 4).fmod 2).fmod 3).toNat 0) = step r v := by
  unfold step; rw [if_neg (by omega), if_pos h]; rfl
theorem step2 {v : Int} {r : List Int} (h : v.fmod 4 = 2) : (r.set (((v.fdiv 4).fmod 6).fdiv 2).toNat (r.getD ((((v.fdiv 4).fmod 6).fdiv 2 + 1 + (v.fdiv 4).fmod 2).fmod 3).toNat 0)).set ((((v.fdiv 4).fmod 6).fdiv 2 + 1 + (v.fdiv 4).fmod 2).fmod 3).toNat (r.getD (((v.fdiv 4).fmod 6).fdiv 2).toNat 0) = step r v := by
  unfold step; rw [if_neg (by omega), if_neg (by omega), if_pos h]; rfl
theorem step3 {v : Int} {r : List Int} (h0 : ¬ v.fmod 4 = 0) (h1 : ¬ v.fmod 4 = 1) (h2 : ¬ v.fmod 4 = 2) : r.set (((v.fdiv 4).fmod 6).fdiv 2).toNat (-(r.getD (((v.fdiv 4).fmod 6).fdiv 2).toNat 0)) = step r v := by
  unfold step; rw [if_neg h0, if_neg h1, if_neg h2]; rfl
theorem step_length (r : List Int) (w : Int) : (step r w).length = r.length := by
  unfold step; split
  · simp
  · split
    · simp
    · split <;> simp

/-- what holds between the turns of _law_run -/
def RunJ (it lt ld lr : Addr) (tvs rvs : List Value) (c c' : Nat) (tn rn : List Int) (news : List (Addr × Obj)) (k : Nat) (m' : Str → Option Value) (nx : List (Addr × Obj)) : Prop :=
  ∃ (pos : Nat) (o' : Obj) (hvs : List Value) (hn : List Int) (ch : Nat), m' (Str.ofString "feed") = some (.ref it) ∧ m' (Str.ofString "held") = some (.ref ld) ∧ nx = (ld, listOf hvs.toArray ch) :: (it, o') :: (lt, listOf tvs.toArray c) :: (lr, listOf rvs.toArray c') :: news ∧ LiIter o' lt pos ∧ IntsAre hvs hn ∧ hn.length = 3 ∧ k ≤ pos ∧ pos ≤ tn.length ∧
      (wordsOf (tn.length + 1 - k) (tn.drop pos)).foldl step hn = (wordsOf (tn.length + 1) tn).foldl step rn ∧ (∀ x ∈ wordsOf (tn.length + 1 - k) (tn.drop pos), x < 98304)

set_option maxRecDepth 100000 in
set_option maxHeartbeats 8000000 in
theorem run_ctr {w : World} {mean : ExcName → Option Value} {mg mb : Str → Option Value} {dp un : Nat} {gd : Option (List Code)} {cn : Str} {cs : Scope} {a : Addr} {ccd : Value} {cl : List (Str × Addr)} {A₀ : Around} {h₀ : Heap} {L : Addr} {m : Str → Option Value} {s : Shared} {Q E : Value → Shared → Prop}
    {lt lr : Addr} {c c' : Nat} {tvs rvs : List Value} {tn rn : List Int} {news : List (Addr × Obj)}
    (B : Below A₀ h₀ [] h₀) (F : Fr h₀ L s.heap m) (X : (hd.heap_39 w.params).In h₀) (N : News h₀ L s.heap news) (T : TopF mean mg mb h₀) (hk : cs.kind = .function)
    (hlt : (lt, listOf tvs.toArray c) ∈ news) (hlr : (lr, listOf rvs.toArray c') ∈ news)
    (hti : IntsAre tvs tn) (hri : IntsAre rvs rn) (hlen : tn.length ≤ 1000) (hlen3 : rn.length = 3) (hsm : ∀ x ∈ wordsOf (tn.length + 1) tn, x < 98304)
    (hd : dp + 10 < recursionLimit) (hu : un + 80 < cLine)
    (hret : ∀ (D : Addr) (vs' : List Value) (cD : Nat) (h' : Heap) (tk' : Nat), Fr h₀ L h' m → News h₀ L h' ((D, listOf vs'.toArray cD) :: news) → (∀ p ∈ news, p.1 < D) → IntsAre vs' ((wordsOf (tn.length + 1) tn).foldl step rn) → Q (.ref D) { s with heap := h', toks := tk' }) :
    wpAny (model PySem.Challenge.rw_pe0042_01.row.prog w) (ktrTop dp un gd cn cs L a ccd cl []) (call (.ref 112) [.ref lt, .ref lr]) Q E s := by
  revert X; k_fill; intro X
  replace N : News h₀ L s.heap ((lt, listOf tvs.toArray c) :: (lr, listOf rvs.toArray c') :: news) := fun p hp => by
    rcases List.mem_cons.mp hp with rfl | hp
    · exact N _ hlt
    · rcases List.mem_cons.mp hp with rfl | hp
      · exact N _ hlr
      · exact N _ hp
  refine wpAny_call ?_
  k_dflt (refine' code_defT ?k1 ?k2 ?k3 ?k4 ?k5 ?kA ?kF ?kK ?k6 ?k7 ?k8 ?k9 ?kB ?_ ?c2 ?c3 ?c4 ?c5; (case kA => exact rfl); (case kF => exact rfl); (case kK => assumption); (case k1 => k_asm); (case k2 => k_asm); (case k3 => k_asm); (case k4 => k_asm); (case k5 => k_asm); (case k6 => k_is); (case k7 => k_is); (case k8 => ktr_room); (case k9 => exact BindsTo.of_eq rfl); (case c5 => decide); (case kB => exact locs rfl); (case c2 => exact rfl); (case c3 => exact rfl); (case c4 => exact rfl); k_whole; intro g' L' h' FG' F' N' B' X' T' D' hLt'; (try dsimp only); (try k_lift B'); (try k_fold))
  k_steps
  (rename Fr _ _ _ _ => F1); (rename News _ _ _ _ => N1)
  refine li_iter F1 N1 (.head _) ?_
  intro it h2 io F2 N2 hit hio
  k_steps
  unfold Halt
  (rename Fr _ _ _ _ => F3); (rename News _ _ _ _ => N3)
  refine list_copyK (items := rvs.toArray) F3 N3 (N3.isList (.tail _ (.tail _ (.head _)))) ?_ (by have := hri.length; rw [sizeLine_eq]; simp; omega)
  intro ld cd h4 F4 N4 l4
  k_steps
  unfold Halt
  (rename Fr _ _ _ _ => F5); (rename News _ _ _ _ => N5); (rename IsRange _ _ _ _ _ _ _ _ => rg)
  have htl := hti.length
  refine rangeLoop (RunJ it lt ld lr tvs rvs c c' tn rn news)
    (n := tn.length + 1) rfl rg ?_ ?_ F5 N5 ⟨0, io, rvs, rn, cd, by with_unfolding_all rfl, by with_unfolding_all rfl, rfl, hio, hri, hlen3, by omega, by omega, by simp, by simpa using hsm⟩ ?_ ?_
  · exact small_one (by omega) (by omega) (by omega) (by omega)
  · rw [show ((tn.length : Int) + 1) = ((tn.length + 1 : Nat) : Int) from by omega]
    exact rangeSize_nat _ _
  · rintro k tk m₁ nx h6 tk6 I oI hk6 ⟨pos, o', hvs, hn, ch, e1, e2, rfl, hli, hhi, h3, hkp, hpt, hfold, hsml⟩ hoff F6 N6
    replace F6 := frSays F6 [(Str.ofString "held", .ref ld), (Str.ofString "feed", .ref it)] (allc (show (if Str.ofString "held" = Str.ofString "turn" then _ else m₁ (Str.ofString "held")) = _ from (if_neg (by decide)).trans e2) (all1 (show (if Str.ofString "feed" = Str.ofString "turn" then _ else m₁ (Str.ofString "feed")) = _ from (if_neg (by decide)).trans e1)))
    clear F5 N5
    have hdr : pos ≤ tn.length := hpt
    k_steps
    unfold Halt
    (rename Fr _ _ _ _ => F7); (rename News _ _ _ _ => N7)
    have hne : ∀ p ∈ (I, oI) :: (ld, listOf hvs.toArray ch) :: (lt, listOf tvs.toArray c) :: (lr, listOf rvs.toArray c') :: news, p.1 ≠ it := by
      intro p hp
      rcases List.mem_cons.mp hp with rfl | hp
      · exact fun q => hoff _ (.tail _ (.head _)) q.symm
      · rcases List.mem_cons.mp hp with rfl | hp
        · exact Nat.ne_of_gt (l4 (it, io) (.head _))
        · exact Nat.ne_of_lt (hit p hp)
    have N8 : News g' L' h6 ((it, o') :: (I, oI) :: (ld, listOf hvs.toArray ch) :: (lt, listOf tvs.toArray c) :: (lr, listOf rvs.toArray c') :: news) := fun p hp => N7 p (by
      rcases List.mem_cons.mp hp with rfl | hp
      · exact .tail _ (.tail _ (.head _))
      · rcases List.mem_cons.mp hp with rfl | hp
        · exact .head _
        · rcases List.mem_cons.mp hp with rfl | hp
          · exact .tail _ (.head _)
          · exact .tail _ (.tail _ (.tail _ hp)))
    k_dflt (refine' parse_ctr (i := pos) (tn := tn) (lt := lt) (c := c) (tvs := tvs) ?k1 F7 ?k3 N8 ?k5 ?k6 hne hli ?k9 hti hlen ?ka ?kb ?_ ?_; (case k1 => k_asm); (case k3 => k_asm); (case k5 => k_asm); (case k6 => rfl); (case k9 => exact .tail _ (.tail _ (.head _))); (case ka => ktr_room); (case kb => ktr_units))
    · intro v tv o2 pos2 h9 tk9 hp9 hlt9 hle9 hv9 F9 N9 hi9
      have hw : wordsOf (tn.length + 1 - k) (tn.drop pos) = v :: wordsOf (tn.length + 1 - (k + 1)) (tn.drop pos2) := by
        rw [show tn.length + 1 - k = (tn.length + 1 - (k + 1)) + 1 from by omega]
        simp only [wordsOf, hp9]
      have hv98 : v < 98304 := hsml v (by rw [hw]; exact .head _)
      have N10 : News g' L' h9 ((ld, listOf hvs.toArray ch) :: (it, o2) :: (I, oI) :: (lt, listOf tvs.toArray c) :: (lr, listOf rvs.toArray c') :: news) := fun p hp => N9 p (by
        rcases List.mem_cons.mp hp with rfl | hp
        · exact .tail _ (.tail _ (.head _))
        · rcases List.mem_cons.mp hp with rfl | hp
          · exact .head _
          · rcases List.mem_cons.mp hp with rfl | hp
            · exact .tail _ (.head _)
            · exact .tail _ (.tail _ (.tail _ hp)))
      have hneL : ∀ p ∈ (it, o2) :: (I, oI) :: (lt, listOf tvs.toArray c) :: (lr, listOf rvs.toArray c') :: news, p.1 ≠ ld := by
        intro p hp
        rcases List.mem_cons.mp hp with rfl | hp
        · exact Nat.ne_of_lt (l4 (it, io) (.head _))
        · rcases List.mem_cons.mp hp with rfl | hp
          · exact fun q => hoff _ (.head _) q.symm
          · exact Nat.ne_of_lt (l4 p (.tail _ hp))
      have fin : ∀ h' m' hvs' hn', Fr g' L' h' m' → m' (Str.ofString "feed") = some (.ref it) → m' (Str.ofString "held") = some (.ref ld) → News g' L' h' ((ld, listOf hvs'.toArray ch) :: (it, o2) :: (I, oI) :: (lt, listOf tvs.toArray c) :: (lr, listOf rvs.toArray c') :: news) → IntsAre hvs' hn' → hn' = step hn v →
          ∃ nx, News g' L' h' ((I, oI) :: nx) ∧ (∀ p ∈ nx, p.1 ≠ I) ∧ RunJ it lt ld lr tvs rvs c c' tn rn news (k + 1) m' nx := by
        intro h' m' hvs' hn' _ q1 q2 N' hI' hst
        refine ⟨(ld, listOf hvs'.toArray ch) :: (it, o2) :: (lt, listOf tvs.toArray c) :: (lr, listOf rvs.toArray c') :: news, fun p hp => N' p ?_, fun p hp => ?_, pos2, o2, hvs', hn', ch, q1, q2, rfl, hi9, hI', ?_, by omega, hle9, ?_, ?_⟩
        · rcases List.mem_cons.mp hp with rfl | hp
          · exact .tail _ (.tail _ (.head _))
          · rcases List.mem_cons.mp hp with rfl | hp
            · exact .head _
            · rcases List.mem_cons.mp hp with rfl | hp
              · exact .tail _ (.head _)
              · exact .tail _ (.tail _ (.tail _ hp))
        · rcases List.mem_cons.mp hp with rfl | hp
          · exact hoff (ld, listOf hvs.toArray ch) (.head _)
          · rcases List.mem_cons.mp hp with rfl | hp
            · exact hoff (it, o') (.tail _ (.head _))
            · exact hoff p (.tail _ (.tail _ hp))
        · rw [hst, step_length, h3]
        · rw [hst, ← hfold, hw]; rfl
        · exact fun x hx => hsml x (by rw [hw]; exact .tail _ hx)
      clear N9 N8 N7 F7
      k_steps
      all_goals ((rename Fr _ _ _ _ => Fe); (rename News _ _ _ _ => Ne); (rename IntsAre _ _ => Ie))
      all_goals (obtain ⟨nx, z1, z2, z3⟩ := fin _ _ _ _ Fe (by with_unfolding_all rfl) (by with_unfolding_all rfl) Ne Ie (by first | exact step0 (by assumption) | exact step1 (by assumption) | exact step2 (by assumption) | exact step3 (by assumption) (by assumption) (by assumption)))
      all_goals exact ⟨_, _, _, nx, rfl, Fe, z1, z2, z3⟩
    · intro g2 e t h9 tk9 hp9 F9 R9 U9
      have hw : wordsOf (tn.length + 1 - k) (tn.drop pos) = [] := by
        rw [show tn.length + 1 - k = (tn.length + 1 - (k + 1)) + 1 from by omega]
        simp only [wordsOf, hp9]
      rw [hw] at hfold
      refine caught_S0 (T' := "StopIteration") R9 F9 B' U9 X T D' KtsTurn.refl (by k_dflt k_is) (by decide +kernel) (by decide) owsi_raise.isExc (by rw [isSubtype_type]; kernel_rfl) owsi_facts.sub ?_
      intro h10 g10 news10 T10 F10 N10 _ N11 B10 X10 Tp10 D10
      k_steps
      have N12 : News g10 L' h10 ((ld, listOf hvs.toArray ch) :: news) := fun p hp => N11 p (by
        rcases List.mem_cons.mp hp with rfl | hp
        · exact .tail _ (.head _)
        · exact .tail _ (.tail _ (.tail _ (.tail _ hp))))
      have hI : IntsAre hvs ((wordsOf (tn.length + 1) tn).foldl step rn) := by rw [← hfold]; exact hhi
      dsimp only [TurnEnd]
      (try k_unfold)
      (try dsimp only)
      refine leaveS0_ F10 N12 T10 (fun Fq Nq => ?_)
      exact hret ld hvs ch _ _ Fq Nq (fun p hp => l4 p (.tail _ (.tail _ (.tail _ hp)))) hI
  · rintro m₁ nx h6 tk6 ⟨pos, o', hvs, hn, ch, e1, e2, rfl, hli, hhi, h3, hkp, hpt, hfold, hsml⟩
    exact absurd hpt (by omega)

end Mine
namespace Mine
theorem start_O42 : True := by
  w_top off
  exact True.intro
local macro_rules | `(tactic| walk_at "pyIter ref") => `(tactic| ((with_reducible show wpAny _ _ (pyIter (Value.ref _)) (fun it s₂ => LoopAtV _ _ _ _ _ _ _ _ _ it s₂) _ _); refine halt ?_))
local macro_rules | `(tactic| walk_at "exec While Compare cons nil") => `(tactic| ((with_reducible show wpAny _ _ (exec (Stmt.While _ _ _ _) _) _ _ _); refine halt ?_))

def digGo : Nat → Int → List Int → List Int
  | 0, _, f => f
  | n + 1, r, f => if 64 ≤ r then digGo n (r.fdiv 64) ((64 + (r.fdiv 64).fmod 64) :: f) else f
def figs (w : Int) : List Int := digGo 2 w [w.fmod 64]
def mark : List Int → List Int
  | [] => []
  | a :: r => (128 + a) :: r
def octOne (k : Nat) (w : Int) : List Int := mark (if k % 2 = 1 then 64 :: figs w else figs w)
def octsN (ws : List Int) : Nat → List Int
  | 0 => []
  | k + 1 => octsN ws k ++ octOne k (ws.getD k 0)
/-- the program in octets -/
def octets (ws : List Int) : List Int := octsN ws ws.length

theorem digGo_len : ∀ (n : Nat) (r : Int) (f : List Int), f.length ≤ (digGo n r f).length ∧ (digGo n r f).length ≤ f.length + n
  | 0, _, _ => by simp [digGo]
  | n + 1, r, f => by
    unfold digGo
    split
    · have := digGo_len n (r.fdiv 64) ((64 + (r.fdiv 64).fmod 64) :: f)
      simp only [List.length_cons] at this
      omega
    · omega
theorem figs_len (w : Int) : 1 ≤ (figs w).length ∧ (figs w).length ≤ 3 := by
  have := digGo_len 2 w [w.fmod 64]
  simpa [figs] using this
theorem mark_len (f : List Int) : (mark f).length = f.length := by cases f <;> simp [mark]
theorem octOne_len (k : Nat) (w : Int) : 1 ≤ (octOne k w).length ∧ (octOne k w).length ≤ 4 := by
  have := figs_len w
  unfold octOne
  rw [mark_len]
  split
  · simp only [List.length_cons]; omega
  · omega
theorem octsN_len (ws : List Int) : ∀ k, (octsN ws k).length ≤ 4 * k
  | 0 => by simp [octsN]
  | k + 1 => by
    have h1 := octsN_len ws k
    have h2 := octOne_len k (ws.getD k 0)
    simp only [octsN, List.length_append]
    omega

/-- what holds between the turns of _law_octets' loop -/
def OctJ (lw : Addr) (wvs : List Value) (c : Nat) (wn : List Int) (news : List (Addr × Obj)) (k : Nat) (m' : Str → Option Value) (nx : List (Addr × Obj)) : Prop :=
  ∃ (tl : Addr) (tvs : List Value) (ct : Nat), m' (Str.ofString "tape") = some (.ref tl) ∧ m' (Str.ofString "words") = some (.ref lw) ∧ nx = (tl, listOf tvs.toArray ct) :: (lw, listOf wvs.toArray c) :: news ∧ IntsAre tvs (octsN wn k) ∧ (∀ p ∈ (lw, listOf wvs.toArray c) :: news, p.1 < tl)

/-- what holds between the turns of its inner while -/
def OctW (lw tl I : Addr) (wvs tvs : List Value) (c ct : Nat) (oI : Obj) (k : Nat) (tk : Tok) (wk : Int) (news : List (Addr × Obj)) (n : Nat) (m' : Str → Option Value) (nx : List (Addr × Obj)) : Prop :=
  ∃ (fl : Addr) (fvs : List Value) (cf : Nat) (r : Int) (tr : Tok) (f : List Int), m' (Str.ofString "rest") = some (.int r tr) ∧ m' (Str.ofString "figures") = some (.ref fl) ∧ m' (Str.ofString "tape") = some (.ref tl) ∧ m' (Str.ofString "words") = some (.ref lw) ∧ m' (Str.ofString "k") = some (.int k tk) ∧
    nx = (fl, listOf fvs.toArray cf) :: (I, oI) :: (tl, listOf tvs.toArray ct) :: (lw, listOf wvs.toArray c) :: news ∧ IntsAre fvs f ∧ f.length + n ≤ 3 ∧ 1 ≤ f.length ∧ 0 ≤ r ∧ r < 64 ^ (n + 1) ∧ digGo n r f = figs wk ∧ fl ≠ I
theorem dig_end {n : Nat} {r : Int} {f : List Int} {g : List Int} (h : digGo n r f = g) (hr : ¬ 64 ≤ r) : f = g := by
  cases n with
  | zero => exact h
  | succ n => unfold digGo at h; rw [if_neg hr] at h; exact h
theorem dig_on {n : Nat} {r : Int} {f : List Int} {g : List Int} (h : digGo n r f = g) (hr : 64 ≤ r) (h0 : 0 ≤ r) (hb : r < 64 ^ (n + 1)) :
    ∃ n', n = n' + 1 ∧ digGo n' (r.fdiv 64) ((64 + (r.fdiv 64).fmod 64) :: f) = g ∧ 0 ≤ r.fdiv 64 ∧ r.fdiv 64 < 64 ^ (n' + 1) := by
  cases n with
  | zero => simp at hb; omega
  | succ n =>
    unfold digGo at h
    rw [if_pos hr] at h
    refine ⟨n, rfl, h, ?_, ?_⟩
    · rw [fd _ (by decide)]; omega
    · rw [fd _ (by decide)]
      have e : (64 : Int) ^ (n + 1 + 1) = 64 ^ (n + 1) * 64 := by rw [Int.pow_succ]
      rw [e] at hb
      omega

theorem oct_odd {wn : List Int} {k : Nat} {f : List Int} (hf : f = figs (wn.getD k 0)) (hk : ((k : Int)).fmod 2 = 1) : octsN wn k ++ [128 + (64 :: f).getD (Int.toNat 0) 0] ++ List.drop 1 ([64] ++ f) = octsN wn (k + 1) := by
  have hk2 : k % 2 = 1 := by rw [fm _ (by decide)] at hk; omega
  simp only [octsN, octOne, if_pos hk2, mark, hf, List.append_assoc]
  rfl
theorem oct_even {wn : List Int} {k : Nat} {f : List Int} (hf : f = figs (wn.getD k 0)) (h1 : 1 ≤ f.length) (hk : ¬ ((k : Int)).fmod 2 = 1) : octsN wn k ++ [128 + f.getD (Int.toNat 0) 0] ++ List.drop 1 f = octsN wn (k + 1) := by
  have hk2 : ¬ k % 2 = 1 := by rw [fm _ (by decide)] at hk; omega
  simp only [octsN, octOne, if_neg hk2, ← hf, List.append_assoc]
  cases f with
  | nil => simp at h1
  | cons a r => rfl

set_option maxRecDepth 100000 in
set_option maxHeartbeats 8000000 in
theorem octets_ctr {w : World} {mean : ExcName → Option Value} {mg mb : Str → Option Value} {dp un : Nat} {gd : Option (List Code)} {cn : Str} {cs : Scope} {a : Addr} {ccd : Value} {cl : List (Str × Addr)} {outer : List Env} {A₀ : Around} {base h₀ : Heap} {L : Addr} {m : Str → Option Value} {s : Shared} {Q E : Value → Shared → Prop}
    {lw : Addr} {c : Nat} {wvs : List Value} {wn : List Int} {news : List (Addr × Obj)}
    (B : Below A₀ base outer h₀) (F : Fr h₀ L s.heap m) (X : (hd.heap_39 w.params).In h₀) (N : News h₀ L s.heap news) (T : TopF mean mg mb h₀) (hk : cs.kind = .function)
    (hlw : (lw, listOf wvs.toArray c) ∈ news) (hwi : IntsAre wvs wn) (hlen : wn.length ≤ 100) (hb : ∀ x ∈ wn, 0 ≤ x ∧ x < 262144)
    (hd : dp + 10 < recursionLimit) (hu : un + 80 < cLine)
    (hret : ∀ (D : Addr) (vs' : List Value) (cD : Nat) (h' : Heap) (tk' : Nat), Fr h₀ L h' m → News h₀ L h' ((D, listOf vs'.toArray cD) :: news) → (∀ p ∈ news, p.1 < D) → IntsAre vs' (octets wn) → Q (.ref D) { s with heap := h', toks := tk' }) :
    wpAny (model PySem.Challenge.rw_pe0042_01.row.prog w) (ktrTop dp un gd cn cs L a ccd cl outer) (call (.ref 105) [.ref lw]) Q E s := by
  revert X; k_fill; intro X
  replace N : News h₀ L s.heap ((lw, listOf wvs.toArray c) :: news) := fun p hp => by
    rcases List.mem_cons.mp hp with rfl | hp
    · exact N _ hlw
    · exact N _ hp
  refine wpAny_call ?_
  k_dflt cell_enter
  k_steps
  unfold Halt
  (rename Fr _ _ _ _ => F5); (rename News _ _ _ _ => N5); (rename IsRange _ _ _ _ _ _ _ _ => rg)
  rename lw < _ ∧ AllLt _ news => l1
  have hwl := hwi.length
  refine rangeLoop (OctJ lw wvs c wn news) (n := wn.length) rfl rg (small_one (by omega) (by omega) (by omega) (by omega)) ?_ F5 N5 ⟨_, [], 0, by with_unfolding_all rfl, by with_unfolding_all rfl, rfl, .nil, ?_⟩ ?_ ?_
  · rw [rangeSize_nat]; omega
  · intro p hp
    rcases List.mem_cons.mp hp with rfl | hp
    · exact l1.1
    · exact ktn_ltOf l1.2 p hp
  · rintro k tkk m₁ nx h6 tk6 I oI hk6 ⟨tl, tvs, ct, e1, e2, rfl, hti, htl⟩ hoff F6 N6
    simp only [Int.zero_add] at F6
    replace F6 := frSays F6 [(Str.ofString "tape", .ref tl), (Str.ofString "words", .ref lw)] (allc (show (if Str.ofString "tape" = Str.ofString "k" then _ else m₁ (Str.ofString "tape")) = _ from (if_neg (by decide)).trans e1) (all1 (show (if Str.ofString "words" = Str.ofString "k" then _ else m₁ (Str.ofString "words")) = _ from (if_neg (by decide)).trans e2)))
    clear F5 N5 rg
    have hkw : wn.getD ((k : Int)).toNat 0 = wn.getD k 0 := by simp
    have hbk : 0 ≤ wn.getD k 0 ∧ wn.getD k 0 < 262144 := by
      rw [List.getD_eq_getElem?_getD, List.getElem?_eq_getElem hk6]
      exact hb _ (List.getElem_mem hk6)
    have htn : (octsN wn k).length ≤ 400 := by have := octsN_len wn k; omega
    k_steps
    unfold Halt
    (rename Fr _ _ _ _ => F7); (rename News _ _ _ _ => N7)
    rename I < _ ∧ _ => l7
    simp only [hkw] at F7 N7
    refine While_inv2 (OctW lw tl I wvs tvs c ct oI k tkk (wn.getD k 0) news) (n₀ := 2) F7 N7 ⟨_, [_], 0, _, _, [(wn.getD k 0).fmod 64], by with_unfolding_all rfl, by with_unfolding_all rfl, by with_unfolding_all rfl, by with_unfolding_all rfl, by with_unfolding_all rfl, rfl, .cons _ _ .nil, by simp, by simp, hbk.1, by simpa using hbk.2, rfl, Nat.ne_of_gt l7.1⟩ ?_
    rintro n m2 nx2 h8 tk8 F8 N8 ⟨fl, fvs, cf, r, tr, f, q1, q2, q3, q4, q5, rfl, hfi, hfn, hf1, hr0, hrb, hdig, hfI⟩
    replace F8 := frSays F8 [(Str.ofString "figures", .ref fl), (Str.ofString "rest", .int r tr), (Str.ofString "tape", .ref tl), (Str.ofString "words", .ref lw), (Str.ofString "k", .int k tkk)] (allc q2 (allc q1 (allc q3 (allc q4 (all1 q5)))))
    clear F7 N7
    k_steps
    · (rename Fr _ _ _ _ => F9); (rename News _ _ _ _ => N9); (rename IntsAre _ _ => I9)
      rename _ < _ ∧ _ => l9
      obtain ⟨n', rfl, hd', hn0, hnb⟩ := dig_on hdig (by omega) hr0 hrb
      refine ⟨_, _, _, _, n', rfl, F9, ?_, by omega, ⟨_, _, 0, r.fdiv 64, _, (64 + (r.fdiv 64).fmod 64) :: f, by with_unfolding_all rfl, by with_unfolding_all rfl, by with_unfolding_all rfl, by with_unfolding_all rfl, by with_unfolding_all rfl, rfl, I9, by simp only [List.length_cons]; omega, by simp, hn0, hnb, hd', Nat.ne_of_gt l9.2.2.1⟩⟩
      intro p hp
      refine N9 p ?_
      rcases List.mem_cons.mp hp with rfl | hp
      · exact .head _
      · exact .tail _ (.tail _ (.tail _ hp))
    · (rename Fr _ _ _ _ => F9); (rename News _ _ _ _ => N9); (rename IntsAre _ _ => I9)
      rename _ < _ ∧ _ => l9
      rw [oct_odd (dig_end hdig (by omega)) (by assumption)] at I9
      refine ⟨_, _, _, _, rfl, F9, ?_, ?_, ⟨_, _, 0, by with_unfolding_all rfl, by with_unfolding_all rfl, rfl, I9, fun p hp => Nat.lt_trans (htl p hp) l9.2.2.2.2.2.2.2.1⟩⟩
      · intro p hp
        refine N9 p ?_
        rcases List.mem_cons.mp hp with rfl | hp
        · exact .tail _ (.tail _ (.tail _ (.tail _ (.tail _ (.tail _ (.tail _ (.head _)))))))
        · rcases List.mem_cons.mp hp with rfl | hp
          · exact .head _
          · exact .tail _ (.tail _ (.tail _ (.tail _ (.tail _ (.tail _ (.tail _ (.tail _ (.tail _ hp))))))))
      · intro p hp
        rcases List.mem_cons.mp hp with rfl | hp
        · exact Nat.ne_of_gt l9.2.2.2.2.2.2.1
        · exact hoff p (.tail _ hp)
    · (rename Fr _ _ _ _ => F9); (rename News _ _ _ _ => N9); (rename IntsAre _ _ => I9)
      rename _ < _ ∧ _ => l9
      rw [oct_even (dig_end hdig (by omega)) hf1 (by assumption)] at I9
      refine ⟨_, _, _, _, rfl, F9, ?_, ?_, ⟨_, _, 0, by with_unfolding_all rfl, by with_unfolding_all rfl, rfl, I9, fun p hp => Nat.lt_trans (htl p hp) l9.2.2.2.2.2.1⟩⟩
      · intro p hp
        refine N9 p ?_
        rcases List.mem_cons.mp hp with rfl | hp
        · exact .tail _ (.tail _ (.tail _ (.tail _ (.tail _ (.head _)))))
        · rcases List.mem_cons.mp hp with rfl | hp
          · exact .head _
          · exact .tail _ (.tail _ (.tail _ (.tail _ (.tail _ (.tail _ (.tail _ hp))))))
      · intro p hp
        rcases List.mem_cons.mp hp with rfl | hp
        · exact Nat.ne_of_gt l9.2.2.2.2.1
        · exact hoff p (.tail _ hp)
  · rintro m₁ nx h6 tk6 ⟨tl, tvs, ct, e1, e2, rfl, hti, htl⟩ F6 N6
    replace F6 := frSays F6 [(Str.ofString "tape", .ref tl)] (all1 e1)
    clear F5 N5 rg
    k_steps
    (rename News _ _ _ _ => N7)
    exact hret _ _ _ _ _ (by assumption) (fun p hp => N7 p (by
      rcases List.mem_cons.mp hp with rfl | hp
      · exact .head _
      · exact .tail _ (.tail _ hp))) (fun p hp => htl p (.tail _ hp)) hti

end Mine
namespace Mine
theorem start_T42 : True := by
  w_top off
  exact True.intro
local macro_rules | `(tactic| walk_at "none such") => `(tactic| skip)

theorem ints3 {vs : List Value} {x y z : Int} (h : IntsAre vs [x, y, z]) : ∃ t u v, vs = [.int x t, .int y u, .int z v] := by
  cases h with | cons _ t h => cases h with | cons _ u h => cases h with | cons _ v h => cases h; exact ⟨t, u, v, rfl⟩

theorem off1_mem {D : Addr} : ∀ {l : List (Addr × Obj)}, LCg.Off1 D l → ∀ p ∈ l, p.1 ≠ D
  | [], _, _, hp => nomatch hp
  | q :: r, h, p, hp => by
    rcases List.mem_cons.mp hp with rfl | hp
    · exact h.1
    · exact off1_mem h.2 p hp
theorem newsPick6 {h₀ h : Heap} {L : Addr} {q p1 p2 p3 p4 p5 p6 : Addr × Obj} {news : List (Addr × Obj)} (N : News h₀ L h (q :: p1 :: p2 :: p3 :: p4 :: p5 :: p6 :: news)) : News h₀ L h (q :: news) := fun p hp => N p (by
  rcases List.mem_cons.mp hp with rfl | hp
  · exact .head _
  · exact .tail _ (.tail _ (.tail _ (.tail _ (.tail _ (.tail _ (.tail _ hp)))))))
theorem mulR {a b : Int} (h : b.natAbs < 2 ^ 63) : IntMulOk a b := IntMulOk.of_right (PySem.intBits_le_64 (by omega) (by omega))
local macro_rules | `(tactic| walk_at "binaryOp Mult int int") => `(tactic| (refine PyProof.Rows.mul_int ?_ (mulR (by assumption))))
local macro_rules | `(tactic| walk_at "CompEnd") => `(tactic| (refine LCg.CompEnd.intro (by assumption) (by assumption) _ (fun p hp => hp) (by (try simp only [LCg.Off3, and_true]); assumption) (by lcg_src) ?_))
set_option maxRecDepth 100000 in
set_option maxHeartbeats 8000000 in
theorem times_ctr {w : World} {mean : ExcName → Option Value} {mg mb : Str → Option Value} {dp un : Nat} {gd : Option (List Code)} {cn : Str} {cs : Scope} {a : Addr} {ccd : Value} {cl : List (Str × Addr)} {outer : List Env} {A₀ : Around} {base h₀ : Heap} {L : Addr} {m : Str → Option Value} {s : Shared} {Q E : Value → Shared → Prop}
    {lt r0 r1 r2 lr : Addr} {ct c0 c1 c2 cr : Nat} {v0 v1 v2 rv : List Value} {a0 b0 d0 a1 b1 d1 a2 b2 d2 x y z : Int} {news : List (Addr × Obj)}
    (B : Below A₀ base outer h₀) (F : Fr h₀ L s.heap m) (X : (hd.heap_39 w.params).In h₀) (N : News h₀ L s.heap news) (T : TopF mean mg mb h₀) (hk : cs.kind = .function)
    (hlt : (lt, listOf #[.ref r0, .ref r1, .ref r2] ct) ∈ news) (h0 : (r0, listOf v0.toArray c0) ∈ news) (h1 : (r1, listOf v1.toArray c1) ∈ news) (h2 : (r2, listOf v2.toArray c2) ∈ news) (hlr : (lr, listOf rv.toArray cr) ∈ news)
    (i0 : IntsAre v0 [a0, b0, d0]) (i1 : IntsAre v1 [a1, b1, d1]) (i2 : IntsAre v2 [a2, b2, d2]) (ir : IntsAre rv [x, y, z])
    (hx : x.natAbs < 2 ^ 63) (hy : y.natAbs < 2 ^ 63) (hz : z.natAbs < 2 ^ 63)
    (hd : dp + 10 < recursionLimit) (hu : un + 80 < cLine)
    (hret : ∀ (D : Addr) (vs' : List Value) (cD : Nat) (h' : Heap) (tk' : Nat), Fr h₀ L h' m → News h₀ L h' ((D, listOf vs'.toArray cD) :: news) → (∀ p ∈ news, p.1 ≠ D) → IntsAre vs' [a0 * x + b0 * y + d0 * z, a1 * x + b1 * y + d1 * z, a2 * x + b2 * y + d2 * z] → Q (.ref D) { s with heap := h', toks := tk' }) :
    wpAny (model PySem.Challenge.rw_pe0042_01.row.prog w) (ktrTop dp un gd cn cs L a ccd cl outer) (call (.ref 122) [.ref lt, .ref lr]) Q E s := by
  revert X; k_fill; intro X
  obtain ⟨_, _, _, rfl⟩ := ints3 i0
  obtain ⟨_, _, _, rfl⟩ := ints3 i1
  obtain ⟨_, _, _, rfl⟩ := ints3 i2
  obtain ⟨_, _, _, rfl⟩ := ints3 ir
  have N1 := N
  replace N : News h₀ L s.heap ((lt, listOf #[.ref r0, .ref r1, .ref r2] ct) :: (r0, listOf #[.int a0 _, .int b0 _, .int d0 _] c0) :: (r1, listOf #[.int a1 _, .int b1 _, .int d1 _] c1) :: (r2, listOf #[.int a2 _, .int b2 _, .int d2 _] c2) :: (lr, listOf #[.int x _, .int y _, .int z _] cr) :: news) := fun p hp => by
    rcases List.mem_cons.mp hp with rfl | hp
    · exact N1 _ hlt
    rcases List.mem_cons.mp hp with rfl | hp
    · exact N1 _ h0
    rcases List.mem_cons.mp hp with rfl | hp
    · exact N1 _ h1
    rcases List.mem_cons.mp hp with rfl | hp
    · exact N1 _ h2
    rcases List.mem_cons.mp hp with rfl | hp
    · exact N1 _ hlr
    · exact N1 _ hp
  clear N1 i0 i1 i2 ir
  refine wpAny_call ?_
  k_dflt (refine' code_defC ?k1 ?k2 ?k3 ?k4 ?k5 ?kA ?kF ?kK ?k6 ?k7 ?k8 ?k9 ?kB ?kD ?_ ?c2 ?c3 ?c4; (case kA => exact rfl); (case kF => exact rfl); (case kK => assumption); (case k1 => k_asm); (case k2 => k_asm); (case k3 => k_asm); (case k4 => k_asm); (case k5 => k_asm); (case k6 => k_is); (case k7 => k_is); (case k8 => ktr_room); (case k9 => exact BindsTo.of_eq rfl); (case kB => exact rfl); (case kD => decide +kernel); (case c2 => exact rfl); (case c3 => exact rfl); (case c4 => exact rfl); k_whole; intro g' L' h' tk' cells' FG' F' N' Y' B' X' T' l1; (try k_lt l1); k_cells Y'; (try simp only [List.cons_append, List.nil_append] at N'); (try dsimp only); (try k_lift B'); (try k_fold))
  k_steps
  (rename Fr _ _ _ _ => F9); (rename News _ _ _ _ => N9)
  rename _ ≠ _ ∧ _ => o9
  exact hret _ _ _ _ _ F9 (newsPick6 N9) (fun p hp => off1_mem o9.2.2.2.2.2.2 p hp) (.cons _ _ (.cons _ _ (.cons _ _ .nil)))

end Mine
namespace Mine
theorem start_G42 : True := by
  w_top off
  exact True.intro
local macro_rules | `(tactic| walk_at "pyIter ref") => `(tactic| ((with_reducible show wpAny _ _ (pyIter (Value.ref _)) (fun it s₂ => LoopAtV _ _ _ _ _ _ _ _ _ it s₂) _ _); refine halt ?_))

section
variable {prog : Program} {w : World} {A : Around} {E : Value → Shared → Prop} {s : Shared} {h₀ : Heap} {L l r : Addr} {m : Str → Option Value} {news news' : List (Addr × Obj)} {rs : List Addr} {c : Nat} {k : Int} {t u : Tok}
theorem item_refs {value slice : PySem.Expr} {Q : Value → Shared → Prop} (N : News h₀ L s.heap news) (hm : (l, listOf (rs.map Value.ref).toArray c) ∈ news) (h0 : 0 ≤ k) (hfit : k < 2 ^ 63) (h1 : k.toNat < rs.length) (hr : rs.getD k.toNat 0 = r) (h : Q (.ref r) s)
    (hs : subscripted slice false (.ref l) (.int k u) = operate [.ref l, .int k u] (getItem (.ref l) (.int k u)) := by with_unfolding_all rfl) :
    wpAny (model prog w) A (subscriptTail value slice (.ref l) (.int k u)) Q E s :=
  have hl : s.heap.IsList l (rs.map Value.ref).toArray := ⟨_, (N _ hm).1, rfl, c, rfl⟩
  tail_any hl.typeIs slot_list_getitem.lookup (wpAny_getItem_list hl h0 hfit (by
    rw [← hr]
    simp [List.getD_eq_getElem?_getD, h1]) h) hs
theorem set_refs {Q : Unit → Shared → Prop} (F : Fr h₀ L s.heap m) (N : News h₀ L s.heap news) (U : Upd l (listOf (rs.map Value.ref).toArray c) (listOf ((rs.set k.toNat r).map Value.ref).toArray c) news news') (h0 : 0 ≤ k) (hfit : k < 2 ^ 63) (h1 : k.toNat < rs.length)
    (h : ∀ h', Fr h₀ L h' m → News h₀ L h' news' → Q () { s with heap := h' }) :
    wpAny (model prog w) A (setItem (.ref l) (.int k t) (.ref r)) Q E s := by
  obtain ⟨pre, post, rfl, rfl, a, b⟩ := U.split
  have z := N (l, listOf (rs.map Value.ref).toArray c) (List.mem_append.mpr (.inr (.head _)))
  refine ki_setAt z.1 h0 hfit (by simp; omega) (h _ (F.change (Heap.SameBut.update ..) z.2.1 z.2.2) (ki_turn _ N a b ?_ ?_))
  · show (rs.map Value.ref).toArray.setIfInBounds k.toNat (.ref r) = ((rs.set k.toNat r).map Value.ref).toArray
    apply Array.toList_inj.mp
    simp [List.map_set]
  · simp
end

structure Stop1 : Prop where
  mk :: (one : True)
structure Stop2 : Prop where
  mk :: (one : True)
theorem iOf_fit (v : Int) : ((v.fdiv 4).fmod 6).fdiv 2 < 2 ^ 63 := by
  rw [fd _ (by decide), fm _ (by decide), fd _ (by decide)]; omega
theorem jOf_fit (v : Int) : (((v.fdiv 4).fmod 6).fdiv 2 + 1 + (v.fdiv 4).fmod 2).fmod 3 < 2 ^ 63 := by
  rw [fm _ (b := 3) (by decide)]; omega
theorem iOf_lt3 {v : Int} {rs : List Addr} (h : rs.length = 3) : (((v.fdiv 4).fmod 6).fdiv 2).toNat < rs.length := by
  rw [fd _ (by decide), fm _ (by decide), fd _ (by decide)]; omega
theorem jOf_lt3 {v : Int} {rs : List Addr} (h : rs.length = 3) : ((((v.fdiv 4).fmod 6).fdiv 2 + 1 + (v.fdiv 4).fmod 2).fmod 3).toNat < rs.length := by
  rw [fm _ (b := 3) (by decide)]; omega
theorem iOf_3 (v : Int) : (iOf v).toNat < 3 := by
  unfold iOf; rw [fd _ (by decide), fm _ (by decide), fd _ (by decide)]; omega
theorem jOf_3 (v : Int) : (jOf v).toNat < 3 := by
  unfold jOf; rw [fm _ (b := 3) (by decide)]; omega

local macro_rules | `(tactic| walk_at "eval ListComp") => `(tactic| (k_here; lcg_look; lcg_calm; k_dflt (refine LCg.ListComp_U (F₀ := by k_asm) (by rfl) (by decide) (by rfl) (by decide) (by rfl) ?_); k_dflt lcg_toSrc))
local macro_rules | `(tactic| walk_at "CompSrc") => `(tactic| (k_here; k_dflt (first
  | (refine LCg.CompSrc.ledger (by rfl) (by k_asm) (by k_asm) (by k_mem) (by exact Nat.le_of_ble_eq_true rfl) ?_; intro g'; lcg_lit)
  | (refine LCg.CompSrc.range (by rfl) (by k_asm) (by k_asm) (by assumption) (by decide) (by rfl) (by exact Nat.le_of_ble_eq_true rfl) ?_; intro g'; lcg_lit))))
local macro_rules | `(tactic| walk_at "exec If") => `(tactic| refine wpAny_If ?_)
local macro_rules | `(tactic| walk_at "exec If") => `(tactic| ((with_reducible rename Stop2 => z1); refine halt ?_))
local macro_rules | `(tactic| k_all) => `(tactic| assumption)
local macro_rules | `(tactic| walk_at "CompEnd") => `(tactic| (refine LCg.CompEnd.intro (by assumption) (by assumption) _ (fun p hp => hp) (by (try simp only [LCg.Off3, and_true]); assumption) (by lcg_src) ?_))
local macro_rules | `(tactic| walk_at "binaryOp Mult int int") => `(tactic| (refine PyProof.Rows.mul_int ?_ (mulOk24 (by assumption) (by assumption))))
local macro_rules | `(tactic| walk_at "subscriptTail Name Name ref int") => `(tactic| (k_here; (with_reducible show wpAny _ _ (subscriptTail (Expr.Name (Str.ofString "table") _) _ (Value.ref _) (Value.int _ _)) _ _ _); k_dflt (refine' item_refs ?kN ?km ?k0 ?kf ?k1 ?kr ?_; (case kN => k_asm); (case km => k_mem); (case kr => with_reducible assumption); (case k0 => first | exact iOf_nn _ | exact jOf_nn _); (case kf => first | exact iOf_fit _ | exact jOf_fit _); (case k1 => first | exact iOf_lt3 (by assumption) | exact jOf_lt3 (by assumption)); k_whole)))
local macro_rules | `(tactic| walk_at "subscriptTail Name Name ref int") => `(tactic| ((with_reducible rename Stop1 => z1); refine halt ?_))
local macro_rules | `(tactic| walk_at "setItem ref int ref") => `(tactic| refine halt ?_)

def rowAdd (c : Int) (u o : List Int) : List Int := [u.getD 0 0 + c * o.getD 0 0, u.getD 1 0 + c * o.getD 1 0, u.getD 2 0 + c * o.getD 2 0]
def rowSub (c : Int) (u o : List Int) : List Int := [u.getD 0 0 - c * o.getD 0 0, u.getD 1 0 - c * o.getD 1 0, u.getD 2 0 - c * o.getD 2 0]
def rowNeg (u : List Int) : List Int := [-(u.getD 0 0), -(u.getD 1 0), -(u.getD 2 0)]
/-- one instruction upon the rows of a table -/
def stepT (T : List (List Int)) (w : Int) : List (List Int) :=
  if w.fmod 4 = 0 then T.set (iOf w).toNat (rowAdd (w.fdiv 24) (T.getD (iOf w).toNat []) (T.getD (jOf w).toNat []))
  else if w.fmod 4 = 1 then T.set (iOf w).toNat (rowSub (w.fdiv 24) (T.getD (iOf w).toNat []) (T.getD (jOf w).toNat []))
  else if w.fmod 4 = 2 then (T.set (iOf w).toNat (T.getD (jOf w).toNat [])).set (jOf w).toNat (T.getD (iOf w).toNat [])
  else T.set (iOf w).toNat (rowNeg (T.getD (iOf w).toNat []))
def tab0 : List (List Int) := [[1, 0, 0], [0, 1, 0], [0, 0, 1]]

/-- the ledger bears the table's rows -/
def RowsIn (nw news : List (Addr × Obj)) (rs : List Addr) (ts : List (List Int)) : Prop :=
  ∀ k, k < 3 → ∃ vs c x y z, (rs.getD k 0, listOf vs.toArray c) ∈ nw ∧ IntsAre vs [x, y, z] ∧ ts.getD k [] = [x, y, z] ∧ ∀ p ∈ news, p.1 ≠ rs.getD k 0
def TabJ (L' lt lw : Addr) (wvs : List Value) (c : Nat) (wn : List Int) (news : List (Addr × Obj)) (k : Nat) (m' : Str → Option Value) (nx : List (Addr × Obj)) : Prop :=
  ∃ (rs : List Addr) (ts : List (List Int)) (o1 o2 o3 : Obj) (x1 x2 x3 : Option Value) (ct : Nat) (nw : List (Addr × Obj)), m' (Str.ofString "table") = some (.ref lt) ∧
    nx = (lt, listOf (rs.map Value.ref).toArray ct) :: (L' + 1 + 1 + 1, o1) :: (L' + 1 + 1, o2) :: (L' + 1, o3) :: (lw, listOf wvs.toArray c) :: nw ∧ o1.data = .cell x1 ∧ o2.data = .cell x2 ∧ o3.data = .cell x3 ∧ rs.length = 3 ∧ ts.length = 3 ∧ RowsIn nw news rs ts ∧
    (∀ p ∈ nw, @Ne Nat p.1 lt ∧ @Ne Nat p.1 (L' + 1 + 1 + 1) ∧ @Ne Nat p.1 (L' + 1 + 1) ∧ @Ne Nat p.1 (L' + 1)) ∧ (∀ p ∈ news, p ∈ nw) ∧ ts = (wn.take k).foldl stepT tab0

theorem getD_set {α : Type} (l : List α) (i k : Nat) (v d : α) (hk : k < l.length) : (l.set i v).getD k d = if i = k then v else l.getD k d := by
  rw [List.getD_eq_getElem?_getD, List.getD_eq_getElem?_getD, List.getElem?_set]
  by_cases e : i = k
  · subst e; simp [hk]
  · simp [e]
theorem rows_set {nw nw' news : List (Addr × Obj)} {rs : List Addr} {ts : List (List Int)} {i : Nat} {D : Addr} {row : List Int} (h : RowsIn nw news rs ts) (hr : rs.length = 3) (ht : ts.length = 3) (hsub : ∀ p ∈ nw, p ∈ nw')
    (hD : ∃ vs c x y z, (D, listOf vs.toArray c) ∈ nw' ∧ IntsAre vs [x, y, z] ∧ row = [x, y, z] ∧ ∀ p ∈ news, p.1 ≠ D) : RowsIn nw' news (rs.set i D) (ts.set i row) := by
  intro k hk
  rw [getD_set _ _ _ _ _ (by omega), getD_set _ _ _ _ _ (by omega)]
  by_cases e : i = k
  · rw [if_pos e, if_pos e]; exact hD
  · rw [if_neg e, if_neg e]
    obtain ⟨vs, c, x, y, z, h1, h2, h3, h4⟩ := h k hk
    exact ⟨vs, c, x, y, z, hsub _ h1, h2, h3, h4⟩

section
variable {g' h : Heap} {L' lt lw I D ru ro : Addr} {wvs : List Value} {c ct : Nat} {wn : List Int} {news nw : List (Addr × Obj)} {m' : Str → Option Value} {rs : List Addr} {ts : List (List Int)} {oI p1 p2 p3 ou oo oD : Obj} {y1 y2 y3 : Option Value} {k : Nat} {n : Int}
theorem tab_fin {rs' : List Addr} {ts' : List (List Int)} {nw' : List (Addr × Obj)} (hm : m' (Str.ofString "table") = some (.ref lt)) (N : News g' L' h ((I, oI) :: (lt, listOf (rs'.map Value.ref).toArray ct) :: (L' + 1 + 1 + 1, p1) :: (L' + 1 + 1, p2) :: (L' + 1, p3) :: (lw, listOf wvs.toArray c) :: nw'))
    (d1 : p1.data = .cell y1) (d2 : p2.data = .cell y2) (d3 : p3.data = .cell y3) (hr : rs'.length = 3) (ht : ts'.length = 3) (hrow : RowsIn nw' news rs' ts')
    (hnw : ∀ p ∈ nw', @Ne Nat p.1 lt ∧ @Ne Nat p.1 (L' + 1 + 1 + 1) ∧ @Ne Nat p.1 (L' + 1 + 1) ∧ @Ne Nat p.1 (L' + 1)) (hnI : ∀ p ∈ nw', p.1 ≠ I) (hsub : ∀ p ∈ news, p ∈ nw')
    (q3 : @Ne Nat lt I) (q4 : @Ne Nat (L' + 1 + 1 + 1) I) (q5 : @Ne Nat (L' + 1 + 1) I) (q6 : @Ne Nat (L' + 1) I) (q8 : @Ne Nat lw I) (hts : ts = (wn.take k).foldl stepT tab0) (hn : wn[k]? = some n) (hst : ts' = stepT ts n) :
    ∃ nx, News g' L' h ((I, oI) :: nx) ∧ (∀ p ∈ nx, p.1 ≠ I) ∧ TabJ L' lt lw wvs c wn news (k + 1) m' nx := by
  refine ⟨_, N, fun p hp => ?_, rs', ts', p1, p2, p3, y1, y2, y3, ct, nw', hm, rfl, d1, d2, d3, hr, ht, hrow, hnw, hsub, ?_⟩
  · rcases List.mem_cons.mp hp with rfl | hp
    · exact q3
    rcases List.mem_cons.mp hp with rfl | hp
    · exact q4
    rcases List.mem_cons.mp hp with rfl | hp
    · exact q5
    rcases List.mem_cons.mp hp with rfl | hp
    · exact q6
    rcases List.mem_cons.mp hp with rfl | hp
    · exact q8
    · exact hnI p hp
  · rw [hst, hts, List.take_add_one, hn]
    simp

theorem tab_finD {i : Nat} {x y z : Int} {t1 t2 t3 : Tok} {row : List Int} (F0 : Fr g' L' h m') (N : News g' L' h ((D, LCg.lst [.int x t1, .int y t2, .int z t3]) :: (I, oI) :: (lt, listOf ((rs.set i D).map Value.ref).toArray ct) :: (L' + 1 + 1 + 1, p1) :: (L' + 1 + 1, p2) :: (L' + 1, p3) :: (ru, ou) :: (ro, oo) :: (lw, listOf wvs.toArray c) :: nw))
    (o1 : @Ne Nat I D ∧ @Ne Nat lt D ∧ @Ne Nat (L' + 1 + 1 + 1) D ∧ @Ne Nat (L' + 1 + 1) D ∧ @Ne Nat (L' + 1) D ∧ @Ne Nat ru D ∧ @Ne Nat ro D ∧ @Ne Nat lw D ∧ LCg.Off1 D nw)
    (hm : m' (Str.ofString "table") = some (.ref lt)) (d1 : p1.data = .cell y1) (d2 : p2.data = .cell y2) (d3 : p3.data = .cell y3) (hr : rs.length = 3) (ht : ts.length = 3) (hrow : RowsIn nw news rs ts)
    (hnw : ∀ p ∈ nw, @Ne Nat p.1 lt ∧ @Ne Nat p.1 (L' + 1 + 1 + 1) ∧ @Ne Nat p.1 (L' + 1 + 1) ∧ @Ne Nat p.1 (L' + 1)) (hnI : ∀ p ∈ nw, p.1 ≠ I) (hsub : ∀ p ∈ news, p ∈ nw)
    (q3 : @Ne Nat lt I) (q4 : @Ne Nat (L' + 1 + 1 + 1) I) (q5 : @Ne Nat (L' + 1 + 1) I) (q6 : @Ne Nat (L' + 1) I) (q8 : @Ne Nat lw I) (hts : ts = (wn.take k).foldl stepT tab0) (hn : wn[k]? = some n) (hrw : row = [x, y, z]) (hst : ts.set i row = stepT ts n) :
    ∃ nx, News g' L' h ((I, oI) :: nx) ∧ (∀ p ∈ nx, p.1 ≠ I) ∧ TabJ L' lt lw wvs c wn news (k + 1) m' nx := by
  refine tab_fin (ct := ct) (rs' := rs.set i D) (ts' := ts.set i row) (nw' := (D, LCg.lst [.int x t1, .int y t2, .int z t3]) :: nw) hm (fun p hp => N p ?_) d1 d2 d3 (by simpa using hr) (by simpa using ht) (rows_set hrow hr ht (fun p hp => .tail _ hp) ⟨[.int x t1, .int y t2, .int z t3], 3, x, y, z, .head _, .cons _ _ (.cons _ _ (.cons _ _ .nil)), hrw, fun p hp => off1_mem o1.2.2.2.2.2.2.2.2 p (hsub p hp)⟩) ?_ ?_ (fun p hp => .tail _ (hsub p hp)) q3 q4 q5 q6 q8 hts hn hst
  · rcases List.mem_cons.mp hp with rfl | hp
    · exact .tail _ (.head _)
    rcases List.mem_cons.mp hp with rfl | hp
    · exact .tail _ (.tail _ (.head _))
    rcases List.mem_cons.mp hp with rfl | hp
    · exact .tail _ (.tail _ (.tail _ (.head _)))
    rcases List.mem_cons.mp hp with rfl | hp
    · exact .tail _ (.tail _ (.tail _ (.tail _ (.head _))))
    rcases List.mem_cons.mp hp with rfl | hp
    · exact .tail _ (.tail _ (.tail _ (.tail _ (.tail _ (.head _)))))
    rcases List.mem_cons.mp hp with rfl | hp
    · exact .tail _ (.tail _ (.tail _ (.tail _ (.tail _ (.tail _ (.tail _ (.tail _ (.head _))))))))
    rcases List.mem_cons.mp hp with rfl | hp
    · exact .head _
    · exact .tail _ (.tail _ (.tail _ (.tail _ (.tail _ (.tail _ (.tail _ (.tail _ (.tail _ hp))))))))
  · intro p hp
    rcases List.mem_cons.mp hp with rfl | hp
    · exact ⟨o1.2.1.symm, o1.2.2.1.symm, o1.2.2.2.1.symm, o1.2.2.2.2.1.symm⟩
    · exact hnw p hp
  · intro p hp
    rcases List.mem_cons.mp hp with rfl | hp
    · exact o1.1.symm
    · exact hnI p hp

theorem tab_finS {i j : Nat} {ui uj : List Int} (F0 : Fr g' L' h m') (N : News g' L' h ((I, oI) :: (lt, listOf (((rs.set i ro).set j ru).map Value.ref).toArray ct) :: (L' + 1 + 1 + 1, p1) :: (L' + 1 + 1, p2) :: (L' + 1, p3) :: (ru, ou) :: (ro, oo) :: (lw, listOf wvs.toArray c) :: nw))
    (hm : m' (Str.ofString "table") = some (.ref lt)) (d1 : p1.data = .cell y1) (d2 : p2.data = .cell y2) (d3 : p3.data = .cell y3) (hr : rs.length = 3) (ht : ts.length = 3) (hrow : RowsIn nw news rs ts)
    (hnw : ∀ p ∈ nw, @Ne Nat p.1 lt ∧ @Ne Nat p.1 (L' + 1 + 1 + 1) ∧ @Ne Nat p.1 (L' + 1 + 1) ∧ @Ne Nat p.1 (L' + 1)) (hnI : ∀ p ∈ nw, p.1 ≠ I) (hsub : ∀ p ∈ news, p ∈ nw)
    (q3 : @Ne Nat lt I) (q4 : @Ne Nat (L' + 1 + 1 + 1) I) (q5 : @Ne Nat (L' + 1 + 1) I) (q6 : @Ne Nat (L' + 1) I) (q8 : @Ne Nat lw I) (hts : ts = (wn.take k).foldl stepT tab0) (hn : wn[k]? = some n)
    (hu : ∃ vs c x y z, (ru, listOf vs.toArray c) ∈ nw ∧ IntsAre vs [x, y, z] ∧ ui = [x, y, z] ∧ ∀ p ∈ news, p.1 ≠ ru) (ho : ∃ vs c x y z, (ro, listOf vs.toArray c) ∈ nw ∧ IntsAre vs [x, y, z] ∧ uj = [x, y, z] ∧ ∀ p ∈ news, p.1 ≠ ro) (hst : (ts.set i uj).set j ui = stepT ts n) :
    ∃ nx, News g' L' h ((I, oI) :: nx) ∧ (∀ p ∈ nx, p.1 ≠ I) ∧ TabJ L' lt lw wvs c wn news (k + 1) m' nx := by
  refine tab_fin (ct := ct) (rs' := (rs.set i ro).set j ru) (ts' := (ts.set i uj).set j ui) (nw' := nw) hm (fun p hp => N p ?_) d1 d2 d3 (by simpa using hr) (by simpa using ht) (rows_set (rows_set hrow hr ht (fun p hp => hp) ho) (by simpa using hr) (by simpa using ht) (fun p hp => hp) hu) hnw hnI hsub q3 q4 q5 q6 q8 hts hn hst
  rcases List.mem_cons.mp hp with rfl | hp
  · exact .head _
  rcases List.mem_cons.mp hp with rfl | hp
  · exact .tail _ (.head _)
  rcases List.mem_cons.mp hp with rfl | hp
  · exact .tail _ (.tail _ (.head _))
  rcases List.mem_cons.mp hp with rfl | hp
  · exact .tail _ (.tail _ (.tail _ (.head _)))
  rcases List.mem_cons.mp hp with rfl | hp
  · exact .tail _ (.tail _ (.tail _ (.tail _ (.head _))))
  rcases List.mem_cons.mp hp with rfl | hp
  · exact .tail _ (.tail _ (.tail _ (.tail _ (.tail _ (.tail _ (.tail _ (.head _)))))))
  · exact .tail _ (.tail _ (.tail _ (.tail _ (.tail _ (.tail _ (.tail _ (.tail _ hp)))))))
end
theorem stT0 {v : Int} {T : List (List Int)} (h : v.fmod 4 = 0) : T.set (((v.fdiv 4).fmod 6).fdiv 2).toNat (rowAdd (v.fdiv 24) (T.getD (iOf v).toNat []) (T.getD (jOf v).toNat [])) = stepT T v := by
  unfold stepT; rw [if_pos h]; rfl
theorem stT1 {v : Int} {T : List (List Int)} (h : v.fmod 4 = 1) : T.set (((v.fdiv 4).fmod 6).fdiv 2).toNat (rowSub (v.fdiv 24) (T.getD (iOf v).toNat []) (T.getD (jOf v).toNat [])) = stepT T v := by
  unfold stepT; rw [if_neg (by omega), if_pos h]; rfl
theorem stT2 {v : Int} {T : List (List Int)} (h : v.fmod 4 = 2) : (T.set (((v.fdiv 4).fmod 6).fdiv 2).toNat (T.getD (jOf v).toNat [])).set ((((v.fdiv 4).fmod 6).fdiv 2 + 1 + (v.fdiv 4).fmod 2).fmod 3).toNat (T.getD (iOf v).toNat []) = stepT T v := by
  unfold stepT; rw [if_neg (by omega), if_neg (by omega), if_pos h]; rfl
theorem stT3 {v : Int} {T : List (List Int)} (h0 : ¬ v.fmod 4 = 0) (h1 : ¬ v.fmod 4 = 1) (h2 : ¬ v.fmod 4 = 2) : T.set (((v.fdiv 4).fmod 6).fdiv 2).toNat (rowNeg (T.getD (iOf v).toNat [])) = stepT T v := by
  unfold stepT; rw [if_neg h0, if_neg h1, if_neg h2]; rfl
theorem tab_start {g' h : Heap} {L' lt r0 r1 r2 lw : Addr} {o1 o2 o3 : Obj} {x1 x2 x3 : Option Value} {t0 t1 t2 t3 t4 t5 t6 t7 t8 : Tok} {wvs : List Value} {c : Nat} {wn : List Int} {news : List (Addr × Obj)} {m' : Str → Option Value} (F0 : Fr g' L' h m')
    (N : News g' L' h ((lt, listOf #[.ref r0, .ref r1, .ref r2] 0) :: (r2, listOf #[.int 0 t6, .int 0 t7, .int 1 t8] 0) :: (r1, listOf #[.int 0 t3, .int 1 t4, .int 0 t5] 0) :: (r0, listOf #[.int 1 t0, .int 0 t1, .int 0 t2] 0) :: (L' + 1 + 1 + 1, o1) :: (L' + 1 + 1, o2) :: (L' + 1, o3) :: (lw, listOf wvs.toArray c) :: news))
    (hm : m' (Str.ofString "table") = some (.ref lt)) (d1 : o1.data = .cell x1) (d2 : o2.data = .cell x2) (d3 : o3.data = .cell x3)
    (h0 : @LT.lt Nat _ (L' + 1 + 1 + 1) r0) (h1 : @LT.lt Nat _ r0 r1) (h2 : @LT.lt Nat _ r1 r2) (h3 : @LT.lt Nat _ r2 lt) (hl : ∀ p ∈ news, p.1 < L') :
    ∃ (lt' : Addr) (nx : List (Addr × Obj)), @LT.lt Nat _ (L' + 1 + 1 + 1) lt' ∧ News g' L' h nx ∧ (lw, listOf wvs.toArray c) ∈ nx ∧ TabJ L' lt' lw wvs c wn news 0 m' nx := by
  have hl' : ∀ p ∈ news, @LT.lt Nat _ p.1 L' := hl
  refine ⟨lt, (lt, listOf ([r0, r1, r2].map Value.ref).toArray 0) :: (L' + 1 + 1 + 1, o1) :: (L' + 1 + 1, o2) :: (L' + 1, o3) :: (lw, listOf wvs.toArray c) :: (r2, listOf #[.int 0 t6, .int 0 t7, .int 1 t8] 0) :: (r1, listOf #[.int 0 t3, .int 1 t4, .int 0 t5] 0) :: (r0, listOf #[.int 1 t0, .int 0 t1, .int 0 t2] 0) :: news, by omega, fun p hp => N p ?_, .tail _ (.tail _ (.tail _ (.tail _ (.head _)))), [r0, r1, r2], tab0, o1, o2, o3, x1, x2, x3, 0, _, hm, rfl, d1, d2, d3, rfl, rfl, ?_, ?_, fun p hp => .tail _ (.tail _ (.tail _ hp)), rfl⟩
  · simp only [List.mem_cons] at hp ⊢
    rcases hp with rfl | rfl | rfl | rfl | rfl | rfl | rfl | rfl | hp
    · exact .inl rfl
    all_goals simp_all
  · intro k hk
    have e : k = 0 ∨ k = 1 ∨ k = 2 := by omega
    rcases e with rfl | rfl | rfl
    · exact ⟨[.int 1 t0, .int 0 t1, .int 0 t2], 0, 1, 0, 0, .tail _ (.tail _ (.head _)), .cons _ _ (.cons _ _ (.cons _ _ .nil)), rfl, fun p hp => neN (by have := hl' p hp; show @Ne Nat p.1 r0; omega)⟩
    · exact ⟨[.int 0 t3, .int 1 t4, .int 0 t5], 0, 0, 1, 0, .tail _ (.head _), .cons _ _ (.cons _ _ (.cons _ _ .nil)), rfl, fun p hp => neN (by have := hl' p hp; show @Ne Nat p.1 r1; omega)⟩
    · exact ⟨[.int 0 t6, .int 0 t7, .int 1 t8], 0, 0, 0, 1, .head _, .cons _ _ (.cons _ _ (.cons _ _ .nil)), rfl, fun p hp => neN (by have := hl' p hp; show @Ne Nat p.1 r2; omega)⟩
  · intro p hp
    rcases List.mem_cons.mp hp with rfl | hp
    · dsimp only; omega
    rcases List.mem_cons.mp hp with rfl | hp
    · dsimp only; omega
    rcases List.mem_cons.mp hp with rfl | hp
    · dsimp only; omega
    · have := hl' p hp; omega

set_option maxRecDepth 100000 in
set_option maxHeartbeats 8000000 in
theorem table_ctr {w : World} {mean : ExcName → Option Value} {mg mb : Str → Option Value} {dp un : Nat} {gd : Option (List Code)} {cn : Str} {cs : Scope} {a : Addr} {ccd : Value} {cl : List (Str × Addr)} {outer : List Env} {A₀ : Around} {base h₀ : Heap} {L : Addr} {m : Str → Option Value} {s : Shared} {Q E : Value → Shared → Prop}
    {lw : Addr} {c : Nat} {wvs : List Value} {wn : List Int} {news : List (Addr × Obj)}
    (B : Below A₀ base outer h₀) (F : Fr h₀ L s.heap m) (X : (hd.heap_39 w.params).In h₀) (N : News h₀ L s.heap news) (T : TopF mean mg mb h₀) (hk : cs.kind = .function)
    (hlw : (lw, listOf wvs.toArray c) ∈ news) (hwi : IntsAre wvs wn) (hlen : wn.length ≤ 100) (hb : ∀ x ∈ wn, 0 ≤ x ∧ x < 98304)
    (hd : dp + 10 < recursionLimit) (hu : un + 80 < cLine)
    (hret : ∀ (D r0 r1 r2 : Addr) (v0 v1 v2 : List Value) (a0 b0 d0 a1 b1 d1 a2 b2 d2 : Int) (ct c0 c1 c2 : Nat) (h' : Heap) (tk' : Nat), Fr h₀ L h' m →
      News h₀ L h' ((D, listOf #[.ref r0, .ref r1, .ref r2] ct) :: (r0, listOf v0.toArray c0) :: (r1, listOf v1.toArray c1) :: (r2, listOf v2.toArray c2) :: news) → IntsAre v0 [a0, b0, d0] → IntsAre v1 [a1, b1, d1] → IntsAre v2 [a2, b2, d2] →
      wn.foldl stepT tab0 = [[a0, b0, d0], [a1, b1, d1], [a2, b2, d2]] → (∀ p ∈ news, p.1 ≠ D ∧ p.1 ≠ r0 ∧ p.1 ≠ r1 ∧ p.1 ≠ r2) → Q (.ref D) { s with heap := h', toks := tk' }) :
    wpAny (model PySem.Challenge.rw_pe0042_01.row.prog w) (ktrTop dp un gd cn cs L a ccd cl outer) (call (.ref 117) [.ref lw]) Q E s := by
  revert X; k_fill; intro X
  replace N : News h₀ L s.heap ((lw, listOf wvs.toArray c) :: news) := fun p hp => by
    rcases List.mem_cons.mp hp with rfl | hp
    · exact N _ hlw
    · exact N _ hp
  refine wpAny_call ?_
  k_dflt (refine' code_defC ?k1 ?k2 ?k3 ?k4 ?k5 ?kA ?kF ?kK ?k6 ?k7 ?k8 ?k9 ?kB ?kD ?_ ?c2 ?c3 ?c4; (case kA => exact rfl); (case kF => exact rfl); (case kK => assumption); (case k1 => k_asm); (case k2 => k_asm); (case k3 => k_asm); (case k4 => k_asm); (case k5 => k_asm); (case k6 => k_is); (case k7 => k_is); (case k8 => ktr_room); (case k9 => exact BindsTo.of_eq rfl); (case kB => exact rfl); (case kD => decide +kernel); (case c2 => exact rfl); (case c3 => exact rfl); (case c4 => exact rfl); k_whole; intro g' L' h' tk' cells' FG' F' N' Y' B' X' T' l1; (try k_lt l1); k_cells Y'; (try simp only [List.cons_append, List.nil_append] at N'); (try dsimp only); (try k_lift B'); (try k_fold))
  k_steps
  (rename Fr _ _ _ _ => F5)
  with_unfolding_all refine' For_invVF F5 ?k1 ?k2 ?_
  (case k1 => exact rfl)
  (case k2 => exact rfl)
  k_steps
  unfold Halt
  (rename Fr _ _ _ _ => F6); (rename News _ _ _ _ => N6)
  have hls : ∀ p ∈ news, p.1 < L' := fun p hp => ktn_ltOf l1.2 p hp
  obtain ⟨lt, nx0, hlt3, N7, hlw7, J7⟩ := tab_start (wn := wn) F6 N6 (by with_unfolding_all rfl) (by assumption) (by assumption) (by assumption) (by omega) (by omega) (by omega) (by omega) hls
  refine listLoop (TabJ L' lt lw wvs c wn news) rfl hlw7 F6 N7 J7 ?_ ?_ ?_
  · rintro i m' nx ⟨rs, ts, o1, o2, o3, x1, x2, x3, ct, nw, _, rfl, _⟩
    exact .tail _ (.tail _ (.tail _ (.tail _ (.head _))))
  · rintro k v m₁ nx h8 tk8 I oI hv8 ⟨rs, ts, o1, o2, o3, x1, x2, x3, ct, nw, e1, rfl, d1, d2, d3, hr3, ht3, hrow, hnw, hsub, hts⟩ hoff F8 N8
    obtain ⟨n, tn, rfl, hn8⟩ := hwi.at k v hv8
    have hb8 := hb n (List.mem_of_getElem? hn8)
    obtain ⟨uvs, cu, ua, ub, uc, hum, hui, hue, hud⟩ := hrow _ (iOf_3 n)
    obtain ⟨ovs, co, oa, ob, oc, hom, hoi, hoe, hod⟩ := hrow _ (jOf_3 n)
    obtain ⟨_, _, _, rfl⟩ := ints3 hui
    obtain ⟨_, _, _, rfl⟩ := ints3 hoi
    generalize hru : rs.getD (iOf n).toNat 0 = ru at hum hud
    generalize hro : rs.getD (jOf n).toNat 0 = ro at hom hod
    have hru' : rs.getD (((n.fdiv 4).fmod 6).fdiv 2).toNat 0 = ru := hru
    have hro' : rs.getD ((((n.fdiv 4).fmod 6).fdiv 2 + 1 + (n.fdiv 4).fmod 2).fmod 3).toNat 0 = ro := hro
    have N9 : News g' L' h8 ((I, oI) :: (lt, listOf (rs.map Value.ref).toArray ct) :: (L' + 1 + 1 + 1, o1) :: (L' + 1 + 1, o2) :: (L' + 1, o3) :: (ru, listOf #[.int ua _, .int ub _, .int uc _] cu) :: (ro, listOf #[.int oa _, .int ob _, .int oc _] co) :: (lw, listOf wvs.toArray c) :: nw) := fun p hp => by
      rcases List.mem_cons.mp hp with rfl | hp
      · exact N8 _ (.head _)
      rcases List.mem_cons.mp hp with rfl | hp
      · exact N8 _ (.tail _ (.head _))
      rcases List.mem_cons.mp hp with rfl | hp
      · exact N8 _ (.tail _ (.tail _ (.head _)))
      rcases List.mem_cons.mp hp with rfl | hp
      · exact N8 _ (.tail _ (.tail _ (.tail _ (.head _))))
      rcases List.mem_cons.mp hp with rfl | hp
      · exact N8 _ (.tail _ (.tail _ (.tail _ (.tail _ (.head _)))))
      rcases List.mem_cons.mp hp with rfl | hp
      · exact N8 _ (.tail _ (.tail _ (.tail _ (.tail _ (.tail _ (.tail _ hum))))))
      rcases List.mem_cons.mp hp with rfl | hp
      · exact N8 _ (.tail _ (.tail _ (.tail _ (.tail _ (.tail _ (.tail _ hom))))))
      · exact N8 _ (.tail _ (.tail _ (.tail _ (.tail _ (.tail _ hp)))))
    have q1 := hnw _ hum
    have q2 := hnw _ hom
    have q3 : @Ne Nat lt I := hoff _ (.head _)
    have q4 : @Ne Nat (L' + 1 + 1 + 1) I := hoff _ (.tail _ (.head _))
    have q5 : @Ne Nat (L' + 1 + 1) I := hoff _ (.tail _ (.tail _ (.head _)))
    have q6 : @Ne Nat (L' + 1) I := hoff _ (.tail _ (.tail _ (.tail _ (.head _))))
    have q7 : @LT.lt Nat _ lw L' := l1.1
    have q8 : @Ne Nat lw I := hoff _ (.tail _ (.tail _ (.tail _ (.tail _ (.head _)))))
    have hnI : ∀ p ∈ nw, p.1 ≠ I := fun p hp => hoff p (.tail _ (.tail _ (.tail _ (.tail _ (.tail _ hp)))))
    have hAll : ∀ (x y z x' y' : Obj), ∀ p ∈ (L' + 1 + 1 + 1, x) :: (L' + 1 + 1, y) :: (L' + 1, z) :: (ru, x') :: (ro, y') :: (lw, listOf wvs.toArray c) :: nw, p.1 ≠ lt := by
      intro x y z x' y' p hp
      rcases List.mem_cons.mp hp with rfl | hp
      · exact Nat.ne_of_lt hlt3
      rcases List.mem_cons.mp hp with rfl | hp
      · exact Nat.ne_of_lt (Nat.lt_of_succ_lt hlt3)
      rcases List.mem_cons.mp hp with rfl | hp
      · exact Nat.ne_of_lt (Nat.lt_of_succ_lt (Nat.lt_of_succ_lt hlt3))
      rcases List.mem_cons.mp hp with rfl | hp
      · exact show @Ne Nat ru lt from q1.1
      rcases List.mem_cons.mp hp with rfl | hp
      · exact show @Ne Nat ro lt from q2.1
      rcases List.mem_cons.mp hp with rfl | hp
      · exact Nat.ne_of_lt (Nat.lt_trans l1.1 (Nat.lt_of_succ_lt (Nat.lt_of_succ_lt (Nat.lt_of_succ_lt hlt3))))
      · exact (hnw p hp).1
    have w1 : ∀ p ∈ nw, p.1 ≠ lt := fun p hp => (hnw p hp).1
    have w2 : ∀ p ∈ nw, p.1 ≠ L' + 1 + 1 + 1 := fun p hp => (hnw p hp).2.1
    have w3 : ∀ p ∈ nw, p.1 ≠ L' + 1 + 1 := fun p hp => (hnw p hp).2.2.1
    have w4 : ∀ p ∈ nw, p.1 ≠ L' + 1 := fun p hp => (hnw p hp).2.2.2
    replace F8 := frSays F8 [(Str.ofString "table", .ref lt)] (all1 (show (if Str.ofString "table" = Str.ofString "word" then _ else m₁ (Str.ofString "table")) = _ from (if_neg (by decide)).trans e1))
    dsimp only [kstB] at F8
    have hb80 := hb8.1
    have hb81 := hb8.2
    clear N8 F6 N7 N6 J7 hui hoi
    dsimp only at q1 q2
    have z1 : Stop1 := ⟨trivial⟩
    k_steps
    unfold Halt
    (rename Stop1 => z2); clear z2
    (rename Fr _ _ _ _ => Fa); (rename News _ _ _ _ => Na)
    rename Obj.data _ = Data.cell (some (Value.int _ _)) => da
    obtain ⟨u, ti, tj, Fb⟩ : ∃ u ti tj, Fr g' L' _ (kstB u [(Str.ofString "j", .int ((((n.fdiv 4).fmod 6).fdiv 2 + 1 + (n.fdiv 4).fmod 2).fmod 3) tj), (Str.ofString "i", .int (((n.fdiv 4).fmod 6).fdiv 2) ti), (Str.ofString "word", .int n tn), (Str.ofString "table", .ref lt)]) :=
      ⟨_, _, _, frSays Fa _ (allc (by with_unfolding_all rfl) (allc (by with_unfolding_all rfl) (allc (by with_unfolding_all rfl) (all1 (by with_unfolding_all rfl)))))⟩
    clear Fa F8
    dsimp only [kstB] at Fb
    obtain ⟨tc, db⟩ : ∃ tc, Obj.data _ = Data.cell (some (Value.int (n.fdiv 24) tc)) := ⟨_, da⟩
    clear da
    have z1 : Stop2 := ⟨trivial⟩
    k_steps
    unfold Halt
    (rename Stop2 => z2); clear z2
    k_steps
    · unfold Halt
      (rename Fr _ _ _ _ => Fc); (rename News _ _ _ _ => Nc)
      rename _ ≠ _ ∧ _ => oc1
      refine set_refs Fc Nc (Upd.tail oc1.2.1.symm (Upd.tail q3.symm (Upd.head (hAll _ _ _ _ _)))) (iOf_nn _) (iOf_fit _) (iOf_lt3 hr3) ?_
      intro h11 F11 N11
      k_steps
      obtain ⟨nx, z1, z2, z3⟩ := tab_finD F11 N11 oc1 (by with_unfolding_all rfl) (by assumption) (by assumption) (by assumption) hr3 ht3 hrow hnw hnI hsub q3 q4 q5 q6 q8 hts hn8 (by rw [hue, hoe]; rfl) (stT0 (by assumption))
      exact ⟨_, _, _, nx, rfl, F11, z1, z2, z3⟩
    · unfold Halt
      (rename Fr _ _ _ _ => Fc); (rename News _ _ _ _ => Nc)
      rename _ ≠ _ ∧ _ => oc1
      refine set_refs Fc Nc (Upd.tail oc1.2.1.symm (Upd.tail q3.symm (Upd.head (hAll _ _ _ _ _)))) (iOf_nn _) (iOf_fit _) (iOf_lt3 hr3) ?_
      intro h11 F11 N11
      k_steps
      obtain ⟨nx, z1, z2, z3⟩ := tab_finD F11 N11 oc1 (by with_unfolding_all rfl) (by assumption) (by assumption) (by assumption) hr3 ht3 hrow hnw hnI hsub q3 q4 q5 q6 q8 hts hn8 (by rw [hue, hoe]; rfl) (stT1 (by assumption))
      exact ⟨_, _, _, nx, rfl, F11, z1, z2, z3⟩
    · unfold Halt
      (rename Fr _ _ _ _ => Fc); (rename News _ _ _ _ => Nc)
      refine set_refs Fc Nc (Upd.tail q3.symm (Upd.head (hAll _ _ _ _ _))) (iOf_nn _) (iOf_fit _) (iOf_lt3 hr3) ?_
      intro h11 F11 N11
      k_steps
      unfold Halt
      refine set_refs F11 N11 (Upd.tail q3.symm (Upd.head (hAll _ _ _ _ _))) (jOf_nn _) (jOf_fit _) (jOf_lt3 (by simpa using hr3)) ?_
      intro h12 F12 N12
      k_steps
      obtain ⟨nx, z1, z2, z3⟩ := tab_finS F12 N12 (by with_unfolding_all rfl) (by assumption) (by assumption) (by assumption) hr3 ht3 hrow hnw hnI hsub q3 q4 q5 q6 q8 hts hn8 ⟨_, _, _, _, _, hum, .cons _ _ (.cons _ _ (.cons _ _ .nil)), hue, hud⟩ ⟨_, _, _, _, _, hom, .cons _ _ (.cons _ _ (.cons _ _ .nil)), hoe, hod⟩ (stT2 (by assumption))
      exact ⟨_, _, _, nx, rfl, F12, z1, z2, z3⟩
    · unfold Halt
      (rename Fr _ _ _ _ => Fc); (rename News _ _ _ _ => Nc)
      rename _ ≠ _ ∧ _ => oc1
      refine set_refs Fc Nc (Upd.tail oc1.2.1.symm (Upd.tail q3.symm (Upd.head (hAll _ _ _ _ _)))) (iOf_nn _) (iOf_fit _) (iOf_lt3 hr3) ?_
      intro h11 F11 N11
      k_steps
      obtain ⟨nx, z1, z2, z3⟩ := tab_finD F11 N11 oc1 (by with_unfolding_all rfl) (by assumption) (by assumption) (by assumption) hr3 ht3 hrow hnw hnI hsub q3 q4 q5 q6 q8 hts hn8 (by rw [hue]; rfl) (stT3 (by assumption) (by assumption) (by assumption))
      exact ⟨_, _, _, nx, rfl, F11, z1, z2, z3⟩
  · rintro m₁ nx h8 tk8 ⟨rs, ts, o1, o2, o3, x1, x2, x3, ct, nw, e1, rfl, d1, d2, d3, hr3, ht3, hrow, hnw, hsub, hts⟩ F8 N8
    obtain ⟨r0, r1, r2, rfl⟩ : ∃ r0 r1 r2, rs = [r0, r1, r2] := by
      match rs, hr3 with
      | [a, b, c], _ => exact ⟨a, b, c, rfl⟩
    obtain ⟨v0, c0, a0, b0, d0, hm0, hi0, he0, hd0⟩ := hrow 0 (by decide)
    obtain ⟨v1, c1, a1, b1, d1, hm1, hi1, he1, hd1⟩ := hrow 1 (by decide)
    obtain ⟨v2, c2, a2, b2, d2, hm2, hi2, he2, hd2⟩ := hrow 2 (by decide)
    have hts3 : ts = [[a0, b0, d0], [a1, b1, d1], [a2, b2, d2]] := by
      match ts, ht3 with
      | [x, y, z], _ =>
        simp only [List.getD_eq_getElem?_getD, List.getElem?_cons_zero, List.getElem?_cons_succ, Option.getD_some] at he0 he1 he2
        rw [he0, he1, he2]
    have hfold : wn.foldl stepT tab0 = [[a0, b0, d0], [a1, b1, d1], [a2, b2, d2]] := by
      rw [← hts3, hts, hwi.length, List.take_length]
    replace F8 := frSays F8 [(Str.ofString "table", .ref lt)] (all1 e1)
    dsimp only [kstB] at F8
    have N9 : News g' L' h8 ((lt, listOf #[.ref r0, .ref r1, .ref r2] ct) :: (r0, listOf v0.toArray c0) :: (r1, listOf v1.toArray c1) :: (r2, listOf v2.toArray c2) :: news) := fun p hp => N8 p (by
      rcases List.mem_cons.mp hp with rfl | hp
      · exact .head _
      rcases List.mem_cons.mp hp with rfl | hp
      · exact .tail _ (.tail _ (.tail _ (.tail _ (.tail _ hm0))))
      rcases List.mem_cons.mp hp with rfl | hp
      · exact .tail _ (.tail _ (.tail _ (.tail _ (.tail _ hm1))))
      rcases List.mem_cons.mp hp with rfl | hp
      · exact .tail _ (.tail _ (.tail _ (.tail _ (.tail _ hm2))))
      · exact .tail _ (.tail _ (.tail _ (.tail _ (.tail _ (hsub p hp))))))
    clear N8 F6 N7 N6 J7
    k_steps
    (rename News _ _ _ _ => Nz)
    refine hret lt r0 r1 r2 v0 v1 v2 a0 b0 d0 a1 b1 d1 a2 b2 d2 ct c0 c1 c2 _ _ (by assumption) Nz hi0 hi1 hi2 hfold (fun p hp => ⟨?_, hd0 p hp, hd1 p hp, hd2 p hp⟩)
    exact Nat.ne_of_lt (Nat.lt_trans (hls p hp) (Nat.lt_of_succ_lt (Nat.lt_of_succ_lt (Nat.lt_of_succ_lt hlt3))))

end Mine
namespace Mine
theorem start_C42 : True := by
  w_top off
  exact True.intro
local macro_rules | `(tactic| walk_at "pyIter ref") => `(tactic| ((with_reducible show wpAny _ _ (pyIter (Value.ref _)) (fun it s₂ => LoopAtV _ _ _ _ _ _ _ _ _ it s₂) _ _); refine halt ?_))
local macro_rules | `(tactic| walk_at "exec If") => `(tactic| refine wpAny_If ?_)

def CntJ (la : Addr) (bs : List Bool) (c : Nat) (news : List (Addr × Obj)) (k : Nat) (m' : Str → Option Value) (nx : List (Addr × Obj)) : Prop :=
  ∃ t, m' (Str.ofString "count") = some (.int ((bs.take k).count true : Nat) t) ∧ m' (Str.ofString "b") = some (.bool true) ∧ nx = (la, listOf (bs.map Value.bool).toArray c) :: news

set_option maxRecDepth 100000 in
set_option maxHeartbeats 8000000 in
theorem count_ctr {w : World} {mean : ExcName → Option Value} {mg mb : Str → Option Value} {dp un : Nat} {gd : Option (List Code)} {cn : Str} {cs : Scope} {a : Addr} {ccd : Value} {cl : List (Str × Addr)} {outer : List Env} {A₀ : Around} {base h₀ : Heap} {L : Addr} {m : Str → Option Value} {s : Shared} {Q E : Value → Shared → Prop}
    {la : Addr} {c : Nat} {bs : List Bool} {news : List (Addr × Obj)}
    (B : Below A₀ base outer h₀) (F : Fr h₀ L s.heap m) (X : (hd.heap_39 w.params).In h₀) (N : News h₀ L s.heap news) (T : TopF mean mg mb h₀) (hk : cs.kind = .function)
    (hla : (la, listOf (bs.map Value.bool).toArray c) ∈ news)
    (hd : dp + 10 < recursionLimit) (hu : un + 80 < cLine)
    (hret : ∀ (t : Tok) (h' : Heap) (tk' : Nat), Fr h₀ L h' m → News h₀ L h' news → Q (.int (bs.count true : Nat) t) { s with heap := h', toks := tk' }) :
    wpAny (model PySem.Challenge.rw_pe0042_01.row.prog w) (ktrTop dp un gd cn cs L a ccd cl outer) (call (.ref 63) [.ref la, .bool true]) Q E s := by
  revert X; k_fill; intro X
  replace N : News h₀ L s.heap ((la, listOf (bs.map Value.bool).toArray c) :: news) := fun p hp => by
    rcases List.mem_cons.mp hp with rfl | hp
    · exact N _ hla
    · exact N _ hp
  refine wpAny_call ?_
  k_dflt cell_enter
  k_steps
  (rename Fr _ _ _ _ => F5)
  with_unfolding_all refine' For_invVF F5 ?k1 ?k2 ?_
  (case k1 => exact rfl)
  (case k2 => exact rfl)
  k_steps
  unfold Halt
  (rename Fr _ _ _ _ => F6); (rename News _ _ _ _ => N6)
  refine listLoop (CntJ la bs c news) rfl (.head _) F6 N6 ⟨_, by with_unfolding_all rfl, by with_unfolding_all rfl, rfl⟩ ?_ ?_ ?_
  · rintro i m' nx ⟨t, _, _, rfl⟩
    exact .head _
  · rintro k v m₁ nx h8 tk8 I oI hv8 ⟨t, e1, e2, rfl⟩ hoff F8 N8
    have hb : ∃ b, bs[k]? = some b ∧ v = .bool b := by
      rw [List.getElem?_map] at hv8
      cases hq : bs[k]? with
      | none => rw [hq] at hv8; cases hv8
      | some b => rw [hq] at hv8; exact ⟨b, rfl, (Option.some.inj hv8).symm⟩
    obtain ⟨b, hb1, rfl⟩ := hb
    have hcnt : (bs.take (k + 1)).count true = (bs.take k).count true + (if b = true then 1 else 0) := by
      rw [List.take_add_one, hb1, List.count_append]
      cases b <;> simp
    replace F8 := frSays F8 [(Str.ofString "count", .int ((bs.take k).count true : Nat) t), (Str.ofString "b", .bool true)] (allc (show (if Str.ofString "count" = Str.ofString "i" then _ else m₁ (Str.ofString "count")) = _ from (if_neg (by decide)).trans e1) (all1 (show (if Str.ofString "b" = Str.ofString "i" then _ else m₁ (Str.ofString "b")) = _ from (if_neg (by decide)).trans e2)))
    replace F8 := frSays F8 [(Str.ofString "i", .bool b)] (all1 (by with_unfolding_all rfl))
    dsimp only [kstB] at F8
    clear F6 N6
    cases b
    · k_steps
      (rename Fr _ _ _ _ => Fe)
      exact ⟨_, _, _, _, rfl, Fe, N8, hoff, ⟨t, by rw [hcnt]; with_unfolding_all rfl, by with_unfolding_all rfl, rfl⟩⟩
    · k_steps
      (rename Fr _ _ _ _ => Fe); (rename News _ _ _ _ => Ne)
      exact ⟨_, _, _, _, rfl, Fe, Ne, hoff, ⟨_, by rw [hcnt]; with_unfolding_all rfl, by with_unfolding_all rfl, rfl⟩⟩
  · rintro m₁ nx h8 tk8 ⟨t, e1, e2, rfl⟩ F8 N8
    replace F8 := frSays F8 [(Str.ofString "count", .int ((bs.take (bs.map Value.bool).length).count true : Nat) t)] (all1 e1)
    dsimp only [kstB] at F8
    clear F6 N6
    k_steps
    (rename Fr _ _ _ _ => Fe); (rename News _ _ _ _ => Ne)
    rw [List.length_map, List.take_length]
    exact hret _ _ _ Fe (fun p hp => Ne p (.tail _ hp))

end Mine
namespace Mine
def dot3 (x y z : Int) (r : List Int) : Int := r.getD 0 0 * x + r.getD 1 0 * y + r.getD 2 0 * z
theorem dot3_nil (x y z : Int) : dot3 x y z [] = 0 := by simp [dot3]
theorem dot3_add (x y z c : Int) (u o : List Int) : dot3 x y z (rowAdd c u o) = dot3 x y z u + c * dot3 x y z o := by
  simp only [dot3, rowAdd, List.getD_eq_getElem?_getD, List.getElem?_cons_zero, List.getElem?_cons_succ, Option.getD_some]
  grind
theorem dot3_sub (x y z c : Int) (u o : List Int) : dot3 x y z (rowSub c u o) = dot3 x y z u - c * dot3 x y z o := by
  simp only [dot3, rowSub, List.getD_eq_getElem?_getD, List.getElem?_cons_zero, List.getElem?_cons_succ, Option.getD_some]
  grind
theorem dot3_neg (x y z : Int) (u : List Int) : dot3 x y z (rowNeg u) = -dot3 x y z u := by
  simp only [dot3, rowNeg, List.getD_eq_getElem?_getD, List.getElem?_cons_zero, List.getElem?_cons_succ, Option.getD_some]
  grind
theorem getD_map0 {f : List Int → Int} (h : f [] = 0) (T : List (List Int)) (i : Nat) : (T.map f).getD i 0 = f (T.getD i []) := by
  rw [List.getD_eq_getElem?_getD, List.getD_eq_getElem?_getD, List.getElem?_map]
  cases T[i]? <;> simp [h]
theorem times_step (x y z : Int) (T : List (List Int)) (w : Int) : (stepT T w).map (dot3 x y z) = step (T.map (dot3 x y z)) w := by
  have g := getD_map0 (dot3_nil x y z) T
  unfold stepT step
  split
  · rw [List.map_set, dot3_add, g, g]
  · split
    · rw [List.map_set, dot3_sub, g, g]
    · split
      · rw [List.map_set, List.map_set, g, g]
      · rw [List.map_set, dot3_neg, g]
theorem times_fold (x y z : Int) (W : List Int) : ∀ T : List (List Int), (W.foldl stepT T).map (dot3 x y z) = W.foldl step (T.map (dot3 x y z)) := by
  induction W with
  | nil => intro T; rfl
  | cons w r ih => intro T; rw [List.foldl_cons, List.foldl_cons, ih, times_step]
theorem table_times {W : List Int} {a0 b0 e0 a1 b1 e1 a2 b2 e2 : Int} (h : W.foldl stepT tab0 = [[a0, b0, e0], [a1, b1, e1], [a2, b2, e2]]) (x y z : Int) : W.foldl step [x, y, z] = [a0 * x + b0 * y + e0 * z, a1 * x + b1 * y + e1 * z, a2 * x + b2 * y + e2 * z] := by
  have q := times_fold x y z W tab0
  rw [h] at q
  have e : tab0.map (dot3 x y z) = [x, y, z] := by simp [tab0, dot3]
  rw [e] at q
  rw [← q]
  simp [dot3]

def undoOf (k' : Int) : Int := if k'.fmod 4 = 0 then k' + 1 else if k'.fmod 4 = 1 then k' + -1 else if k'.fmod 4 = 2 then k' + 0 else if k'.fmod 4 = 3 then k' + 0 else k'
theorem set_self (r : List Int) (i : Nat) (h : i < r.length) : r.set i (r.getD i 0) = r := by
  rw [List.getD_eq_getElem?_getD, List.getElem?_eq_getElem h]
  simp
theorem iOf_e (w : Int) : iOf w = w / 4 % 6 / 2 := by
  unfold iOf; rw [fd _ (by decide), fm _ (by decide), fd _ (by decide)]
theorem jOf_e (w : Int) : jOf w = (w / 4 % 6 / 2 + 1 + w / 4 % 2) % 3 := by
  unfold jOf; rw [fd _ (b := 4) (by decide), fm _ (b := 6) (by decide), fd _ (b := 2) (by decide), fm _ (b := 2) (by decide), fm _ (b := 3) (by decide)]
theorem ij_ne (w : Int) : (iOf w).toNat ≠ (jOf w).toNat := by
  rw [iOf_e, jOf_e]
  have e : w / 4 % 2 = (w / 4 % 6) % 2 := by omega
  rw [e]
  have h0 : 0 ≤ w / 4 % 6 := by omega
  have h6 : w / 4 % 6 < 6 := by omega
  generalize w / 4 % 6 = q at *
  have c : q = 0 ∨ q = 1 ∨ q = 2 ∨ q = 3 ∨ q = 4 ∨ q = 5 := by omega
  rcases c with rfl | rfl | rfl | rfl | rfl | rfl <;> decide
theorem undo_eq {w : Int} : (w.fmod 4 = 0 → undoOf w = w + 1) ∧ (w.fmod 4 = 1 → undoOf w = w - 1) ∧ (w.fmod 4 = 2 → undoOf w = w) ∧ (w.fmod 4 = 3 → undoOf w = w) := by
  unfold undoOf
  refine ⟨fun h => ?_, fun h => ?_, fun h => ?_, fun h => ?_⟩
  · rw [if_pos h]
  · rw [if_neg (by omega), if_pos h]; omega
  · rw [if_neg (by omega), if_neg (by omega), if_pos h]; omega
  · rw [if_neg (by omega), if_neg (by omega), if_neg (by omega), if_pos h]; omega
theorem mod4 (w : Int) : w.fmod 4 = 0 ∨ w.fmod 4 = 1 ∨ w.fmod 4 = 2 ∨ w.fmod 4 = 3 := by rw [fm _ (by decide)]; omega
theorem step_e0 {r : List Int} {w : Int} (h : w.fmod 4 = 0) : step r w = r.set (iOf w).toNat (r.getD (iOf w).toNat 0 + w.fdiv 24 * r.getD (jOf w).toNat 0) := by unfold step; rw [if_pos h]
theorem step_e1 {r : List Int} {w : Int} (h : w.fmod 4 = 1) : step r w = r.set (iOf w).toNat (r.getD (iOf w).toNat 0 - w.fdiv 24 * r.getD (jOf w).toNat 0) := by unfold step; rw [if_neg (by omega), if_pos h]
theorem step_e2 {r : List Int} {w : Int} (h : w.fmod 4 = 2) : step r w = (r.set (iOf w).toNat (r.getD (jOf w).toNat 0)).set (jOf w).toNat (r.getD (iOf w).toNat 0) := by unfold step; rw [if_neg (by omega), if_neg (by omega), if_pos h]
theorem step_e3 {r : List Int} {w : Int} (h : w.fmod 4 = 3) : step r w = r.set (iOf w).toNat (-(r.getD (iOf w).toNat 0)) := by unfold step; rw [if_neg (by omega), if_neg (by omega), if_neg (by omega)]
theorem same_q {w v : Int} (h : v / 4 = w / 4) : iOf v = iOf w ∧ jOf v = jOf w ∧ v.fdiv 24 = w.fdiv 24 := by
  refine ⟨by rw [iOf_e, iOf_e, h], by rw [jOf_e, jOf_e, h], ?_⟩
  have e : ∀ u : Int, u.fdiv 24 = u / 4 / 6 := fun u => by rw [fd _ (by decide)]; omega
  rw [e, e, h]
theorem ext_getD {a b : List Int} (hl : a.length = b.length) (h : ∀ k, k < b.length → a.getD k 0 = b.getD k 0) : a = b := by
  refine List.ext_getElem hl fun k h1 h2 => ?_
  have q := h k h2
  rw [List.getD_eq_getElem?_getD, List.getD_eq_getElem?_getD, List.getElem?_eq_getElem h1, List.getElem?_eq_getElem h2] at q
  exact q
theorem swap_swap {r : List Int} {i j : Nat} (hi : i < r.length) (hj : j < r.length) (hij : i ≠ j) : ((((r.set i (r.getD j 0)).set j (r.getD i 0)).set i (((r.set i (r.getD j 0)).set j (r.getD i 0)).getD j 0)).set j (((r.set i (r.getD j 0)).set j (r.getD i 0)).getD i 0)) = r := by
  refine ext_getD (by simp only [List.length_set]) fun k hk => ?_
  have e1 : ((r.set i (r.getD j 0)).set j (r.getD i 0)).getD j 0 = r.getD i 0 := by rw [getD_set _ _ _ _ _ (by simpa using hj), if_pos rfl]
  have e2 : ((r.set i (r.getD j 0)).set j (r.getD i 0)).getD i 0 = r.getD j 0 := by rw [getD_set _ _ _ _ _ (by simpa using hi), if_neg (Ne.symm hij), getD_set _ _ _ _ _ hi, if_pos rfl]
  rw [e1, e2, getD_set _ _ _ _ _ (by simpa using hk), getD_set _ _ _ _ _ (by simpa using hk), getD_set _ _ _ _ _ (by simpa using hk), getD_set _ _ _ _ _ hk]
  by_cases h1 : j = k
  · rw [if_pos h1, h1]
  · rw [if_neg h1]
    by_cases h2 : i = k
    · rw [if_pos h2, h2]
    · rw [if_neg h2, if_neg h1, if_neg h2]
theorem undo_step {r : List Int} {w : Int} (hr : r.length = 3) : step (step r w) (undoOf w) = r := by
  have hi : (iOf w).toNat < r.length := by rw [hr]; exact iOf_3 w
  have hj : (jOf w).toNat < r.length := by rw [hr]; exact jOf_3 w
  have hij := ij_ne w
  rcases mod4 w with h | h | h | h
  · have h0 : w % 4 = 0 := by rw [← fm _ (by decide)]; exact h
    obtain ⟨e1, e2, e3⟩ := same_q (w := w) (v := w + 1) (by clear hi hj hij h; omega)
    have h1 : (w + 1).fmod 4 = 1 := by rw [fm _ (by decide)]; clear hi hj hij h e1 e2 e3; omega
    rw [undo_eq.1 h, step_e0 h, step_e1 h1, e1, e2, e3, getD_set _ _ _ _ _ hi, if_pos rfl, getD_set _ _ _ _ _ hj, if_neg hij, List.set_set, Int.add_sub_cancel]
    exact set_self r _ hi
  · have h0 : w % 4 = 1 := by rw [← fm _ (by decide)]; exact h
    obtain ⟨e1, e2, e3⟩ := same_q (w := w) (v := w - 1) (by clear hi hj hij h; omega)
    have h1 : (w - 1).fmod 4 = 0 := by rw [fm _ (by decide)]; clear hi hj hij h e1 e2 e3; omega
    rw [undo_eq.2.1 h, step_e1 h, step_e0 h1, e1, e2, e3, getD_set _ _ _ _ _ hi, if_pos rfl, getD_set _ _ _ _ _ hj, if_neg hij, List.set_set, Int.sub_add_cancel]
    exact set_self r _ hi
  · rw [undo_eq.2.2.1 h, step_e2 h, step_e2 h]
    exact swap_swap hi hj hij
  · rw [undo_eq.2.2.2 h, step_e3 h, step_e3 h, getD_set _ _ _ _ _ hi, if_pos rfl, List.set_set, Int.neg_neg]
    exact set_self r _ hi
theorem fold_length (W : List Int) : ∀ r : List Int, (W.foldl step r).length = r.length := by
  induction W with
  | nil => intro r; rfl
  | cons w W ih => intro r; rw [List.foldl_cons, ih, step_length]
theorem undo_fold (W : List Int) : ∀ r : List Int, r.length = 3 → (W.reverse.map undoOf).foldl step (W.foldl step r) = r := by
  induction W with
  | nil => intro r _; rfl
  | cons w W ih =>
    intro r hr
    rw [List.foldl_cons, List.reverse_cons, List.map_append, List.foldl_append, ih _ (by rw [step_length, hr])]
    exact undo_step hr
theorem undo_part (W : List Int) (x y z : Int) (k : Nat) (hk : k ≤ W.length) : ((W.reverse.map undoOf).take (W.length - k)).foldl step (W.foldl step [x, y, z]) = (W.take k).foldl step [x, y, z] := by
  have e : W.foldl step [x, y, z] = (W.drop k).foldl step ((W.take k).foldl step [x, y, z]) := by
    rw [← List.foldl_append, List.take_append_drop]
  have e2 : (W.reverse.map undoOf).take (W.length - k) = (W.drop k).reverse.map undoOf := by
    have q : W.reverse = (W.drop k).reverse ++ (W.take k).reverse := by rw [← List.reverse_append, List.take_append_drop]
    rw [q, List.map_append, List.take_left' (by simp)]
  rw [e, e2]
  exact undo_fold _ _ (by rw [fold_length]; rfl)
theorem undo_b {W : List Int} (hb : ∀ v ∈ W, 0 ≤ v ∧ v < 98304) : ∀ v ∈ W.reverse.map undoOf, 0 ≤ v ∧ v < 98304 := by
  intro v hv
  obtain ⟨u, hu, rfl⟩ := List.mem_map.mp hv
  have := hb u (List.mem_reverse.mp hu)
  rcases mod4 u with h | h | h | h
  · rw [undo_eq.1 h]; rw [fm _ (by decide)] at h; omega
  · rw [undo_eq.2.1 h]; rw [fm _ (by decide)] at h; omega
  · rw [undo_eq.2.2.1 h]; exact this
  · rw [undo_eq.2.2.2 h]; exact this

end Mine
namespace Mine
def wf : List Int → Prop
  | [] => False
  | [x] => x % 128 < 64
  | x :: y :: r => 64 ≤ x % 128 ∧ wf (y :: r)
def valOf (v : Int) (f : List Int) : Int := f.foldl (fun v x => v * 64 + x % 64) v
theorem go_stop {b v : Int} {r : List Int} (h : b % 128 < 64) : parseGo b v r = some (v, r) := by
  cases r <;> simp [parseGo, h]
theorem go_cont {b v x : Int} {r : List Int} (h : 64 ≤ b % 128) : parseGo b v (x :: r) = parseGo x (v * 64 + x % 64) r := by
  have : ¬ b % 128 < 64 := by omega
  simp [parseGo, this]
theorem go_list (t : List Int) : ∀ (f : List Int) (b v : Int), 64 ≤ b % 128 → wf f → parseGo b v (f ++ t) = some (valOf v f, t)
  | [], _, _, _, h => h.elim
  | [x], b, v, hb, h => by
    have hx : x % 128 < 64 := h
    show parseGo b v (x :: t) = _
    rw [go_cont hb, go_stop hx]; rfl
  | x :: y :: r, b, v, hb, h => by
    have hx : 64 ≤ x % 128 ∧ wf (y :: r) := h
    show parseGo b v (x :: ((y :: r) ++ t)) = _
    rw [go_cont hb, go_list t (y :: r) x _ hx.1 hx.2]; rfl
theorem parse_list (t : List Int) : ∀ (f : List Int), wf f → parse (f ++ t) = some (valOf 0 f, t)
  | [], h => h.elim
  | [x], h => by
    have hx : x % 128 < 64 := h
    show parseGo x (x % 64) t = _
    rw [go_stop hx]
    simp [valOf]
  | x :: y :: r, h => by
    have hx : 64 ≤ x % 128 ∧ wf (y :: r) := h
    show parseGo x (x % 64) ((y :: r) ++ t) = _
    rw [go_list t (y :: r) x _ hx.1 hx.2]
    simp [valOf]
theorem go_none : ∀ (p : List Int) (b v : Int), 64 ≤ b % 128 → (∀ x ∈ p, 64 ≤ x % 128) → parseGo b v p = none
  | [], b, v, hb, _ => by
    have : ¬ b % 128 < 64 := by omega
    simp [parseGo, this]
  | x :: r, b, v, hb, h => by
    rw [go_cont hb]
    exact go_none r x _ (h x (.head _)) fun y hy => h y (.tail _ hy)
theorem parse_none (p : List Int) (h : ∀ x ∈ p, 64 ≤ x % 128) : parse p = none := by
  cases p with
  | nil => rfl
  | cons x r => exact go_none r x _ (h x (.head _)) fun y hy => h y (.tail _ hy)
theorem wf_take : ∀ (f : List Int) (j : Nat), wf f → j < f.length → ∀ x ∈ f.take j, 64 ≤ x % 128
  | [], _, h, _ => h.elim
  | [x], j, _, hj => by
    have : j = 0 := by simpa using hj
    subst this; intro y hy; simp at hy
  | x :: y :: r, j, h, hj => by
    have hx : 64 ≤ x % 128 ∧ wf (y :: r) := h
    cases j with
    | zero => intro z hz; simp at hz
    | succ j =>
      intro z hz
      rw [List.take_succ_cons] at hz
      rcases List.mem_cons.mp hz with rfl | hz
      · exact hx.1
      · exact wf_take (y :: r) j hx.2 (by simpa using hj) z hz
def wholeOf (t : List Int) : Nat := (t.filter (fun o => decide (o % 128 < 64))).length
theorem whole_app (a b : List Int) : wholeOf (a ++ b) = wholeOf a + wholeOf b := by simp [wholeOf]
theorem whole_none (p : List Int) (h : ∀ x ∈ p, 64 ≤ x % 128) : wholeOf p = 0 := by
  unfold wholeOf
  rw [List.length_eq_zero_iff, List.filter_eq_nil_iff]
  intro x hx
  have := h x hx
  simp; omega
theorem whole_wf : ∀ (f : List Int), wf f → wholeOf f = 1
  | [], h => h.elim
  | [x], h => by
    have hx : x % 128 < 64 := h
    simp [wholeOf, hx]
  | x :: y :: r, h => by
    have hx : 64 ≤ x % 128 ∧ wf (y :: r) := h
    have e : wholeOf (x :: y :: r) = wholeOf [x] + wholeOf (y :: r) := whole_app [x] (y :: r)
    rw [e, whole_wf (y :: r) hx.2, whole_none [x] (fun z hz => by rw [List.mem_singleton.mp hz]; exact hx.1)]

theorem figs_cases {w : Int} (h0 : 0 ≤ w) (h1 : w < 262144) : (w < 64 ∧ figs w = [w % 64]) ∨ (64 ≤ w ∧ w / 64 < 64 ∧ figs w = [64 + w / 64 % 64, w % 64]) ∨ (64 ≤ w ∧ 64 ≤ w / 64 ∧ figs w = [64 + w / 64 / 64 % 64, 64 + w / 64 % 64, w % 64]) := by
  unfold figs digGo
  rw [fm _ (by decide), fd _ (by decide)]
  by_cases c1 : 64 ≤ w
  · rw [if_pos c1]
    unfold digGo
    rw [fd _ (by decide), fm _ (by decide), fm _ (by decide)]
    by_cases c2 : 64 ≤ w / 64
    · rw [if_pos c2]
      exact .inr (.inr ⟨c1, c2, rfl⟩)
    · rw [if_neg c2]
      exact .inr (.inl ⟨c1, by omega, rfl⟩)
  · rw [if_neg c1]
    exact .inl ⟨by omega, by rw [fm _ (by decide)]⟩
theorem dig_hi {a : Int} (h0 : 0 ≤ a) (h1 : a < 64) : 64 ≤ (64 + a) % 128 ∧ (64 + a) % 64 = a ∧ 64 ≤ (128 + (64 + a)) % 128 ∧ (128 + (64 + a)) % 64 = a := by omega
theorem dig_lo {a : Int} (h0 : 0 ≤ a) (h1 : a < 64) : a % 128 < 64 ∧ a % 64 = a ∧ (128 + a) % 128 < 64 ∧ (128 + a) % 64 = a := by omega
theorem m64 (a : Int) : 0 ≤ a % 64 ∧ a % 64 < 64 := by omega
theorem fig_shape {w : Int} (h0 : 0 ≤ w) (h1 : w < 262144) : ∃ a b c : Int, (0 ≤ a ∧ a < 64) ∧ (0 ≤ b ∧ b < 64) ∧ (0 ≤ c ∧ c < 64) ∧ ((figs w = [c] ∧ w = c) ∨ (figs w = [64 + b, c] ∧ w = b * 64 + c) ∨ (figs w = [64 + a, 64 + b, c] ∧ w = (a * 64 + b) * 64 + c)) := by
  refine ⟨w / 64 / 64 % 64, w / 64 % 64, w % 64, m64 _, m64 _, m64 _, ?_⟩
  rcases figs_cases h0 h1 with ⟨c, e⟩ | ⟨_, c2, e⟩ | ⟨_, _, e⟩
  · exact .inl ⟨e, by omega⟩
  · exact .inr (.inl ⟨e, by omega⟩)
  · exact .inr (.inr ⟨e, by omega⟩)
theorem octOne_ok {w : Int} (k : Nat) (h0 : 0 ≤ w) (h1 : w < 262144) : wf (octOne k w) ∧ valOf 0 (octOne k w) = w := by
  obtain ⟨a, b, c, ha, hb, hc, h⟩ := fig_shape h0 h1
  clear h0 h1
  have ga := dig_hi ha.1 ha.2
  have gb := dig_hi hb.1 hb.2
  have gc := dig_lo hc.1 hc.2
  clear ha hb hc
  have p1 : (64 : Int) ≤ (128 + 64) % 128 := by decide
  have p2 : (128 + 64 : Int) % 64 = 0 := by decide
  unfold octOne
  rcases h with ⟨e, hw⟩ | ⟨e, hw⟩ | ⟨e, hw⟩ <;> rw [e, hw] <;> split <;> simp only [mark, wf, valOf, List.foldl_cons, List.foldl_nil, ga, gb, gc, p1, p2, Int.zero_mul, Int.zero_add, and_self]
def octFrom : Nat → List Int → List Int
  | _, [] => []
  | k, w :: r => octOne k w ++ octFrom (k + 1) r
theorem octFrom_append (a b : List Int) : ∀ k, octFrom k (a ++ b) = octFrom k a ++ octFrom (k + a.length) b := by
  induction a with
  | nil => intro k; simp [octFrom]
  | cons w r ih =>
    intro k
    simp only [List.cons_append, octFrom, ih, List.length_cons, List.append_assoc]
    rw [show k + 1 + r.length = k + (r.length + 1) from by omega]
theorem octsN_from (W : List Int) : ∀ n, n ≤ W.length → octsN W n = octFrom 0 (W.take n)
  | 0, _ => by simp [octsN, octFrom]
  | n + 1, h => by
    have hn : n < W.length := by omega
    have e : W.take (n + 1) = W.take n ++ [W.getD n 0] := by
      rw [List.take_add_one, List.getD_eq_getElem?_getD, List.getElem?_eq_getElem hn]; rfl
    rw [e, octFrom_append, octsN, octsN_from W n (by omega)]
    have e2 : 0 + (W.take n).length = n := by rw [List.length_take]; omega
    rw [e2]
    simp [octFrom]
theorem octets_from (W : List Int) : octets W = octFrom 0 W := by
  unfold octets
  rw [octsN_from W _ (Nat.le_refl _), List.take_length]
theorem words_from (W : List Int) : ∀ (k cut n : Nat), (∀ v ∈ W, 0 ≤ v ∧ v < 262144) → ((octFrom k W).take cut).length < n → wordsOf n ((octFrom k W).take cut) = W.take (wholeOf ((octFrom k W).take cut)) := by
  induction W with
  | nil =>
    intro k cut n _ hn
    cases n with
    | zero => omega
    | succ n => simp [octFrom, wordsOf, parse]
  | cons w r ih =>
    intro k cut n hb hn
    have hw := hb w (.head _)
    have ok := octOne_ok k hw.1 hw.2
    have hl := octOne_len k w
    cases n with
    | zero => omega
    | succ n =>
      by_cases hc : cut < (octOne k w).length
      · have e : (octFrom k (w :: r)).take cut = (octOne k w).take cut := by
          show (octOne k w ++ octFrom (k + 1) r).take cut = _
          rw [List.take_append_of_le_length (by omega)]
        have hn := wf_take _ cut ok.1 hc
        rw [e, whole_none _ hn]
        simp [wordsOf, parse_none _ hn]
      · have e : (octFrom k (w :: r)).take cut = octOne k w ++ (octFrom (k + 1) r).take (cut - (octOne k w).length) := by
          show (octOne k w ++ octFrom (k + 1) r).take cut = _
          rw [List.take_append]
          rw [List.take_of_length_le (by omega)]
        rw [e] at hn ⊢
        rw [whole_app, whole_wf _ ok.1, Nat.add_comm 1, List.take_succ_cons]
        rw [wordsOf, parse_list _ _ ok.1, ok.2]
        simp only [List.length_append] at hn
        show w :: wordsOf n ((octFrom (k + 1) r).take (cut - (octOne k w).length)) = _
        rw [ih (k + 1) (cut - (octOne k w).length) n (fun v hv => hb v (.tail _ hv)) (by omega)]
theorem words_take (W : List Int) (hb : ∀ v ∈ W, 0 ≤ v ∧ v < 262144) (cut : Nat) : wordsOf (((octets W).take cut).length + 1) ((octets W).take cut) = W.take (wholeOf ((octets W).take cut)) := by
  rw [octets_from]
  exact words_from W 0 cut _ hb (Nat.lt_succ_self _)
theorem whole_from (W : List Int) : ∀ k, (∀ v ∈ W, 0 ≤ v ∧ v < 262144) → wholeOf (octFrom k W) = W.length := by
  induction W with
  | nil => intro k _; rfl
  | cons w r ih =>
    intro k hb
    have hw := hb w (.head _)
    show wholeOf (octOne k w ++ octFrom (k + 1) r) = _
    rw [whole_app, whole_wf _ (octOne_ok k hw.1 hw.2).1, ih _ (fun v hv => hb v (.tail _ hv)), List.length_cons]
    omega
theorem words_octets (W : List Int) (hb : ∀ v ∈ W, 0 ≤ v ∧ v < 262144) : wordsOf ((octets W).length + 1) (octets W) = W := by
  have h := words_take W hb (octets W).length
  rw [List.take_length, octets_from, whole_from W 0 hb, List.take_length, ← octets_from] at h
  exact h

end Mine
namespace Mine
def det9 (a0 b0 e0 a1 b1 e1 a2 b2 e2 : Int) : Int := a0 * (b1 * e2 - e1 * b2) - b0 * (a1 * e2 - e1 * a2) + e0 * (a1 * b2 - b1 * a2)
def detR (r0 r1 r2 : List Int) : Int := det9 (r0.getD 0 0) (r0.getD 1 0) (r0.getD 2 0) (r1.getD 0 0) (r1.getD 1 0) (r1.getD 2 0) (r2.getD 0 0) (r2.getD 1 0) (r2.getD 2 0)
def detT (T : List (List Int)) : Int := detR (T.getD 0 []) (T.getD 1 []) (T.getD 2 [])
theorem rowAdd_g (c : Int) (u o : List Int) : (rowAdd c u o).getD 0 0 = u.getD 0 0 + c * o.getD 0 0 ∧ (rowAdd c u o).getD 1 0 = u.getD 1 0 + c * o.getD 1 0 ∧ (rowAdd c u o).getD 2 0 = u.getD 2 0 + c * o.getD 2 0 := ⟨rfl, rfl, rfl⟩
theorem rowSub_g (c : Int) (u o : List Int) : (rowSub c u o).getD 0 0 = u.getD 0 0 - c * o.getD 0 0 ∧ (rowSub c u o).getD 1 0 = u.getD 1 0 - c * o.getD 1 0 ∧ (rowSub c u o).getD 2 0 = u.getD 2 0 - c * o.getD 2 0 := ⟨rfl, rfl, rfl⟩
theorem rowNeg_g (u : List Int) : (rowNeg u).getD 0 0 = -u.getD 0 0 ∧ (rowNeg u).getD 1 0 = -u.getD 1 0 ∧ (rowNeg u).getD 2 0 = -u.getD 2 0 := ⟨rfl, rfl, rfl⟩
theorem stepT_len (T : List (List Int)) (w : Int) : (stepT T w).length = T.length := by
  unfold stepT; split
  · simp
  · split
    · simp
    · split <;> simp
/-- the determinant of three rows, by rows -/
theorem det_swap (u v w : List Int) : detR v u w = -detR u v w := by unfold detR det9; grind
theorem det_cyc (u v w : List Int) : detR v w u = detR u v w := by unfold detR det9; grind
theorem det_add (c : Int) (u v w : List Int) : detR (rowAdd c u v) v w = detR u v w := by
  unfold detR det9; simp only [rowAdd_g]; grind
theorem det_sub (c : Int) (u v w : List Int) : detR (rowSub c u v) v w = detR u v w := by
  unfold detR det9; simp only [rowSub_g]; grind
theorem det_neg (u v w : List Int) : detR (rowNeg u) v w = -detR u v w := by
  unfold detR det9; simp only [rowNeg_g]; grind
/-- three different places: the determinant with the row at i first, the one at j next -/
theorem det_at {r0 r1 r2 : List Int} {i j : Nat} (hi : i < 3) (hj : j < 3) (hij : i ≠ j) : ∃ (s : Int) (w : List Int), ∀ x y : List Int, detT ((([r0, r1, r2] : List (List Int)).set i x).set j y) = s * detR x y w := by
  have c1 : i = 0 ∨ i = 1 ∨ i = 2 := by omega
  have c2 : j = 0 ∨ j = 1 ∨ j = 2 := by omega
  rcases c1 with rfl | rfl | rfl <;> rcases c2 with rfl | rfl | rfl
  · exact absurd rfl hij
  · exact ⟨1, r2, fun x y => (Int.one_mul _).symm⟩
  · exact ⟨-1, r1, fun x y => by show detR x r1 y = _; rw [Int.neg_one_mul, ← det_swap, det_cyc y x r1]⟩
  · exact ⟨-1, r2, fun x y => by show detR y x r2 = _; rw [Int.neg_one_mul, ← det_swap]⟩
  · exact absurd rfl hij
  · exact ⟨1, r0, fun x y => by show detR r0 x y = _; rw [Int.one_mul, det_cyc r0 x y]⟩
  · exact ⟨1, r1, fun x y => by show detR y r1 x = _; rw [Int.one_mul, det_cyc x y r1]⟩
  · exact ⟨-1, r0, fun x y => by show detR r0 y x = _; rw [Int.neg_one_mul, ← det_swap, det_cyc r0 y x]⟩
  · exact absurd rfl hij
theorem getD_self {T : List (List Int)} {i : Nat} (h : i < T.length) : T.set i (T.getD i []) = T := by
  rw [List.getD_eq_getElem?_getD, List.getElem?_eq_getElem h]
  simp
theorem det_step {T : List (List Int)} (hT : T.length = 3) (w : Int) : detT (stepT T w) = if 2 ≤ w.fmod 4 then -detT T else detT T := by
  match T, hT with
  | [r0, r1, r2], _ =>
    obtain ⟨s, q, h⟩ := det_at (r0 := r0) (r1 := r1) (r2 := r2) (iOf_3 w) (jOf_3 w) (ij_ne w)
    have hi : (iOf w).toNat < [r0, r1, r2].length := iOf_3 w
    have hj : (jOf w).toNat < [r0, r1, r2].length := jOf_3 w
    have one : ∀ x, detT (([r0, r1, r2] : List (List Int)).set (iOf w).toNat x) = s * detR x (([r0, r1, r2] : List (List Int)).getD (jOf w).toNat []) q := fun x => by
      rw [← h x]
      congr 1
      have e : ([r0, r1, r2].set (iOf w).toNat x).getD (jOf w).toNat [] = ([r0, r1, r2] : List (List Int)).getD (jOf w).toNat [] := by
        rw [getD_set _ _ _ _ _ hj, if_neg (ij_ne w)]
      rw [← e, getD_self (by simpa using hj)]
    have all : detT [r0, r1, r2] = s * detR (([r0, r1, r2] : List (List Int)).getD (iOf w).toNat []) (([r0, r1, r2] : List (List Int)).getD (jOf w).toNat []) q := by
      rw [← one, getD_self hi]
    unfold stepT
    rcases mod4 w with hm | hm | hm | hm
    · rw [if_pos hm, if_neg (by omega), one, det_add, all]
    · rw [if_neg (by omega), if_pos hm, if_neg (by omega), one, det_sub, all]
    · rw [if_neg (by omega), if_neg (by omega), if_pos hm, if_pos (by omega), h, det_swap, all, Int.mul_neg]
    · rw [if_neg (by omega), if_neg (by omega), if_neg (by omega), if_pos (by omega), one, det_neg, all, Int.mul_neg]
def cntOf (W : List Int) : Nat := List.count true (W.map (fun v => decide (2 ≤ v.fmod 4)))
def sgOf (W : List Int) : Int := 1 - 2 * ((cntOf W : Nat) : Int).fmod 2
theorem sg_cons (w : Int) (W : List Int) : sgOf (w :: W) = if 2 ≤ w.fmod 4 then -sgOf W else sgOf W := by
  unfold sgOf cntOf
  rw [List.map_cons, List.count_cons]
  generalize List.count true (W.map (fun v => decide (2 ≤ v.fmod 4))) = c
  by_cases h : 2 ≤ w.fmod 4
  · rw [if_pos h, decide_eq_true h, if_pos (by decide), fm _ (by decide), fm _ (by decide)]
    omega
  · rw [if_neg h, decide_eq_false h, if_neg (by decide), fm _ (by decide), fm _ (by decide)]
    omega
theorem sg_sq (W : List Int) : sgOf W * sgOf W = 1 := by
  have : sgOf W = 1 ∨ sgOf W = -1 := by unfold sgOf; rw [fm _ (by decide)]; omega
  rcases this with h | h <;> rw [h] <;> decide
theorem det_fold (W : List Int) : ∀ T : List (List Int), T.length = 3 → detT (W.foldl stepT T) = sgOf W * detT T := by
  induction W with
  | nil => intro T _; simp [sgOf, cntOf]
  | cons w W ih =>
    intro T hT
    rw [List.foldl_cons, ih _ (by rw [stepT_len, hT]), det_step hT, sg_cons]
    split <;> grind
theorem undo_undo (w : Int) : undoOf (undoOf w) = w := by
  rcases mod4 w with h | h | h | h
  · rw [undo_eq.1 h, undo_eq.2.1 (by rw [fm _ (by decide)] at h ⊢; omega)]; omega
  · rw [undo_eq.2.1 h, undo_eq.1 (by rw [fm _ (by decide)] at h ⊢; omega)]; omega
  · rw [undo_eq.2.2.1 h, undo_eq.2.2.1 h]
  · rw [undo_eq.2.2.2 h, undo_eq.2.2.2 h]
theorem redo_fold (W : List Int) (r : List Int) (hr : r.length = 3) : W.foldl step ((W.reverse.map undoOf).foldl step r) = r := by
  have h := undo_fold (W.reverse.map undoOf) r hr
  rw [List.map_reverse, List.reverse_reverse, List.map_map] at h
  have e : W.map (undoOf ∘ undoOf) = W := by
    rw [show (undoOf ∘ undoOf) = id from funext undo_undo]; simp
  rw [e, ← List.map_reverse] at h
  exact h
theorem inv_law {W : List Int} {a0 b0 e0 a1 b1 e1 a2 b2 e2 : Int} (h : W.foldl stepT tab0 = [[a0, b0, e0], [a1, b1, e1], [a2, b2, e2]]) (x y z : Int) : (W.reverse.map undoOf).foldl step [x, y, z] =
    [sgOf W * (b1 * e2 - e1 * b2) * x + sgOf W * (b2 * e0 - e2 * b0) * y + sgOf W * (b0 * e1 - e0 * b1) * z,
     sgOf W * (e1 * a2 - a1 * e2) * x + sgOf W * (e2 * a0 - a2 * e0) * y + sgOf W * (e0 * a1 - a0 * e1) * z,
     sgOf W * (a1 * b2 - b1 * a2) * x + sgOf W * (a2 * b0 - b2 * a0) * y + sgOf W * (a0 * b1 - b0 * a1) * z] := by
  have hd : det9 a0 b0 e0 a1 b1 e1 a2 b2 e2 = sgOf W := by
    have q := det_fold W tab0 rfl
    rw [h] at q
    have e : detT tab0 = 1 := by decide
    rw [e, Int.mul_one] at q
    exact q
  have hs := sg_sq W
  generalize sgOf W = sg at *
  have hl : ((W.reverse.map undoOf).foldl step [x, y, z]).length = 3 := by rw [fold_length]; rfl
  have hr := redo_fold W [x, y, z] rfl
  generalize (W.reverse.map undoOf).foldl step [x, y, z] = r at *
  match r, hl with
  | [p, q, u], _ =>
    rw [table_times h] at hr
    unfold det9 at hd
    have g1 : a0 * p + b0 * q + e0 * u = x := (List.cons.inj hr).1
    have g2 : a1 * p + b1 * q + e1 * u = y := (List.cons.inj (List.cons.inj hr).2).1
    have g3 : a2 * p + b2 * q + e2 * u = z := (List.cons.inj (List.cons.inj (List.cons.inj hr).2).2).1
    subst g1 g2 g3
    have k1 : ∀ d v : Int, d = sg → sg * d * v = v := fun d v e => by rw [e, hs, Int.one_mul]
    have m1 := k1 _ p hd
    have m2 := k1 _ q hd
    have m3 := k1 _ u hd
    congr 1
    · rw [← m1]; grind
    · congr 1
      · rw [← m2]; grind
      · congr 1
        rw [← m3]; grind

end Mine
namespace Mine
set_option maxRecDepth 100000

def OffC (I C P D : Addr) (news : List (Addr × Obj)) : Prop := ∀ p ∈ news, p.1 ≠ I ∧ p.1 ≠ C ∧ p.1 ≠ P ∧ p.1 ≠ D
/-- the turns of a comprehension over range(n) whose own variable x is a cell -/
def CompRestC (prog : Program) (w : World) (A : Around) (h₀ : Heap) (L : Addr) (m : Str → Option Value) (env : Env) (elt : Expr) (x : Str) (scope : Scope) (cl : List (Str × Addr)) (s : Shared) (Fin : List Value → List (Addr × Obj) → Prop) : Nat → Nat → List Value → List (Addr × Obj) → Prop
  | 0, _, ys, news => Fin ys news
  | k + 1, i, ys, news => ∀ t I oI C oC P oP D h tk (E' : Value → Shared → Prop), oP.data = .cell (some (.int (i : Int) t)) → Fr h₀ L h m → News h₀ L h ((I, oI) :: (C, oC) :: (P, oP) :: (D, LCg.lst ys) :: news) → OffC I C P D news → (@Ne Nat I C ∧ @Ne Nat I P ∧ @Ne Nat I D ∧ @Ne Nat C P ∧ @Ne Nat C D ∧ @Ne Nat P D) →
      wpAny (model prog w) A (eval elt (compEnvC scope ((x, P) :: cl) C env)) (fun y s₂ => ∃ h' tk' news', s₂ = { s with heap := h', toks := tk' } ∧ Fr h₀ L h' m ∧ News h₀ L h' ((I, oI) :: (C, oC) :: (P, oP) :: (D, LCg.lst ys) :: news') ∧ OffC I C P D news' ∧
        CompRestC prog w A h₀ L m env elt x scope cl s Fin k (i + 1) (ys ++ [y]) news') E' { s with heap := h, toks := tk }

section
variable {prog : Program} {w : World} {A : Around} {E : Value → Shared → Prop} {h₀ : Heap} {L : Addr} {m : Str → Option Value} {env : Env}
theorem block_C {elt iter : Expr} {x : Str} {px : Pos} {scope : Scope} {cl : List (Str × Addr)} {pos : Pos} {s₂ : Shared} {I : Addr} {n : Nat} {news : List (Addr × Obj)} {Fin : List Value → List (Addr × Obj) → Prop} {RR : Value → Addr → Result → Shared → Prop}
    (hh : A.handled = none) (hsz : n ≤ sizeLine)
    (henv : ∀ (s : Shared) (Q : Env → Shared → Prop) (E : Value → Shared → Prop),
      (∀ o : Obj, o.data = .cell none → o.isFreed = false → Q { scope := scope, locals := s.heap.objs.size, globals := env.globals, cells := (x, s.heap.objs.size + 1) :: cl, qual := env.qual, func := none, code := env.code, frame := env.frame, builtins := env.builtins } { s with heap := (s.heap.push { cls := .type "dict", data := .dict #[] }).push o }) →
      wpAny (model prog w) A (newFunctionEnv scope env.globals cl [] env.qual none .none (some env)) Q E s)
    (hkind : scope.kind = .function) (hx : ∀ P C, (compEnvC scope ((x, P) :: cl) C env).kindOf x = some .cell) (hst : IsRangeIter s₂.heap I 0 (n : Int) 1)
    (F : Fr h₀ L s₂.heap m) (N : News h₀ L s₂.heap news) (hIL : L ≠ I) (hI₀ : h₀.get? I = none) (off : ∀ p ∈ news, p.1 ≠ I)
    (R : CompRestC prog w A h₀ L m env elt x scope cl s₂ Fin n 0 [] news)
    (hRR : ∀ D C h tk m' ys news', Fr h₀ L h m → News h₀ L h ((D, LCg.lst ys) :: news') → (∀ p ∈ news', p.1 ≠ D) → h.Ns C m' → h₀.get? C = none → C ≠ L → D ≠ L → C ≠ D → (∀ p ∈ news', p.1 ≠ C) → Fin ys news' → RR (.ref D) C (.ok .next) { s₂ with heap := h, toks := tk }) :
    wpAny (model prog w) A (newList []) (fun acc s₃ => wpAny (model prog w) A (newFunctionEnv scope env.globals cl [] env.qual none .none (some env)) (fun cenv s₄ =>
      codeAny (model prog w) A (.compStart (.ListComp elt [⟨.Name x px, iter, [], 0⟩] scope pos) 0 (.ref I) acc { cenv with scope := relabel scope env }) (RR acc cenv.locals) s₄) E s₃) E s₂ := by
  refine wpAny_newObj_type (henv _ _ _ fun oP0 hP0 hPf => ?_)
  have W := LCg.range_walks (prog := prog) (w := w) (I := I) hh 0 n
  dsimp only
  generalize hH2 : s₂.heap.push { cls := .type "list", dict := none, data := .seq ([] : List Value).toArray } = H2
  generalize hh1 : (H2.push { cls := .type "dict", data := .dict #[] }).push oP0 = h₁
  have hC : H2.objs.size = s₂.heap.objs.size + 1 := by rw [← hH2, Heap.size_push]
  generalize hPd : H2.objs.size + 1 = P
  generalize hCd : H2.objs.size = C at *
  generalize hDd : s₂.heap.objs.size = D at *
  have hDC : @Ne Nat D C := by omega
  have hDP : @Ne Nat D P := by omega
  have hCP : @Ne Nat C P := by omega
  have below : ∀ b : Nat, b < D → b ≠ C ∧ b ≠ D ∧ b ≠ P := fun b hb => ⟨by omega, by omega, by omega⟩
  have hIlt : @LT.lt Nat _ I D := by rw [← hDd]; exact Heap.lt_size hst
  have old : ∀ b o, s₂.heap.get? b = some o → h₁.get? b = some o := fun b o e => by
    rw [← hh1, ← hH2]; exact Heap.get?_push_of_some _ (Heap.get?_push_of_some _ (Heap.get?_push_of_some _ e))
  have hacc : h₁.get? D = some (LCg.lst []) := by
    rw [← hh1]; refine Heap.get?_push_of_some _ (Heap.get?_push_of_some _ ?_); rw [← hH2, ← hDd]; exact Heap.get?_push_size _ rfl
  have hCn : h₁.Ns C (fun _ => none) := by
    rw [← hh1, ← hCd]; exact (Heap.Ns.new H2 (.type "dict")).keeps fun b o e => Heap.get?_push_of_some _ e
  have hPc : h₁.IsCell P none := ⟨oP0, by
    rw [← hh1, ← hPd, ← hCd, ← Heap.size_push]; exact Heap.get?_push_size _ hPf, hP0⟩
  have fresh₀ : ∀ a : Nat, D ≤ a → h₀.get? a = none := fun a ha => by
    cases e : h₀.get? a with
    | none => rfl
    | some o' => have := Heap.lt_size (F.keep a o' e); rw [hDd] at this; exact absurd this (Nat.not_lt.mpr ha)
  have hD₀ : h₀.get? D = none := fresh₀ _ (Nat.le_refl _)
  have hC₀ : h₀.get? C = none := fresh₀ _ (by omega)
  have hP₀ : h₀.get? P = none := fresh₀ _ (by omega)
  have hLlt : @LT.lt Nat _ L D := by rw [← hDd]; exact F.ns.lt
  have hDL : @Ne Nat D L := by omega
  have hCL : @Ne Nat C L := by omega
  have hPL : @Ne Nat P L := by omega
  have hIC : @Ne Nat I C := by omega
  have hIP : @Ne Nat I P := by omega
  have hID : @Ne Nat I D := by omega
  have off₀ : OffC I C P D news := fun p hp => by
    have hb : @LT.lt Nat _ p.1 D := by rw [← hDd]; exact Heap.lt_size (N p hp).1
    exact ⟨off p hp, (below _ hb).1, (below _ hb).2.2, (below _ hb).2.1⟩
  have hst₁ : IsRangeIter h₁ I (0 + (0 : Nat) * 1) ((n : Int) - (0 : Nat)) 1 := by
    have := old _ _ hst
    simpa using this
  have loop : ∀ s₃ : Shared, s₃ = { s₂ with heap := h₁ } →
      codeAny (model prog w) A (.compLoop (.ListComp elt [⟨.Name x px, iter, [], 0⟩] scope pos) 0 (.ref I) (.ref D) (compEnvC scope ((x, P) :: cl) C env))
        (RR (.ref D) C) s₃ := by
    rintro s₃ rfl
    refine codeAny_compLoop_tests
      (fun k s' => ∃ h' tk i ys m' vP news', s' = { s₂ with heap := h', toks := tk } ∧ i ≤ n ∧ k = n + 1 - i ∧ ys.length = i ∧ IsRangeIter h' I (0 + (i : Nat) * 1) ((n : Int) - (i : Nat)) 1 ∧ Fr h₀ L h' m ∧ h'.Ns C m' ∧ h'.IsCell P vP ∧ News h₀ L h' ((D, LCg.lst ys) :: news') ∧
        OffC I C P D news' ∧ CompRestC prog w A h₀ L m env elt x scope cl s₂ Fin (n - i) i ys news') ?_ (n + 1)
      ⟨h₁, _, 0, [], _, _, news, rfl, Nat.zero_le _, rfl, rfl, hst₁, F.keeps old, hCn, hPc, fun p hp => ?_, off₀, R⟩
    · rintro k s' ⟨h', tk, i, ys, m', vP, news', rfl, hi, rfl, hyl, hst', F', hn', hP', N', off', R'⟩
      by_cases hlt : i < n
      · obtain ⟨j, hj⟩ : ∃ j, n - i = j + 1 := ⟨n - i - 1, by omega⟩
        rw [hj] at R'
        refine W.item i _ _ _ hlt hst' fun v h₂ tk₂ hPv hst₂ hk₂ => ?_
        obtain ⟨t, rfl⟩ := hPv
        have hP₂ : h₂.IsCell P vP := by obtain ⟨o, e, d⟩ := hP'; exact ⟨o, hk₂ _ o (by simpa using Ne.symm hIP) e, d⟩
        refine wpAny_assign_Name (wpAny_storeName_cell (c := P) (by simp [compEnvC, relabel, hkind]) (hx P C) (by simp [compEnvC]) hP₂ (fun h₃ hP₃ hs₃ => ?_))
        refine wpAny_tests_nil ?_
        simp only [if_true]
        have hst₃ : IsRangeIter h₃ I (0 + ((i + 1 : Nat) : Nat) * 1) ((n : Int) - ((i + 1 : Nat) : Nat)) 1 := W.frame _ _ _ hst₂ fun b hb o e => hs₃.extBut b o (fun q => hIP (by rw [← List.mem_singleton.mp hb]; exact q)) e
        have hn₃ : h₃.Ns C m' := (hn'.at' fun o e => hk₂ _ o (by simpa using Ne.symm hIC) e).sameBut hs₃ hCP
        obtain ⟨oC, heC, hoC⟩ := LCg.ns_obj hn₃
        obtain ⟨oP, heP, hoP⟩ := hP₃
        have F₃ : Fr h₀ L h₃ m := (LCg.fr_but F' hk₂ hIL hI₀).change hs₃ hPL hP₀
        have N₂ : News h₀ L h₂ ((D, LCg.lst ys) :: news') := LCg.news_but N' hk₂ fun p hp => by
          rcases List.mem_cons.mp hp with rfl | hp
          · exact Ne.symm hID
          · exact (off' p hp).1
        have N₃ : News h₀ L h₃ ((I, _) :: (C, oC) :: (P, oP) :: (D, LCg.lst ys) :: news') := fun p hp => by
          rcases List.mem_cons.mp hp with rfl | hp
          · exact ⟨hst₃, Ne.symm hIL, hI₀⟩
          · rcases List.mem_cons.mp hp with rfl | hp
            · exact ⟨heC, hCL, hC₀⟩
            · rcases List.mem_cons.mp hp with rfl | hp
              · exact ⟨heP, hPL, hP₀⟩
              · have z := N₂ p hp
                refine ⟨hs₃.extBut _ _ ?_ z.1, z.2⟩
                rcases List.mem_cons.mp hp with rfl | hp
                · exact hDP
                · exact (off' p hp).2.2.1
        refine wpAny_mono (R' t I _ C oC P oP D h₃ _ _ (by rw [hoP, Int.zero_add]) F₃ N₃ off' ⟨hIC, hIP, hID, hCP, Ne.symm hDC, Ne.symm hDP⟩) (fun y s₄ h₄ => ?_) fun _ _ e => e
        obtain ⟨h₄, tk₄, news₄, rfl, F₄, N₄, off₄, R₄⟩ := h₄
        have zI := (N₄ _ List.mem_cons_self).1
        have zC := (N₄ (C, oC) (List.mem_cons_of_mem _ List.mem_cons_self)).1
        have zP := (N₄ (P, oP) (List.mem_cons_of_mem _ (List.mem_cons_of_mem _ List.mem_cons_self))).1
        have zD := (N₄ (D, LCg.lst ys) (List.mem_cons_of_mem _ (List.mem_cons_of_mem _ (List.mem_cons_of_mem _ List.mem_cons_self)))).1
        have N₄' : News h₀ L h₄ news₄ := fun p hp => N₄ p (List.mem_cons_of_mem _ (List.mem_cons_of_mem _ (List.mem_cons_of_mem _ (List.mem_cons_of_mem _ hp))))
        have hst₄ : IsRangeIter h₄ I (0 + ((i + 1 : Nat) : Nat) * 1) ((n : Int) - ((i + 1 : Nat) : Nat)) 1 := zI
        refine append_at (hsz := by show ys.toArray.size ≤ sizeLine; rw [List.size_toArray, hyl]; exact Nat.le_trans hi hsz) zD fun h₅ hs₅ hD₅ => ?_
        refine ⟨n + 1 - (i + 1), by omega, h₅, tk₄, i + 1, ys ++ [y], _, _, news₄, rfl, hlt, rfl, by rw [List.length_append, List.length_singleton, hyl], hs₅.extBut _ _ hID hst₄, F₄.change hs₅ hDL hD₀,
          (hoC.ns zC).sameBut hs₅ (Ne.symm hDC), ⟨oP, hs₅.extBut _ _ (Ne.symm hDP) zP, hoP⟩, fun p hp => ?_, off₄, ?_⟩
        · rcases List.mem_cons.mp hp with rfl | hp
          · exact ⟨hD₅.trans (congrArg some (LCg.lst_snoc ys y)), hDL, hD₀⟩
          · exact ⟨hs₅.extBut _ _ (off₄ p hp).2.2.2 (N₄' p hp).1, (N₄' p hp).2⟩
        · rw [show n - (i + 1) = j by omega]
          exact R₄
      · obtain rfl : i = n := Nat.le_antisymm hi (Nat.not_lt.mp hlt)
        rw [Nat.sub_self] at R'
        refine W.done _ _ _ hst' fun h₂ tk₂ hk₂ => ?_
        exact hRR _ _ h₂ tk₂ _ ys news' (LCg.fr_but F' hk₂ hIL hI₀) (LCg.news_but N' hk₂ fun p hp => by
          rcases List.mem_cons.mp hp with rfl | hp
          · exact Ne.symm hID
          · exact (off' p hp).1) (fun p hp => (off' p hp).2.2.2) (hn'.at' fun o e => hk₂ _ o (by simpa using Ne.symm hIC) e) hC₀ hCL hDL (Ne.symm hDC) (fun p hp => (off' p hp).2.1) R'
    · rcases List.mem_cons.mp hp with rfl | hp
      · exact ⟨hacc, hDL, hD₀⟩
      · exact ⟨old _ _ (N p hp).1, (N p hp).2⟩
  exact codeAny_compStart_list (loop _ rfl) (W.self 0 _ _ _ hst₁ (loop _ rfl))

def FinC (h₀ : Heap) (L : Addr) (m : Str → Option Value) (s : Shared) (y : Str) (Q : Flow → Shared → Prop) (ys : List Value) (news : List (Addr × Obj)) : Prop :=
  ∀ D h tk, Fr h₀ L h (fun z => if z = y then some (.ref D) else m z) → News h₀ L h ((D, LCg.lst ys) :: news) → (∀ p ∈ news, @Ne Nat p.1 D) → Q .next { s with heap := h, toks := tk }

def SrcC (prog : Program) (w : World) (A : Around) (h₀ : Heap) (L : Addr) (m : Str → Option Value) (env : Env) (elt : Expr) (x : Str) (scope : Scope) (cl : List (Str × Addr)) (n : Nat) (y : Str) (Q : Flow → Shared → Prop) (xv : Value) (s₁ : Shared) : Prop :=
  ∃ r t u v news, xv = .ref r ∧ Fr h₀ L s₁.heap m ∧ News h₀ L s₁.heap news ∧ IsRange s₁.heap r 0 (n : Int) 1 t u v ∧
      ∀ g, CompRestC prog w A h₀ L m env elt x scope cl { s₁ with heap := g } (FinC h₀ L m { s₁ with heap := g } y Q) n 0 [] news

theorem Assign_C {s : Shared} {elt iter : Expr} {x y : Str} {px py : Pos} {scope : Scope} {cl : List (Str × Addr)} {pos spos : Pos} {n : Nat} {Q : Flow → Shared → Prop} (F₀ : Fr h₀ L s.heap m) (hLe : env.locals = L)
    (hsw : swapsWith (.ListComp elt [⟨.Name x px, iter, [], 0⟩] scope pos) (some (.Name y py)) spos.line env = pure true)
    (hclos : closureFor scope env = pure cl)
    (henv : ∀ (s : Shared) (Q : Env → Shared → Prop) (E : Value → Shared → Prop),
      (∀ o : Obj, o.data = .cell none → o.isFreed = false → Q { scope := scope, locals := s.heap.objs.size, globals := env.globals, cells := (x, s.heap.objs.size + 1) :: cl, qual := env.qual, func := none, code := env.code, frame := env.frame, builtins := env.builtins } { s with heap := (s.heap.push { cls := .type "dict", data := .dict #[] }).push o }) →
      wpAny (model prog w) A (newFunctionEnv scope env.globals cl [] env.qual none .none (some env)) Q E s)
    (hkind : scope.kind = .function) (hx : ∀ P C, (compEnvC scope ((x, P) :: cl) C env).kindOf x = some .cell)
    (hnames : ∀ z ∈ scope.names, z.2 = .local → scope.names.lookup z.1 = some .local)
    (hy : env.kindOf y = some .local) (hp : (env.scope.kind == .class || (env.scope.kind == .module && env.locals != env.globals)) = false)
    (hh : A.handled = none) (hsz : n ≤ sizeLine)
    (h : wpAny (model prog w) A (eval iter env) (SrcC prog w A h₀ L m env elt x scope cl n y Q) E s)
    (hsm : Builtin.Range.small 0 (n : Int) 1 = true := by rfl) (hn : Builtin.Range.rangeSize 0 (n : Int) 1 = (n : Int) := by rfl)
    (hs : ∀ x, foldedSetIterable iter env x = pure x := by intro _; rfl) :
    wpAny (model prog w) A (exec (.Assign [.Name y py] (.ListComp elt [⟨.Name x px, iter, [], 0⟩] scope pos) spos) env) Q E s := by
  subst hLe
  rw [exec_Assign_Name_used _ _ _ _ hsw]
  refine wpAny_bind (wpAny_standAt (wpAny_bind ?_))
  show wpAny _ A (do let _ ← comprehension (.ListComp elt [⟨.Name x px, iter, [], 0⟩] scope pos) scope env _ (newList []) false (eval iter env) (some (assign (.Name y py) env))) _ _ s
  refine wpAny_bind (wpAny_mono (wpAny_comprehension_free (use := some (assign (.Name y py) env)) (Q := fun _ s' => Q .next s') rfl hs hclos hkind hnames
    (wpAny_mono h (fun xv s₁ h₁ => ?_) fun _ _ e => e)) (fun _ s' hq => wpAny_pure (wpAny_pure hq)) fun _ _ e => e)
  obtain ⟨r, t, u, v, news, rfl, F, N, hr, R⟩ := h₁
  refine wpAny_pyIter_range hr hsm ?_
  refine block_C hh hsz henv hkind hx (by show IsRangeIter _ _ _ _ _; rw [hn]; exact Heap.get?_push_size _ rfl)
    (F.keeps fun _ _ e => Heap.get?_push_of_some _ e) (N.grown fun _ _ e => Heap.get?_push_of_some _ e) (Nat.ne_of_lt F.ns.lt) (next_is_new F) (fun p hp => Nat.ne_of_lt (Heap.lt_size (N p hp).1)) (R _) ?_
  intro D C h' tk m' ys news' F' N' o1 hn hC₀ hCL hDL hCD offC fin
  show wpAny _ A (assign (.Name y py) env (.ref D)) _ _ _
  refine wpAny_assign_Name (wpAny_storeName_local hy F'.ns (fun h₂ hn₂ hs₂ => ?_) hp)
  have hL₀ : h₀.get? env.locals = none := Heap.get?_none_of_le F'.above
  have F₂ : Fr h₀ env.locals h₂ (fun z => if z = y then some (.ref D) else m z) := ⟨hn₂, fun b o e => hs₂.extBut b o (fun q => by rw [q, hL₀] at e; cases e) (F'.keep b o e), F'.above⟩
  refine ⟨m', hn.sameBut hs₂ hCL, fun h'' hs'' => fin D h'' _ (F₂.change hs'' hCL hC₀) (fun p hp => ?_) o1⟩
  have z : h₂.get? p.1 = some p.2 := hs₂.extBut _ _ (N' p hp).2.1 (N' p hp).1
  refine ⟨hs''.extBut _ _ ?_ z, (N' p hp).2⟩
  rcases List.mem_cons.mp hp with rfl | hp
  · exact Ne.symm hCD
  · exact offC p hp

theorem env_one {x : Str} {scope : Scope} {cl : List (Str × Addr)} (hc : ∀ n, cellsFrom n scope.names cl = (x, n) :: cl) (hp : ∀ h, pushCells h scope.names = h.push { cls := .type "cell", data := .cell none }) :
    ∀ (s : Shared) (Q : Env → Shared → Prop) (E : Value → Shared → Prop),
      (∀ o : Obj, o.data = .cell none → o.isFreed = false → Q { scope := scope, locals := s.heap.objs.size, globals := env.globals, cells := (x, s.heap.objs.size + 1) :: cl, qual := env.qual, func := none, code := env.code, frame := env.frame, builtins := env.builtins } { s with heap := (s.heap.push { cls := .type "dict", data := .dict #[] }).push o }) →
      wpAny (model prog w) A (newFunctionEnv scope env.globals cl [] env.qual none .none (some env)) Q E s := by
  intro s Q E h
  simp only [newFunctionEnv, Option.isSome_some, if_true]
  refine wpAny_bind (wpAny_alloc ?_)
  refine wpAny_bind (wpAny_layCells _ (fun name kind cells => by cases hkc : kind == NameKind.cell <;> simp [hkc]) _ _ _ _ ?_)
  rw [show ({ s with heap := s.heap.push { cls := .type "dict", data := .dict #[] } } : Shared).heap.objs.size = s.heap.objs.size + 1 from Heap.size_push ..]
  rw [hc, hp]
  exact wpAny_bind (wpAny_pure (wpAny_pure (h _ rfl rfl)))
end

end Mine
namespace Mine
section
variable {prog : Program} {w : World} {A : Around} {h₀ : Heap} {L : Addr} {m : Str → Option Value} {env : Env} {elt : Expr} {x : Str} {scope : Scope} {cl : List (Str × Addr)} {s : Shared} {S : List (Addr × Obj) → Prop} {Fin : List Value → List (Addr × Obj) → Prop} {news : List (Addr × Obj)}
theorem cfv_list {vs : List Value} {ns : List Int} (g : Int → Value) (hi : IntsAre vs ns)
    (turn : ∀ k t I oI C oC D m₂ ys h tk (E' : Value → Shared → Prop), k ∈ ns → LCg.NsObj oC m₂ → m₂ x = some (.int k t) → Fr h₀ L h m → News h₀ L h ((I, oI) :: (C, oC) :: (D, LCg.lst ys) :: news) → LCg.Off3 I C D news → ((@Ne Nat I C) ∧ (@Ne Nat I D) ∧ (@Ne Nat C D)) →
      wpAny (model prog w) A (eval elt (compEnvC scope cl C env)) (LCg.CompEnd h₀ L m { s with heap := h, toks := tk } I oI C oC D (LCg.lst ys) S (fun y news' => news' = news ∧ y = g k)) E' { s with heap := h, toks := tk })
    (fin : Fin (ns.map g) news) : LCg.CompRest prog w A h₀ L m env elt x scope cl s S (fun i v => vs.toArray[i]? = some v) Fin vs.toArray.size 0 [] news := by
  have hn : vs.toArray.size = ns.length := by rw [List.size_toArray]; exact hi.length
  rw [hn]
  have key : ∀ (j i : Nat), i + j = ns.length → LCg.CompRest prog w A h₀ L m env elt x scope cl s S (fun i v => vs.toArray[i]? = some v) Fin j i ((ns.take i).map g) news := by
    intro j
    induction j with
    | zero =>
      intro i hi'
      have e : i = ns.length := by omega
      subst e
      rw [List.take_length]
      exact LCg.CompRest.zero fin
    | succ j ih =>
      intro i hi'
      refine LCg.CompRest.succ ?_
      intro v I oI C oC D m₂ h tk E' hv hC hx F N off ne
      obtain ⟨k, t, e, hk⟩ := IntsAre.at hi i v (by simpa using hv)
      rw [e] at hx
      refine wpAny_mono (turn k t I oI C oC D m₂ _ h tk E' (List.mem_of_getElem? hk) hC hx F N off ne) (fun y s₂ hq => ?_) fun _ _ e => e
      obtain ⟨h', tk', nw, e, F', N', off', hS, hn', hy'⟩ := hq
      rw [hn'] at N' off' hS
      refine ⟨h', tk', news, e, F', N', off', hS, ?_⟩
      have q := ih (i + 1) (by omega)
      rw [List.take_add_one, hk] at q
      rw [hy']
      simpa using q
  have := key ns.length 0 (by omega)
  simpa using this
theorem cfi_list {vs : List Value} {ns : List Int} (g : Int → Int) (hi : IntsAre vs ns)
    (turn : ∀ k t I oI C oC D m₂ ys h tk (E' : Value → Shared → Prop), k ∈ ns → LCg.NsObj oC m₂ → m₂ x = some (.int k t) → Fr h₀ L h m → News h₀ L h ((I, oI) :: (C, oC) :: (D, LCg.lst ys) :: news) → LCg.Off3 I C D news → ((@Ne Nat I C) ∧ (@Ne Nat I D) ∧ (@Ne Nat C D)) →
      wpAny (model prog w) A (eval elt (compEnvC scope cl C env)) (LCg.CompEnd h₀ L m { s with heap := h, toks := tk } I oI C oC D (LCg.lst ys) S (fun y news' => news' = news ∧ ∃ t, y = .int (g k) t)) E' { s with heap := h, toks := tk })
    (fin : ∀ ys, IntsAre ys (ns.map g) → Fin ys news) : LCg.CompRest prog w A h₀ L m env elt x scope cl s S (fun i v => vs.toArray[i]? = some v) Fin vs.toArray.size 0 [] news := by
  have hn : vs.toArray.size = ns.length := by rw [List.size_toArray]; exact hi.length
  rw [hn]
  have key : ∀ (j i : Nat) (ys : List Value), i + j = ns.length → IntsAre ys ((ns.take i).map g) → LCg.CompRest prog w A h₀ L m env elt x scope cl s S (fun i v => vs.toArray[i]? = some v) Fin j i ys news := by
    intro j
    induction j with
    | zero =>
      intro i ys hi' hy
      have e : i = ns.length := by omega
      subst e
      rw [List.take_length] at hy
      exact LCg.CompRest.zero (fin ys hy)
    | succ j ih =>
      intro i ys hi' hy
      refine LCg.CompRest.succ ?_
      intro v I oI C oC D m₂ h tk E' hv hC hx F N off ne
      obtain ⟨k, t, e, hk⟩ := IntsAre.at hi i v (by simpa using hv)
      rw [e] at hx
      refine wpAny_mono (turn k t I oI C oC D m₂ _ h tk E' (List.mem_of_getElem? hk) hC hx F N off ne) (fun y s₂ hq => ?_) fun _ _ e => e
      obtain ⟨h', tk', nw, e, F', N', off', hS, hn', t', hy'⟩ := hq
      rw [hn'] at N' off' hS
      refine ⟨h', tk', news, e, F', N', off', hS, ?_⟩
      refine ih (i + 1) _ (by omega) ?_
      rw [List.take_add_one, hk, hy', List.map_append]
      exact hy.append (.cons _ _ .nil)
  exact key ns.length 0 [] (by omega) .nil
theorem cfv_range {n : Nat} (g : Nat → Int)
    (turn : ∀ (k : Nat) t I oI C oC D m₂ ys h tk (E' : Value → Shared → Prop), k < n → LCg.NsObj oC m₂ → m₂ x = some (.int (k : Int) t) → Fr h₀ L h m → News h₀ L h ((I, oI) :: (C, oC) :: (D, LCg.lst ys) :: news) → LCg.Off3 I C D news → ((@Ne Nat I C) ∧ (@Ne Nat I D) ∧ (@Ne Nat C D)) →
      wpAny (model prog w) A (eval elt (compEnvC scope cl C env)) (LCg.CompEnd h₀ L m { s with heap := h, toks := tk } I oI C oC D (LCg.lst ys) S (fun y news' => news' = news ∧ ∃ t, y = .int (g k) t)) E' { s with heap := h, toks := tk })
    (fin : ∀ ys, IntsAre ys ((List.range n).map g) → Fin ys news) : LCg.CompRest prog w A h₀ L m env elt x scope cl s S (fun i v => ∃ t, v = .int (0 + (i : Int)) t) Fin n 0 [] news := by
  have key : ∀ (j i : Nat) (ys : List Value), i + j = n → IntsAre ys ((List.range i).map g) → LCg.CompRest prog w A h₀ L m env elt x scope cl s S (fun i v => ∃ t, v = .int (0 + (i : Int)) t) Fin j i ys news := by
    intro j
    induction j with
    | zero =>
      intro i ys hi' hy
      have e : i = n := by omega
      subst e
      exact LCg.CompRest.zero (fin ys hy)
    | succ j ih =>
      intro i ys hi' hy
      refine LCg.CompRest.succ ?_
      intro v I oI C oC D m₂ h tk E' hv hC hx F N off ne
      obtain ⟨t, e⟩ := hv
      rw [e, Int.zero_add] at hx
      refine wpAny_mono (turn i t I oI C oC D m₂ _ h tk E' (by omega) hC hx F N off ne) (fun y s₂ hq => ?_) fun _ _ e => e
      obtain ⟨h', tk', nw, e, F', N', off', hS, hn', t', hy'⟩ := hq
      rw [hn'] at N' off' hS
      refine ⟨h', tk', news, e, F', N', off', hS, ?_⟩
      refine ih (i + 1) _ (by omega) ?_
      rw [List.range_succ, List.map_append, hy']
      exact hy.append (.cons _ _ .nil)
  exact key n 0 [] (by omega) .nil
end

theorem cfc_range {prog : Program} {w : World} {A : Around} {h₀ : Heap} {L : Addr} {m : Str → Option Value} {env : Env} {elt : Expr} {x : Str} {scope : Scope} {cl : List (Str × Addr)} {s : Shared} {Fin : List Value → List (Addr × Obj) → Prop} {n : Nat} (J : Nat → List Value → List (Addr × Obj) → Prop) {news : List (Addr × Obj)}
    (turn : ∀ (i : Nat) ys nx t I oI C oC P oP D h tk (E' : Value → Shared → Prop), i < n → J i ys nx → oP.data = .cell (some (.int (i : Int) t)) → Fr h₀ L h m → News h₀ L h ((I, oI) :: (C, oC) :: (P, oP) :: (D, LCg.lst ys) :: nx) → OffC I C P D nx → (@Ne Nat I C ∧ @Ne Nat I P ∧ @Ne Nat I D ∧ @Ne Nat C P ∧ @Ne Nat C D ∧ @Ne Nat P D) →
      wpAny (model prog w) A (eval elt (compEnvC scope ((x, P) :: cl) C env)) (fun y s₂ => ∃ h' tk' news', s₂ = { s with heap := h', toks := tk' } ∧ Fr h₀ L h' m ∧ News h₀ L h' ((I, oI) :: (C, oC) :: (P, oP) :: (D, LCg.lst ys) :: news') ∧ OffC I C P D news' ∧ J (i + 1) (ys ++ [y]) news') E' { s with heap := h, toks := tk })
    (start : J 0 [] news) (fin : ∀ ys nx, J n ys nx → Fin ys nx) : CompRestC prog w A h₀ L m env elt x scope cl s Fin n 0 [] news := by
  have key : ∀ (j i : Nat) (ys : List Value) (nx : List (Addr × Obj)), i + j = n → J i ys nx → CompRestC prog w A h₀ L m env elt x scope cl s Fin j i ys nx := by
    intro j
    induction j with
    | zero =>
      intro i ys nx hi hJ
      have e : i = n := by omega
      subst e
      exact fin ys nx hJ
    | succ j ih =>
      intro i ys nx hi hJ t I oI C oC P oP D h tk E' hP F N off ne
      refine wpAny_mono (turn i ys nx t I oI C oC P oP D h tk E' (by omega) hJ hP F N off ne) (fun y s₂ hq => ?_) fun _ _ e => e
      obtain ⟨h', tk', news', e, F', N', off', hJ'⟩ := hq
      exact ⟨h', tk', news', e, F', N', off', ih (i + 1) _ _ (by omega) hJ'⟩
  exact key n 0 [] news (by omega) start

end Mine
namespace Mine
theorem start_D42 : True := by
  w_top off
  exact True.intro
def cofT (T : List (List Int)) (k p : Nat) : Int := (T.getD ((k + 1) % 3) []).getD ((p + 1) % 3) 0 * (T.getD ((k + 2) % 3) []).getD ((p + 2) % 3) 0 - (T.getD ((k + 1) % 3) []).getD ((p + 2) % 3) 0 * (T.getD ((k + 2) % 3) []).getD ((p + 1) % 3) 0

theorem f31 (k : Nat) : (((k : Int) + 1).fmod 3).toNat = (k + 1) % 3 := by
  rw [fm _ (by decide)]; omega
theorem f32 (k : Nat) : (((k : Int) + 2).fmod 3).toNat = (k + 2) % 3 := by
  rw [fm _ (by decide)]; omega
theorem f3_ltN (a : Int) {U : List Int} (h : U.length = 3) : a.fmod 3 < (U.length : Int) := by
  rw [h, fm _ (by decide)]; omega
def SmallRow (U : List Int) : Prop := ∀ j : Nat, Builtin.Int.intBits (U.getD j 0) ≤ 2 ^ 20
theorem SmallRow.at {U : List Int} (h : SmallRow U) (j : Nat) : Builtin.Int.intBits (U.getD j 0) ≤ 2 ^ 20 := h j
theorem f3_nn (a : Int) : 0 ≤ a.fmod 3 := by rw [fm _ (by decide)]; omega
theorem f3_fit (a : Int) : a.fmod 3 < 2 ^ 63 := by rw [fm _ (by decide)]; omega
theorem f3_lt (a : Int) (r0 r1 r2 : Addr) : (a.fmod 3).toNat < [r0, r1, r2].length := by
  show _ < 3
  rw [fm _ (by decide)]; omega
theorem pick3 {r0 r1 r2 : Addr} {c0 c1 c2 : Nat} {v0 v1 v2 : List Value} {R0 R1 R2 : List Int} {news : List (Addr × Obj)} (h0 : (r0, listOf v0.toArray c0) ∈ news) (h1 : (r1, listOf v1.toArray c1) ∈ news) (h2 : (r2, listOf v2.toArray c2) ∈ news)
    (i0 : IntsAre v0 R0) (i1 : IntsAre v1 R1) (i2 : IntsAre v2 R2) : ∀ i : Nat, i < 3 → ∃ r c v, [r0, r1, r2].getD i 0 = r ∧ (r, listOf v.toArray c) ∈ news ∧ IntsAre v ([R0, R1, R2].getD i [])
  | 0, _ => ⟨r0, c0, v0, rfl, h0, i0⟩
  | 1, _ => ⟨r1, c1, v1, rfl, h1, i1⟩
  | 2, _ => ⟨r2, c2, v2, rfl, h2, i2⟩
  | i + 3, h => absurd h (by omega)
theorem len3_row {R0 R1 R2 : List Int} {n : Nat} (h0 : R0.length = n) (h1 : R1.length = n) (h2 : R2.length = n) : ∀ i : Nat, i < 3 → ([R0, R1, R2].getD i []).length = n
  | 0, _ => h0
  | 1, _ => h1
  | 2, _ => h2
  | i + 3, h => absurd h (by omega)
local macro_rules | `(tactic| walk_at "binaryOp Mult int int") => `(tactic| (refine PyProof.Rows.mul_int ?_ (IntMulOk.of_bits (SmallRow.at (by assumption) _) (SmallRow.at (by assumption) _))))
local macro_rules | `(tactic| walk_at "subscriptTail Name BinOp ref int") => `(tactic| (k_here; (with_reducible show wpAny _ _ (subscriptTail _ _ (Value.ref _) (Value.int _ _)) _ _ _); k_dflt (refine' item_list_ints ?k1 ?k2 ?k3 ?k4 ?k5 ?_; (case k1 => is_list); (case k2 => with_reducible assumption); (case k3 => exact f3_nn _); (case k4 => exact f3_ltN _ (by assumption)); (case k5 => exact f3_fit _); k_whole); intro _; (try simp only [f31, f32])))
local macro_rules | `(tactic| walk_at "subscriptTail Name BinOp ref int") => `(tactic| (k_here; (with_reducible show wpAny _ _ (subscriptTail (Expr.Name (Str.ofString "table") _) _ (Value.ref _) (Value.int _ _)) _ _ _); k_dflt (refine' item_refs ?kN ?km ?k0 ?kf ?k1 ?kr ?_; (case kN => k_asm); (case km => k_mem); (case kr => with_reducible assumption); (case k0 => exact f3_nn _); (case kf => exact f3_fit _); (case k1 => exact f3_lt _ _ _ _); k_whole)))
set_option maxRecDepth 100000 in
set_option maxHeartbeats 8000000 in
theorem cof_ctr {w : World} {mean : ExcName → Option Value} {mg mb : Str → Option Value} {dp un : Nat} {gd : Option (List Code)} {cn : Str} {cs : Scope} {a : Addr} {ccd : Value} {cl : List (Str × Addr)} {outer : List Env} {A₀ : Around} {base h₀ : Heap} {L : Addr} {m : Str → Option Value} {s : Shared} {Q E : Value → Shared → Prop}
    {lt r0 r1 r2 : Addr} {ct c0 c1 c2 : Nat} {v0 v1 v2 : List Value} {a0 b0 d0 a1 b1 d1 a2 b2 d2 : Int} {k p : Nat} {tk tp : Tok} {news : List (Addr × Obj)}
    (B : Below A₀ base outer h₀) (F : Fr h₀ L s.heap m) (X : (hd.heap_39 w.params).In h₀) (N : News h₀ L s.heap news) (T : TopF mean mg mb h₀) (hk : cs.kind = .function)
    (hlt : (lt, listOf #[.ref r0, .ref r1, .ref r2] ct) ∈ news) (h0 : (r0, listOf v0.toArray c0) ∈ news) (h1 : (r1, listOf v1.toArray c1) ∈ news) (h2 : (r2, listOf v2.toArray c2) ∈ news)
    (i0 : IntsAre v0 [a0, b0, d0]) (i1 : IntsAre v1 [a1, b1, d1]) (i2 : IntsAre v2 [a2, b2, d2]) (hk3 : k < 3) (hp3 : p < 3)
    (hb : ∀ i : Nat, SmallRow (([[a0, b0, d0], [a1, b1, d1], [a2, b2, d2]] : List (List Int)).getD i []))
    (hd : dp + 10 < recursionLimit) (hu : un + 80 < cLine)
    (hret : ∀ (t : Tok) (h' : Heap) (tk' : Nat), Fr h₀ L h' m → News h₀ L h' news → Q (.int (cofT [[a0, b0, d0], [a1, b1, d1], [a2, b2, d2]] k p) t) { s with heap := h', toks := tk' }) :
    wpAny (model PySem.Challenge.rw_pe0042_01.row.prog w) (ktrTop dp un gd cn cs L a ccd cl outer) (call (.ref 129) [.ref lt, .int (k : Int) tk, .int (p : Int) tp]) Q E s := by
  revert X; k_fill; intro X
  obtain ⟨ru, cu, vu, eu, hmu, iu⟩ := pick3 h0 h1 h2 i0 i1 i2 ((k + 1) % 3) (Nat.mod_lt _ (by decide))
  obtain ⟨rl, cl', vl, el, hml, il⟩ := pick3 h0 h1 h2 i0 i1 i2 ((k + 2) % 3) (Nat.mod_lt _ (by decide))
  obtain ⟨U, hU⟩ : ∃ U, ([[a0, b0, d0], [a1, b1, d1], [a2, b2, d2]] : List (List Int)).getD ((k + 1) % 3) [] = U := ⟨_, rfl⟩
  obtain ⟨W, hW⟩ : ∃ W, ([[a0, b0, d0], [a1, b1, d1], [a2, b2, d2]] : List (List Int)).getD ((k + 2) % 3) [] = W := ⟨_, rfl⟩
  have lu : U.length = 3 := by rw [← hU]; exact len3_row (R0 := [a0, b0, d0]) (R1 := [a1, b1, d1]) (R2 := [a2, b2, d2]) (n := 3) rfl rfl rfl ((k + 1) % 3) (Nat.mod_lt _ (by decide))
  have lw : W.length = 3 := by rw [← hW]; exact len3_row (R0 := [a0, b0, d0]) (R1 := [a1, b1, d1]) (R2 := [a2, b2, d2]) (n := 3) rfl rfl rfl ((k + 2) % 3) (Nat.mod_lt _ (by decide))
  have hbu : SmallRow U := by rw [← hU]; exact hb _
  have hbw : SmallRow W := by rw [← hW]; exact hb _
  have hcf : cofT [[a0, b0, d0], [a1, b1, d1], [a2, b2, d2]] k p = U.getD ((p + 1) % 3) 0 * W.getD ((p + 2) % 3) 0 - U.getD ((p + 2) % 3) 0 * W.getD ((p + 1) % 3) 0 := by unfold cofT; rw [hU, hW]
  rw [hU] at iu
  rw [hW] at il
  rw [hcf] at hret
  rw [← f31] at eu
  rw [← f32] at el
  have N1 : News h₀ L s.heap ((lt, listOf (List.map Value.ref [r0, r1, r2]).toArray ct) :: (ru, listOf vu.toArray cu) :: (rl, listOf vl.toArray cl') :: news) := fun q hq => by
    rcases List.mem_cons.mp hq with rfl | hq
    · exact N _ hlt
    rcases List.mem_cons.mp hq with rfl | hq
    · exact N _ hmu
    rcases List.mem_cons.mp hq with rfl | hq
    · exact N _ hml
    · exact N _ hq
  clear N hlt h0 h1 h2 i0 i1 i2 hb hU hW hmu hml hcf hk3 hp3
  refine wpAny_call ?_
  k_dflt cell_enter
  k_steps
  exact hret _ _ _ (by assumption) (fun q hq => (by assumption : News h₀ L _ (_ :: _ :: _ :: news)) q (.tail _ (.tail _ (.tail _ hq))))

end Mine
namespace Mine
/-- every entry of the table is at most 2^(20 n) -/
def tabLe (T : List (List Int)) (b : Nat) : Prop := ∀ i j : Nat, ((T.getD i []).getD j 0).natAbs ≤ b
theorem getD_set2 (T : List (List Int)) (i k : Nat) (r : List Int) : (T.set i r).getD k [] = r ∨ (T.set i r).getD k [] = T.getD k [] := by
  by_cases h : i = k
  · subst h
    by_cases hl : i < T.length
    · left; simp [List.getD_eq_getElem?_getD, hl]
    · right; simp [List.getD_eq_getElem?_getD, hl]
  · right; simp [List.getD_eq_getElem?_getD, h]
theorem row3_le {f : Nat → Int} {b : Nat} (h : ∀ j, (f j).natAbs ≤ b) (j : Nat) : (List.getD [f 0, f 1, f 2] j 0).natAbs ≤ b := by
  match j with
  | 0 => exact h 0
  | 1 => exact h 1
  | 2 => exact h 2
  | j + 3 => simp
theorem tab_set {T : List (List Int)} {b : Nat} {i : Nat} {r : List Int} (hT : tabLe T b) (hr : ∀ j : Nat, (r.getD j 0).natAbs ≤ b) : tabLe (T.set i r) b := fun k j => by
  rcases getD_set2 T i k r with e | e
  · rw [e]; exact hr j
  · rw [e]; exact hT k j
theorem tab_mono {T : List (List Int)} {b c : Nat} (hT : tabLe T b) (h : b ≤ c) : tabLe T c := fun i j => Nat.le_trans (hT i j) h
theorem one_le {u o c : Int} {b : Nat} (hu : u.natAbs ≤ b) (ho : o.natAbs ≤ b) (h0 : 0 ≤ c) (h1 : c < 4096) : (u + c * o).natAbs ≤ 4096 * b ∧ (u - c * o).natAbs ≤ 4096 * b := by
  have e : (c * o).natAbs ≤ 4095 * b := by
    rw [Int.natAbs_mul]
    exact Nat.mul_le_mul (by omega) ho
  omega
theorem step_le {T : List (List Int)} {b : Nat} {w : Int} (hT : tabLe T b) (h0 : 0 ≤ w) (h1 : w < 98304) : tabLe (stepT T w) (4096 * b) := by
  have hc : 0 ≤ w.fdiv 24 ∧ w.fdiv 24 < 4096 := by rw [fd _ (by decide)]; omega
  have hT' : tabLe T (4096 * b) := tab_mono hT (by omega)
  unfold stepT
  split
  · refine tab_set hT' ?_
    intro j
    exact row3_le (f := fun j => (T.getD (iOf w).toNat []).getD j 0 + w.fdiv 24 * (T.getD (jOf w).toNat []).getD j 0) (fun j => (one_le (hT _ _) (hT _ _) hc.1 hc.2).1) j
  · split
    · refine tab_set hT' ?_
      intro j
      exact row3_le (f := fun j => (T.getD (iOf w).toNat []).getD j 0 - w.fdiv 24 * (T.getD (jOf w).toNat []).getD j 0) (fun j => (one_le (hT _ _) (hT _ _) hc.1 hc.2).2) j
    · split
      · exact tab_set (tab_set hT' (fun j => hT' _ j)) (fun j => hT' _ j)
      · refine tab_set hT' ?_
        intro j
        exact row3_le (f := fun j => -(T.getD (iOf w).toNat []).getD j 0) (fun j => by rw [Int.natAbs_neg]; exact hT' _ _) j
theorem fold_le : ∀ (W : List Int) {T : List (List Int)} {b : Nat}, (∀ v ∈ W, 0 ≤ v ∧ v < 98304) → tabLe T b → tabLe (W.foldl stepT T) (4096 ^ W.length * b)
  | [], _, _, _, h => by simpa using h
  | w :: W, T, b, hb, h => by
    have q := fold_le W (fun v hv => hb v (List.mem_cons_of_mem _ hv)) (step_le h (hb w List.mem_cons_self).1 (hb w List.mem_cons_self).2)
    rw [List.foldl_cons, List.length_cons, Nat.pow_succ, Nat.mul_assoc]
    exact q
theorem tab0_le : tabLe tab0 1 := fun i j => by
  match i, j with
  | 0, 0 => decide
  | 0, 1 => decide
  | 0, 2 => decide
  | 0, j + 3 => simp [tab0]
  | 1, 0 => decide
  | 1, 1 => decide
  | 1, 2 => decide
  | 1, j + 3 => simp [tab0]
  | 2, 0 => decide
  | 2, 1 => decide
  | 2, 2 => decide
  | 2, j + 3 => simp [tab0]
  | i + 3, j => simp [tab0]
theorem bits_of {a : Int} (h : a.natAbs ≤ 2 ^ 120) : Builtin.Int.intBits a ≤ 2 ^ 20 := by
  unfold Builtin.Int.intBits
  split
  · exact Nat.zero_le _
  · rename_i hz
    have h0 : a.natAbs ≠ 0 := fun e => hz (by simp [Int.natAbs_eq_zero.mp e])
    have h1 : a.natAbs.log2 < 121 := (Nat.log2_lt h0).mpr (Nat.lt_of_le_of_lt h (by decide))
    exact Nat.le_trans (show a.natAbs.log2 + 1 ≤ 121 from h1) (by decide)
theorem tab_bits {W : List Int} {a0 b0 e0 a1 b1 e1 a2 b2 e2 : Int} (hl : W.length ≤ 10) (hb : ∀ v ∈ W, 0 ≤ v ∧ v < 98304) (h : W.foldl stepT tab0 = [[a0, b0, e0], [a1, b1, e1], [a2, b2, e2]]) :
    ∀ i j : Nat, Builtin.Int.intBits (([[a0, b0, e0], [a1, b1, e1], [a2, b2, e2]] : List (List Int)).getD i [] |>.getD j 0) ≤ 2 ^ 20 := by
  have q := fold_le W hb tab0_le
  rw [h, Nat.mul_one] at q
  have e : (4096 : Nat) ^ W.length ≤ 2 ^ 120 := Nat.le_trans (Nat.pow_le_pow_right (by decide) hl) (by decide)
  exact fun i j => bits_of (Nat.le_trans (q i j) e)

end Mine
namespace Mine
theorem start_LF42 : True := by
  w_top off
  exact True.intro
local macro_rules | `(tactic| walk_at "none such") => `(tactic| skip)

local macro_rules | `(tactic| walk_at "call ref") => `(tactic| ((with_reducible show wpAny _ _ (call (Value.ref 105) _) _ _ _); refine halt ?_))
local macro_rules | `(tactic| walk_at "call ref") => `(tactic| ((with_reducible show wpAny _ _ (call (Value.ref 112) _) _ _ _); refine halt ?_))
local macro_rules | `(tactic| walk_at "pyIter ref") => `(tactic| ((with_reducible show wpAny _ _ (pyIter (Value.ref _)) (fun it s₂ => LoopAtV _ _ _ _ _ _ _ _ _ it s₂) _ _); refine halt ?_))
theorem octsN_ge (ws : List Int) : ∀ k, k ≤ (octsN ws k).length
  | 0 => by simp [octsN]
  | k + 1 => by
    have h1 := octsN_ge ws k
    have h2 := octOne_len k (ws.getD k 0)
    simp only [octsN, List.length_append]
    omega
def ForJ (lw lu lr lt lf : Addr) (all : List (Addr × Obj)) (_ : Nat) (m : Str → Option Value) (nx : List (Addr × Obj)) : Prop :=
  nx = all ∧ m (Str.ofString "words") = some (.ref lw) ∧ m (Str.ofString "undone") = some (.ref lu) ∧ m (Str.ofString "row") = some (.ref lr) ∧ m (Str.ofString "tape") = some (.ref lt) ∧ m (Str.ofString "finish") = some (.ref lf)
theorem cut_of {S : Int} {n : Nat} {v : Value} {k : Nat} {t u : Tok} (hn : 5 ≤ n) (h : [Value.int (1 + S.fmod ((n : Int) - 1)) t, Value.int ((n : Int) - 1) u][k]? = some v) : ∃ (c : Nat) (t : Tok), v = .int (c : Int) t ∧ 1 ≤ c ∧ c < n := by
  have hp : (0 : Int) < (n : Int) - 1 := by omega
  match k, h with
  | 0, h =>
    have h1 := Int.fmod_nonneg_of_pos S hp
    have h2 := Int.fmod_lt_of_pos S hp
    obtain ⟨c, hc⟩ := Int.eq_ofNat_of_zero_le (show 0 ≤ 1 + S.fmod ((n : Int) - 1) by omega)
    rw [hc] at h
    exact ⟨c, _, (Option.some.inj h).symm, by omega, by omega⟩
  | 1, h =>
    obtain ⟨c, hc⟩ := Int.eq_ofNat_of_zero_le (show 0 ≤ (n : Int) - 1 by omega)
    rw [hc] at h
    exact ⟨c, _, (Option.some.inj h).symm, by omega, by omega⟩
  | k + 2, h => simp at h
theorem ints_of_car {ys : List Value} {ns : List Int} (h : CarriedAll ys (List.map PyData.int ns)) : IntsAre ys ns := by
  have q := CarriedAll.intsOf (f := fun a : Int => a) h
  simpa using q
theorem filter_whole (t : List Int) (c : Nat) : List.filter (fun a : Int => decide (a.fmod 128 < 64)) (List.take ((c : Int)).toNat t) = List.filter (fun o : Int => decide (o % 128 < 64)) (t.take c) := by
  rw [Int.toNat_natCast]
  congr 1
  funext a
  rw [fm _ (by decide)]
theorem whole_le (W : List Int) (c : Nat) (hb : ∀ v ∈ W, 0 ≤ v ∧ v < 98304) : wholeOf ((octets W).take c) ≤ W.length := by
  have h := whole_from W 0 (fun v hv => ⟨(hb v hv).1, by have := (hb v hv).2; omega⟩)
  rw [← octets_from] at h
  rw [← h]
  conv => rhs; rw [← List.take_append_drop c (octets W), whole_app]
  omega
theorem lookGo {K : Frag} {f : Addr} {o o' : Obj} {P : Prop} (h : K.lookup f = some o) (h2 : K.lookup f = some o') (k : o = o' → P) : P := k (Option.some.inj (h.symm.trans h2))
set_option maxRecDepth 100000 in
set_option maxHeartbeats 8000000 in
theorem law_for {w : World} {mean : ExcName → Option Value} {mg mb : Str → Option Value} {h₀ : Heap} {L fa ls lw lu lr lt lf : Addr} {m : Str → Option Value} {s : Shared} {Q : Flow → Shared → Prop} {E : Value → Shared → Prop}
    {oc : Value} {od an : Option Addr} {name qual : Str} {params : Arguments} {s0 s1 s2 s3 s4 s5 s6 s7 s8 s9 : Stmt} {rest : List Stmt} {scope : Scope} {dV kV doc pm cdv ct ccd : Value} {osl : Array (Option Value)}
    {cw cu cr ctt cf : Nat} {svs wvs uvs rvs tvs fvs : List Value} {sn wn : List Int} {x y z : Int}
    (ho : (hd.heap_39 w.params).lookup 134 = some ⟨oc, od, .func (fnOf name qual params (s0 :: s1 :: s2 :: s3 :: s4 :: s5 :: s6 :: s7 :: s8 :: s9 :: rest) scope dV kV doc pm an cdv ct), osl⟩)
    (B : Below callerA h₀ [] h₀) (F : Fr h₀ L s.heap m) (X : (hd.heap_39 w.params).In h₀) (T : TopF mean mg mb h₀)
    (N : News h₀ L s.heap [(lf, listOf fvs.toArray cf), (lt, listOf tvs.toArray ctt), (lr, listOf rvs.toArray cr), (lu, listOf uvs.toArray cu), (lw, listOf wvs.toArray cw)])
    (hsl : h₀.IsList ls svs.toArray) (hsi : IntsAre svs sn) (hlay : (PyData.list (List.map PyData.int sn)).layable0 = true)
    (hwi : IntsAre wvs wn) (hui : IntsAre uvs (wn.reverse.map undoOf)) (hri : IntsAre rvs [x, y, z]) (hti : IntsAre tvs (octets wn)) (hfi : IntsAre fvs (wn.foldl step [x, y, z]))
    (hw1 : 5 ≤ wn.length) (hw2 : wn.length ≤ 10) (hwb : ∀ v ∈ wn, 0 ≤ v ∧ v < 98304)
    (em1 : m (Str.ofString "words") = some (.ref lw)) (em2 : m (Str.ofString "undone") = some (.ref lu)) (em3 : m (Str.ofString "row") = some (.ref lr)) (em4 : m (Str.ofString "script") = some (.ref ls)) (em5 : m (Str.ofString "tape") = some (.ref lt)) (em6 : m (Str.ofString "finish") = some (.ref lf))
    (hQ : ∀ h' tk' m', Fr h₀ L h' m' → Q (.ret (.bool true)) { s with heap := h', toks := tk' }) :
    wpAny (model PySem.Challenge.rw_pe0042_01.row.prog w) (callerA.deeper (envOfC qual scope L fa ccd)) (execs rest (envOfC qual scope L fa ccd)) Q E s := by
  revert X; k_fill; intro X
  refine' lookGo ho ?h2 ?_
  (case h2 => k_dflt k_is)
  intro e
  cases e
  refine wpAny_noRaise ?_
  replace F := frSays F [(Str.ofString "finish", .ref lf), (Str.ofString "tape", .ref lt), (Str.ofString "row", .ref lr), (Str.ofString "undone", .ref lu), (Str.ofString "words", .ref lw), (Str.ofString "script", .ref ls)] (allc em6 (allc em5 (allc em3 (allc em2 (allc em1 (all1 em4))))))
  dsimp only [kstB] at F
  clear em1 em2 em3 em4 em5 em6 ho
  have hl1 : 5 ≤ (octets wn).length := Nat.le_trans hw1 (octsN_ge wn wn.length)
  have hl2 : (octets wn).length ≤ 40 := Nat.le_trans (octsN_len wn wn.length) (by omega)
  k_steps
  unfold Halt
  (rename Fr _ _ _ _ => F6); (rename News _ _ _ _ => N6)
  refine listLoop (ForJ lw lu lr lt lf _) rfl (.head _) F6 N6 ⟨rfl, by with_unfolding_all rfl, by with_unfolding_all rfl, by with_unfolding_all rfl, by with_unfolding_all rfl, by with_unfolding_all rfl⟩ ?_ ?_ ?_
  · rintro i m' nx ⟨rfl, _⟩
    exact .head _
  · rintro k v m₁ nx h8 tk8 I oI hv8 ⟨rfl, e1, e2, e3, e4, e5⟩ hoff F8 N8
    obtain ⟨c, tc, rfl, hc1, hc2⟩ := cut_of hl1 hv8
    replace F8 := frSays F8 [(Str.ofString "cut", .int (c : Int) tc), (Str.ofString "finish", .ref lf), (Str.ofString "tape", .ref lt), (Str.ofString "row", .ref lr), (Str.ofString "undone", .ref lu), (Str.ofString "words", .ref lw)]
      (allc (if_pos rfl) (allc (show (if Str.ofString "finish" = Str.ofString "cut" then _ else m₁ (Str.ofString "finish")) = _ from (if_neg (by decide)).trans e5) (allc (show (if Str.ofString "tape" = Str.ofString "cut" then _ else m₁ (Str.ofString "tape")) = _ from (if_neg (by decide)).trans e4) (allc (show (if Str.ofString "row" = Str.ofString "cut" then _ else m₁ (Str.ofString "row")) = _ from (if_neg (by decide)).trans e3)
        (allc (show (if Str.ofString "undone" = Str.ofString "cut" then _ else m₁ (Str.ofString "undone")) = _ from (if_neg (by decide)).trans e2) (all1 (show (if Str.ofString "words" = Str.ofString "cut" then _ else m₁ (Str.ofString "words")) = _ from (if_neg (by decide)).trans e1)))))))
    dsimp only [kstB] at F8
    clear F6 N6 hv8
    k_steps
    (rename CarriedAll _ _ => hcar); (rename NewPlain _ _ _ _ => hpl)
    rename Heap.IsList _ _ _ => hisl
    have hii := ints_of_car hcar
    rw [filter_whole] at hii
    have hwl := whole_le wn c hwb
    generalize hwh : wholeOf ((octets wn).take c) = wh at *
    refine kun_lenL (k := (wh : Int)) hisl (by rw [List.size_toArray, hii.length, ← hwh]; rfl) (by omega) ?_
    clear hcar hpl hisl hii
    replace hwh : Halt (wholeOf ((octets wn).take c) = wh) := hwh
    k_steps
    unfold Halt
    (rename Fr _ _ _ _ => F9); (rename News _ _ _ _ => N9); (rename IntsAre _ _ => I9)
    have hn9 : ((wn.length : Int) - (wh : Int)).toNat = wn.length - wh := by omega
    rw [hn9] at I9
    have hub := undo_b hwb
    have hwb26 : ∀ v ∈ wn, 0 ≤ v ∧ v < 262144 := fun v hv => ⟨(hwb v hv).1, by have := (hwb v hv).2; omega⟩
    have huw : ∀ v ∈ (wn.reverse.map undoOf).take (wn.length - wh), 0 ≤ v ∧ v < 98304 := fun v hv => hub v (List.mem_of_mem_take hv)
    have hub26 : ∀ v ∈ (wn.reverse.map undoOf).take (wn.length - wh), 0 ≤ v ∧ v < 262144 := fun v hv => ⟨(huw v hv).1, by have := (huw v hv).2; omega⟩
    have hul : ((wn.reverse.map undoOf).take (wn.length - wh)).length ≤ 10 := Nat.le_trans (List.length_take_le' _ _) (by simpa using hw2)
    have hzl : (octets ((wn.reverse.map undoOf).take (wn.length - wh))).length ≤ 1000 := by have := octsN_len ((wn.reverse.map undoOf).take (wn.length - wh)) ((wn.reverse.map undoOf).take (wn.length - wh)).length; unfold octets; omega
    have hfin := undo_part wn x y z wh hwl
    generalize hU : (wn.reverse.map undoOf).take (wn.length - wh) = U at *
    clear hU
    k_dflt (refine' octets_ctr ?k1 F9 ?k3 N9 ?k5 ?k6 ?kl I9 ?kn hub26 ?kd ?ku ?_; (case k1 => k_asm); (case k3 => k_asm); (case k5 => k_asm); (case k6 => rfl); (case kl => k_mem); (case kn => omega); (case kd => ktr_room); (case ku => ktr_units))
    intro lz zvs cz h10 tk10 F10 N10 lz1 hzi
    clear lz1 F9
    k_steps
    unfold Halt
    (rename Fr _ _ _ _ => F11); (rename News _ _ _ _ => N11); (rename IntsAre _ (List.take (c : Int).toNat _) => I11)
    rw [Int.toNat_natCast] at I11
    have htl : ((octets wn).take c).length ≤ 1000 := Nat.le_trans (List.length_take_le' _ _) (by omega)
    have hwt := words_take wn hwb26 c
    have hwh2 : wholeOf ((octets wn).take c) = wh := hwh
    rw [hwh2] at hwt
    k_dflt (refine' run_ctr ?k1 F11 ?k3 N11 ?k5 ?k6 ?kt ?kr I11 hri htl rfl ?ks ?kd ?ku ?_; (case k1 => k_asm); (case k3 => k_asm); (case k5 => k_asm); (case k6 => rfl); (case kt => k_mem); (case kr => k_mem); (case ks => (rw [hwt]; exact fun v hv => (hwb v (List.mem_of_mem_take hv)).2)); (case kd => ktr_room); (case ku => ktr_units))
    intro lo ovs co h12 tk12 F12 N12 hone hoi
    rw [hwt] at hoi
    clear F11 hone I11
    k_steps
    unfold Halt
    (rename Fr _ _ _ _ => F13); (rename News _ _ _ _ => N13)
    k_dflt (refine' run_ctr ?k1 F13 ?k3 N13 ?k5 ?k6 ?kt ?kr hzi hfi hzl ?kl ?ks ?kd ?ku ?_; (case k1 => k_asm); (case k3 => k_asm); (case k5 => k_asm); (case k6 => rfl); (case kt => k_mem); (case kr => k_mem); (case kl => (rw [fold_length]; rfl)); (case ks => (rw [words_octets _ hub26]; exact fun v hv => (huw v hv).2)); (case kd => ktr_room); (case ku => ktr_units))
    intro lp pvs cp h14 tk14 F14 N14 hpne hpi
    rw [words_octets _ hub26, hfin] at hpi
    clear F13 hpne
    k_steps
    exact ⟨_, _, _, _, rfl, F14, (fun p hp => N14 p (.tail _ (.tail _ (.tail _ (.tail _ (.tail _ (.tail _ hp))))))), hoff, rfl, by with_unfolding_all rfl, by with_unfolding_all rfl, by with_unfolding_all rfl, by with_unfolding_all rfl, by with_unfolding_all rfl⟩
  · rintro m₁ nx h8 tk8 ⟨rfl, e1, e2, e3, e4, e5⟩ F8 N8
    k_steps
    exact hQ _ _ _ F8

end Mine
namespace Mine
theorem start_LI42 : True := by
  w_top off
  exact True.intro

local macro_rules | `(tactic| walk_at "call ref") => `(tactic| ((with_reducible show wpAny _ _ (call (Value.ref 105) _) _ _ _); refine halt ?_))
local macro_rules | `(tactic| walk_at "call ref") => `(tactic| ((with_reducible show wpAny _ _ (call (Value.ref 122) _) _ _ _); refine halt ?_))
local macro_rules | `(tactic| walk_at "call ref") => `(tactic| ((with_reducible show wpAny _ _ (call (Value.ref 112) _) _ _ _); refine halt ?_))
local macro_rules | `(tactic| walk_at "call ref") => `(tactic| ((with_reducible show wpAny _ _ (call (Value.ref 129) _) _ _ _); refine halt ?_))
local macro_rules | `(tactic| walk_at "execs cons") => `(tactic| ((with_reducible show wpAny _ _ (execs (Stmt.For (Expr.Name (Str.ofString "cut") _) _ _ _ _ :: _) _) _ _ _); refine halt ?_))
structure Stop3 : Prop where
  mk :: (one : True)
local macro_rules | `(tactic| walk_at "eval ListComp") => `(tactic| ((with_reducible rename Stop3 => z1); refine halt ?_))
local macro_rules | `(tactic| walk_at "CompSrc") => `(tactic| ((with_reducible rename Stop3 => z1); refine halt ?_))
local macro_rules | `(tactic| walk_at "CompEnd") => `(tactic| ((with_reducible rename Stop3 => z1); refine halt ?_))
theorem sg_bits (W : List Int) : Builtin.Int.intBits (sgOf W) ≤ 64 := by
  have : sgOf W = 1 ∨ sgOf W = -1 := by unfold sgOf; rw [fm _ (by decide)]; omega
  rcases this with h | h <;> rw [h] <;> decide
def rowOf (W : List Int) (T : List (List Int)) (p : Nat) : List Int := (List.range 3).map fun k => sgOf W * cofT T k p
/-- what holds between the turns of the outer comprehension: the ledger holds the first one, and the rows made so far are refs to lists of ints -/
def RowJ (base : List (Addr × Obj)) (row : Nat → List Int) (i : Nat) (ys : List Value) (nx : List (Addr × Obj)) : Prop :=
  (∀ p ∈ base, p ∈ nx) ∧ ∃ ds : List Addr, ys = ds.map Value.ref ∧ ds.length = i ∧ ∀ j, j < i → ∃ d vs, ds[j]? = some d ∧ (d, LCg.lst vs) ∈ nx ∧ IntsAre vs (row j)
theorem RowJ.start {base : List (Addr × Obj)} {row : Nat → List Int} : RowJ base row 0 [] base := ⟨fun _ hp => hp, [], rfl, rfl, fun _ hj => absurd hj (Nat.not_lt_zero _)⟩
theorem RowJ.three {base nx : List (Addr × Obj)} {row : Nat → List Int} {ys : List Value} (h : RowJ base row 3 ys nx) : (∀ p ∈ base, p ∈ nx) ∧ ∃ d0 d1 d2 v0 v1 v2, ys = [.ref d0, .ref d1, .ref d2] ∧ (d0, LCg.lst v0) ∈ nx ∧ (d1, LCg.lst v1) ∈ nx ∧ (d2, LCg.lst v2) ∈ nx ∧ IntsAre v0 (row 0) ∧ IntsAre v1 (row 1) ∧ IntsAre v2 (row 2) := by
  obtain ⟨h1, ds, rfl, hl, h2⟩ := h
  refine ⟨h1, ?_⟩
  match ds, hl with
  | [a, b, c], _ =>
    obtain ⟨d0, v0, e0, m0, i0⟩ := h2 0 (by decide)
    obtain ⟨d1, v1, e1, m1, i1⟩ := h2 1 (by decide)
    obtain ⟨d2, v2, e2, m2, i2⟩ := h2 2 (by decide)
    cases e0; cases e1; cases e2
    exact ⟨a, b, c, v0, v1, v2, rfl, m0, m1, m2, i0, i1, i2⟩
theorem RowJ.next {base nx : List (Addr × Obj)} {row : Nat → List Int} {i : Nat} {ys vs : List Value} {d : Addr} (h : RowJ base row i ys nx) (hv : IntsAre vs (row i)) : RowJ base row (i + 1) (ys ++ [.ref d]) ((d, LCg.lst vs) :: nx) := by
  obtain ⟨h1, ds, rfl, hl, h2⟩ := h
  refine ⟨fun p hp => .tail _ (h1 p hp), ds ++ [d], by simp, by simp [hl], fun j hj => ?_⟩
  by_cases hji : j < i
  · obtain ⟨d', vs', e, hm, hi⟩ := h2 j hji
    exact ⟨d', vs', by rw [List.getElem?_append_left (by omega)]; exact e, .tail _ hm, hi⟩
  · have : j = i := by omega
    subst this
    exact ⟨d, vs, by rw [List.getElem?_append_right (by omega), hl]; simp, .head _, hv⟩
set_option maxRecDepth 100000 in
set_option maxHeartbeats 8000000 in
theorem law_inv {w : World} {mean : ExcName → Option Value} {mg mb : Str → Option Value} {h₀ : Heap} {L fa ls lw lu lr lt lf lT r0 r1 r2 : Addr} {m : Str → Option Value} {s : Shared} {Q : Flow → Shared → Prop} {E : Value → Shared → Prop}
    {oc : Value} {od an : Option Addr} {name qual : Str} {params : Arguments} {s0 s1 s2 s3 s4 s5 s6 s7 : Stmt} {rest : List Stmt} {scope : Scope} {dV kV doc pm cdv ct ccd : Value} {osl : Array (Option Value)}
    {o1 o2 : Obj} {cw cr ctt cf cT c0 c1 c2 : Nat} {svs wvs uvs rvs tvs fvs v0 v1 v2 : List Value} {sn wn : List Int} {x y z a0 b0 e0 a1 b1 e1 a2 b2 e2 : Int} {tsg : Tok}
    (ho : (hd.heap_39 w.params).lookup 134 = some ⟨oc, od, .func (fnOf name qual params (s0 :: s1 :: s2 :: s3 :: s4 :: s5 :: s6 :: s7 :: rest) scope dV kV doc pm an cdv ct), osl⟩)
    (B : Below callerA h₀ [] h₀) (F : Fr h₀ L s.heap m) (X : (hd.heap_39 w.params).In h₀) (T : TopF mean mg mb h₀)
    (N : News h₀ L s.heap [(lf, listOf fvs.toArray cf), (lT, listOf #[.ref r0, .ref r1, .ref r2] cT), (r0, listOf v0.toArray c0), (r1, listOf v1.toArray c1), (r2, listOf v2.toArray c2), (lt, listOf tvs.toArray ctt), (lr, listOf rvs.toArray cr), (lu, listOf uvs.toArray uvs.length), (lw, listOf wvs.toArray cw), (L + 1 + 1, o1), (L + 1, o2)])
    (d1 : o1.data = .cell (some (.int (sgOf wn) tsg))) (d2 : o2.data = .cell (some (.ref lT))) (hsl : h₀.IsList ls svs.toArray) (hsi : IntsAre svs sn) (hlay : (PyData.list (List.map PyData.int sn)).layable0 = true)
    (hwi : IntsAre wvs wn) (hui : IntsAre uvs (wn.reverse.map undoOf)) (hri : IntsAre rvs [x, y, z]) (hti : IntsAre tvs (octets wn)) (hfi : IntsAre fvs (wn.foldl step [x, y, z]))
    (hT : wn.foldl stepT tab0 = [[a0, b0, e0], [a1, b1, e1], [a2, b2, e2]]) (i0 : IntsAre v0 [a0, b0, e0]) (i1 : IntsAre v1 [a1, b1, e1]) (i2 : IntsAre v2 [a2, b2, e2])
    (hw1 : 5 ≤ wn.length) (hw2 : wn.length ≤ 10) (hwb : ∀ v ∈ wn, 0 ≤ v ∧ v < 98304) (hx : x.natAbs < 2 ^ 63) (hy : y.natAbs < 2 ^ 63) (hz : z.natAbs < 2 ^ 63)
    (em1 : m (Str.ofString "words") = some (.ref lw)) (em2 : m (Str.ofString "undone") = some (.ref lu)) (em3 : m (Str.ofString "row") = some (.ref lr)) (em4 : m (Str.ofString "script") = some (.ref ls)) (em5 : m (Str.ofString "tape") = some (.ref lt)) (em6 : m (Str.ofString "finish") = some (.ref lf))
    (hQ : ∀ h' tk' m', Fr h₀ L h' m' → Q (.ret (.bool true)) { s with heap := h', toks := tk' }) :
    wpAny (model PySem.Challenge.rw_pe0042_01.row.prog w) (callerA.deeper (envOfC qual scope L fa ccd)) (execs rest (envOfC qual scope L fa ccd)) Q E s := by
  revert X; k_fill; intro X
  refine' lookGo ho ?h2 ?_
  (case h2 => k_dflt k_is)
  intro e
  cases e
  replace F := frSays F [(Str.ofString "finish", .ref lf), (Str.ofString "tape", .ref lt), (Str.ofString "row", .ref lr), (Str.ofString "undone", .ref lu), (Str.ofString "words", .ref lw), (Str.ofString "script", .ref ls)] (allc em6 (allc em5 (allc em3 (allc em2 (allc em1 (all1 em4))))))
  dsimp only [kstB] at F
  clear em1 em2 em3 em4 em5 em6 ho
  have z1 : Stop3 := ⟨trivial⟩
  have hbits : ∀ i : Nat, SmallRow (([[a0, b0, e0], [a1, b1, e1], [a2, b2, e2]] : List (List Int)).getD i []) := tab_bits hw2 hwb hT
  have hsgb : Builtin.Int.intBits (sgOf wn) ≤ 64 := sg_bits wn
  k_steps
  (rename Fr _ _ _ _ => F15); (rename News _ _ _ _ => N15)
  k_dflt (refine' Assign_C (n := 3) F15 ?a1 ?a2 ?a3 ?a4 ?a5 ?a6 ?a7 ?a8 ?a9 ?a10 ?a11 ?_; (case a1 => exact rfl); (case a2 => (with_unfolding_all exact rfl)); (case a3 => (with_unfolding_all exact rfl)); (case a4 => exact env_one (fun _ => rfl) (fun _ => rfl)); (case a5 => exact rfl); (case a6 => exact (fun _ _ => rfl)); (case a7 => decide); (case a8 => exact rfl); (case a9 => exact rfl); (case a10 => exact rfl); (case a11 => decide))
  k_steps
  (rename Fr _ _ _ _ => F16); (rename News _ _ _ _ => N16)
  (rename IsRange _ _ _ _ _ _ _ _ => R16)
  refine ⟨_, _, _, _, _, rfl, F16, N16, R16, ?_⟩
  intro g16
  clear F16 N16 R16
  refine cfc_range (RowJ _ (rowOf wn [[a0, b0, e0], [a1, b1, e1], [a2, b2, e2]])) ?_ RowJ.start ?_
  · intro i ys nx tp I1 oI1 C1 oC1 P1 oP1 D1 h17 tk17 E17 hi hJ hP1 F17 N17 off17 ne17
    have N18 : News h₀ L h17 ((lT, listOf #[.ref r0, .ref r1, .ref r2] cT) :: (r0, listOf v0.toArray c0) :: (r1, listOf v1.toArray c1) :: (r2, listOf v2.toArray c2) :: (L + 1 + 1, o1) :: (L + 1, o2) :: (P1, oP1) :: (I1, oI1) :: (C1, oC1) :: (P1, oP1) :: (D1, LCg.lst ys) :: nx) := fun p hp => by
      rcases List.mem_cons.mp hp with rfl | hp
      · exact N17 _ (.tail _ (.tail _ (.tail _ (.tail _ (hJ.1 _ (by k_mem))))))
      rcases List.mem_cons.mp hp with rfl | hp
      · exact N17 _ (.tail _ (.tail _ (.tail _ (.tail _ (hJ.1 _ (by k_mem))))))
      rcases List.mem_cons.mp hp with rfl | hp
      · exact N17 _ (.tail _ (.tail _ (.tail _ (.tail _ (hJ.1 _ (by k_mem))))))
      rcases List.mem_cons.mp hp with rfl | hp
      · exact N17 _ (.tail _ (.tail _ (.tail _ (.tail _ (hJ.1 _ (by k_mem))))))
      rcases List.mem_cons.mp hp with rfl | hp
      · exact N17 _ (.tail _ (.tail _ (.tail _ (.tail _ (hJ.1 _ (by k_mem))))))
      rcases List.mem_cons.mp hp with rfl | hp
      · exact N17 _ (.tail _ (.tail _ (.tail _ (.tail _ (hJ.1 _ (by k_mem))))))
      rcases List.mem_cons.mp hp with rfl | hp
      · exact N17 _ (by k_mem)
      · exact N17 _ hp
    k_dflt (refine LCg.ListComp_U (F₀ := by k_asm) (by with_unfolding_all rfl) (by decide) (by rfl) (by decide) (by rfl) ?_)
    k_steps
    unfold Halt
    (rename Fr _ _ _ _ => F19); (rename News _ _ _ _ => N19); (rename IsRange _ _ _ _ _ _ _ _ => R19)
    k_dflt (refine LCg.CompSrc.range (n := 3) (by rfl) F19 N19 R19 (by first | decide | rfl) (by first | rfl | decide) (by first | size_fits | exact Nat.le_of_ble_eq_true rfl) ?_)
    intro g19
    clear F19 N19 R19 N17
    refine cfv_range (n := 3) (fun k => sgOf wn * cofT [[a0, b0, e0], [a1, b1, e1], [a2, b2, e2]] k i) ?_ ?_
    · intro k t I oI C oC D m₂ zs h tk E' hk hC hx F20 N20 off ne
      k_steps
      unfold Halt
      (rename Fr _ _ _ _ => F21); (rename News _ _ _ _ => N21)
      k_dflt (refine' cof_ctr (k := k) (p := i) ?k1 F21 ?k3 N21 ?k5 ?k6 ?kt ?k00 ?k01 ?k02 i0 i1 i2 hk hi hbits ?kd ?ku ?_; (case k1 => k_asm); (case k3 => k_asm); (case k5 => k_asm); (case k6 => rfl); (case kt => k_mem); (case k00 => k_mem); (case k01 => k_mem); (case k02 => k_mem); (case kd => ktr_room); (case ku => ktr_units))
      intro t23 h23 tk23 F23 N23
      refine PyProof.Rows.mul_int ?_ (IntMulOk.of_left hsgb)
      k_steps
      unfold Halt
      refine LCg.CompEnd.intro (by assumption) (by assumption) _ (fun p hp => hp) off (by lcg_src) ⟨rfl, _, rfl⟩
    · intro zs hzs
      intro D2 h22 tk22 F22 N22 o22
      refine ⟨_, _, (D2, LCg.lst zs) :: nx, rfl, F22, ?_, ?_, hJ.next hzs⟩
      · intro p hp
        rcases List.mem_cons.mp hp with rfl | hp
        · exact N22 _ (.tail _ (.tail _ (.tail _ (.tail _ (.tail _ (.tail _ (.tail _ (.tail _ (.head _)))))))))
        rcases List.mem_cons.mp hp with rfl | hp
        · exact N22 _ (.tail _ (.tail _ (.tail _ (.tail _ (.tail _ (.tail _ (.tail _ (.tail _ (.tail _ (.head _))))))))))
        rcases List.mem_cons.mp hp with rfl | hp
        · exact N22 _ (.tail _ (.tail _ (.tail _ (.tail _ (.tail _ (.tail _ (.tail _ (.head _))))))))
        rcases List.mem_cons.mp hp with rfl | hp
        · exact N22 _ (.tail _ (.tail _ (.tail _ (.tail _ (.tail _ (.tail _ (.tail _ (.tail _ (.tail _ (.tail _ (.tail _ (.head _))))))))))))
        rcases List.mem_cons.mp hp with rfl | hp
        · exact N22 _ (.head _)
        · exact N22 _ (.tail _ (.tail _ (.tail _ (.tail _ (.tail _ (.tail _ (.tail _ (.tail _ (.tail _ (.tail _ (.tail _ (.tail _ hp))))))))))))
      · intro p hp
        rcases List.mem_cons.mp hp with rfl | hp
        · exact ⟨Ne.symm o22.2.2.2.2.2.2.2.1, Ne.symm o22.2.2.2.2.2.2.2.2.1, Ne.symm o22.2.2.2.2.2.2.1, Ne.symm o22.2.2.2.2.2.2.2.2.2.2.1⟩
        · exact off17 p hp
  · intro ys nx hJ
    intro D h24 tk24 F24 N24 o24
    obtain ⟨hb24, d0, d1, d2, v3, v4, v5, rfl, hm0, hm1, hm2, j0, j1, j2⟩ := hJ.three
    have N25 : News h₀ L h24 [(D, listOf #[.ref d0, .ref d1, .ref d2] 3), (d0, listOf v3.toArray v3.length), (d1, listOf v4.toArray v4.length), (d2, listOf v5.toArray v5.length), (lf, listOf fvs.toArray cf), (lt, listOf tvs.toArray ctt), (lr, listOf rvs.toArray cr), (lu, listOf uvs.toArray uvs.length), (lw, listOf wvs.toArray cw)] := fun p hp => by
      simp only [List.mem_cons, List.not_mem_nil, or_false] at hp
      rcases hp with rfl | rfl | rfl | rfl | rfl | rfl | rfl | rfl | rfl
      · exact N24 _ (.head _)
      · exact N24 _ (.tail _ hm0)
      · exact N24 _ (.tail _ hm1)
      · exact N24 _ (.tail _ hm2)
      · exact N24 _ (.tail _ (hb24 _ (by k_mem)))
      · exact N24 _ (.tail _ (hb24 _ (by k_mem)))
      · exact N24 _ (.tail _ (hb24 _ (by k_mem)))
      · exact N24 _ (.tail _ (hb24 _ (by k_mem)))
      · exact N24 _ (.tail _ (hb24 _ (by k_mem)))
    clear N24 hJ o24 hm0 hm1 hm2 hb24
    (try dsimp only)
    k_steps
    unfold Halt
    (rename Fr _ _ _ _ => F26); (rename News _ _ _ _ => N26)
    have hub := undo_b hwb
    have hub26 : ∀ v ∈ wn.reverse.map undoOf, 0 ≤ v ∧ v < 262144 := fun v hv => ⟨(hub v hv).1, by have := (hub v hv).2; omega⟩
    have hul : (wn.reverse.map undoOf).length ≤ 10 := by simpa using hw2
    have htl : (octets (wn.reverse.map undoOf)).length ≤ 1000 := by have := octsN_len (wn.reverse.map undoOf) (wn.reverse.map undoOf).length; unfold octets; omega
    k_dflt (refine' octets_ctr ?k1 F26 ?k3 N26 ?k5 ?k6 ?kl hui ?kn hub26 ?kd ?ku ?_; (case k1 => k_asm); (case k3 => k_asm); (case k5 => k_asm); (case k6 => rfl); (case kl => k_mem); (case kn => omega); (case kd => ktr_room); (case ku => ktr_units))
    intro la avs ca h27 tk27 F27 N27 la1 hai
    clear F26 N26 la1
    k_steps
    unfold Halt
    (rename Fr _ _ _ _ => F28); (rename News _ _ _ _ => N28)
    k_dflt (refine' run_ctr ?k1 F28 ?k3 N28 ?k5 ?k6 ?kt ?kr hai hri htl rfl ?ks ?kd ?ku ?_; (case k1 => k_asm); (case k3 => k_asm); (case k5 => k_asm); (case k6 => rfl); (case kt => k_mem); (case kr => k_mem); (case ks => (rw [words_octets _ hub26]; exact fun v hv => (hub v hv).2)); (case kd => ktr_room); (case ku => ktr_units))
    intro lo ovs co h29 tk29 F29 N29 hone hoi
    rw [words_octets _ hub26, inv_law hT] at hoi
    clear F28 N28 hone
    k_steps
    unfold Halt
    (rename Fr _ _ _ _ => F30); (rename News _ _ _ _ => N30)
    k_dflt (refine' times_ctr (x := x) (y := y) (z := z) ?k1 F30 ?k3 N30 ?k5 ?k6 ?kt ?k00 ?k01 ?k02 ?kr j0 j1 j2 hri hx hy hz ?kd ?ku ?_; (case k1 => k_asm); (case k3 => k_asm); (case k5 => k_asm); (case k6 => rfl); (case kt => k_mem); (case k00 => k_mem); (case k01 => k_mem); (case k02 => k_mem); (case kr => k_mem); (case kd => ktr_room); (case ku => ktr_units))
    intro lp pvs cp h31 tk31 F31 N31 hpne hpi
    clear F30 N30 hpne
    replace hpi : IntsAre pvs [sgOf wn * (b1 * e2 - e1 * b2) * x + sgOf wn * (b2 * e0 - e2 * b0) * y + sgOf wn * (b0 * e1 - e0 * b1) * z, sgOf wn * (e1 * a2 - a1 * e2) * x + sgOf wn * (e2 * a0 - a2 * e0) * y + sgOf wn * (e0 * a1 - a0 * e1) * z, sgOf wn * (a1 * b2 - b1 * a2) * x + sgOf wn * (a2 * b0 - b2 * a0) * y + sgOf wn * (a0 * b1 - b0 * a1) * z] := hpi
    k_steps
    unfold Halt
    (rename Fr _ _ _ _ => F32); (rename News _ _ _ _ => N32)
    refine' law_for ?ho ?B F32 ?X ?T ?N hsl hsi hlay hwi hui hri hti hfi hw1 hw2 hwb ?em1 ?em2 ?em3 ?em4 ?em5 ?em6 hQ
    (case ho => k_dflt k_is)
    (case B => k_asm)
    (case X => k_asm)
    (case T => k_asm)
    (case N => exact fun p hp => N32 p (.tail _ (.tail _ (.tail _ (.tail _ (.tail _ (.tail _ (.tail _ hp))))))))
    all_goals (with_unfolding_all rfl)

end Mine
namespace Mine
theorem start_LS42 : True := by
  w_top off
  exact True.intro
local macro_rules | `(tactic| walk_at "call ref") => `(tactic| ((with_reducible show wpAny _ _ (call (Value.ref 105) _) _ _ _); refine halt ?_))
local macro_rules | `(tactic| walk_at "call ref") => `(tactic| ((with_reducible show wpAny _ _ (call (Value.ref 117) _) _ _ _); refine halt ?_))
local macro_rules | `(tactic| walk_at "call ref") => `(tactic| ((with_reducible show wpAny _ _ (call (Value.ref 122) _) _ _ _); refine halt ?_))
local macro_rules | `(tactic| walk_at "call ref") => `(tactic| ((with_reducible show wpAny _ _ (call (Value.ref 112) _) _ _ _); refine halt ?_))
local macro_rules | `(tactic| walk_at "storeName") => `(tactic| ((with_reducible show wpAny _ _ (storeName _ (Str.ofString "sign") _) _ _ _); refine halt ?_))
local macro_rules | `(tactic| walk_at "execs cons") => `(tactic| ((with_reducible show wpAny _ _ (execs (Stmt.Assign [Expr.Name (Str.ofString "inverse") _] _ _ :: _) _) _ _ _); refine halt ?_))
local macro_rules | `(tactic| walk_at "call ref") => `(tactic| ((with_reducible show wpAny _ _ (call (Value.ref 63) _) _ _ _); refine halt ?_))
local macro_rules | `(tactic| walk_at "eval ListComp") => `(tactic| ((with_reducible rename Stop3 => z1); refine halt ?_))
local macro_rules | `(tactic| walk_at "CompSrc") => `(tactic| ((with_reducible rename Stop3 => z1); refine halt ?_))
local macro_rules | `(tactic| walk_at "CompEnd") => `(tactic| ((with_reducible rename Stop3 => z1); refine halt ?_))
set_option maxRecDepth 100000 in
set_option maxHeartbeats 8000000 in
theorem law_rest {w : World} {mean : ExcName → Option Value} {mg mb : Str → Option Value} {h₀ : Heap} {L fa ls lw lu lr : Addr} {m : Str → Option Value} {s : Shared} {Q : Flow → Shared → Prop} {E : Value → Shared → Prop}
    {oc : Value} {od an : Option Addr} {name qual : Str} {params : Arguments} {s0 s1 s2 : Stmt} {rest : List Stmt} {scope : Scope} {dV kV doc pm cdv ct ccd : Value} {osl : Array (Option Value)}
    {o1 o2 : Obj} {x1 x2 : Option Value} {cw cr : Nat} {svs wvs uvs rvs : List Value} {sn wn : List Int} {x y z : Int}
    (ho : (hd.heap_39 w.params).lookup 134 = some ⟨oc, od, .func (fnOf name qual params (s0 :: s1 :: s2 :: rest) scope dV kV doc pm an cdv ct), osl⟩)
    (B : Below callerA h₀ [] h₀) (F : Fr h₀ L s.heap m) (X : (hd.heap_39 w.params).In h₀) (T : TopF mean mg mb h₀)
    (N : News h₀ L s.heap [(lr, listOf rvs.toArray cr), (lu, LCg.lst uvs), (lw, listOf wvs.toArray cw), (L + 1 + 1, o1), (L + 1, o2)])
    (d1 : o1.data = .cell x1) (d2 : o2.data = .cell x2) (hsl : h₀.IsList ls svs.toArray) (hsi : IntsAre svs sn) (hlay : (PyData.list (List.map PyData.int sn)).layable0 = true)
    (q1 : @LT.lt Nat _ (L + 1 + 1) lw) (q2 : @Ne Nat lw lu) (q3 : @Ne Nat (L + 1 + 1) lu) (q4 : @Ne Nat (L + 1) lu) (q5 : @LT.lt Nat _ lu lr) (q6 : @LT.lt Nat _ lw lr)
    (hwi : IntsAre wvs wn) (hui : IntsAre uvs (wn.reverse.map undoOf)) (hri : IntsAre rvs [x, y, z])
    (hw1 : 5 ≤ wn.length) (hw2 : wn.length ≤ 10) (hwb : ∀ v ∈ wn, 0 ≤ v ∧ v < 98304) (hx : x.natAbs < 2 ^ 63) (hy : y.natAbs < 2 ^ 63) (hz : z.natAbs < 2 ^ 63) (hx0 : x ≠ 0)
    (em1 : m (Str.ofString "words") = some (.ref lw)) (em2 : m (Str.ofString "undone") = some (.ref lu)) (em3 : m (Str.ofString "row") = some (.ref lr)) (em4 : m (Str.ofString "script") = some (.ref ls))
    (hQ : ∀ h' tk' m', Fr h₀ L h' m' → Q (.ret (.bool true)) { s with heap := h', toks := tk' }) :
    wpAny (model PySem.Challenge.rw_pe0042_01.row.prog w) (callerA.deeper (envOfC qual scope L fa ccd)) (execs rest (envOfC qual scope L fa ccd)) Q E s := by
  revert X; k_fill; intro X
  refine' lookGo ho ?h2 ?_
  (case h2 => k_dflt k_is)
  intro e
  cases e
  replace F := frSays F [(Str.ofString "row", .ref lr), (Str.ofString "undone", .ref lu), (Str.ofString "words", .ref lw), (Str.ofString "script", .ref ls)] (allc em3 (allc em2 (allc em1 (all1 em4))))
  dsimp only [kstB] at F
  clear em1 em2 em3 em4 ho
  k_steps
  unfold Halt
  (rename Fr _ _ _ _ => F1); (rename News _ _ _ _ => N1)
  k_dflt (refine' octets_ctr ?k1 F1 ?k3 N1 ?k5 ?k6 ?kl hwi ?kn ?kb ?kd ?ku ?_; (case k1 => k_asm); (case k3 => k_asm); (case k5 => k_asm); (case k6 => rfl); (case kl => k_mem); (case kn => omega); (case kb => exact fun v hv => ⟨(hwb v hv).1, by have := (hwb v hv).2; omega⟩); (case kd => ktr_room); (case ku => ktr_units))
  intro lt tvs ctt h2 tk2 F2 N2 lt1 hti
  have y1 : @LT.lt Nat _ (L + 1) lt := lt1 (L + 1, o2) (by k_mem)
  have y2 : @LT.lt Nat _ (L + 1 + 1) lt := lt1 (L + 1 + 1, o1) (by k_mem)
  have y3 : @LT.lt Nat _ lr lt := lt1 (lr, _) (.head _)
  have y4 : @LT.lt Nat _ lu lt := lt1 (lu, _) (.tail _ (.head _))
  have y5 : @LT.lt Nat _ lw lt := lt1 (lw, _) (.tail _ (.tail _ (.head _)))
  clear F1 N1 lt1
  k_steps
  unfold Halt
  (rename Fr _ _ _ _ => F3); (rename News _ _ _ _ => N3)
  k_dflt (refine' table_ctr ?k1 F3 ?k3 N3 ?k5 ?k6 ?kl hwi ?kn ?kb ?kd ?ku ?_; (case k1 => k_asm); (case k3 => k_asm); (case k5 => k_asm); (case k6 => rfl); (case kl => k_mem); (case kn => omega); (case kb => exact hwb); (case kd => ktr_room); (case ku => ktr_units))
  intro lT r0 r1 r2 v0 v1 v2 a0 b0 e0 a1 b1 e1 a2 b2 e2 cT c0 c1 c2 h4 tk4 F4 N4 i0 i1 i2 hT hne
  have z1 : @Ne Nat (L + 1) lT ∧ @Ne Nat (L + 1) r0 ∧ @Ne Nat (L + 1) r1 ∧ @Ne Nat (L + 1) r2 := hne (L + 1, o2) (by k_mem)
  have z2 : @Ne Nat (L + 1 + 1) lT ∧ @Ne Nat (L + 1 + 1) r0 ∧ @Ne Nat (L + 1 + 1) r1 ∧ @Ne Nat (L + 1 + 1) r2 := hne (L + 1 + 1, o1) (by k_mem)
  clear F3 N3 hne
  k_steps
  unfold Halt
  (rename Fr _ _ _ _ => F5); (rename News _ _ _ _ => N5)
  k_dflt (refine' times_ctr (x := x) (y := y) (z := z) ?k1 F5 ?k3 N5 ?k5 ?k6 ?kt ?k00 ?k01 ?k02 ?kr i0 i1 i2 hri hx hy hz ?kd ?ku ?_; (case k1 => k_asm); (case k3 => k_asm); (case k5 => k_asm); (case k6 => rfl); (case kt => k_mem); (case k00 => k_mem); (case k01 => k_mem); (case k02 => k_mem); (case kr => k_mem); (case kd => ktr_room); (case ku => ktr_units))
  intro lf fvs cf h6 tk6 F6 N6 hfne hfi
  have w1 : @Ne Nat (L + 1) lf := hfne _ (.tail _ (.tail _ (.tail _ (.tail _ (.tail _ (.tail _ (.tail _ (.tail _ (.tail _ (.head _))))))))))
  have w2 : @Ne Nat (L + 1 + 1) lf := hfne (L + 1 + 1, o1) (by k_mem)
  have hb26 : ∀ v ∈ wn, 0 ≤ v ∧ v < 262144 := fun v hv => ⟨(hwb v hv).1, by have := (hwb v hv).2; omega⟩
  have htl : (octets wn).length ≤ 1000 := by have := octsN_len wn wn.length; unfold octets; omega
  clear F5 N5 hfne
  k_steps
  unfold Halt
  (rename Fr _ _ _ _ => F7); (rename News _ _ _ _ => N7)
  k_dflt (refine' run_ctr ?k1 F7 ?k3 N7 ?k5 ?k6 ?kt ?kr hti hri htl rfl ?ks ?kd ?ku ?_; (case k1 => k_asm); (case k3 => k_asm); (case k5 => k_asm); (case k6 => rfl); (case kt => k_mem); (case kr => k_mem); (case ks => (rw [words_octets wn hb26]; exact fun v hv => (hwb v hv).2)); (case kd => ktr_room); (case ku => ktr_units))
  intro lo ovs co h8 tk8 F8 N8 hone hoi
  rw [words_octets wn hb26, table_times hT] at hoi
  have w3 : @LT.lt Nat _ (L + 1) lo := hone _ (.tail _ (.tail _ (.tail _ (.tail _ (.tail _ (.tail _ (.tail _ (.tail _ (.tail _ (.tail _ (.head _)))))))))))
  have w4 : @LT.lt Nat _ (L + 1 + 1) lo := hone (L + 1 + 1, o1) (by k_mem)
  clear F7 N7 hone
  have z1 : Stop3 := ⟨trivial⟩
  k_steps
  unfold Halt
  k_dflt (refine LCg.ListComp_U (F₀ := by k_asm) (by with_unfolding_all rfl) (by decide) (by rfl) (by decide) (by rfl) ?_)
  k_steps
  unfold Halt
  (rename Fr _ _ _ _ => F9); (rename News _ _ _ _ => N9)
  k_dflt (refine LCg.CompSrc.ledger (its := wvs.toArray) (by rfl) F9 N9 (by k_mem) (by rw [List.size_toArray, hwi.length, sizeLine_eq]; omega) ?_)
  intro g9
  refine cfv_list (fun v => .bool (decide (2 ≤ v.fmod 4))) hwi ?_ ?_
  · intro k t I oI C oC D m₂ ys h tk E' hk hC hx F10 N10 off ne
    k_steps
    unfold Halt
    refine LCg.CompEnd.intro (by assumption) (by assumption) _ (fun p hp => hp) off (by lcg_src) ⟨rfl, rfl⟩
  · intro D h10 tk10 F10 N10 o10
    have eb : List.map (fun v : Int => Value.bool (decide (2 ≤ v.fmod 4))) wn = (wn.map (fun v => decide (2 ≤ v.fmod 4))).map Value.bool := by
      rw [List.map_map]; rfl
    rw [eb] at N10
    simp only [LCg.Off1, and_true] at o10
    k_steps
    unfold Halt
    (rename Fr _ _ _ _ => F11); (rename News _ _ _ _ => N11)
    k_dflt (refine' count_ctr (bs := wn.map (fun v => decide (2 ≤ v.fmod 4))) ?k1 F11 ?k3 N11 ?k5 ?k6 ?kl ?kd ?ku ?_; (case k1 => k_asm); (case k3 => k_asm); (case k5 => k_asm); (case k6 => rfl); (case kl => k_mem); (case kd => ktr_room); (case ku => ktr_units))
    intro t12 h12 tk12 F12 N12
    generalize hcnt : List.count true (wn.map (fun v => decide (2 ≤ v.fmod 4))) = cnt at *
    have hcnt2 : Halt (List.count true (wn.map (fun v => decide (2 ≤ v.fmod 4))) = cnt) := hcnt
    clear hcnt
    clear F11 N11
    k_steps
    unfold Halt
    (rename Fr _ _ _ _ => F13); (rename News _ _ _ _ => N13)
    have n0 : @Ne Nat D (L + 1 + 1) := o10.2.2.2.2.2.2.2.2.2.2.1.symm
    have n1 : @Ne Nat lo (L + 1 + 1) := Nat.ne_of_gt w4
    have n2 : @Ne Nat lf (L + 1 + 1) := w2.symm
    have n3 : @Ne Nat lT (L + 1 + 1) := z2.1.symm
    have n4 : @Ne Nat r0 (L + 1 + 1) := z2.2.1.symm
    have n5 : @Ne Nat r1 (L + 1 + 1) := z2.2.2.1.symm
    have n6 : @Ne Nat r2 (L + 1 + 1) := z2.2.2.2.symm
    have n7 : @Ne Nat lt (L + 1 + 1) := Nat.ne_of_gt y2
    have n8 : @Ne Nat lr (L + 1 + 1) := Nat.ne_of_gt (Nat.lt_trans q1 q6)
    have n9 : @Ne Nat lu (L + 1 + 1) := q3.symm
    have n10 : @Ne Nat lw (L + 1 + 1) := Nat.ne_of_gt q1
    have n11 : ∀ o : Obj, ∀ p ∈ [(L + 1, o)], p.1 ≠ L + 1 + 1 := fun o p hp => by rw [List.mem_singleton.mp hp]; exact Nat.ne_of_lt (Nat.lt_succ_self _)
    k_dflt (refine storeX_C F13 N13 rfl (UpdF.tail n0 (UpdF.tail n1 (UpdF.tail n2 (UpdF.tail n3 (UpdF.tail n4 (UpdF.tail n5 (UpdF.tail n6 (UpdF.tail n7 (UpdF.tail n8 (UpdF.tail n9 (UpdF.tail n10 (UpdF.head (n11 _))))))))))))) d1 ?_ rfl rfl)
    intro h14 o14 F14 N14 d14
    (try dsimp only at N14)
    replace d14 : ∃ t, o14.data = .cell (some (.int (1 - 2 * ((cnt : Nat) : Int).fmod 2) t)) := ⟨_, d14⟩
    obtain ⟨ts14, d14⟩ := d14
    clear F13 N13
    have hcnt3 : List.count true (wn.map (fun v => decide (2 ≤ v.fmod 4))) = cnt := hcnt2
    have hsg : sgOf wn = 1 - 2 * ((cnt : Nat) : Int).fmod 2 := by unfold sgOf cntOf; rw [hcnt3]
    rw [← hsg] at d14
    k_steps
    unfold Halt
    rw [← table_times hT] at hfi
    refine' law_inv ?ho ?B ?F ?X ?T ?N d14 ?d2 hsl hsi hlay hwi hui hri hti hfi hT i0 i1 i2 hw1 hw2 hwb hx hy hz ?em1 ?em2 ?em3 ?em4 ?em5 ?em6 hQ
    (case ho => k_dflt k_is)
    (case B => k_asm)
    (case X => k_asm)
    (case T => k_asm)
    (case F => exact F14)
    (case N => exact fun p hp => N14 p (.tail _ (.tail _ hp)))
    (case d2 => assumption)
    all_goals (with_unfolding_all rfl)

end Mine
namespace Mine
theorem start_LU42 : True := by
  w_top off
  exact True.intro
local macro_rules | `(tactic| walk_at "execs cons") => `(tactic| ((with_reducible show wpAny _ _ (execs (Stmt.Assign [Expr.Name (Str.ofString "tape") _] _ _ :: _) _) _ _ _); refine halt ?_))
local macro_rules | `(tactic| walk_at "CompSrc") => `(tactic| ((with_reducible rename Stop3 => z1); refine halt ?_))
local macro_rules | `(tactic| walk_at "CompEnd") => `(tactic| ((with_reducible rename Stop3 => z1); refine halt ?_))
theorem small_b (k : Int) : (if k < 0 then -(-k).fmod 1000000000000 - 1 else k.fmod 1000000000000 + 1).natAbs < 2 ^ 63 ∧ (if k < 0 then -(-k).fmod 1000000000000 - 1 else k.fmod 1000000000000 + 1) ≠ 0 := by
  rw [fm _ (by decide), fm _ (by decide)]
  split <;> omega
theorem row3 (l : List Int) : ∃ x y z, List.take 3 (List.map (fun k' : Int => if k' < 0 then -(-k').fmod 1000000000000 - 1 else k'.fmod 1000000000000 + 1) l ++ [2, -3, 5]) = [x, y, z] ∧ x.natAbs < 2 ^ 63 ∧ y.natAbs < 2 ^ 63 ∧ z.natAbs < 2 ^ 63 ∧ x ≠ 0 := by
  match l with
  | [] => exact ⟨2, -3, 5, rfl, by decide, by decide, by decide, by decide⟩
  | [a] => exact ⟨_, 2, -3, rfl, (small_b a).1, by decide, by decide, (small_b a).2⟩
  | [a, b] => exact ⟨_, _, 2, rfl, (small_b a).1, (small_b b).1, by decide, (small_b a).2⟩
  | a :: b :: c :: r => exact ⟨_, _, _, rfl, (small_b a).1, (small_b b).1, (small_b c).1, (small_b a).2⟩
theorem news5 {h₀ h : Heap} {L : Addr} {all : List (Addr × Obj)} {a b c d e : Addr × Obj} (N : News h₀ L h all) (ha : a ∈ all) (hb : b ∈ all) (hc : c ∈ all) (hd : d ∈ all) (he : e ∈ all) : News h₀ L h [a, b, c, d, e] := fun p hp => N p (by
  simp only [List.mem_cons, List.not_mem_nil, or_false] at hp
  rcases hp with rfl | rfl | rfl | rfl | rfl <;> assumption)
set_option maxRecDepth 100000 in
set_option maxHeartbeats 8000000 in
theorem law_two {w : World} {mean : ExcName → Option Value} {mg mb : Str → Option Value} {h₀ : Heap} {L fa ls lw : Addr} {m : Str → Option Value} {s : Shared} {Q : Flow → Shared → Prop} {E : Value → Shared → Prop}
    {oc : Value} {od an : Option Addr} {name qual : Str} {params : Arguments} {s0 : Stmt} {rest : List Stmt} {scope : Scope} {dV kV doc pm cdv ct ccd : Value} {osl : Array (Option Value)}
    {o1 o2 : Obj} {x1 x2 : Option Value} {cw : Nat} {svs wvs : List Value} {sn wn : List Int}
    (ho : (hd.heap_39 w.params).lookup 134 = some ⟨oc, od, .func (fnOf name qual params (s0 :: rest) scope dV kV doc pm an cdv ct), osl⟩)
    (B : Below callerA h₀ [] h₀) (F : Fr h₀ L s.heap m) (X : (hd.heap_39 w.params).In h₀) (T : TopF mean mg mb h₀)
    (N : News h₀ L s.heap [(lw, listOf wvs.toArray cw), (L + 1 + 1, o1), (L + 1, o2)])
    (d1 : o1.data = .cell x1) (d2 : o2.data = .cell x2) (hsl : h₀.IsList ls svs.toArray) (hsi : IntsAre svs sn) (hlay : (PyData.list (List.map PyData.int sn)).layable0 = true)
    (q1 : @LT.lt Nat _ (L + 1 + 1) lw)
    (hwi : IntsAre wvs wn) (hw1 : 5 ≤ wn.length) (hw2 : wn.length ≤ 10) (hwb : ∀ v ∈ wn, 0 ≤ v ∧ v < 98304)
    (em1 : m (Str.ofString "words") = some (.ref lw)) (em4 : m (Str.ofString "script") = some (.ref ls))
    (hQ : ∀ h' tk' m', Fr h₀ L h' m' → Q (.ret (.bool true)) { s with heap := h', toks := tk' }) :
    wpAny (model PySem.Challenge.rw_pe0042_01.row.prog w) (callerA.deeper (envOfC qual scope L fa ccd)) (execs rest (envOfC qual scope L fa ccd)) Q E s := by
  revert X; k_fill; intro X
  refine' lookGo ho ?h2 ?_
  (case h2 => k_dflt k_is)
  intro e
  cases e
  replace F := frSays F [(Str.ofString "words", .ref lw), (Str.ofString "script", .ref ls)] (allc em1 (all1 em4))
  dsimp only [kstB] at F
  clear em1 em4 ho
  have z3 : Stop3 := ⟨trivial⟩
  k_steps
  unfold Halt
  (rename Fr _ _ _ _ => F2); (rename News _ _ _ _ => N2)
  (rename IntsAre _ (List.reverse _) => hI2)
  k_dflt (refine LCg.CompSrc.ledger (by rfl) F2 N2 (by k_mem) (by rw [List.size_toArray, hI2.length, List.length_reverse, sizeLine_eq]; omega) ?_)
  intro g2
  refine cfi_list undoOf hI2 ?_ ?_
  · intro k t I oI C oC D m₂ ys h tk E' hk hC hx F4 N4 off ne
    k_steps
    all_goals (unfold Halt; (rename Fr _ _ _ _ => F5); (rename News _ _ _ _ => N5); rename k.fmod 4 = _ => hm)
    · exact LCg.CompEnd.intro F5 N5 _ (fun p hp => .tail _ hp) off (by lcg_src) ⟨rfl, _, congrArg (fun v => Value.int v _) (undo_eq.1 hm).symm⟩
    · exact LCg.CompEnd.intro F5 N5 _ (fun p hp => .tail _ hp) off (by lcg_src) ⟨rfl, _, congrArg (fun v => Value.int v _) (undo_eq.2.1 hm).symm⟩
    · exact LCg.CompEnd.intro F5 N5 _ (fun p hp => .tail _ hp) off (by lcg_src) ⟨rfl, _, congrArg (fun v => Value.int v _) ((Int.add_zero k).trans (undo_eq.2.2.1 hm).symm)⟩
    · exact LCg.CompEnd.intro F5 N5 _ (fun p hp => .tail _ hp) off (by lcg_src) ⟨rfl, _, congrArg (fun v => Value.int v _) ((Int.add_zero k).trans (undo_eq.2.2.2 hm).symm)⟩
  · intro ys hys D h4 tk4 F4 N4 o4
    (rename Stop3 => z3); clear z3
    simp only [LCg.Off1, and_true] at o4
    (try dsimp only)
    k_steps
    unfold Halt
    (rename Fr _ _ _ _ => F9); (rename News _ _ _ _ => N9)
    rename _ < _ ∧ _ => l9
    (rename IntsAre _ (List.take 3 _) => hR)
    obtain ⟨x, y, z, hxyz, hbx, hby, hbz, hbx0⟩ := row3 _
    rw [hxyz] at hR
    refine' law_rest ?ho B F9 ?X T ?N d1 d2 hsl hsi hlay q1 o4.2.1 o4.2.2.1 o4.2.2.2 l9.2.2.2.2.1 l9.2.2.2.2.2.2.1 hwi hys hR hw1 hw2 hwb hbx hby hbz hbx0 ?em1 ?em2 ?em3 ?em4 hQ
    (case ho => k_dflt k_is)
    (case X => k_asm)
    (case N => (refine news5 N9 ?_ ?_ ?_ ?_ ?_ <;> k_mem))
    all_goals (with_unfolding_all rfl)

end Mine
namespace Mine
local macro_rules | `(tactic| walk_at "execs cons") => `(tactic| ((with_reducible show wpAny _ _ (execs (Stmt.Assign [Expr.Name (Str.ofString "undone") _] _ _ :: _) _) _ _ _); refine halt ?_))

theorem news3 {h₀ h : Heap} {L : Addr} {all : List (Addr × Obj)} {a b c : Addr × Obj} (N : News h₀ L h all) (ha : a ∈ all) (hb : b ∈ all) (hc : c ∈ all) : News h₀ L h [a, b, c] := fun p hp => N p (by
  simp only [List.mem_cons, List.not_mem_nil, or_false] at hp
  rcases hp with rfl | rfl | rfl <;> assumption)
theorem words_b (l : List Int) : ∀ v ∈ List.map (fun k' : Int => k'.fmod 98304) (List.take 5 l) ++ [52, 1569, 22, 15, 4120], 0 ≤ v ∧ v < 98304 := by
  intro v hv
  rcases List.mem_append.mp hv with h | h
  · obtain ⟨k, _, rfl⟩ := List.mem_map.mp h
    rw [fm _ (by decide)]; omega
  · simp only [List.mem_cons, List.not_mem_nil, or_false] at h
    omega
theorem words_len (l : List Int) : 5 ≤ (List.map (fun k' : Int => k'.fmod 98304) (List.take 5 l) ++ [52, 1569, 22, 15, 4120]).length ∧ (List.map (fun k' : Int => k'.fmod 98304) (List.take 5 l) ++ [52, 1569, 22, 15, 4120]).length ≤ 10 := by
  simp only [List.length_append, List.length_map, List.length_cons, List.length_nil, List.length_take]
  omega
set_option maxRecDepth 100000 in
set_option maxHeartbeats 8000000 in
theorem law_holds : PySem.Challenge.rw_pe0042_01.Holds := hd (by
  w_strict (
    k_go0
    k_steps
    unfold Halt
    (rename Fr _ _ _ _ => F9)
    (rename News _ _ _ _ => N9)
    rename _ < _ ∧ _ => l9
    (rename IntsAre _ (_ ++ _) => hR)
    refine' law_two ?ho ?B F9 ?X ?T ?N ?d1 ?d2 ?hsl ?hsi ?hlay l9.2.2.2.1 hR (words_len _).1 (words_len _).2 (words_b _) ?em1 ?em4 ?hQ
    (case ho => k_dflt k_is)
    (case em1 => with_unfolding_all rfl)
    (case em4 => with_unfolding_all rfl)
    (case B => k_asm)
    (case X => k_asm)
    (case T => k_asm)
    (case N => (refine news3 N9 ?_ ?_ ?_ <;> k_mem))
    (case d1 => assumption)
    (case d2 => assumption)
    (case hsl => assumption)
    (case hsi => assumption)
    (case hlay => assumption)
    (case hQ => (intro h' tk' m' Fq; (try dsimp only); k_end; wrow_close))))

end Mine
theorem PySem.Challenge.cw_pe0042_01_holds : PySem.Challenge.rw_pe0042_01.Holds := by
  exact Mine.law_holds
