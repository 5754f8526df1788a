import PyProof.Rows.All
import Wide.All
import OpenK.AllK
import Wide.FinOn
import PySem.Challenge.RW_dm0104_01
open PySem PySem.W PyProof.Rows PyProof.V PySem.Spec PySem.Calls
set_option Elab.async false
set_option maxRecDepth 100000
set_option maxHeartbeats 8000000
section
namespace Mine
/-- where the walk is to stand still -/
def still {α : Type} (t : Sem α) : Sem α := t
theorem stop {α : Type} {M : Model} {A : Around} {t : Sem α} {Q : α → Shared → Prop} {E : Value → Shared → Prop} {s : Shared} (h : wpAny M A (still t) Q E s) : wpAny M A t Q E s := h
theorem go {α : Type} {M : Model} {A : Around} {t : Sem α} {Q : α → Shared → Prop} {E : Value → Shared → Prop} {s : Shared} (h : wpAny M A t Q E s) : wpAny M A (still t) Q E s := h
section
variable {prog : Program} {w : World} {A : Around} {E : Value → Shared → Prop} {s : Shared} {env : Env} {h₀ : Heap} {x : Str} {body : List Stmt} {Q : Flow → Shared → Prop}

/-- a turn's end: the invariant again, beside the iterator's own object -/
def LEnd (h₀ : Heap) (L : Addr) (J : (Str → Option Value) → List (Addr × Obj) → Prop) (I : Addr) (oI : Obj) (s₁ s₂ : Shared) : Prop :=
  ∃ h' tk m' news', s₂ = { s₁ with heap := h', toks := tk } ∧ Fr h₀ L h' m' ∧ News h₀ L h' ((I, oI) :: news') ∧ (∀ p ∈ news', p.1 ≠ I) ∧ J m' news'
def LPost (h₀ : Heap) (L : Addr) (J : (Str → Option Value) → List (Addr × Obj) → Prop) (I : Addr) (oI : Obj) (s₁ : Shared) (Q : Flow → Shared → Prop) (f : Flow) (s₂ : Shared) : Prop :=
  match f with
  | .ret v => Q (.ret v) s₂
  | .brk => Q .next s₂
  | _ => LEnd h₀ L J I oI s₁ s₂
theorem LEnd.intro {L : Addr} {J : (Str → Option Value) → List (Addr × Obj) → Prop} {I : Addr} {oI : Obj} {s₁ : Shared} {h' : Heap} {tk : Nat} {m' : Str → Option Value} {all : List (Addr × Obj)}
    (F : Fr h₀ L h' m') (N : News h₀ L h' all) (news' : List (Addr × Obj)) (hs : ∀ p ∈ (I, oI) :: news', p ∈ all) (hI : ∀ p ∈ news', p.1 ≠ I) (hj : J m' news') :
    LEnd h₀ L J I oI s₁ { s₁ with heap := h', toks := tk } := ⟨h', tk, m', news', rfl, F, fun p hp => N p (hs p hp), hI, hj⟩

theorem LEnd.intro2 {L : Addr} {J : (Str → Option Value) → List (Addr × Obj) → Prop} {I D : Addr} {oI o : Obj} {s₁ : Shared} {h' : Heap} {tk : Nat} {m' : Str → Option Value} {rest : List (Addr × Obj)}
    (F : Fr h₀ L h' m') (N : News h₀ L h' ((D, o) :: (I, oI) :: rest)) (hI : ∀ p ∈ (D, o) :: rest, p.1 ≠ I) (hj : J m' ((D, o) :: rest)) :
    LEnd h₀ L J I oI s₁ { s₁ with heap := h', toks := tk } := LEnd.intro F N ((D, o) :: rest) (fun p hp => by
      rcases List.mem_cons.mp hp with rfl | hp
      · exact List.Mem.tail _ (List.Mem.head _)
      · rcases List.mem_cons.mp hp with rfl | hp
        · exact List.Mem.head _
        · exact List.Mem.tail _ (List.Mem.tail _ hp)) hI hj
/-- a frame's name that is known -/
theorem frKnow {L : Addr} {h : Heap} {m : Str → Option Value} {a : Str} {v : Value} (F : Fr h₀ L h m) (e : m a = some v) : Fr h₀ L h (fun y => if y = a then some v else m y) := by
  have : (fun y => if y = a then some v else m y) = m := by
    funext y
    by_cases h : y = a
    · rw [if_pos h, h, e]
    · rw [if_neg h]
  rw [this]; exact F

theorem kn_eq {m : Str → Option Value} {ps : List (Str × Value)} (h : ∀ p ∈ ps, m p.1 = some p.2) : kstB m ps = m := funext fun _ => kstB_eq h fun _ => rfl
theorem frKnows {L : Addr} {h : Heap} {m : Str → Option Value} {u : Value} (ps : List (Str × Value)) (e : ∀ p ∈ ps, m p.1 = some p.2) (F : Fr h₀ L h (fun y => if y = x then some u else m y)) : Fr h₀ L h (fun y => if y = x then some u else kstB m ps y) := by
  rw [kn_eq e]; exact F
theorem frKnows0 {L : Addr} {h : Heap} {m : Str → Option Value} (ps : List (Str × Value)) (e : ∀ p ∈ ps, m p.1 = some p.2) (F : Fr h₀ L h m) : Fr h₀ L h (fun y => kstB m ps y) := by
  rw [kn_eq e]; exact F
theorem range_loop {r : Addr} {a₀ b₀ : Int} {t₀ u₀ v₀ : Tok} {n : Nat} {m₀ : Str → Option Value} {news : List (Addr × Obj)} (J : Nat → (Str → Option Value) → List (Addr × Obj) → Prop)
    (hh : A.handled = none) (hr : IsRange s.heap r a₀ b₀ 1 t₀ u₀ v₀) (hsmall : Builtin.Range.small a₀ b₀ 1 = true) (hn : Builtin.Range.rangeSize a₀ b₀ 1 = (n : Int))
    (F : Fr h₀ env.locals s.heap m₀) (N : News h₀ env.locals s.heap news) (hj : J 0 m₀ news)
    (turn : ∀ (i : Nat) t m₁ news₁ h tk I oI, i < n → J i m₁ news₁ → (∀ p ∈ news₁, p.1 ≠ I) → Fr h₀ env.locals h (fun y => if y = x then some (.int (a₀ + (i : Int)) t) else m₁ y) → News h₀ env.locals h ((I, oI) :: news₁) →
      wpAny (model prog w) A (execs body env) (LPost h₀ env.locals (J (i + 1)) I oI { s with heap := h, toks := tk } Q) E { s with heap := h, toks := tk })
    (done : ∀ m₁ news₁ h tk, J n m₁ news₁ → Fr h₀ env.locals h m₁ → News h₀ env.locals h news₁ → Q .next { s with heap := h, toks := tk }) :
    wpAny (model prog w) A (pyIter (.ref r)) (fun it s₂ => LoopAtV prog w A h₀ env x body Q E it s₂) E s := by
  refine wpAny_pyIter_range hr hsmall ?_
  have W : Walks prog w A s.heap.objs.size [s.heap.objs.size] [s.heap.objs.size] n (fun i v => i < n ∧ ∃ t, v = .int (a₀ + i * 1) t)
      (fun i h => IsRangeIter h s.heap.objs.size (a₀ + (i : Nat) * 1) ((n : Int) - (i : Nat)) 1) := (Walks.range hh _ a₀ 1 n).bound
  refine ⟨_, _, _, n, _, _, m₀, news, J, rfl, W, ?_, ?_, ?_, (by show IsRangeIter _ _ _ _ _; rw [hn]; simpa using Heap.get?_push_size _ rfl), F.push _, (fun p hp => ⟨Heap.get?_push_of_some _ (N p hp).1, (N p hp).2⟩), hj, ?_, ?_⟩
  · intro hm
    exact absurd F.ns.lt ((List.mem_singleton.mp hm) ▸ Nat.lt_irrefl _)
  · intro b hb
    rw [List.mem_singleton.mp hb]
    exact next_is_new F
  · intro p hp hI
    exact absurd (Heap.lt_size (N p hp).1) ((List.mem_singleton.mp hI) ▸ Nat.lt_irrefl _)
  · rintro i v m₁ news₁ s₁ own ⟨hh', tk', rfl⟩ hin ⟨_, t, rfl⟩ hJ hoff hown hown2 _ hst F₁ N₁
    have e1 : a₀ + (i : Int) * 1 = a₀ + (i : Int) := by omega
    rw [e1] at F₁
    have hst' : ∃ oI, hh'.get? s.heap.objs.size = some oI := ⟨_, hst⟩
    obtain ⟨oI, heI⟩ := hst'
    have hI₀ : h₀.get? s.heap.objs.size = none := next_is_new F
    have hIL : s.heap.objs.size ≠ env.locals := fun e => absurd F.ns.lt (e ▸ Nat.lt_irrefl _)
    have N₂ : News h₀ env.locals hh' ((s.heap.objs.size, oI) :: news₁) := fun p hp => by
      rcases List.mem_cons.mp hp with rfl | hp
      · exact ⟨heI, hIL, hI₀⟩
      · exact N₁ p (List.mem_append_right _ hp)
    have hne : ∀ p ∈ news₁, p.1 ≠ s.heap.objs.size := fun p hp e => hoff p hp (by rw [e]; exact List.mem_singleton.mpr rfl)
    refine wpAny_mono (turn i t m₁ news₁ hh' tk' s.heap.objs.size oI hin hJ hne F₁ N₂) (fun f s₂ p => ?_) fun _ _ e => e
    have fin : LEnd h₀ env.locals (J (i + 1)) s.heap.objs.size oI { s with heap := hh', toks := tk' } s₂ → LoopStepU h₀ env.locals [s.heap.objs.size] own (J (i + 1)) { s with heap := hh', toks := tk' } .next s₂ := by
      rintro ⟨h', tk, m', news', e, F', N', hI, hJ'⟩
      refine ⟨rfl, h', tk, m', news', e, F', fun p hp => ?_, fun p hp hq => hI p hp (List.mem_singleton.mp hq), hJ'⟩
      rcases List.mem_append.mp hp with hp | hp
      · have h1 := List.mem_singleton.mp (hown p hp)
        have h2 := hown2 p hp
        have h3 : p = (s.heap.objs.size, oI) := by
          obtain ⟨a, o⟩ := p
          cases h1
          have h2' : hh'.get? s.heap.objs.size = some o := h2
          rw [heI] at h2'; cases h2'; rfl
        rw [h3]; exact N' _ List.mem_cons_self
      · exact N' p (List.mem_cons_of_mem _ hp)
    cases f with
    | ret v => exact .ret p
    | brk => exact .brk p
    | next => exact .next (fin p)
    | cont => exact .cont (fin p)
  · rintro h' tk m' news' F' N' _ hJ
    exact done m' news' h' tk hJ F' N'

/-- a loop over a list that the call has made and the loop leaves alone -/
theorem list_loop {l : Addr} {items : Array Value} {ol : Obj} {m₀ : Str → Option Value} {news : List (Addr × Obj)} (J : Nat → (Str → Option Value) → List (Addr × Obj) → Prop)
    (hh : A.handled = none) (hcls : ol.cls = .type "list") (hdat : ∃ n, ol.data = .seq items n) (hkeep : ∀ i m nx, J i m nx → (l, ol) ∈ nx)
    (F : Fr h₀ env.locals s.heap m₀) (N : News h₀ env.locals s.heap news) (hj : J 0 m₀ news)
    (turn : ∀ (i : Nat) v m₁ news₁ h tk I oI, i < items.size → items[i]? = some v → J i m₁ news₁ → (∀ p ∈ news₁, p.1 ≠ I) → Fr h₀ env.locals h (fun y => if y = x then some v else m₁ y) → News h₀ env.locals h ((I, oI) :: news₁) →
      wpAny (model prog w) A (execs body env) (LPost h₀ env.locals (J (i + 1)) I oI { s with heap := h, toks := tk } Q) E { s with heap := h, toks := tk })
    (done : ∀ m₁ news₁ h tk, J items.size m₁ news₁ → Fr h₀ env.locals h m₁ → News h₀ env.locals h news₁ → Q .next { s with heap := h, toks := tk }) :
    wpAny (model prog w) A (pyIter (.ref l)) (fun it s₂ => LoopAtV prog w A h₀ env x body Q E it s₂) E s := by
  have hl0 := N _ (hkeep _ _ _ hj)
  have hls : s.heap.IsList l items := ⟨ol, hl0.1, hcls, hdat⟩
  have hlt : l < s.heap.objs.size := Heap.lt_size hl0.1
  have hne : l ≠ s.heap.objs.size := Nat.ne_of_lt hlt
  refine wpAny_pyIter_list hls ?_
  have W := Walks.list (prog := prog) (w := w) hh s.heap.objs.size l hne items
  refine ⟨_, _, _, items.size, _, _, m₀, news, J, rfl, W, ?_, ?_, ?_, ⟨⟨_, Heap.get?_push_size _ rfl, rfl, rfl⟩, hls.at fun o e => Heap.get?_push_of_some _ e⟩, F.push _, (fun p hp => ⟨Heap.get?_push_of_some _ (N p hp).1, (N p hp).2⟩), hj, ?_, ?_⟩
  · intro hm
    rcases List.mem_cons.mp hm with e | hm
    · exact absurd F.ns.lt (e ▸ Nat.lt_irrefl _)
    · exact hl0.2.1 (List.mem_singleton.mp hm).symm
  · intro b hb
    rw [List.mem_singleton.mp hb]
    exact next_is_new F
  · intro p hp hI
    exact absurd (Heap.lt_size (N p hp).1) ((List.mem_singleton.mp hI) ▸ Nat.lt_irrefl _)
  · rintro i v m₁ news₁ s₁ own ⟨hh', tk', rfl⟩ hin hP hJ hoff hown hown2 _ hst F₁ N₁
    have hst' : ∃ oI, hh'.get? s.heap.objs.size = some oI := by obtain ⟨⟨o, e, _⟩, _⟩ := hst; exact ⟨o, e⟩
    obtain ⟨oI, heI⟩ := hst'
    have hI₀ : h₀.get? s.heap.objs.size = none := next_is_new F
    have hIL : s.heap.objs.size ≠ env.locals := fun e => absurd F.ns.lt (e ▸ Nat.lt_irrefl _)
    have N₂ : News h₀ env.locals hh' ((s.heap.objs.size, oI) :: news₁) := fun p hp => by
      rcases List.mem_cons.mp hp with rfl | hp
      · exact ⟨heI, hIL, hI₀⟩
      · exact N₁ p (List.mem_append_right _ hp)
    have hne' : ∀ p ∈ news₁, p.1 ≠ s.heap.objs.size := fun p hp e => hoff p hp (by rw [e]; exact List.mem_singleton.mpr rfl)
    have hl1 : hh'.get? l = some ol := (N₂ _ (List.mem_cons_of_mem _ (hkeep _ _ _ hJ))).1
    refine wpAny_mono (turn i v m₁ news₁ hh' tk' s.heap.objs.size oI hin hP hJ hne' F₁ N₂) (fun f s₂ p => ?_) fun _ _ e => e
    have fin : LEnd h₀ env.locals (J (i + 1)) s.heap.objs.size oI { s with heap := hh', toks := tk' } s₂ → LoopStepU h₀ env.locals [s.heap.objs.size] own (J (i + 1)) { s with heap := hh', toks := tk' } .next s₂ := by
      rintro ⟨h', tk, m', news', e, F', N', hI, hJ'⟩
      refine ⟨rfl, h', tk, m', news', e, F', fun p hp => ?_, fun p hp hq => hI p hp (List.mem_singleton.mp hq), hJ'⟩
      rcases List.mem_append.mp hp with hp | hp
      · obtain ⟨a, o⟩ := p
        have h2 : hh'.get? a = some o := hown2 _ hp
        rcases List.mem_cons.mp (hown _ hp) with h1 | h1
        · have h1' : a = s.heap.objs.size := h1
          rw [h1', heI] at h2; cases h2; rw [h1']
          exact N' _ List.mem_cons_self
        · have h1' : a = l := List.mem_singleton.mp h1
          rw [h1', hl1] at h2; cases h2; rw [h1']
          exact N' _ (List.mem_cons_of_mem _ (hkeep _ _ _ hJ'))
      · exact N' p (List.mem_cons_of_mem _ hp)
    cases f with
    | ret v => exact .ret p
    | brk => exact .brk p
    | next => exact .next (fin p)
    | cont => exact .cont (fin p)
  · rintro h' tk m' news' F' N' _ hJ
    exact done m' news' h' tk hJ F' N'

/-- as list_loop, the made things left as they are -/
theorem list_keep {l : Addr} {items : Array Value} {c : Nat} {m₀ : Str → Option Value} {news : List (Addr × Obj)} (K : Nat → (Str → Option Value) → Prop)
    (hh : A.handled = none) (hl : (l, listOf items c) ∈ news)
    (F : Fr h₀ env.locals s.heap m₀) (N : News h₀ env.locals s.heap news) (hk : K 0 m₀)
    (turn : ∀ (i : Nat) v m₁ h tk I oI, items[i]? = some v → K i m₁ → (∀ p ∈ news, p.1 ≠ I) → Fr h₀ env.locals h (fun y => if y = x then some v else m₁ y) → News h₀ env.locals h ((I, oI) :: news) →
      wpAny (model prog w) A (execs body env) (LPost h₀ env.locals (fun m nx => nx = news ∧ K (i + 1) m) I oI { s with heap := h, toks := tk } Q) E { s with heap := h, toks := tk })
    (done : ∀ m₁ h tk, K items.size m₁ → Fr h₀ env.locals h m₁ → News h₀ env.locals h news → Q .next { s with heap := h, toks := tk }) :
    wpAny (model prog w) A (pyIter (.ref l)) (fun it s₂ => LoopAtV prog w A h₀ env x body Q E it s₂) E s := by
  refine list_loop (ol := listOf items c) (items := items) (fun i m nx => nx = news ∧ K i m) hh rfl ⟨c, rfl⟩ (fun i m nx h => by rw [h.1]; exact hl) F N ⟨rfl, hk⟩ ?_ ?_
  · rintro i v m₁ news₁ h tk I oI _ hv ⟨rfl, hK⟩ hne F₁ N₁
    exact turn i v m₁ h tk I oI hv hK hne F₁ N₁
  · rintro m₁ news₁ h tk ⟨rfl, hK⟩ F₁ N₁
    exact done m₁ h tk hK F₁ N₁
theorem range_keep {r : Addr} {a₀ b₀ : Int} {t₀ u₀ v₀ : Tok} {n : Nat} {m₀ : Str → Option Value} {news : List (Addr × Obj)} (K : Nat → (Str → Option Value) → Prop)
    (hh : A.handled = none) (hr : IsRange s.heap r a₀ b₀ 1 t₀ u₀ v₀) (hsmall : Builtin.Range.small a₀ b₀ 1 = true) (hn : Builtin.Range.rangeSize a₀ b₀ 1 = (n : Int))
    (F : Fr h₀ env.locals s.heap m₀) (N : News h₀ env.locals s.heap news) (hk : K 0 m₀)
    (turn : ∀ (i : Nat) t m₁ h tk I oI, i < n → K i m₁ → (∀ p ∈ news, p.1 ≠ I) → Fr h₀ env.locals h (fun y => if y = x then some (.int (a₀ + (i : Int)) t) else m₁ y) → News h₀ env.locals h ((I, oI) :: news) →
      wpAny (model prog w) A (execs body env) (LPost h₀ env.locals (fun m nx => nx = news ∧ K (i + 1) m) I oI { s with heap := h, toks := tk } Q) E { s with heap := h, toks := tk })
    (done : ∀ m₁ h tk, K n m₁ → Fr h₀ env.locals h m₁ → News h₀ env.locals h news → Q .next { s with heap := h, toks := tk }) :
    wpAny (model prog w) A (pyIter (.ref r)) (fun it s₂ => LoopAtV prog w A h₀ env x body Q E it s₂) E s := by
  refine range_loop (fun i m nx => nx = news ∧ K i m) hh hr hsmall hn F N ⟨rfl, hk⟩ ?_ ?_
  · rintro i t m₁ news₁ h tk I oI hi ⟨rfl, hK⟩ hne F₁ N₁
    exact turn i t m₁ h tk I oI hi hK hne F₁ N₁
  · rintro m₁ news₁ h tk ⟨rfl, hK⟩ F₁ N₁
    exact done m₁ h tk hK F₁ N₁
theorem keep_end {L : Addr} {K : (Str → Option Value) → Prop} {I : Addr} {oI : Obj} {s₁ : Shared} {h' : Heap} {tk : Nat} {m' : Str → Option Value} {all news : List (Addr × Obj)}
    (F : Fr h₀ L h' m') (N : News h₀ L h' all) (hI : ∀ p ∈ news, p.1 ≠ I) (hs : ∀ p ∈ (I, oI) :: news, p ∈ all) (hj : K m') :
    LEnd h₀ L (fun m nx => nx = news ∧ K m) I oI s₁ { s₁ with heap := h', toks := tk } := LEnd.intro F N news hs hI ⟨rfl, hj⟩
/-- append to a made list: the rest of the ledger by membership -/
theorem append_mine {L D : Addr} {m : Str → Option Value} {news : List (Addr × Obj)} {us : List Value} {n : Nat} {v : Value} {R : Value → Shared → Prop} (rest : List (Addr × Obj)) (F : Fr h₀ L s.heap m) (N : News h₀ L s.heap news) (hm : (D, listOf us.toArray n) ∈ news)
    (hr : ∀ p ∈ rest, p ∈ news ∧ p.1 ≠ D) (hsz : us.length ≤ 1000000) (h : ∀ h', Fr h₀ L h' m → News h₀ L h' ((D, listOf (us ++ [v]).toArray (n + 1)) :: rest) → R .none { s with heap := h' }) :
    wpAny (model prog w) A (call (.builtin "list.append") [.ref D, v]) R E s := by
  have z := N _ hm
  refine append_at (hsz := by rw [List.size_toArray, PySem.sizeLine_eq]; omega) z.1 fun h' hs ho' => h h' (F.change hs z.2.1 z.2.2) fun p hp => ?_
  rcases List.mem_cons.mp hp with rfl | hp
  · refine ⟨?_, z.2⟩
    rw [ho']; simp
  · have y := N p (hr p hp).1
    exact ⟨(hs.2 _ (hr p hp).2).trans y.1, y.2⟩
end
end Mine
end

section
namespace Mine
section
variable {prog : Program} {w : World} {A : Around} {E : Value → Shared → Prop} {s : Shared} {env : Env} {h₀ : Heap} {x : Str} {body : List Stmt} {Q : Flow → Shared → Prop}
/-- a loop over a list that was there before the call -/
theorem script_loop {l : Addr} {items : Array Value} {m₀ : Str → Option Value} {news : List (Addr × Obj)} (J : Nat → (Str → Option Value) → List (Addr × Obj) → Prop)
    (hh : A.handled = none) (hl : h₀.IsList l items)
    (F : Fr h₀ env.locals s.heap m₀) (N : News h₀ env.locals s.heap news) (hj : J 0 m₀ news)
    (turn : ∀ (i : Nat) v m₁ news₁ h tk I oI, i < items.size → items[i]? = some v → J i m₁ news₁ → (∀ p ∈ news₁, p.1 ≠ I) → Fr h₀ env.locals h (fun y => if y = x then some v else m₁ y) → News h₀ env.locals h ((I, oI) :: news₁) →
      wpAny (model prog w) A (execs body env) (LPost h₀ env.locals (J (i + 1)) I oI { s with heap := h, toks := tk } Q) E { s with heap := h, toks := tk })
    (done : ∀ m₁ news₁ h tk, J items.size m₁ news₁ → Fr h₀ env.locals h m₁ → News h₀ env.locals h news₁ → Q .next { s with heap := h, toks := tk }) :
    wpAny (model prog w) A (pyIter (.ref l)) (fun it s₂ => LoopAtV prog w A h₀ env x body Q E it s₂) E s := by
  have hls : s.heap.IsList l items := hl.at fun o e => F.keep l o e
  obtain ⟨ol, hol, _⟩ := id hl
  have hlL : l < env.locals := Nat.lt_of_lt_of_le (Heap.lt_size hol) F.above
  have hlt : l < s.heap.objs.size := Nat.lt_trans hlL F.ns.lt
  have hne : l ≠ s.heap.objs.size := Nat.ne_of_lt hlt
  refine wpAny_pyIter_list hls ?_
  have W := Walks.list (prog := prog) (w := w) hh s.heap.objs.size l hne items
  refine ⟨_, _, _, items.size, _, _, m₀, news, J, rfl, W, ?_, ?_, ?_, ⟨⟨_, Heap.get?_push_size _ rfl, rfl, rfl⟩, hls.at fun o e => Heap.get?_push_of_some _ e⟩, F.push _, (fun p hp => ⟨Heap.get?_push_of_some _ (N p hp).1, (N p hp).2⟩), hj, ?_, ?_⟩
  · intro hm
    rcases List.mem_cons.mp hm with e | hm
    · exact absurd F.ns.lt (e ▸ Nat.lt_irrefl _)
    · exact absurd hlL ((List.mem_singleton.mp hm) ▸ Nat.lt_irrefl _)
  · intro b hb
    rw [List.mem_singleton.mp hb]
    exact next_is_new F
  · intro p hp hI
    exact absurd (Heap.lt_size (N p hp).1) ((List.mem_singleton.mp hI) ▸ Nat.lt_irrefl _)
  · rintro i v m₁ news₁ s₁ own ⟨hh', tk', rfl⟩ hin hP hJ hoff hown hown2 _ hst F₁ N₁
    have hst' : ∃ oI, hh'.get? s.heap.objs.size = some oI := by obtain ⟨⟨o, e, _⟩, _⟩ := hst; exact ⟨o, e⟩
    obtain ⟨oI, heI⟩ := hst'
    have hI₀ : h₀.get? s.heap.objs.size = none := next_is_new F
    have hIL : s.heap.objs.size ≠ env.locals := fun e => absurd F.ns.lt (e ▸ Nat.lt_irrefl _)
    have N₂ : News h₀ env.locals hh' ((s.heap.objs.size, oI) :: news₁) := fun p hp => by
      rcases List.mem_cons.mp hp with rfl | hp
      · exact ⟨heI, hIL, hI₀⟩
      · exact N₁ p (List.mem_append_right _ hp)
    have hne' : ∀ p ∈ news₁, p.1 ≠ s.heap.objs.size := fun p hp e => hoff p hp (by rw [e]; exact List.mem_singleton.mpr rfl)
    refine wpAny_mono (turn i v m₁ news₁ hh' tk' s.heap.objs.size oI hin hP hJ hne' F₁ N₂) (fun f s₂ p => ?_) fun _ _ e => e
    have fin : LEnd h₀ env.locals (J (i + 1)) s.heap.objs.size oI { s with heap := hh', toks := tk' } s₂ → LoopStepU h₀ env.locals [s.heap.objs.size] own (J (i + 1)) { s with heap := hh', toks := tk' } .next s₂ := by
      rintro ⟨h', tk, m', news', e, F', N', hI, hJ'⟩
      refine ⟨rfl, h', tk, m', news', e, F', fun p hp => ?_, fun p hp hq => hI p hp (List.mem_singleton.mp hq), hJ'⟩
      rcases List.mem_append.mp hp with hp | hp
      · obtain ⟨a, o⟩ := p
        have h2 : hh'.get? a = some o := hown2 _ hp
        rcases List.mem_cons.mp (hown _ hp) with h1 | h1
        · have h1' : a = s.heap.objs.size := h1
          rw [h1', heI] at h2; cases h2; rw [h1']
          exact N' _ List.mem_cons_self
        · have h1' : a = l := List.mem_singleton.mp h1
          have h3 := (N₁ _ (List.mem_append_left _ hp)).2.2
          rw [show (a, o).1 = l from h1', hol] at h3
          cases h3
      · exact N' p (List.mem_cons_of_mem _ hp)
    cases f with
    | ret v => exact .ret p
    | brk => exact .brk p
    | next => exact .next (fin p)
    | cont => exact .cont (fin p)
  · rintro h' tk m' news' F' N' _ hJ
    exact done m' news' h' tk hJ F' N'

end
end Mine
namespace Mine
section
variable {prog : Program} {w : World} {A : Around} {E : Value → Shared → Prop} {s : Shared} {h₀ : Heap}
/-- append a text to a made list of texts, wherever it lies in the ledger -/
theorem app_mid {L D : Addr} {m : Str → Option Value} {l : List (Str × Tok)} {c : Nat} {a : Str} {t : Tok} {R : Value → Shared → Prop} (pre : List (Addr × Obj)) {post : List (Addr × Obj)} (F : Fr h₀ L s.heap m)
    (N : News h₀ L s.heap (pre ++ (D, listOf (strValues l).toArray c) :: post)) (hpre : ∀ p ∈ pre, p.1 ≠ D) (hpost : ∀ p ∈ post, p.1 ≠ D) (hsz : l.length ≤ 1000000)
    (h : ∀ h', Fr h₀ L h' m → News h₀ L h' (pre ++ (D, listOf (strValues (l ++ [(a, t)])).toArray (c + 1)) :: post) → R .none { s with heap := h' }) :
    wpAny (model prog w) A (call (.builtin "list.append") [.ref D, .str a t]) R E s := by
  refine append_mine (us := strValues l) (n := c) (pre ++ post) F N (List.mem_append_right _ List.mem_cons_self) (fun p hp => ?_) (by simp [strValues]; exact hsz) fun h' F' N' => h h' F' fun p hp => ?_
  · rcases List.mem_append.mp hp with hp | hp
    · exact ⟨List.mem_append_left _ hp, hpre p hp⟩
    · exact ⟨List.mem_append_right _ (List.mem_cons_of_mem _ hp), hpost p hp⟩
  · have e : strValues (l ++ [(a, t)]) = strValues l ++ [.str a t] := by simp [strValues]
    rw [e] at hp
    rcases List.mem_append.mp hp with hp | hp
    · exact N' p (List.mem_cons_of_mem _ (List.mem_append_left _ hp))
    · rcases List.mem_cons.mp hp with rfl | hp
      · exact N' _ List.mem_cons_self
      · exact N' p (List.mem_cons_of_mem _ (List.mem_append_right _ hp))
end
end Mine
namespace Mine
theorem ne_nil {D : Addr} : ∀ p ∈ ([] : List (Addr × Obj)), p.1 ≠ D := fun p hp => absurd hp List.not_mem_nil
theorem ne_cons {D a : Addr} {o : Obj} {r : List (Addr × Obj)} (h : @Ne Nat a D) (hr : ∀ p ∈ r, p.1 ≠ D) : ∀ p ∈ (a, o) :: r, p.1 ≠ D := fun p hp => by
  rcases List.mem_cons.mp hp with rfl | hp
  · exact h
  · exact hr p hp
theorem ne_head {D a : Addr} {o : Obj} {r : List (Addr × Obj)} (h : ∀ p ∈ (a, o) :: r, p.1 ≠ D) : @Ne Nat a D ∧ ∀ p ∈ r, p.1 ≠ D := ⟨h _ List.mem_cons_self, fun p hp => h p (List.mem_cons_of_mem _ hp)⟩
end Mine
namespace Mine
section
variable {prog : Program} {w : World} {A : Around} {E : Value → Shared → Prop} {s : Shared}
/-- the last item of a list of texts -/
theorem last_text {value slice : PySem.Expr} {D : Addr} {l : List (Str × Tok)} {a : Str} {t u : Tok} {Q : Value → Shared → Prop} (hl : s.heap.IsList D (strValues (l ++ [(a, t)])).toArray) (h : ∀ t', Q (.str a t') s)
    (hs : subscripted slice false (.ref D) (.int (-1) u) = operate [.ref D, .int (-1) u] (getItem (.ref D) (.int (-1) u)) := by with_unfolding_all rfl) :
    wpAny (model prog w) A (subscriptTail value slice (.ref D) (.int (-1) u)) Q E s := by
  refine item_strsTneg hl (by decide) (by simp; omega) (by decide) (fun y t' e => ?_) hs
  have : (-1 + ((l ++ [(a, t)]).length : Int)).toNat = l.length := by simp; omega
  rw [this, List.map_append, List.getElem?_append_right (by simp)] at e
  simp at e
  rw [← e]; exact h t'
end
end Mine
end

section
namespace Mine
inductive Tr where
  | nil (a : Addr)
  | node (a : Addr) (n : Int) (l r : Tr)
def Tr.root : Tr → Addr
  | .nil a => a
  | .node a _ _ _ => a
def Tr.height : Tr → Nat
  | .nil _ => 0
  | .node _ _ l r => max l.height r.height + 1
def Tr.row : Tr → List Int
  | .nil _ => []
  | .node _ n l r => l.row ++ [n] ++ r.row
abbrev tupObj (vs : Array Value) (k : Nat) : Obj := { cls := .type "tuple", data := .seq vs k }
abbrev valObj (pm : Params) (tk : Tok) (e : Addr) : Obj := dictOf [{ hash := PyData.keyHash pm (Str.ofString "value"), key := .str (Str.ofString "value") tk, val := .ref e }] 1
inductive TrIn (pm : Params) (news : List (Addr × Obj)) : Tr → Prop where
  | nil {a d e : Addr} {tk : Tok} {k : Nat} : (a, instObj 31 d) ∈ news → (d, valObj pm tk e) ∈ news → (e, tupObj #[] k) ∈ news → TrIn pm news (.nil a)
  | node {a d e : Addr} {tk tn : Tok} {k : Nat} {n : Int} {l r : Tr} : (a, instObj 31 d) ∈ news → (d, valObj pm tk e) ∈ news → (e, tupObj #[.int n tn, .ref l.root, .ref r.root] k) ∈ news → TrIn pm news l → TrIn pm news r → TrIn pm news (.node a n l r)
theorem TrIn.mono {pm : Params} {news news' : List (Addr × Obj)} {T : Tr} (h : TrIn pm news T) (hs : ∀ p ∈ news, p ∈ news') : TrIn pm news' T := by
  induction h with
  | nil h1 h2 h3 => exact .nil (hs _ h1) (hs _ h2) (hs _ h3)
  | node h1 h2 h3 _ _ ih1 ih2 => exact .node (hs _ h1) (hs _ h2) (hs _ h3) ih1 ih2
inductive Put (x : Int) : Tr → Tr → Prop where
  | nil {a b : Addr} : Put x (.nil a) (.node b x (.nil a) (.nil a))
  | lt {a b : Addr} {n : Int} {l l' r : Tr} : x < n → Put x l l' → Put x (.node a n l r) (.node b n l' r)
  | ge {a b : Addr} {n : Int} {l r r' : Tr} : ¬ x < n → Put x r r' → Put x (.node a n l r) (.node b n l r')
section
variable {prog : Program} {w : World} {A : Around} {E : Value → Shared → Prop} {s : Shared} {h₀ : Heap} {L : Addr} {news : List (Addr × Obj)}
theorem tup_is {a : Addr} {vs : Array Value} {k : Nat} (N : News h₀ L s.heap news) (h : (a, tupObj vs k) ∈ news) : s.heap.IsTuple a vs := ⟨_, (N _ h).1, rfl, k, rfl⟩
theorem eq_nil {D e : Addr} {k k2 : Nat} {Q : Value → Shared → Prop} (N : News h₀ L s.heap news) (h1 : (e, tupObj #[] k) ∈ news) (h2 : (D, tupObj #[] k2) ∈ news) (hu : A.units < cLine) (h : Q (.bool true) s) :
    wpAny (model prog w) A (compareOp .Eq (.ref e) (.ref D)) Q E s :=
  PySem.SeqAt.eq_tupleAt (e := fun _ => true) (tup_is N h1) (tup_is N h2) hu (fun j h1 _ => absurd h1 (Nat.not_lt_zero _)) h
theorem eq_three {D e : Addr} {k k2 : Nat} {a b c : Value} {Q : Value → Shared → Prop} (N : News h₀ L s.heap news) (h1 : (e, tupObj #[a, b, c] k) ∈ news) (h2 : (D, tupObj #[] k2) ∈ news) (hu : A.units < cLine) (h : Q (.bool false) s) :
    wpAny (model prog w) A (compareOp .Eq (.ref e) (.ref D)) Q E s :=
  PySem.SeqAt.eq_tupleAt (e := fun _ => true) (tup_is N h1) (tup_is N h2) hu (fun j _ h2 => absurd h2 (Nat.not_lt_zero _)) h
end
end Mine
end

section
namespace Mine
theorem Put.perm {x : Int} {T T' : Tr} (h : Put x T T') : T'.row.Perm (x :: T.row) := by
  induction h with
  | nil => simp [Tr.row]
  | lt _ _ ih =>
    simp only [Tr.row]
    exact (List.Perm.append_right _ (List.Perm.append_right _ ih))
  | @ge a b n l r r' _ _ ih =>
    simp only [Tr.row]
    refine (List.Perm.append_left _ ih).trans ?_
    exact List.perm_middle
theorem Put.height {x : Int} {T T' : Tr} (h : Put x T T') : T'.height ≤ T.height + 1 := by
  induction h with
  | nil => simp [Tr.height]
  | lt _ _ ih => simp only [Tr.height]; omega
  | ge _ _ ih => simp only [Tr.height]; omega
theorem Put.sorted {x : Int} {T T' : Tr} (h : Put x T T') : T.row.Pairwise (· ≤ ·) → T'.row.Pairwise (· ≤ ·) := by
  induction h with
  | nil => intro _; simp [Tr.row]
  | @lt a b n l l' r hx hP ih =>
    simp only [Tr.row, List.append_assoc, List.pairwise_append]
    rintro ⟨h1, h2, h3⟩
    refine ⟨ih h1, h2, fun y hy z hz => ?_⟩
    rcases List.mem_cons.mp (hP.perm.mem_iff.mp hy) with rfl | hy
    · rcases List.mem_append.mp hz with hz | hz
      · rw [List.mem_singleton.mp hz]; omega
      · have := h2.2.2 n (List.mem_singleton.mpr rfl) z hz
        omega
    · exact h3 y hy z hz
  | @ge a b n l r r' hx hP ih =>
    simp only [Tr.row, List.append_assoc, List.pairwise_append]
    rintro ⟨h1, ⟨h2, h4, h5⟩, h3⟩
    refine ⟨h1, ⟨h2, ih h4, fun y hy z hz => ?_⟩, fun y hy z hz => ?_⟩
    · rcases List.mem_cons.mp (hP.perm.mem_iff.mp hz) with rfl | hz
      · rw [List.mem_singleton.mp hy]; omega
      · exact h5 y hy z hz
    · rcases List.mem_append.mp hz with hz | hz
      · exact h3 y hy z (List.mem_append_left _ hz)
      · rcases List.mem_cons.mp (hP.perm.mem_iff.mp hz) with rfl | hz
        · have := h3 y hy n (List.mem_append_left _ (List.mem_singleton.mpr rfl))
          omega
        · exact h3 y hy z (List.mem_append_right _ hz)
def Grow (ns : List Int) (Ts : List Tr) : Prop :=
  Ts.length = ns.length + 1 ∧ (∃ a, Ts[0]? = some (.nil a)) ∧ ∀ (i : Nat) (x : Int) (T T' : Tr), ns[i]? = some x → Ts[i]? = some T → Ts[i+1]? = some T' → Put x T T'
theorem Grow.start (a : Addr) : Grow [] [.nil a] := ⟨rfl, ⟨a, rfl⟩, fun i x T T' h => by simp at h⟩
theorem Grow.snoc {ns : List Int} {Ts : List Tr} {x : Int} {T T' : Tr} (h : Grow ns Ts) (hT : Ts[ns.length]? = some T) (hP : Put x T T') : Grow (ns ++ [x]) (Ts ++ [T']) := by
  obtain ⟨h1, ⟨a, h2⟩, h3⟩ := h
  refine ⟨by simp [h1], ⟨a, ?_⟩, fun i y U U' hy hU hU' => ?_⟩
  · rw [List.getElem?_append_left (by omega)]; exact h2
  · by_cases hi : i < ns.length
    · rw [List.getElem?_append_left hi] at hy
      rw [List.getElem?_append_left (by omega)] at hU hU'
      exact h3 i y U U' hy hU hU'
    · have hi' : i = ns.length := by
        have := (List.getElem?_eq_some_iff.mp hy).1
        simp at this; omega
      subst hi'
      rw [List.getElem?_append_right (by omega)] at hy hU'
      rw [List.getElem?_append_left (by omega), hT] at hU
      rw [h1] at hU'
      simp at hy hU'
      cases hU
      subst hy hU'
      exact hP
theorem Grow.facts {ns : List Int} {Ts : List Tr} (h : Grow ns Ts) : ∀ (k : Nat) (T : Tr), Ts[k]? = some T → T.row.Perm (ns.take k) ∧ T.row.Pairwise (· ≤ ·) ∧ T.height ≤ k := by
  obtain ⟨h1, ⟨a, h2⟩, h3⟩ := h
  intro k
  induction k with
  | zero =>
    intro T hT
    rw [h2] at hT; cases hT
    simp [Tr.row, Tr.height]
  | succ k ih =>
    intro T hT
    have hk : k < ns.length := by have := (List.getElem?_eq_some_iff.mp hT).1; omega
    have hx : ns[k]? = some ns[k] := List.getElem?_eq_getElem hk
    have hU : Ts[k]? = some (Ts[k]'(by omega)) := List.getElem?_eq_getElem (by omega)
    have hP := h3 k _ _ _ hx hU hT
    obtain ⟨q1, q2, q3⟩ := ih _ hU
    refine ⟨?_, hP.sorted q2, by have := hP.height; omega⟩
    refine hP.perm.trans ?_
    rw [List.take_add_one, hx]
    exact (List.Perm.cons _ q1).trans (List.perm_append_singleton _ _).symm
theorem Grow.len {ns : List Int} {Ts : List Tr} (h : Grow ns Ts) {k : Nat} {T : Tr} (hT : Ts[k]? = some T) : T.row.length ≤ ns.length := by
  have := (h.facts k T hT).1.length_eq
  rw [this, List.length_take]; omega
theorem sorted_eq {l1 l2 : List Int} (h : l1.Perm l2) (h1 : l1.Pairwise (· ≤ ·)) (h2 : l2.Pairwise (· ≤ ·)) : l1 = l2 :=
  List.Perm.eq_of_pairwise (fun a b _ _ x y => Int.le_antisymm x y) h1 h2 h
/-- every tree's row is the sorted head of the numbers -/
theorem Grow.told {ns : List Int} {Ts : List Tr} {nss : List (List Int)} (h : Grow ns Ts) (hl : nss.length = ns.length + 1) (hs : ∀ (k : Nat) (l : List Int), nss[k]? = some l → l.Perm (ns.take k) ∧ l.Pairwise (· ≤ ·)) : Ts.map Tr.row = nss := by
  refine List.ext_getElem? fun k => ?_
  rw [List.getElem?_map]
  by_cases hk : k < nss.length
  · have e1 : nss[k]? = some nss[k] := List.getElem?_eq_getElem hk
    have e2 : Ts[k]? = some (Ts[k]'(by rw [h.1]; omega)) := List.getElem?_eq_getElem _
    rw [e1, e2, Option.map_some]
    obtain ⟨q1, q2, _⟩ := h.facts _ _ e2
    obtain ⟨q3, q4⟩ := hs _ _ e1
    rw [sorted_eq (q1.trans q3.symm) q2 q4]
  · have h1 := h.1
    rw [List.getElem?_eq_none (l := nss) (by omega), List.getElem?_eq_none (l := Ts) (by omega)]; rfl
end Mine
end

section
namespace Mine
section
variable {prog : Program} {w : World} {A : Around} {E : Value → Shared → Prop} {s : Shared} {env : Env} {h₀ : Heap} {x : Str} {body : List Stmt} {Q : Flow → Shared → Prop}
/-- as list_loop; the class of the iterator is told too -/
theorem list_loopC {l : Addr} {items : Array Value} {ol : Obj} {m₀ : Str → Option Value} {news : List (Addr × Obj)} (J : Nat → (Str → Option Value) → List (Addr × Obj) → Prop)
    (hh : A.handled = none) (hcls : ol.cls = .type "list") (hdat : ∃ n, ol.data = .seq items n) (hkeep : ∀ i m nx, J i m nx → (l, ol) ∈ nx)
    (F : Fr h₀ env.locals s.heap m₀) (N : News h₀ env.locals s.heap news) (hj : J 0 m₀ news)
    (turn : ∀ (i : Nat) v m₁ news₁ h tk I (oI : Obj), oI.cls = .type "list_iterator" → i < items.size → items[i]? = some v → J i m₁ news₁ → (∀ p ∈ news₁, p.1 ≠ I) → Fr h₀ env.locals h (fun y => if y = x then some v else m₁ y) → News h₀ env.locals h ((I, oI) :: news₁) →
      wpAny (model prog w) A (execs body env) (LPost h₀ env.locals (J (i + 1)) I oI { s with heap := h, toks := tk } Q) E { s with heap := h, toks := tk })
    (done : ∀ m₁ news₁ h tk, J items.size m₁ news₁ → Fr h₀ env.locals h m₁ → News h₀ env.locals h news₁ → Q .next { s with heap := h, toks := tk }) :
    wpAny (model prog w) A (pyIter (.ref l)) (fun it s₂ => LoopAtV prog w A h₀ env x body Q E it s₂) E s := by
  have hl0 := N _ (hkeep _ _ _ hj)
  have hls : s.heap.IsList l items := ⟨ol, hl0.1, hcls, hdat⟩
  have hlt : l < s.heap.objs.size := Heap.lt_size hl0.1
  have hne : l ≠ s.heap.objs.size := Nat.ne_of_lt hlt
  refine wpAny_pyIter_list hls ?_
  have W := Walks.list (prog := prog) (w := w) hh s.heap.objs.size l hne items
  refine ⟨_, _, _, items.size, _, _, m₀, news, J, rfl, W, ?_, ?_, ?_, ⟨⟨_, Heap.get?_push_size _ rfl, rfl, rfl⟩, hls.at fun o e => Heap.get?_push_of_some _ e⟩, F.push _, (fun p hp => ⟨Heap.get?_push_of_some _ (N p hp).1, (N p hp).2⟩), hj, ?_, ?_⟩
  · intro hm
    rcases List.mem_cons.mp hm with e | hm
    · exact absurd F.ns.lt (e ▸ Nat.lt_irrefl _)
    · exact hl0.2.1 (List.mem_singleton.mp hm).symm
  · intro b hb
    rw [List.mem_singleton.mp hb]
    exact next_is_new F
  · intro p hp hI
    exact absurd (Heap.lt_size (N p hp).1) ((List.mem_singleton.mp hI) ▸ Nat.lt_irrefl _)
  · rintro i v m₁ news₁ s₁ own ⟨hh', tk', rfl⟩ hin hP hJ hoff hown hown2 _ hst F₁ N₁
    have hst' : ∃ oI : Obj, hh'.get? s.heap.objs.size = some oI ∧ oI.cls = .type "list_iterator" := by obtain ⟨⟨o, e, c, _⟩, _⟩ := hst; exact ⟨o, e, c⟩
    obtain ⟨oI, heI, hcI⟩ := hst'
    have hI₀ : h₀.get? s.heap.objs.size = none := next_is_new F
    have hIL : s.heap.objs.size ≠ env.locals := fun e => absurd F.ns.lt (e ▸ Nat.lt_irrefl _)
    have N₂ : News h₀ env.locals hh' ((s.heap.objs.size, oI) :: news₁) := fun p hp => by
      rcases List.mem_cons.mp hp with rfl | hp
      · exact ⟨heI, hIL, hI₀⟩
      · exact N₁ p (List.mem_append_right _ hp)
    have hne' : ∀ p ∈ news₁, p.1 ≠ s.heap.objs.size := fun p hp e => hoff p hp (by rw [e]; exact List.mem_singleton.mpr rfl)
    have hl1 : hh'.get? l = some ol := (N₂ _ (List.mem_cons_of_mem _ (hkeep _ _ _ hJ))).1
    refine wpAny_mono (turn i v m₁ news₁ hh' tk' s.heap.objs.size oI hcI hin hP hJ hne' F₁ N₂) (fun f s₂ p => ?_) fun _ _ e => e
    have fin : LEnd h₀ env.locals (J (i + 1)) s.heap.objs.size oI { s with heap := hh', toks := tk' } s₂ → LoopStepU h₀ env.locals [s.heap.objs.size] own (J (i + 1)) { s with heap := hh', toks := tk' } .next s₂ := by
      rintro ⟨h', tk, m', news', e, F', N', hI, hJ'⟩
      refine ⟨rfl, h', tk, m', news', e, F', fun p hp => ?_, fun p hp hq => hI p hp (List.mem_singleton.mp hq), hJ'⟩
      rcases List.mem_append.mp hp with hp | hp
      · obtain ⟨a, o⟩ := p
        have h2 : hh'.get? a = some o := hown2 _ hp
        rcases List.mem_cons.mp (hown _ hp) with h1 | h1
        · have h1' : a = s.heap.objs.size := h1
          rw [h1', heI] at h2; cases h2; rw [h1']
          exact N' _ List.mem_cons_self
        · have h1' : a = l := List.mem_singleton.mp h1
          rw [h1', hl1] at h2; cases h2; rw [h1']
          exact N' _ (List.mem_cons_of_mem _ (hkeep _ _ _ hJ'))
      · exact N' p (List.mem_cons_of_mem _ hp)
    cases f with
    | ret v => exact .ret p
    | brk => exact .brk p
    | next => exact .next (fin p)
    | cont => exact .cont (fin p)
  · rintro h' tk m' news' F' N' _ hJ
    exact done m' news' h' tk hJ F' N'

end
def isTree (o : Obj) : Bool := match o.cls with
  | .ref _ => true
  | .type n => n == "dict" || n == "tuple"
  | _ => false
theorem TrIn.only {pm : Params} {news : List (Addr × Obj)} {T : Tr} (h : TrIn pm news T) : TrIn pm (news.filter fun p => isTree p.2) T := by
  induction h with
  | nil h1 h2 h3 => exact .nil (List.mem_filter.mpr ⟨h1, rfl⟩) (List.mem_filter.mpr ⟨h2, by rfl⟩) (List.mem_filter.mpr ⟨h3, by rfl⟩)
  | node h1 h2 h3 _ _ ih1 ih2 => exact .node (List.mem_filter.mpr ⟨h1, rfl⟩) (List.mem_filter.mpr ⟨h2, by rfl⟩) (List.mem_filter.mpr ⟨h3, by rfl⟩) ih1 ih2
theorem off_tree {h₀ h : Heap} {L : Addr} {news : List (Addr × Obj)} (N : News h₀ L h news) {D : Addr} {o : Obj} (hD : (D, o) ∈ news) (ho : isTree o = false) {p : Addr × Obj} (hp : p ∈ news) (ht : isTree p.2 = true) : p.1 ≠ D := by
  intro e
  have h1 := (N _ hp).1
  have h2 := (N _ hD).1
  rw [e] at h1
  have h3 : h.get? D = some o := h2
  rw [h3] at h1
  cases h1
  rw [ho] at ht; cases ht
abbrev refs (Ts : List Tr) : List Value := Ts.map fun T => .ref T.root
/-- between the turns of the law's loop -/
def J1 (pm : Params) (ns : List Int) (Dt : Addr) (Z : List (Addr × Obj)) (i : Nat) (_ : Str → Option Value) (nx : List (Addr × Obj)) : Prop :=
  ∃ Ts c R, nx = (Dt, listOf (refs Ts).toArray c) :: (Z ++ R) ∧ (∀ p ∈ R, isTree p.2 = true) ∧ (∀ T ∈ Ts, TrIn pm R T) ∧ Grow (ns.take i) Ts
section
variable {prog : Program} {w : World} {A : Around} {E : Value → Shared → Prop} {s : Shared} {h₀ : Heap}
theorem last_ref {value slice : PySem.Expr} {D : Addr} {vs : List Value} {v : Value} {k : Nat} {u : Tok} {Q : Value → Shared → Prop} (hl : s.heap.IsList D vs.toArray) (hk : vs.length = k + 1) (hv : vs[k]? = some v) (h : Q v s)
    (hs : subscripted slice false (.ref D) (.int (-1) u) = operate [.ref D, .int (-1) u] (getItem (.ref D) (.int (-1) u)) := by with_unfolding_all rfl) :
    wpAny (model prog w) A (subscriptTail value slice (.ref D) (.int (-1) u)) Q E s := by
  refine tail_any hl.typeIs slot_list_getitem.lookup (wpAny_getItem_list_neg (x := v) hl (by decide) (by rw [List.size_toArray, hk]; omega) (by decide) ?_ h) hs
  rw [List.size_toArray, hk, List.getElem?_toArray]
  have : (-1 + ((k + 1 : Nat) : Int)).toNat = k := by omega
  rw [this]; exact hv
theorem item_ref {value slice : PySem.Expr} {D : Addr} {vs : List Value} {v : Value} {k : Int} {u : Tok} {Q : Value → Shared → Prop} (hl : s.heap.IsList D vs.toArray) (h0 : 0 ≤ k) (h1 : k < 1000) (hv : vs[k.toNat]? = some v) (h : Q v s)
    (hs : subscripted slice false (.ref D) (.int k u) = operate [.ref D, .int k u] (getItem (.ref D) (.int k u)) := by with_unfolding_all rfl) :
    wpAny (model prog w) A (subscriptTail value slice (.ref D) (.int k u)) Q E s :=
  tail_any hl.typeIs slot_list_getitem.lookup (wpAny_getItem_list (x := v) hl h0 (by omega) (by simpa using hv) h) hs
/-- trees.append(..) behind _law_put -/
theorem app_tree {L D I : Addr} {m : Str → Option Value} {oI : Obj} {Z R news' : List (Addr × Obj)} {us : List Value} {c : Nat} {v : Value} {Q : Value → Shared → Prop} (F : Fr h₀ L s.heap m) (N : News h₀ L s.heap news')
    (hs : ∀ p ∈ (I, oI) :: (D, listOf us.toArray c) :: (Z ++ R), p ∈ news') (hI : isTree oI = false) (hID : @Ne Nat I D) (hZ : ∀ p ∈ Z, p.1 ≠ D) (hsz : us.length ≤ 1000)
    (h : ∀ h', Fr h₀ L h' m → News h₀ L h' ((I, oI) :: (D, listOf (us ++ [v]).toArray (c + 1)) :: (Z ++ news'.filter fun p => isTree p.2)) → (∀ p ∈ news'.filter (fun p => isTree p.2), p.1 ≠ I) → Q .none { s with heap := h' }) :
    wpAny (model prog w) A (call (.builtin "list.append") [.ref D, v]) Q E s := by
  have hD : (D, listOf us.toArray c) ∈ news' := hs _ (List.mem_cons_of_mem _ List.mem_cons_self)
  refine append_mine (us := us) (n := c) ((I, oI) :: (Z ++ news'.filter fun p => isTree p.2)) F N hD (fun p hp => ?_) (by omega) fun h' F' N' => h h' F' (fun p hp => ?_) (fun p hp => ?_)
  · rcases List.mem_cons.mp hp with rfl | hp
    · exact ⟨hs _ List.mem_cons_self, hID⟩
    rcases List.mem_append.mp hp with hp | hp
    · exact ⟨hs _ (List.mem_cons_of_mem _ (List.mem_cons_of_mem _ (List.mem_append_left _ hp))), hZ p hp⟩
    · have h1 := List.mem_filter.mp hp
      exact ⟨h1.1, off_tree N hD rfl h1.1 h1.2⟩
  · rcases List.mem_cons.mp hp with rfl | hp
    · exact N' _ (List.mem_cons_of_mem _ List.mem_cons_self)
    rcases List.mem_cons.mp hp with rfl | hp
    · exact N' _ List.mem_cons_self
    · exact N' _ (List.mem_cons_of_mem _ (List.mem_cons_of_mem _ hp))
  · have h1 := List.mem_filter.mp hp
    exact off_tree N (hs _ List.mem_cons_self) hI h1.1 h1.2
end
theorem J1.next {pm : Params} {ns : List Int} {Dt : Addr} {Z R news' : List (Addr × Obj)} {i : Nat} {m : Str → Option Value} {Ts : List Tr} {c : Nat} {x : Int} {T T' : Tr}
    (hT : ∀ T ∈ Ts, TrIn pm R T) (hG : Grow (ns.take i) Ts) (hx : ns[i]? = some x) (hl : Ts[i]? = some T) (hP : Put x T T') (hT' : TrIn pm news' T') (hR : ∀ p ∈ R, p ∈ news') :
    J1 pm ns Dt Z (i + 1) m ((Dt, listOf (refs Ts ++ [Value.ref T'.root]).toArray c) :: (Z ++ news'.filter fun p => isTree p.2)) := by
  have hi : (ns.take i).length = i := by have := (List.getElem?_eq_some_iff.mp hx).1; rw [List.length_take]; omega
  refine ⟨Ts ++ [T'], c, news'.filter fun p => isTree p.2, ?_, fun p hp => (List.mem_filter.mp hp).2, fun U hU => ?_, ?_⟩
  · simp [refs]
  · rcases List.mem_append.mp hU with hU | hU
    · exact ((hT U hU).mono hR).only
    · rw [List.mem_singleton.mp hU]; exact hT'.only
  · rw [List.take_add_one, hx]
    exact hG.snoc (by rw [hi]; exact hl) hP
theorem J1.start {pm : Params} {ns : List Int} {ws : List Value} {Dt a d e : Addr} {tk : Tok} {k c : Nat} {Z : List (Addr × Obj)} {m : Str → Option Value} (_ : IntsAre ws ns) :
    J1 pm ns Dt Z 0 m ((Dt, listOf (refs [.nil a]).toArray c) :: (Z ++ [(a, instObj 31 d), (d, valObj pm tk e), (e, tupObj #[] k)])) := by
  refine ⟨[.nil a], c, _, rfl, ?_, fun T hT => ?_, Grow.start a⟩
  · intro p hp
    simp only [List.mem_cons, List.not_mem_nil, or_false] at hp
    rcases hp with rfl | rfl | rfl <;> rfl
  · rw [List.mem_singleton.mp hT]
    exact .nil (d := d) (e := e) (tk := tk) (k := k) (by simp) (by simp) (by simp)
theorem J1.keep {pm : Params} {ns : List Int} {Dt : Addr} {Z : List (Addr × Obj)} {q : Addr × Obj} (hq : q ∈ Z) : ∀ i m nx, J1 pm ns Dt Z i m nx → q ∈ nx := by
  rintro i m nx ⟨Ts, c, R, rfl, _⟩
  exact List.mem_cons_of_mem _ (List.mem_append_left _ hq)
theorem order7 {h₀ h : Heap} {L : Addr} {p1 p2 p3 p4 z1 z2 z3 : Addr × Obj} (N : News h₀ L h [p1, p2, p3, p4, z1, z2, z3]) : News h₀ L h (p1 :: ([z1, z2, z3] ++ [p2, p3, p4])) := fun p hp => N p (by
  simp only [List.cons_append, List.nil_append, List.mem_cons, List.not_mem_nil, or_false] at hp ⊢
  rcases hp with h | h | h | h | h | h | h <;> simp [h])
theorem ints_at {ws : List Value} {ns : List Int} {i : Nat} {v : Value} (h : IntsAre ws ns) (hv : ws.toArray[i]? = some v) : ∃ x t, v = .int x t ∧ ns[i]? = some x :=
  IntsAre.at h i v (by simpa using hv)
theorem grow_at {ns : List Int} {i : Nat} {x : Int} {Ts : List Tr} (h : Grow (ns.take i) Ts) (hx : ns[i]? = some x) : ∃ T, T ∈ Ts ∧ Ts[i]? = some T ∧ (refs Ts).length = i + 1 ∧ (refs Ts)[i]? = some (.ref T.root) ∧ T.height ≤ i := by
  have hi : (ns.take i).length = i := by have := (List.getElem?_eq_some_iff.mp hx).1; rw [List.length_take]; omega
  have hl := h.1
  rw [hi] at hl
  have e : Ts[i]? = some (Ts[i]'(by omega)) := List.getElem?_eq_getElem (by omega)
  refine ⟨_, List.mem_of_getElem? e, e, by simp [refs, hl], by simp only [refs, List.getElem?_map, e]; rfl, (h.facts _ _ e).2.2⟩
theorem off_I {I D : Addr} {o o' : Obj} {Z R R' : List (Addr × Obj)} (hne : ∀ p ∈ (D, o) :: (Z ++ R), p.1 ≠ I) (h3 : ∀ p ∈ R', p.1 ≠ I) : ∀ p ∈ (D, o') :: (Z ++ R'), p.1 ≠ I := by
  intro p hp
  rcases List.mem_cons.mp hp with rfl | hp
  · exact hne (D, o) List.mem_cons_self
  rcases List.mem_append.mp hp with hp | hp
  · exact hne p (List.mem_cons_of_mem _ (List.mem_append_left _ hp))
  · exact h3 p hp
/-- where the walk is to stand still, at a goal that is no tree -/
def stillP (p : Prop) : Prop := p
theorem stopP {p : Prop} (h : stillP p) : p := h
theorem goP {p : Prop} (h : p) : stillP p := h
end Mine
end

section
namespace Mine
/-- lists of ints in the ledger -/
inductive ListsIn (news : List (Addr × Obj)) : List Value → List (List Int) → Prop where
  | nil : ListsIn news [] []
  | cons {D : Addr} {vs : List Value} {c : Nat} {ns : List Int} {ys : List Value} {nss : List (List Int)} : (D, listOf vs.toArray c) ∈ news → IntsAre vs ns → ListsIn news ys nss → ListsIn news (.ref D :: ys) (ns :: nss)
theorem ListsIn.mono {news news' : List (Addr × Obj)} {ys : List Value} {nss : List (List Int)} (h : ListsIn news ys nss) (hs : ∀ p ∈ news, p ∈ news') : ListsIn news' ys nss := by
  induction h with
  | nil => exact .nil
  | cons a b _ ih => exact .cons (hs _ a) b ih
theorem ListsIn.snoc {news : List (Addr × Obj)} {ys : List Value} {nss : List (List Int)} {D : Addr} {vs : List Value} {c : Nat} {ns : List Int} (h : ListsIn news ys nss) (hm : (D, listOf vs.toArray c) ∈ news) (hI : IntsAre vs ns) :
    ListsIn news (ys ++ [.ref D]) (nss ++ [ns]) := by
  induction h with
  | nil => exact .cons hm hI .nil
  | cons a b _ ih => exact .cons a b ih
theorem ListsIn.len {news : List (Addr × Obj)} {ys : List Value} {nss : List (List Int)} (h : ListsIn news ys nss) : ys.length = nss.length := by
  induction h with
  | nil => rfl
  | cons _ _ _ ih => simp [ih]
abbrev dat (nss : List (List Int)) : List PyData := nss.map fun ns => .list (ns.map PyData.int)
theorem ListsIn.reads {h₀ h : Heap} {L : Addr} {news : List (Addr × Obj)} (N : News h₀ L h news) {ys : List Value} {nss : List (List Int)} (hl : ListsIn news ys nss) : ∃ as, ReadsAll h ys (dat nss) as := by
  induction hl with
  | nil => exact ⟨_, .nil⟩
  | cons a b _ ih =>
    obtain ⟨as, ih⟩ := ih
    exact ⟨_, .cons (reads_newData ⟨_, (N _ a).1, rfl, _, rfl⟩ (ke_carried b)) ih⟩
theorem dat_eqv : ∀ a b : List (List Int), PyData.eqvAll (dat a) (dat b) = decide (a = b)
  | [], [] => by simp [dat, PyData.eqvAll]
  | [], _ :: _ => by simp [dat, PyData.eqvAll]
  | _ :: _, [] => by simp [dat, PyData.eqvAll]
  | x :: a, y :: b => by
    have ih := dat_eqv a b
    simp only [dat] at ih
    simp only [dat, List.map_cons, PyData.eqvAll, PyData.eqv, ih, ked_eqvAll]
    by_cases h1 : x = y <;> by_cases h2 : a = b <;> simp [h1, h2]
theorem dat_lay : ∀ a : List (List Int), PyData.canLayAll0 (dat a) = true
  | [] => rfl
  | _ :: r => by
    have ih := dat_lay r
    simp only [dat] at ih
    simp [dat, PyData.canLayAll0, PyData.canLay0, ke_canLayAll0, ih]
theorem dat_depth : ∀ a : List (List Int), PyData.depthAll (dat a) ≤ 1
  | [] => Nat.zero_le _
  | _ :: r => by
    have ih := dat_depth r
    simp only [dat] at ih
    simp [dat, PyData.depthAll, PyData.depth, ke_depthAll]
    omega
theorem dat_shaped (a : List (List Int)) : SeqAt.shaped (.list (dat a)) = true := by
  have h := dat_depth a
  have h2 := dat_lay a
  refine Bool.and_eq_true_iff.mpr ⟨?_, decide_eq_true ?_⟩
  · simp only [PyData.canLay0]; exact h2
  · simp only [PyData.depth]; omega
section
variable {prog : Program} {w : World} {A : Around} {E : Value → Shared → Prop} {s : Shared} {h₀ : Heap} {L : Addr} {m : Str → Option Value}
/-- told != sorted ones: two lists of lists of ints, the same -/
theorem ne_lists {a b : Addr} {ys zs : List Value} {na nb : List (List Int)} {ca cb : Nat} {news : List (Addr × Obj)} {Q : Value → Shared → Prop} (N : News h₀ L s.heap news) (ha : (a, listOf ys.toArray ca) ∈ news) (hb : (b, listOf zs.toArray cb) ∈ news)
    (la : ListsIn news ys na) (lb : ListsIn news zs nb) (hu : A.units + 64 < cLine) (he : na = nb) (h : Q (.bool false) s) : wpAny (model prog w) A (compareOp .NotEq (.ref a) (.ref b)) Q E s := by
  obtain ⟨as, ra⟩ := la.reads N
  obtain ⟨bs, rb⟩ := lb.reads N
  refine ne_dataH (reads_list_at (N _ ha).1 rfl rfl ra) (reads_list_at (N _ hb).1 rfl rfl rb) (dat_shaped _) (dat_shaped _) hu ?_
  simp only [PyData.eqv]
  rw [dat_eqv, decide_eq_true he]
  exact h
/-- a turn's end of a comprehension whose element is a new list of ints -/
def ListEnd (h₀ : Heap) (L : Addr) (m : Str → Option Value) (s₁ : Shared) (all : List (Addr × Obj)) (G : List Int → Prop) (y : Value) (s₂ : Shared) : Prop :=
  ∃ h' tk D vs c ns, s₂ = { s₁ with heap := h', toks := tk } ∧ y = .ref D ∧ Fr h₀ L h' m ∧ News h₀ L h' ((D, listOf vs.toArray c) :: all) ∧ (∀ q ∈ all, @LT.lt Nat _ q.1 D) ∧ IntsAre vs ns ∧ G ns
theorem ListEnd.intro {s₁ : Shared} {all news : List (Addr × Obj)} {G : List Int → Prop} {h' : Heap} {tk : Nat} {D : Addr} {vs : List Value} {c : Nat} {ns : List Int} (F : Fr h₀ L h' m) (N : News h₀ L h' news) (hs : ∀ p ∈ (D, listOf vs.toArray c) :: all, p ∈ news)
    (lt : ∀ q ∈ all, @LT.lt Nat _ q.1 D) (hI : IntsAre vs ns) (hG : G ns) : ListEnd h₀ L m s₁ all G (.ref D) { s₁ with heap := h', toks := tk } := ⟨h', tk, D, vs, c, ns, rfl, rfl, F, fun p hp => N p (hs p hp), lt, hI, hG⟩
theorem ListEnd.intro2 {s₁ : Shared} {all rest : List (Addr × Obj)} {G : List Int → Prop} {h' : Heap} {tk : Nat} {D : Addr} {vs : List Value} {c : Nat} {ns : List Int} (F : Fr h₀ L h' m) (N : News h₀ L h' ((D, listOf vs.toArray c) :: rest)) (hs : ∀ p ∈ all, p ∈ rest)
    (lt : ∀ q ∈ all, @LT.lt Nat _ q.1 D) (hI : IntsAre vs ns) (hG : G ns) : ListEnd h₀ L m s₁ all G (.ref D) { s₁ with heap := h', toks := tk } :=
  ListEnd.intro (c := c) F N (fun p hp => by
    rcases List.mem_cons.mp hp with rfl | hp
    · exact List.mem_cons_self
    · exact List.mem_cons_of_mem _ (hs p hp)) lt hI hG
variable {env : Env} {elt : PySem.Expr} {x : Str} {scope : Scope} {cl : List (Str × Addr)} {S : List (Addr × Obj) → Prop} {Fin : List Value → List (Addr × Obj) → Prop} {P : Nat → Value → Prop}
theorem comp_lists {n : Nat} {Z : List (Addr × Obj)} (G : Nat → List Int → Prop) (hS : ∀ X, S (Z ++ X))
    (turn : ∀ i v I oI C oC D m₂ ys X h tk (E' : Value → Shared → Prop), i < n → P i v → LCg.NsObj oC m₂ → m₂ x = some v → Fr h₀ L h m → News h₀ L h ((I, oI) :: (C, oC) :: (D, LCg.lst ys) :: (Z ++ X)) →
      wpAny (model prog w) A (eval elt (compEnvC scope cl C env)) (ListEnd h₀ L m { s with heap := h, toks := tk } ((I, oI) :: (C, oC) :: (D, LCg.lst ys) :: (Z ++ X)) (G i)) E' { s with heap := h, toks := tk })
    (fin : ∀ ys nss X, ListsIn (Z ++ X) ys nss → nss.length = n → (∀ (i : Nat) ns, nss[i]? = some ns → G i ns) → Fin ys (Z ++ X)) : LCg.CompRest prog w A h₀ L m env elt x scope cl s S P Fin n 0 [] Z := by
  have key : ∀ (j i : Nat) (ys : List Value) (nss : List (List Int)) (X : List (Addr × Obj)), i + j = n → nss.length = i → ListsIn (Z ++ X) ys nss → (∀ (i : Nat) ns, nss[i]? = some ns → G i ns) →
      LCg.CompRest prog w A h₀ L m env elt x scope cl s S P Fin j i ys (Z ++ X) := by
    intro j
    induction j with
    | zero =>
      intro i ys nss X hi hl hL hG
      exact LCg.CompRest.zero (fin ys nss X hL (by omega) hG)
    | succ j ih =>
      intro i ys nss X hi hl hL hG
      refine LCg.CompRest.succ ?_
      intro v I oI C oC D m₂ h tk E' hv hC hx F N off ne
      refine wpAny_mono (turn i v I oI C oC D m₂ ys X h tk E' (by omega) hv hC hx F N) (fun y s₂ hq => ?_) fun _ _ e => e
      obtain ⟨h', tk', D', vs, c, ns, e, rfl, F', N', lt, hI, hg⟩ := hq
      have hoff := off.mem
      refine ⟨h', tk', Z ++ (X ++ [(D', listOf vs.toArray c)]), e, F', fun p hp => N' p ?_, LCg.Off3.of fun p hp => ?_, hS _, ?_⟩
      · rw [← List.append_assoc] at hp
        simp only [List.mem_cons, List.mem_append, List.mem_singleton] at hp ⊢
        rcases hp with h | h | h | (h | h) | h
        · exact .inr (.inl h)
        · exact .inr (.inr (.inl h))
        · exact .inr (.inr (.inr (.inl h)))
        · exact .inr (.inr (.inr (.inr (.inl h))))
        · exact .inr (.inr (.inr (.inr (.inr h))))
        · rcases h with h | h
          · exact .inl h
          · exact absurd h List.not_mem_nil
      · rw [← List.append_assoc] at hp
        rcases List.mem_append.mp hp with hp | hp
        · exact hoff p hp
        · rw [List.mem_singleton.mp hp]
          exact ⟨(Nat.ne_of_lt (lt (I, oI) List.mem_cons_self)).symm, (Nat.ne_of_lt (lt (C, oC) (List.mem_cons_of_mem _ List.mem_cons_self))).symm, (Nat.ne_of_lt (lt (D, LCg.lst ys) (List.mem_cons_of_mem _ (List.mem_cons_of_mem _ List.mem_cons_self)))).symm⟩
      · refine ih (i + 1) (ys ++ [.ref D']) (nss ++ [ns]) _ (by omega) (by simp [hl]) ?_ ?_
        · rw [← List.append_assoc]
          exact (hL.mono fun p hp => List.mem_append_left _ hp).snoc (List.mem_append_right _ (List.mem_singleton.mpr rfl)) hI
        · intro k ms hk
          by_cases hlt : k < nss.length
          · rw [List.getElem?_append_left hlt] at hk; exact hG k ms hk
          · have e2 : k = nss.length := by have := (List.getElem?_eq_some_iff.mp hk).1; simp at this; omega
            subst e2
            rw [List.getElem?_append_right (Nat.le_refl _)] at hk
            simp at hk
            rw [← hk, hl]; exact hg
  have := key n 0 [] [] [] (by omega) rfl .nil (fun i ns h => by simp at h)
  rwa [List.append_nil] at this
/-- a turn's end of a comprehension whose test says no -/
def NoEnd (h₀ : Heap) (L : Addr) (m : Str → Option Value) (s₁ : Shared) (all : List (Addr × Obj)) (ok : Bool) (s₂ : Shared) : Prop :=
  ok = false ∧ ∃ h' tk, s₂ = { s₁ with heap := h', toks := tk } ∧ Fr h₀ L h' m ∧ News h₀ L h' all
theorem comp_none {ct : PySem.Expr} {n : Nat} {Z : List (Addr × Obj)} (hS : S Z)
    (turn : ∀ i v I oI C oC D m₂ h tk (E' : Value → Shared → Prop), i < n → P i v → LCg.NsObj oC m₂ → m₂ x = some v → Fr h₀ L h m → News h₀ L h ((I, oI) :: (C, oC) :: (D, LCg.lst []) :: Z) →
      wpAny (model prog w) A (isTrue ct (compEnvC scope cl C env) (eval ct (compEnvC scope cl C env))) (NoEnd h₀ L m { s with heap := h, toks := tk } ((I, oI) :: (C, oC) :: (D, LCg.lst []) :: Z)) E' { s with heap := h, toks := tk })
    (fin : Fin [] Z) : LCt.CompRestT prog w A h₀ L m env ct elt x scope cl s S P Fin n 0 [] Z := by
  have key : ∀ (j i : Nat), i + j = n → LCt.CompRestT prog w A h₀ L m env ct elt x scope cl s S P Fin j i [] Z := by
    intro j
    induction j with
    | zero => exact fun i _ => LCt.CompRestT.zero fin
    | succ j ih =>
      intro i hi
      refine LCt.CompRestT.succ ?_
      intro v I oI C oC D m₂ h tk E' hv hC hx F N off ne
      refine wpAny_mono (turn i v I oI C oC D m₂ h tk E' (by omega) hv hC hx F N) (fun ok s₂ hq => ?_) fun _ _ e => e
      obtain ⟨rfl, h', tk', e, F', N'⟩ := hq
      rw [if_neg (by decide)]
      exact ⟨h', tk', Z, e, F', N', off, hS, ih (i + 1) (by omega)⟩
  exact key n 0 (by omega)
end
theorem two_lists {Z X X2 : List (Addr × Obj)} {p1 p2 : Addr × Obj} {ys ys2 : List Value} {nss nss2 : List (List Int)} (hL : ListsIn (Z ++ X) ys nss) (hL2 : ListsIn (p1 :: (Z ++ X) ++ X2) ys2 nss2) :
    ListsIn (p2 :: (p1 :: (Z ++ X) ++ X2)) ys nss ∧ ListsIn (p2 :: (p1 :: (Z ++ X) ++ X2)) ys2 nss2 :=
  ⟨hL.mono fun _ hp => List.mem_cons_of_mem _ (List.mem_append_left _ (List.mem_cons_of_mem _ hp)), hL2.mono fun _ hp => List.mem_cons_of_mem _ hp⟩
theorem skip2 {p a b : Addr × Obj} {l : List (Addr × Obj)} (h : p ∈ a :: l) : p ∈ a :: b :: l := by
  rcases List.mem_cons.mp h with rfl | h
  · exact List.mem_cons_self
  · exact List.mem_cons_of_mem _ (List.mem_cons_of_mem _ h)
end Mine
end

namespace Mine
open_top hd for PySem.Challenge.rw_dm0104_01
end Mine

section
namespace Mine
theorem nm_call {w : World} {news : List (Addr × Obj)} {e : Addr} {loose : List Str} {mean : ExcName → Option Value} {mg mb : Str → Option Value}
    {dp un : Nat} {gd : Option (List Code)} {cn : Str} {cs : Scope} {a : Addr} {ccd : Value} {cl : List (Str × Addr)} {outer : List Env} {A₀ : Around} {base h₀ : Heap} {L : Addr} {m : Str → Option Value} {s : Shared} {Q E : Value → Shared → Prop}
    (B : Below A₀ base outer h₀) (F : Fr h₀ L s.heap m) (X : (Mine.hd.heap_39 w.params).In h₀) (N : News h₀ L s.heap news) (Tp : Top Mine.hd.view_39 loose mean mg mb h₀) (hk : cs.kind = .function)
    (hd : dp + 2 < recursionLimit)
    (ret : ∀ x d h' tk tk', Fr h₀ L h' m → News h₀ L h' ((x, instObj 31 d) :: (d, valObj w.params tk e) :: news) → Q (.ref x) { s with heap := h', toks := tk' }) :
    wpAny (model Challenge.rw_dm0104_01.row.prog w) (ktrTop dp un gd cn cs L a ccd cl outer) (call (.ref 31) [.ref e]) Q E s := by
  revert X
  k_fill
  intro X
  w_top off
  k_dflt (refine' call_cls ?k1 ?k2 ?k3 ?k4 ?k5 ?k6 ?_)
  (case k1 => k_asm)
  (case k2 => k_asm)
  (case k3 => k_in)
  (case k4 => k_is)
  (case k5 => k_is)
  (case k6 => k_is)
  intro x' d' h' F' N' l1 l2
  (try k_lt l1)
  (try k_lt2 l2)
  k_dflt cell_enter
  k_steps
  rename Fr h₀ L _ m => kF
  rename News h₀ L _ _ => kN
  exact ret _ _ _ _ _ kF kN
theorem inTree {h₀ : Heap} {L b d e : Addr} {h : Heap} {news : List (Addr × Obj)} {o1 o2 o3 : Obj} (N : News h₀ L h news) (h1 : (b, o1) ∈ news) (h2 : (d, o2) ∈ news) (h3 : (e, o3) ∈ news) : News h₀ L h ((b, o1) :: (d, o2) :: (e, o3) :: news) := fun p hp => by
  rcases List.mem_cons.mp hp with rfl | hp
  · exact N _ h1
  rcases List.mem_cons.mp hp with rfl | hp
  · exact N _ h2
  rcases List.mem_cons.mp hp with rfl | hp
  · exact N _ h3
  · exact N _ hp
local macro_rules | `(tactic| walk_at "compareOp Eq ref ref") => `(tactic| ((with_reducible show wpAny _ _ (compareOp CmpOp.Eq (Value.ref _) (Value.ref _)) _ _ _); first | (refine Mine.eq_nil (by k_asm) (by k_mem) (by k_mem) (by ktr_units) ?_) | (refine Mine.eq_three (by k_asm) (by k_mem) (by k_mem) (by ktr_units) ?_)))
local macro_rules | `(tactic| walk_at "call ref") => `(tactic| ((with_reducible show wpAny _ _ (call (Value.ref 31) [Value.ref _]) _ _ _); (refine Mine.nm_call (by k_asm) (by k_asm) (by k_asm) (by k_asm) (by k_asm) (by rfl) (by ktr_room) ?_); intro _ _ _ _ _ _ _; (try dsimp only); (try k_fold)))
theorem put_call (T : Tr) : ∀ {w : World} {news : List (Addr × Obj)} {x : Int} {t : Tok} {loose : List Str} {mean : ExcName → Option Value} {mg mb : Str → Option Value}
    {dp un : Nat} {gd : Option (List Code)} {cn : Str} {cs : Scope} {a : Addr} {ccd : Value} {cl : List (Str × Addr)} {outer : List Env} {A₀ : Around} {base h₀ : Heap} {L : Addr} {m : Str → Option Value} {s : Shared} {Q E : Value → Shared → Prop}
    (B : Below A₀ base outer h₀) (F : Fr h₀ L s.heap m) (X : (Mine.hd.heap_39 w.params).In h₀) (N : News h₀ L s.heap news) (Tp : Top Mine.hd.view_39 loose mean mg mb h₀) (hk : cs.kind = .function) (hT : TrIn w.params news T)
    (hd : dp + 2 * T.height + 4 < recursionLimit) (hu : un + 30 * T.height + 30 < cLine)
    (ret : ∀ T' news' h' tk', Put x T T' → TrIn w.params news' T' → (∀ p ∈ news, p ∈ news') → Fr h₀ L h' m → News h₀ L h' news' → Q (.ref T'.root) { s with heap := h', toks := tk' }),
    wpAny (model Challenge.rw_dm0104_01.row.prog w) (ktrTop dp un gd cn cs L a ccd cl outer) (call (.ref 42) [.ref T.root, .int x t]) Q E s := by
  k_fill
  induction T with
  | nil b =>
    intro w news x t loose mean mg mb dp un gd cn cs a ccd cl outer A₀ base h₀ L m s Q E B F X N Tp hk hT hd hu ret
    w_top off
    have hd' : dp + 4 < recursionLimit := by omega
    have hu' : un + 30 < cLine := by omega
    clear hd hu
    cases hT with
    | nil h1 h2 h3 =>
      have N₂ := Mine.inTree N h1 h2 h3
      clear N
      show wpAny _ _ (call (.ref 42) [.ref b, .int x t]) _ _ _
      refine wpAny_call ?_
      k_dflt cell_enter
      k_steps
      rename Fr h₀ L _ m => kF
      rename News h₀ L _ _ => kN
      exact ret (.node _ x (.nil b) (.nil b)) _ _ _ .nil (.node (by k_mem) (by k_mem) (by k_mem) (.nil (List.mem_cons_of_mem _ (by k_mem)) (by k_mem) (by k_mem)) (.nil (by k_mem) (by k_mem) (by k_mem))) (fun p hp => by simp only [List.mem_cons]; simp only [hp, or_true]) kF kN
  | node b n l r ih1 ih2 => 
    intro w news x t loose mean mg mb dp un gd cn cs a ccd cl outer A₀ base h₀ L m s Q E B F X N Tp hk hT hd hu ret
    w_top off
    have hd' : dp + 4 < recursionLimit := by omega
    have hu' : un + 30 < cLine := by omega
    have hdl : (dp + 1) + 2 * l.height + 4 < recursionLimit := by simp only [Tr.height] at hd; omega
    have hdr : (dp + 1) + 2 * r.height + 4 < recursionLimit := by simp only [Tr.height] at hd; omega
    have hul : (un + 30) + 30 * l.height + 30 < cLine := by simp only [Tr.height] at hu; omega
    have hur : (un + 30) + 30 * r.height + 30 < cLine := by simp only [Tr.height] at hu; omega
    clear hd hu
    cases hT with
    | node h1 h2 h3 h4 h5 =>
      have N₂ := Mine.inTree N h1 h2 h3
      clear N
      show wpAny _ _ (call (.ref 42) [.ref b, .int x t]) _ _ _
      refine wpAny_call ?_
      k_dflt cell_enter
      k_steps
      · rename (_ < _) => hx
        refine ih1 (by k_asm) (by k_asm) (by k_asm) (by k_asm) (by k_asm) (by rfl) (TrIn.mono h4 (fun p hp => by simp [hp])) (by ktr_room) (by ktr_units) ?_
        intro T' news' h' tk' hP hI hs F' N'
        (try dsimp only)
        (try k_fold)
        k_steps
        rename Fr h₀ L _ m => kF
        rename News h₀ L _ _ => kN
        exact ret (.node _ n T' r) _ _ _ (.lt hx hP) (.node (by k_mem) (by k_mem) (by k_mem) (hI.mono (fun p hp => by simp only [List.mem_cons]; simp only [hp, or_true])) (h5.mono (fun p hp => by simp only [List.mem_cons]; simp only [hs p (by simp only [List.mem_cons]; simp only [hp, or_true]), or_true]))) (fun p hp => by simp only [List.mem_cons]; simp only [hs p (by simp only [List.mem_cons]; simp only [hp, or_true]), or_true]) kF kN
      · rename (¬ _ < _) => hx
        refine ih2 (by k_asm) (by k_asm) (by k_asm) (by k_asm) (by k_asm) (by rfl) (TrIn.mono h5 (fun p hp => by simp [hp])) (by ktr_room) (by ktr_units) ?_
        intro T' news' h' tk' hP hI hs F' N'
        (try dsimp only)
        (try k_fold)
        k_steps
        rename Fr h₀ L _ m => kF
        rename News h₀ L _ _ => kN
        exact ret (.node _ n l T') _ _ _ (.ge hx hP) (.node (by k_mem) (by k_mem) (by k_mem) (h4.mono (fun p hp => by simp only [List.mem_cons]; simp only [hs p (by simp only [List.mem_cons]; simp only [hp, or_true]), or_true])) (hI.mono (fun p hp => by simp only [List.mem_cons]; simp only [hp, or_true]))) (fun p hp => by simp only [List.mem_cons]; simp only [hs p (by simp only [List.mem_cons]; simp only [hp, or_true]), or_true]) kF kN
end Mine
end

section
local macro_rules | `(tactic| walk_at "compareOp Eq ref ref") => `(tactic| ((with_reducible show wpAny _ _ (compareOp CmpOp.Eq (Value.ref _) (Value.ref _)) _ _ _); first | (refine Mine.eq_nil (by k_asm) (by k_mem) (by k_mem) (by ktr_units) ?_) | (refine Mine.eq_three (by k_asm) (by k_mem) (by k_mem) (by ktr_units) ?_)))
namespace Mine
theorem read_call (T : Tr) : ∀ {w : World} {news : List (Addr × Obj)} {n : Int} {t : Tok} {loose : List Str} {mean : ExcName → Option Value} {mg mb : Str → Option Value}
    {dp un : Nat} {gd : Option (List Code)} {cn : Str} {cs : Scope} {a : Addr} {ccd : Value} {cl : List (Str × Addr)} {outer : List Env} {A₀ : Around} {base h₀ : Heap} {L : Addr} {m : Str → Option Value} {s : Shared} {Q E : Value → Shared → Prop}
    (B : Below A₀ base outer h₀) (F : Fr h₀ L s.heap m) (X : (Mine.hd.heap_39 w.params).In h₀) (N : News h₀ L s.heap news) (Tp : Top Mine.hd.view_39 loose mean mg mb h₀) (hk : cs.kind = .function) (hT : TrIn w.params news T)
    (hn : (T.height : Int) < n) (hz : T.row.length ≤ 1000) (hd : dp + 2 * T.height + 4 < recursionLimit) (hu : un + 30 * T.height + 30 < cLine)
    (ret : ∀ D vs c h' tk', IntsAre vs T.row → (∀ q ∈ news, @LT.lt Nat _ q.1 D) → Fr h₀ L h' m → News h₀ L h' ((D, listOf vs.toArray c) :: news) → Q (.ref D) { s with heap := h', toks := tk' }),
    wpAny (model Challenge.rw_dm0104_01.row.prog w) (ktrTop dp un gd cn cs L a ccd cl outer) (call (.ref 49) [.ref T.root, .int n t]) Q E s := by
  k_fill
  induction T with
  | nil b =>
    intro w news n t loose mean mg mb dp un gd cn cs a ccd cl outer A₀ base h₀ L m s Q E B F X N Tp hk hT hn hz hd hu ret
    w_top off
    have hd' : dp + 4 < recursionLimit := by omega
    have hu' : un + 30 < cLine := by omega
    have hn0 : n ≠ 0 := by simp only [Tr.height] at hn; omega
    clear hd hu
    cases hT with
    | nil h1 h2 h3 =>
      have N₂ := Mine.inTree N h1 h2 h3
      clear N
      show wpAny _ _ (call (.ref 49) [.ref b, .int n t]) _ _ _
      refine wpAny_call ?_
      k_dflt cell_enter
      k_steps
      · exact absurd (by assumption) hn0
      · rename Fr h₀ L _ m => kF
        rename News h₀ L _ _ => kN
        rename (_ ∧ _) => lt'
        refine ret _ [] 0 _ _ .nil (ktn_ltOf lt'.2.2.2.2) kF (cb_drop kN (fun p hp => ?_))
        simp only [List.mem_cons] at hp ⊢
        rcases hp with rfl | hp
        · exact .inl rfl
        · simp only [hp, or_true]
  | node b x l r ih1 ih2 => 
    intro w news n t loose mean mg mb dp un gd cn cs a ccd cl outer A₀ base h₀ L m s Q E B F X N Tp hk hT hn hz hd hu ret
    w_top off
    have hd' : dp + 4 < recursionLimit := by omega
    have hu' : un + 30 < cLine := by omega
    have hdl : (dp + 1) + 2 * l.height + 4 < recursionLimit := by simp only [Tr.height] at hd; omega
    have hdr : (dp + 1) + 2 * r.height + 4 < recursionLimit := by simp only [Tr.height] at hd; omega
    have hul : (un + 30) + 30 * l.height + 30 < cLine := by simp only [Tr.height] at hu; omega
    have hur : (un + 30) + 30 * r.height + 30 < cLine := by simp only [Tr.height] at hu; omega
    have hnl : (l.height : Int) < n - 1 := by simp only [Tr.height] at hn; omega
    have hnr : (r.height : Int) < n - 1 := by simp only [Tr.height] at hn; omega
    have hzs : l.row.length + 1 + r.row.length ≤ 1000 := by simp only [Tr.row, List.length_append, List.length_singleton] at hz; omega
    have hzl : l.row.length ≤ 1000 := by omega
    have hzr : r.row.length ≤ 1000 := by omega
    have hn0 : n ≠ 0 := by omega
    clear hd hu
    cases hT with
    | node h1 h2 h3 h4 h5 =>
      have N₂ := Mine.inTree N h1 h2 h3
      clear N
      show wpAny _ _ (call (.ref 49) [.ref b, .int n t]) _ _ _
      refine wpAny_call ?_
      k_dflt cell_enter
      k_steps
      · exact absurd (by assumption) hn0
      · refine ih1 (by k_asm) (by k_asm) (by k_asm) (by k_asm) (by k_asm) (by rfl) (TrIn.mono h4 (fun p hp => by simp [hp])) hnl hzl (by ktr_room) (by ktr_units) ?_
        intro D1 vs1 c1 h' tk' hI1 lt1 F' N'
        (try dsimp only)
        (try k_fold)
        k_steps
        refine ih2 (by k_asm) (by k_asm) (by k_asm) (by k_asm) (by k_asm) (by rfl) (TrIn.mono h5 (fun p hp => by simp [hp])) hnr hzr (by ktr_room) (by ktr_units) ?_
        intro D2 vs2 c2 h' tk' hI2 lt2 F' N'
        (try dsimp only)
        (try k_fold)
        k_steps
        rename Fr h₀ L _ m => kF
        rename News h₀ L _ _ => kN
        rename (_ ∧ _) => lt'
        rename (IntsAre _ (l.row ++ [x] ++ r.row)) => hI
        refine ret _ _ 0 _ _ hI (ktn_ltOf lt'.2.2.2.2.2.2.2.2) kF (cb_drop kN (fun p hp => ?_))
        simp only [List.mem_cons] at hp ⊢
        rcases hp with rfl | hp
        · exact .inl rfl
        · simp only [hp, or_true]
end Mine
end

section
local macro_rules | `(tactic| walk_at "compareOp Eq ref ref") => `(tactic| ((with_reducible show wpAny _ _ (compareOp CmpOp.Eq (Value.ref _) (Value.ref _)) _ _ _); first | (refine Mine.eq_nil (by k_asm) (by k_mem) (by k_mem) (by ktr_units) ?_) | (refine Mine.eq_three (by k_asm) (by k_mem) (by k_mem) (by ktr_units) ?_)))
namespace Mine
theorem up3 {p q1 q2 q3 : Addr × Obj} {news : List (Addr × Obj)} (h : p ∈ news) : p ∈ q1 :: q2 :: q3 :: news := List.mem_cons_of_mem _ (List.mem_cons_of_mem _ (List.mem_cons_of_mem _ h))
theorem kept_call {T T' : Tr} {w : World} {news : List (Addr × Obj)} {x : Int} {t : Tok} {loose : List Str} {mean : ExcName → Option Value} {mg mb : Str → Option Value}
    {dp un : Nat} {gd : Option (List Code)} {cn : Str} {cs : Scope} {a : Addr} {ccd : Value} {cl : List (Str × Addr)} {outer : List Env} {A₀ : Around} {base h₀ : Heap} {L : Addr} {m : Str → Option Value} {s : Shared} {Q E : Value → Shared → Prop}
    (B : Below A₀ base outer h₀) (F : Fr h₀ L s.heap m) (X : (Mine.hd.heap_39 w.params).In h₀) (N : News h₀ L s.heap news) (Tp : Top Mine.hd.view_39 loose mean mg mb h₀) (hk : cs.kind = .function) (hT : TrIn w.params news T) (hT' : TrIn w.params news T')
    (hP : Put x T T') (hd : dp + 4 < recursionLimit) (hu : un + 30 < cLine)
    (ret : ∀ h' tk', Fr h₀ L h' m → News h₀ L h' news → Q (.bool true) { s with heap := h', toks := tk' }) :
    wpAny (model Challenge.rw_dm0104_01.row.prog w) (ktrTop dp un gd cn cs L a ccd cl outer) (call (.ref 56) [.ref T.root, .ref T'.root, .int x t]) Q E s := by
  revert X
  k_fill
  intro X
  w_top off
  cases hP with
  | nil =>
    rename_i e b
    cases hT with
    | nil h1 h2 h3 =>
    cases hT' with
    | node h4 h5 h6 _ _ =>
      have N₂ := Mine.inTree (Mine.inTree N h4 h5 h6) (up3 h1) (up3 h2) (up3 h3)
      clear N
      dsimp only [Tr.root] at N₂
      show wpAny _ _ (call (.ref 56) [.ref e, .ref b, .int x t]) _ _ _
      refine wpAny_call ?_
      k_dflt cell_enter
      k_steps
      rename Fr h₀ L _ m => kF
      rename News h₀ L _ _ => kN
      exact ret _ _ kF (cb_drop kN (fun p hp => by simp only [List.mem_cons]; simp only [hp, or_true]))
  | lt hx hP =>
    rename_i e b n l l' r
    cases hT with
    | node h1 h2 h3 _ _ =>
    cases hT' with
    | node h4 h5 h6 _ _ =>
      have N₂ := Mine.inTree (Mine.inTree N h4 h5 h6) (up3 h1) (up3 h2) (up3 h3)
      clear N
      show wpAny _ _ (call (.ref 56) [.ref e, .ref b, .int x t]) _ _ _
      refine wpAny_call ?_
      k_dflt cell_enter
      k_steps
      rename Fr h₀ L _ m => kF
      rename News h₀ L _ _ => kN
      exact ret _ _ kF (cb_drop kN (fun p hp => by simp only [List.mem_cons]; simp only [hp, or_true]))
  | ge hx hP => 
    rename_i e b n l r r'
    cases hT with
    | node h1 h2 h3 _ _ =>
    cases hT' with
    | node h4 h5 h6 _ _ =>
      have N₂ := Mine.inTree (Mine.inTree N h4 h5 h6) (up3 h1) (up3 h2) (up3 h3)
      clear N
      show wpAny _ _ (call (.ref 56) [.ref e, .ref b, .int x t]) _ _ _
      refine wpAny_call ?_
      k_dflt cell_enter
      k_steps
      rename Fr h₀ L _ m => kF
      rename News h₀ L _ _ => kN
      exact ret _ _ kF (cb_drop kN (fun p hp => by simp only [List.mem_cons]; simp only [hp, or_true]))
end Mine
end

section
local macro_rules | `(tactic| walk_at "pyIter ref") => `(tactic| (refine Mine.stop ?_))
local macro_rules | `(tactic| walk_at "eval ListComp") => `(tactic| (k_here; (with_reducible show wpAny _ _ (eval (Expr.ListComp _ [⟨_, _, [], _⟩] _ _) _) _ _ _); k_dflt (refine LCg.ListComp_U (F₀ := by k_asm) (by with_unfolding_all rfl) (by decide) (by rfl) (by decide) (by rfl) ?_)))
local macro_rules | `(tactic| walk_at "CompSrc") => `(tactic| (refine Mine.stopP ?_))
local macro_rules | `(tactic| walk_at "eval ListComp") => `(tactic| (k_here; (with_reducible show wpAny _ _ (eval (Expr.ListComp _ [⟨_, _, [_], _⟩] _ _) _) _ _ _); k_dflt (refine LCt.ListComp_T (F₀ := by k_asm) (by with_unfolding_all rfl) (by decide) (by rfl) (by decide) (by rfl) ?_)))
local macro_rules | `(tactic| walk_at "CompSrcT") => `(tactic| (refine Mine.stopP ?_))
local macro_rules | `(tactic| walk_at "compareOp NotEq ref ref") => `(tactic| (refine Mine.stop ?_))
local macro_rules | `(tactic| walk_at "subscriptTail") => `(tactic| (k_here; (with_reducible show wpAny _ _ (subscriptTail _ _ (Value.ref _) (Value.int (_ + _) _)) _ _ _); (with_unfolding_all refine' Mine.item_ref (News.isList (by k_asm) (by k_mem)) (by omega) (by omega) (by assumption) ?_ (by with_unfolding_all rfl)); (try dsimp only); (try k_fold)))
local macro_rules | `(tactic| walk_at "LPost") => `(tactic| (dsimp only [Mine.LPost]))
local macro_rules | `(tactic| walk_at "call builtin:list.append") => `(tactic| (refine Mine.stop ?_))
local macro_rules | `(tactic| walk_at "subscriptTail") => `(tactic| (k_here; (with_reducible show wpAny _ _ (subscriptTail _ (Expr.UnaryOp _ _ _) (Value.ref _) (Value.int _ _)) _ _ _); (with_unfolding_all refine' Mine.last_ref (News.isList (by k_asm) (by k_mem)) (by assumption) (by assumption) ?_ (by with_unfolding_all rfl)); (try dsimp only); (try k_fold)))
local macro_rules | `(tactic| walk_at "call ref") => `(tactic| ((with_reducible show wpAny _ _ (call (Value.ref 42) _) _ _ _); (refine Mine.stop ?_)))
local macro_rules | `(tactic| walk_at "call ref") => `(tactic| ((with_reducible show wpAny _ _ (call (Value.ref 49) _) _ _ _); (refine Mine.stop ?_)))
local macro_rules | `(tactic| walk_at "call ref") => `(tactic| ((with_reducible show wpAny _ _ (call (Value.ref 56) _) _ _ _); (refine Mine.stop ?_)))
namespace Mine
theorem lt20 {w : List Int} {i : Nat} {x : Int} (h : (w.take 20)[i]? = some x) : i < 20 := by
  have := (List.getElem?_eq_some_iff.mp h).1
  rw [List.length_take] at this; omega
theorem room1 {h i : Nat} (h1 : h ≤ i) (h2 : i ≤ 20) : callerA.depth + 1 + 2 * h + 4 < recursionLimit := by
  simp only [depth_caller, recursionLimit]; omega
theorem room2 {h i : Nat} (h1 : h ≤ i) (h2 : i ≤ 20) : callerA.units + 3 + 30 * h + 30 < cLine := by
  simp only [units_caller, cLine]; omega
theorem take_all {ws : List Value} {ns : List Int} (h : IntsAre ws ns) : ns.take ws.toArray.size = ns := by
  have := IntsAre.length h
  rw [List.size_toArray]
  exact List.take_of_length_le (by omega)
theorem len20 {ws : List Value} {w : List Int} (h : IntsAre ws (w.take 20)) : ws.length ≤ 20 := by
  have := IntsAre.length h
  rw [List.length_take] at this; omega
theorem take20 {ws : List Value} {w : List Int} (_ : IntsAre ws (w.take 20)) : (w.take 20).length ≤ 20 := by
  rw [List.length_take]; omega
theorem comp_at {ns : List Int} {Ts : List Tr} {i : Nat} {v : Value} (h : Grow ns Ts) (hv : (refs Ts).toArray[i]? = some v) : ∃ T, T ∈ Ts ∧ Ts[i]? = some T ∧ v = .ref T.root ∧ T.height ≤ ns.length ∧ T.row.length ≤ ns.length := by
  rw [List.getElem?_toArray, refs, List.getElem?_map] at hv
  cases e : Ts[i]? with
  | none => rw [e] at hv; cases hv
  | some T =>
    rw [e] at hv
    refine ⟨T, List.mem_of_getElem? e, rfl, (Option.some.inj hv).symm, ?_, h.len e⟩
    have h1 := (h.facts _ _ e).2.2
    have h2 := (List.getElem?_eq_some_iff.mp e).1
    have h3 := h.1
    omega
theorem rows_eq {Ts : List Tr} {nss : List (List Int)} (hl : nss.length = (refs Ts).toArray.size) (hG : ∀ (i : Nat) ns, nss[i]? = some ns → ∃ T, Ts[i]? = some T ∧ T.row = ns) : nss = Ts.map Tr.row := by
  simp only [List.size_toArray, refs, List.length_map] at hl
  refine List.ext_getElem? fun k => ?_
  rw [List.getElem?_map]
  by_cases hk : k < nss.length
  · have e1 : nss[k]? = some nss[k] := List.getElem?_eq_getElem hk
    obtain ⟨T, e2, e3⟩ := hG _ _ e1
    rw [e1, e2, Option.map_some, e3]
  · rw [List.getElem?_eq_none (l := nss) (by omega), List.getElem?_eq_none (l := Ts) (by omega)]; rfl
theorem rsz (k : Nat) : Builtin.Range.rangeSize 0 ((k : Int) + 1) 1 = ((k + 1 : Nat) : Int) := by
  have := rangeSize_nat 0 (k + 1)
  simpa using this
def SortedOf {ws : List Value} {ns : List Int} (_ : IntsAre ws ns) (i : Nat) (l : List Int) : Prop := l.Perm (ns.take i) ∧ l.Pairwise (· ≤ ·)
theorem zi (i : Nat) : (0 + (i : Int)).toNat = i := by omega
theorem room3 : callerA.units + 3 + 64 < cLine := by simp only [units_caller, cLine]; omega
theorem room4 : callerA.depth + 1 + 4 < recursionLimit := by simp only [depth_caller, recursionLimit]; omega
theorem room5 : callerA.units + 3 + 30 < cLine := by simp only [units_caller, cLine]; omega
theorem rsz0 (k : Nat) : Builtin.Range.rangeSize 0 (k : Int) 1 = (k : Int) := by
  have := rangeSize_nat 0 k
  simpa using this
theorem kept_at {ns : List Int} {Ts : List Tr} {i : Nat} (hG : Grow ns Ts) (hi : i < ns.length) : ∃ T T', T ∈ Ts ∧ T' ∈ Ts ∧ Put (ns.getD (0 + (i : Int)).toNat 0) T T' ∧
    (refs Ts)[(0 + (i : Int)).toNat]? = some (.ref T.root) ∧ (refs Ts)[(0 + (i : Int) + 1).toNat]? = some (.ref T'.root) := by
  have hl := hG.1
  have e0 : (0 + (i : Int)).toNat = i := by omega
  have e00 : (0 + (i : Int) + 1).toNat = i + 1 := by omega
  have e1 : Ts[i]? = some (Ts[i]'(by omega)) := List.getElem?_eq_getElem (by omega)
  have e2 : Ts[i + 1]? = some (Ts[i + 1]'(by omega)) := List.getElem?_eq_getElem (by omega)
  have e3 : ns[i]? = some ns[i] := List.getElem?_eq_getElem hi
  refine ⟨_, _, List.mem_of_getElem? e1, List.mem_of_getElem? e2, ?_, ?_, ?_⟩
  · rw [e0, List.getD_eq_getElem?_getD, e3]
    exact hG.2.2 i _ _ _ e3 e1 e2
  · rw [e0, refs, List.getElem?_map, e1]; rfl
  · rw [e00, refs, List.getElem?_map, e2]; rfl
end Mine
theorem PySem.Challenge.cw_dm0104_01_holds : PySem.Challenge.rw_dm0104_01.Holds := by
  refine Mine.hd ?_
  k_go0
  (all_goals try k_fold)
  k_steps
  refine Mine.go ?_
  (try dsimp only)
  rename Fr _ _ _ _ => lF
  rename News _ _ _ _ => lN
  rename IntsAre _ (List.take 20 _) => hI
  have lN2 := Mine.order7 lN
  rename (_ < _ ∧ _) => lt'
  clear lN
  with_unfolding_all refine' Mine.list_loopC (Mine.J1 _ _ _ _) rfl rfl ⟨0, rfl⟩ (Mine.J1.keep List.mem_cons_self) lF lN2 (Mine.J1.start hI) (fun i v m₁ news₁ h tk I oI hcI hi hv hJ hne F₁ N₁ => ?_) (fun m₁ news₁ h tk hJ F₁ N₁ => ?_)
  · obtain ⟨Ts, c, R, rfl, hR, hT, hG⟩ := hJ
    obtain ⟨x, t, rfl, hx⟩ := Mine.ints_at hI hv
    obtain ⟨T, hTm, hTi, hr1, hr2, hht⟩ := Mine.grow_at hG hx
    clear lF lN2
    (try simp only [List.cons_append, List.nil_append] at N₁)
    (try dsimp only)
    (try k_fold)
    k_steps
    refine Mine.go ?_
    have hi20 : i < 20 := Mine.lt20 hx
    k_dflt (refine Mine.put_call T (by k_asm) (by k_asm) (by k_asm) (by k_asm) (by k_asm) rfl (Mine.TrIn.mono (hT T hTm) (fun p hp => by simp [hp])) (by with_unfolding_all exact Mine.room1 hht (Nat.le_of_lt hi20)) (by with_unfolding_all exact Mine.room2 hht (Nat.le_of_lt hi20)) ?_)
    intro T' news' h' tk' hP hT' hs F₂ N₂
    clear N₁ F₁
    (try dsimp only)
    (try k_fold)
    k_steps
    refine Mine.go ?_
    have hID : @Ne Nat I _ := (hne _ List.mem_cons_self).symm
    with_unfolding_all refine Mine.app_tree (Z := [_, _, _]) F₂ N₂ hs (by unfold Mine.isTree; rw [hcI]; rfl) hID (Mine.ne_cons (Nat.ne_of_lt lt'.2.2.2.1) (Mine.ne_cons (Nat.ne_of_lt lt'.2.2.2.2.1) (Mine.ne_cons (Nat.ne_of_lt lt'.2.2.2.2.2) Mine.ne_nil))) (by omega) ?_
    intro h₃ F₃ N₃ hne₃
    (try dsimp only)
    (try k_fold)
    k_steps
    with_unfolding_all exact Mine.LEnd.intro F₃ N₃ _ (fun p hp => hp) (Mine.off_I hne hne₃) (Mine.J1.next hT hG hx hTi hP hT' (fun p hp => hs p (by simp [hp])))
  · obtain ⟨Ts, c, R, rfl, hR, hT, hG⟩ := hJ
    clear lF lN2
    (try simp only [List.cons_append, List.nil_append] at N₁)
    have hns : (List.take _ (List.take 20 _) : List Int) = List.take 20 _ := Mine.take_all hI
    rw [hns] at hG
    clear hns
    have hlen := hG.1
    have hl20 := Mine.len20 hI
    have hl20' : (List.take 20 _ : List Int).length ≤ 20 := Mine.take20 hI
    (try dsimp only)
    (try k_fold)
    k_steps
    refine Mine.goP ?_
    k_dflt (refine LCg.CompSrc.ledger (by rfl) (by k_asm) (by k_asm) (by k_mem) (by rw [PySem.sizeLine_eq, List.size_toArray]; simp only [Mine.refs, List.length_map]; omega) ?_)
    intro g'
    refine Mine.comp_lists (fun i ns => ∃ T, Ts[i]? = some T ∧ T.row = ns) (fun X => .inr ⟨_, List.mem_append_left _ List.mem_cons_self, rfl, _, rfl⟩) (fun i v I oI C oC D m₂ ys X h tk E' hi hv hC hx F₂ N₂ => ?_) (fun ys nss X hL hln hG2 => ?_)
    · obtain ⟨T, hTm, hTi, rfl, hTh, hTr⟩ := Mine.comp_at hG hv
      clear F₁ N₁
      (try simp only [List.cons_append, List.nil_append] at N₂)
      (try dsimp only)
      (try k_fold)
      k_steps
      refine Mine.go ?_
      k_dflt (refine Mine.read_call T (by k_asm) (by k_asm) (by k_asm) (by k_asm) (by k_asm) rfl (Mine.TrIn.mono (hT T hTm) (fun p hp => by simp [hp])) (by omega) (by omega) (by with_unfolding_all exact Mine.room1 hTh hl20') (by with_unfolding_all exact Mine.room2 hTh hl20') ?_)
      intro D9 vs9 c9 h9 tk9 hI9 lt9 F9 N9
      (try dsimp only)
      (try k_fold)
      k_steps
      exact Mine.ListEnd.intro F9 N9 (fun p hp => hp) lt9 hI9 ⟨T, hTi, rfl⟩
    · have hnss : nss = Ts.map Mine.Tr.row := Mine.rows_eq hln hG2
      clear F₁ N₁
      intro D h tk F₂ N₂ off₂
      (try simp only [List.cons_append, List.nil_append] at N₂)
      (try dsimp only)
      (try k_fold)
      k_steps
      refine Mine.goP ?_
      k_dflt (refine LCg.CompSrc.range (n := (List.take 20 _ : List Int).length + 1) (by rfl) (by k_asm) (by k_asm) (by assumption) (small_one (by omega) (by omega) (by omega) (by omega)) (Mine.rsz _) (by rw [PySem.sizeLine_eq]; omega) ?_)
      intro g'
      refine Mine.comp_lists (Mine.SortedOf hI) (fun X => True.intro) (fun i v I oI C oC D m₂ ys X h tk E' hi hv hC hx F₃ N₃ => ?_) (fun ys2 nss2 X2 hL2 hln2 hG3 => ?_)
      · obtain ⟨t, rfl⟩ := hv
        (try simp only [List.cons_append, List.nil_append] at N₃)
        (try dsimp only)
        (try k_fold)
        k_steps
        rename Fr _ _ _ _ => F₄
        rename News _ _ _ _ => N₄
        rename (_ < _ ∧ _) => lt4
        rename (List.Perm _ _) => hp4
        rename (List.Pairwise _ _) => ho4
        rename (IntsAre _ _) => hI4
        rw [Mine.zi] at hp4
        (try k_unfold)
        (try dsimp only)
        refine Mine.ListEnd.intro2 F₄ N₄ ?_ ?_ hI4 ⟨hp4, ho4⟩
        · simp only [List.cons_append]
          exact fun p hp => List.mem_cons_of_mem _ hp
        · simp only [List.cons_append]
          exact ktn_ltOf lt4.2
      · have hnn : nss = nss2 := by rw [hnss]; exact hG.told hln2 (fun k l hk => hG3 k l hk)
        intro D2 h2 tk2 F₃ N₃ off₃
        have hLL := Mine.two_lists (p2 := (D2, LCg.lst ys2)) hL hL2
        (try dsimp only)
        (try k_fold)
        k_steps
        refine Mine.go ?_
        k_dflt (refine Mine.ne_lists N₃ (List.mem_cons_of_mem _ (List.mem_append_left _ List.mem_cons_self)) List.mem_cons_self hLL.1 hLL.2 (by with_unfolding_all exact Mine.room3) hnn ?_)
        clear hLL
        (try simp only [List.cons_append, List.nil_append] at N₃)
        (try dsimp only)
        (try k_fold)
        k_steps
        refine Mine.goP ?_
        k_dflt (refine LCt.CompSrcT.range (n := (List.take 20 _ : List Int).length) (by rfl) (by k_asm) (by k_asm) (by assumption) (small_one (by omega) (by omega) (by omega) (by omega)) (Mine.rsz0 _) (by rw [PySem.sizeLine_eq]; omega) ?_)
        intro g'
        refine Mine.comp_none True.intro (fun i v I oI C oC D m₂ h tk E' hi hv hC hx F₃ N₃ => ?_) ?_
        · obtain ⟨t, rfl⟩ := hv
          obtain ⟨T, T', hTm, hTm', hP, hr1, hr2⟩ := Mine.kept_at hG hi
          (try dsimp only)
          (try k_fold)
          k_steps
          refine Mine.go ?_
          k_dflt (refine Mine.kept_call (T := T) (T' := T') (by k_asm) (by k_asm) (by k_asm) (by k_asm) (by k_asm) rfl (Mine.TrIn.mono (hT T hTm) (fun p hp => by simp [hp])) (Mine.TrIn.mono (hT T' hTm') (fun p hp => by simp [hp])) hP (by with_unfolding_all exact Mine.room4) (by with_unfolding_all exact Mine.room5) ?_)
          intro h9 tk9 F9 N9
          (try dsimp only)
          (try k_fold)
          k_steps
          exact ⟨rfl, _, _, rfl, F9, N9⟩
        · intro D3 h3 tk3 F₅ N₅ off₅
          (try dsimp only)
          (try k_fold)
          k_steps
end
