import PyProof.Rows.All
import Wide.All
import OpenK.AllK
import Wide.FinOn
import PySem.Challenge.RW_dm0104_04
open PySem PySem.W PyProof.Rows PyProof.V PySem.Spec PySem.Calls
set_option Elab.async false
set_option maxRecDepth 100000
set_option maxHeartbeats 8000000
section
namespace Mine
/-- the end of a turn of a comprehension of texts -/
theorem ct_end {h₀ : Heap} {L I C D : Addr} {m : Str → Option Value} {s₁ : Shared} {oI oC oD : Obj} {S : List (Addr × Obj) → Prop} {r : Str} {t : Tok} {h' : Heap} {tk : Nat} {all news : List (Addr × Obj)} {y : Str}
    (F : Fr h₀ L h' m) (N : News h₀ L h' all) (hy : y = r) (sub : ∀ p ∈ (I, oI) :: (C, oC) :: (D, oD) :: news, p ∈ all) (off : LCg.Off3 I C D news) (hS : S news) :
    LCg.CompEnd h₀ L m s₁ I oI C oC D oD S (fun y news' => KCtEl news r y news') (.str y t) { s₁ with heap := h', toks := tk } :=
  LCg.CompEnd.intro F N news sub off hS ⟨rfl, t, by rw [hy]⟩
/-- a table of one-sign texts -/
theorem getD_one {l : List Str} {d : Str} (h : (d :: l).all (fun x => x.length == 1) = true) (i : Nat) : (l.getD i d).length = 1 := by
  have ha := List.all_eq_true.mp h
  by_cases hk : i < l.length
  · have e : l.getD i d = l[i] := by simp [List.getD, hk]
    rw [e]
    exact eq_of_beq (ha _ (List.mem_cons_of_mem _ (List.getElem_mem hk)))
  · have e : l.getD i d = d := by simp [List.getD, Nat.not_lt.mp hk]
    rw [e]
    exact eq_of_beq (ha _ List.mem_cons_self)
/-- ''.join of one-sign texts: some text of that length -/
theorem join_any {prog : Program} {w : World} {A : Around} {E : Value → Shared → Prop} {s : Shared} {t : Tok} {Q : Value → Shared → Prop} {D : Addr} {ys : List Value} {l : List Int} {g : Int → Str}
    (hl : s.heap.IsList D ys.toArray) (hc : CarriedAll ys (l.map fun a => PyData.str (g a))) (h1 : ∀ a ∈ l, (g a).length = 1) (hn : l.length ≤ 1048576)
    (h : ∀ (d : Str) t' k, d.length = l.length → Q (.str d t') { s with toks := k }) :
    wpAny (model prog w) A (call (.builtin "str.join") [.str (PySem.Str.ofString "") t, .ref D]) Q E s :=
  KT.join_1 hl hc h1 hn fun t' k e => h _ t' k e
end Mine
namespace Mine
/-- + of two texts: some text of at most that length -/
theorem add_any {prog : Program} {w : World} {A : Around} {E : Value → Shared → Prop} {s : Shared} {t u : Tok} {Q : Value → Shared → Prop} {x y : Str} (a b : Nat)
    (hx : x.length ≤ a) (hy : y.length ≤ b) (hs : a + b ≤ 16777216) (h : ∀ (z : Str) t' k, z.length ≤ a + b → Q (.str z t') { s with toks := k }) :
    wpAny (model prog w) A (binaryOp .Add (.str x t) (.str y u)) Q E s :=
  KXadd.add hx hy hs fun t' k e => h _ t' k (by omega)
end Mine
end

section
namespace Mine
/-- a text's signs -/
def sg (x : Str) : List Nat := x.cps.toList
theorem sg_len (x : Str) : (sg x).length = x.length := Array.length_toList
theorem sg_inj {x y : Str} (h : sg x = sg y) : x = y := Str.ext' (Array.toList_inj.mp h)
theorem sg_mk (l : List Nat) : sg ⟨l.toArray⟩ = l := by simp [sg]
theorem sg_app (x y : Str) : sg (x ++ y) = sg x ++ sg y := by simp [sg, Str.cps_append]
theorem getD_sg (x : Str) (i : Nat) : x.cps.getD i 0 = (sg x).getD i 0 := by
  simp [sg, Array.getD_eq_getD_getElem?]
theorem item_pos {x : Str} {i : Int} (h0 : 0 ≤ i) (h1 : i < x.length) : Txt.item x i = ⟨#[(sg x).getD i.toNat 0]⟩ := by
  rw [W.item_meets ⟨h0, h1⟩, getD_sg]
theorem item_neg {x : Str} {i : Int} (h0 : i < 0) (h1 : -(x.length : Int) ≤ i) : Txt.item x i = ⟨#[(sg x).getD (i + x.length).toNat 0]⟩ := by
  rw [eq_of_beq (item_closes_neg h0 h1 rfl), getD_sg]
theorem one_beq (a b : Nat) : ((⟨#[a]⟩ : Str) == ⟨#[b]⟩) = (a == b) := by
  rw [Bool.eq_iff_iff]; simp
theorem one_bne (a b : Nat) : ((⟨#[a]⟩ : Str) != ⟨#[b]⟩) = (a != b) := by
  simp only [bne, one_beq]
theorem sg_slice {x : Str} {i j : Int} (h : 0 ≤ i) (h1 : i ≤ j) (h2 : j ≤ x.length) : sg (Txt.slice x (some i) (some j)) = ((sg x).drop i.toNat).take (j - i).toNat := by
  rw [eq_of_beq (slice_closes (x := x) (i := i) (j := j) ⟨h, h1, by have := sg_len x; unfold sg at this; omega⟩), sg_mk]; rfl
theorem sg_slice_to {x : Str} {j : Int} (h : 0 ≤ j) (h2 : j ≤ x.length) : sg (Txt.slice x none (some j)) = (sg x).take j.toNat := by
  rw [eq_of_beq (slice_closes_to (x := x) (j := j) ⟨h, by have := sg_len x; unfold sg at this; omega⟩), sg_mk]
  simp [sg]
theorem sg_rev (x : Str) (u : Tok) : sg (Txt.sliceBy x none none (-1, u)) = (sg x).reverse := by
  unfold sg
  rw [step_rev_list]
  apply List.ext_getElem?
  intro i
  rw [List.getElem?_map]
  by_cases h : i < x.length
  · have hl : x.cps.toList.length = x.length := Array.length_toList
    rw [List.getElem?_range h, List.getElem?_reverse (by omega), hl]
    have h2 : x.length - 1 - i < x.cps.toList.length := by omega
    rw [List.getElem?_eq_getElem h2]
    have h3 : x.length - 1 - i < x.cps.size := by simpa using h2
    simp [Array.getD, h3]
  · have hl : x.cps.toList.length = x.length := Array.length_toList
    rw [List.getElem?_eq_none (by simpa using h), List.getElem?_eq_none (by rw [List.length_reverse]; omega)]
    rfl
end Mine
end

section
namespace Mine
/-- where the walk is to stand still -/
def still {α : Type} (t : Sem α) : Sem α := t
theorem stop {α : Type} {M : Model} {A : Around} {t : Sem α} {Q : α → Shared → Prop} {E : Value → Shared → Prop} {s : Shared} (h : wpAny M A (still t) Q E s) : wpAny M A t Q E s := h
theorem go {α : Type} {M : Model} {A : Around} {t : Sem α} {Q : α → Shared → Prop} {E : Value → Shared → Prop} {s : Shared} (h : wpAny M A t Q E s) : wpAny M A (still t) Q E s := h
section
variable {prog : Program} {w : World} {A : Around} {E : Value → Shared → Prop} {s : Shared} {env : Env} {h₀ : Heap} {x : Str} {body : List Stmt} {Q : Flow → Shared → Prop}

/-- a turn's end: the invariant again, beside the iterator's own object -/
def LEnd (h₀ : Heap) (L : Addr) (J : (Str → Option Value) → List (Addr × Obj) → Prop) (I : Addr) (oI : Obj) (s₁ s₂ : Shared) : Prop :=
  ∃ h' tk m' news', s₂ = { s₁ with heap := h', toks := tk } ∧ Fr h₀ L h' m' ∧ News h₀ L h' ((I, oI) :: news') ∧ (∀ p ∈ news', p.1 ≠ I) ∧ J m' news'
def LPost (h₀ : Heap) (L : Addr) (J : (Str → Option Value) → List (Addr × Obj) → Prop) (I : Addr) (oI : Obj) (s₁ : Shared) (Q : Flow → Shared → Prop) (f : Flow) (s₂ : Shared) : Prop :=
  match f with
  | .ret v => Q (.ret v) s₂
  | .brk => Q .next s₂
  | _ => LEnd h₀ L J I oI s₁ s₂
theorem LEnd.intro {L : Addr} {J : (Str → Option Value) → List (Addr × Obj) → Prop} {I : Addr} {oI : Obj} {s₁ : Shared} {h' : Heap} {tk : Nat} {m' : Str → Option Value} {all : List (Addr × Obj)}
    (F : Fr h₀ L h' m') (N : News h₀ L h' all) (news' : List (Addr × Obj)) (hs : ∀ p ∈ (I, oI) :: news', p ∈ all) (hI : ∀ p ∈ news', p.1 ≠ I) (hj : J m' news') :
    LEnd h₀ L J I oI s₁ { s₁ with heap := h', toks := tk } := ⟨h', tk, m', news', rfl, F, fun p hp => N p (hs p hp), hI, hj⟩

theorem LEnd.intro2 {L : Addr} {J : (Str → Option Value) → List (Addr × Obj) → Prop} {I D : Addr} {oI o : Obj} {s₁ : Shared} {h' : Heap} {tk : Nat} {m' : Str → Option Value} {rest : List (Addr × Obj)}
    (F : Fr h₀ L h' m') (N : News h₀ L h' ((D, o) :: (I, oI) :: rest)) (hI : ∀ p ∈ (D, o) :: rest, p.1 ≠ I) (hj : J m' ((D, o) :: rest)) :
    LEnd h₀ L J I oI s₁ { s₁ with heap := h', toks := tk } := LEnd.intro F N ((D, o) :: rest) (fun p hp => by
      rcases List.mem_cons.mp hp with rfl | hp
      · exact List.Mem.tail _ (List.Mem.head _)
      · rcases List.mem_cons.mp hp with rfl | hp
        · exact List.Mem.head _
        · exact List.Mem.tail _ (List.Mem.tail _ hp)) hI hj
/-- a frame's name that is known -/
theorem frKnow {L : Addr} {h : Heap} {m : Str → Option Value} {a : Str} {v : Value} (F : Fr h₀ L h m) (e : m a = some v) : Fr h₀ L h (fun y => if y = a then some v else m y) := by
  have : (fun y => if y = a then some v else m y) = m := by
    funext y
    by_cases h : y = a
    · rw [if_pos h, h, e]
    · rw [if_neg h]
  rw [this]; exact F

theorem kn_eq {m : Str → Option Value} {ps : List (Str × Value)} (h : ∀ p ∈ ps, m p.1 = some p.2) : kstB m ps = m := funext fun _ => kstB_eq h fun _ => rfl
theorem frKnows {L : Addr} {h : Heap} {m : Str → Option Value} {u : Value} (ps : List (Str × Value)) (e : ∀ p ∈ ps, m p.1 = some p.2) (F : Fr h₀ L h (fun y => if y = x then some u else m y)) : Fr h₀ L h (fun y => if y = x then some u else kstB m ps y) := by
  rw [kn_eq e]; exact F
theorem frKnows0 {L : Addr} {h : Heap} {m : Str → Option Value} (ps : List (Str × Value)) (e : ∀ p ∈ ps, m p.1 = some p.2) (F : Fr h₀ L h m) : Fr h₀ L h (fun y => kstB m ps y) := by
  rw [kn_eq e]; exact F
theorem range_loop {r : Addr} {a₀ b₀ : Int} {t₀ u₀ v₀ : Tok} {n : Nat} {m₀ : Str → Option Value} {news : List (Addr × Obj)} (J : Nat → (Str → Option Value) → List (Addr × Obj) → Prop)
    (hh : A.handled = none) (hr : IsRange s.heap r a₀ b₀ 1 t₀ u₀ v₀) (hsmall : Builtin.Range.small a₀ b₀ 1 = true) (hn : Builtin.Range.rangeSize a₀ b₀ 1 = (n : Int))
    (F : Fr h₀ env.locals s.heap m₀) (N : News h₀ env.locals s.heap news) (hj : J 0 m₀ news)
    (turn : ∀ (i : Nat) t m₁ news₁ h tk I oI, i < n → J i m₁ news₁ → (∀ p ∈ news₁, p.1 ≠ I) → Fr h₀ env.locals h (fun y => if y = x then some (.int (a₀ + (i : Int)) t) else m₁ y) → News h₀ env.locals h ((I, oI) :: news₁) →
      wpAny (model prog w) A (execs body env) (LPost h₀ env.locals (J (i + 1)) I oI { s with heap := h, toks := tk } Q) E { s with heap := h, toks := tk })
    (done : ∀ m₁ news₁ h tk, J n m₁ news₁ → Fr h₀ env.locals h m₁ → News h₀ env.locals h news₁ → Q .next { s with heap := h, toks := tk }) :
    wpAny (model prog w) A (pyIter (.ref r)) (fun it s₂ => LoopAtV prog w A h₀ env x body Q E it s₂) E s := by
  refine wpAny_pyIter_range hr hsmall ?_
  have W : Walks prog w A s.heap.objs.size [s.heap.objs.size] [s.heap.objs.size] n (fun i v => i < n ∧ ∃ t, v = .int (a₀ + i * 1) t)
      (fun i h => IsRangeIter h s.heap.objs.size (a₀ + (i : Nat) * 1) ((n : Int) - (i : Nat)) 1) := (Walks.range hh _ a₀ 1 n).bound
  refine ⟨_, _, _, n, _, _, m₀, news, J, rfl, W, ?_, ?_, ?_, (by show IsRangeIter _ _ _ _ _; rw [hn]; simpa using Heap.get?_push_size _ rfl), F.push _, (fun p hp => ⟨Heap.get?_push_of_some _ (N p hp).1, (N p hp).2⟩), hj, ?_, ?_⟩
  · intro hm
    exact absurd F.ns.lt ((List.mem_singleton.mp hm) ▸ Nat.lt_irrefl _)
  · intro b hb
    rw [List.mem_singleton.mp hb]
    exact next_is_new F
  · intro p hp hI
    exact absurd (Heap.lt_size (N p hp).1) ((List.mem_singleton.mp hI) ▸ Nat.lt_irrefl _)
  · rintro i v m₁ news₁ s₁ own ⟨hh', tk', rfl⟩ hin ⟨_, t, rfl⟩ hJ hoff hown hown2 _ hst F₁ N₁
    have e1 : a₀ + (i : Int) * 1 = a₀ + (i : Int) := by omega
    rw [e1] at F₁
    have hst' : ∃ oI, hh'.get? s.heap.objs.size = some oI := ⟨_, hst⟩
    obtain ⟨oI, heI⟩ := hst'
    have hI₀ : h₀.get? s.heap.objs.size = none := next_is_new F
    have hIL : s.heap.objs.size ≠ env.locals := fun e => absurd F.ns.lt (e ▸ Nat.lt_irrefl _)
    have N₂ : News h₀ env.locals hh' ((s.heap.objs.size, oI) :: news₁) := fun p hp => by
      rcases List.mem_cons.mp hp with rfl | hp
      · exact ⟨heI, hIL, hI₀⟩
      · exact N₁ p (List.mem_append_right _ hp)
    have hne : ∀ p ∈ news₁, p.1 ≠ s.heap.objs.size := fun p hp e => hoff p hp (by rw [e]; exact List.mem_singleton.mpr rfl)
    refine wpAny_mono (turn i t m₁ news₁ hh' tk' s.heap.objs.size oI hin hJ hne F₁ N₂) (fun f s₂ p => ?_) fun _ _ e => e
    have fin : LEnd h₀ env.locals (J (i + 1)) s.heap.objs.size oI { s with heap := hh', toks := tk' } s₂ → LoopStepU h₀ env.locals [s.heap.objs.size] own (J (i + 1)) { s with heap := hh', toks := tk' } .next s₂ := by
      rintro ⟨h', tk, m', news', e, F', N', hI, hJ'⟩
      refine ⟨rfl, h', tk, m', news', e, F', fun p hp => ?_, fun p hp hq => hI p hp (List.mem_singleton.mp hq), hJ'⟩
      rcases List.mem_append.mp hp with hp | hp
      · have h1 := List.mem_singleton.mp (hown p hp)
        have h2 := hown2 p hp
        have h3 : p = (s.heap.objs.size, oI) := by
          obtain ⟨a, o⟩ := p
          cases h1
          have h2' : hh'.get? s.heap.objs.size = some o := h2
          rw [heI] at h2'; cases h2'; rfl
        rw [h3]; exact N' _ List.mem_cons_self
      · exact N' p (List.mem_cons_of_mem _ hp)
    cases f with
    | ret v => exact .ret p
    | brk => exact .brk p
    | next => exact .next (fin p)
    | cont => exact .cont (fin p)
  · rintro h' tk m' news' F' N' _ hJ
    exact done m' news' h' tk hJ F' N'

/-- a loop over a list that the call has made and the loop leaves alone -/
theorem list_loop {l : Addr} {items : Array Value} {ol : Obj} {m₀ : Str → Option Value} {news : List (Addr × Obj)} (J : Nat → (Str → Option Value) → List (Addr × Obj) → Prop)
    (hh : A.handled = none) (hcls : ol.cls = .type "list") (hdat : ∃ n, ol.data = .seq items n) (hkeep : ∀ i m nx, J i m nx → (l, ol) ∈ nx)
    (F : Fr h₀ env.locals s.heap m₀) (N : News h₀ env.locals s.heap news) (hj : J 0 m₀ news)
    (turn : ∀ (i : Nat) v m₁ news₁ h tk I oI, i < items.size → items[i]? = some v → J i m₁ news₁ → (∀ p ∈ news₁, p.1 ≠ I) → Fr h₀ env.locals h (fun y => if y = x then some v else m₁ y) → News h₀ env.locals h ((I, oI) :: news₁) →
      wpAny (model prog w) A (execs body env) (LPost h₀ env.locals (J (i + 1)) I oI { s with heap := h, toks := tk } Q) E { s with heap := h, toks := tk })
    (done : ∀ m₁ news₁ h tk, J items.size m₁ news₁ → Fr h₀ env.locals h m₁ → News h₀ env.locals h news₁ → Q .next { s with heap := h, toks := tk }) :
    wpAny (model prog w) A (pyIter (.ref l)) (fun it s₂ => LoopAtV prog w A h₀ env x body Q E it s₂) E s := by
  have hl0 := N _ (hkeep _ _ _ hj)
  have hls : s.heap.IsList l items := ⟨ol, hl0.1, hcls, hdat⟩
  have hlt : l < s.heap.objs.size := Heap.lt_size hl0.1
  have hne : l ≠ s.heap.objs.size := Nat.ne_of_lt hlt
  refine wpAny_pyIter_list hls ?_
  have W := Walks.list (prog := prog) (w := w) hh s.heap.objs.size l hne items
  refine ⟨_, _, _, items.size, _, _, m₀, news, J, rfl, W, ?_, ?_, ?_, ⟨⟨_, Heap.get?_push_size _ rfl, rfl, rfl⟩, hls.at fun o e => Heap.get?_push_of_some _ e⟩, F.push _, (fun p hp => ⟨Heap.get?_push_of_some _ (N p hp).1, (N p hp).2⟩), hj, ?_, ?_⟩
  · intro hm
    rcases List.mem_cons.mp hm with e | hm
    · exact absurd F.ns.lt (e ▸ Nat.lt_irrefl _)
    · exact hl0.2.1 (List.mem_singleton.mp hm).symm
  · intro b hb
    rw [List.mem_singleton.mp hb]
    exact next_is_new F
  · intro p hp hI
    exact absurd (Heap.lt_size (N p hp).1) ((List.mem_singleton.mp hI) ▸ Nat.lt_irrefl _)
  · rintro i v m₁ news₁ s₁ own ⟨hh', tk', rfl⟩ hin hP hJ hoff hown hown2 _ hst F₁ N₁
    have hst' : ∃ oI, hh'.get? s.heap.objs.size = some oI := by obtain ⟨⟨o, e, _⟩, _⟩ := hst; exact ⟨o, e⟩
    obtain ⟨oI, heI⟩ := hst'
    have hI₀ : h₀.get? s.heap.objs.size = none := next_is_new F
    have hIL : s.heap.objs.size ≠ env.locals := fun e => absurd F.ns.lt (e ▸ Nat.lt_irrefl _)
    have N₂ : News h₀ env.locals hh' ((s.heap.objs.size, oI) :: news₁) := fun p hp => by
      rcases List.mem_cons.mp hp with rfl | hp
      · exact ⟨heI, hIL, hI₀⟩
      · exact N₁ p (List.mem_append_right _ hp)
    have hne' : ∀ p ∈ news₁, p.1 ≠ s.heap.objs.size := fun p hp e => hoff p hp (by rw [e]; exact List.mem_singleton.mpr rfl)
    have hl1 : hh'.get? l = some ol := (N₂ _ (List.mem_cons_of_mem _ (hkeep _ _ _ hJ))).1
    refine wpAny_mono (turn i v m₁ news₁ hh' tk' s.heap.objs.size oI hin hP hJ hne' F₁ N₂) (fun f s₂ p => ?_) fun _ _ e => e
    have fin : LEnd h₀ env.locals (J (i + 1)) s.heap.objs.size oI { s with heap := hh', toks := tk' } s₂ → LoopStepU h₀ env.locals [s.heap.objs.size] own (J (i + 1)) { s with heap := hh', toks := tk' } .next s₂ := by
      rintro ⟨h', tk, m', news', e, F', N', hI, hJ'⟩
      refine ⟨rfl, h', tk, m', news', e, F', fun p hp => ?_, fun p hp hq => hI p hp (List.mem_singleton.mp hq), hJ'⟩
      rcases List.mem_append.mp hp with hp | hp
      · obtain ⟨a, o⟩ := p
        have h2 : hh'.get? a = some o := hown2 _ hp
        rcases List.mem_cons.mp (hown _ hp) with h1 | h1
        · have h1' : a = s.heap.objs.size := h1
          rw [h1', heI] at h2; cases h2; rw [h1']
          exact N' _ List.mem_cons_self
        · have h1' : a = l := List.mem_singleton.mp h1
          rw [h1', hl1] at h2; cases h2; rw [h1']
          exact N' _ (List.mem_cons_of_mem _ (hkeep _ _ _ hJ'))
      · exact N' p (List.mem_cons_of_mem _ hp)
    cases f with
    | ret v => exact .ret p
    | brk => exact .brk p
    | next => exact .next (fin p)
    | cont => exact .cont (fin p)
  · rintro h' tk m' news' F' N' _ hJ
    exact done m' news' h' tk hJ F' N'

/-- as list_loop, the made things left as they are -/
theorem list_keep {l : Addr} {items : Array Value} {c : Nat} {m₀ : Str → Option Value} {news : List (Addr × Obj)} (K : Nat → (Str → Option Value) → Prop)
    (hh : A.handled = none) (hl : (l, listOf items c) ∈ news)
    (F : Fr h₀ env.locals s.heap m₀) (N : News h₀ env.locals s.heap news) (hk : K 0 m₀)
    (turn : ∀ (i : Nat) v m₁ h tk I oI, items[i]? = some v → K i m₁ → (∀ p ∈ news, p.1 ≠ I) → Fr h₀ env.locals h (fun y => if y = x then some v else m₁ y) → News h₀ env.locals h ((I, oI) :: news) →
      wpAny (model prog w) A (execs body env) (LPost h₀ env.locals (fun m nx => nx = news ∧ K (i + 1) m) I oI { s with heap := h, toks := tk } Q) E { s with heap := h, toks := tk })
    (done : ∀ m₁ h tk, K items.size m₁ → Fr h₀ env.locals h m₁ → News h₀ env.locals h news → Q .next { s with heap := h, toks := tk }) :
    wpAny (model prog w) A (pyIter (.ref l)) (fun it s₂ => LoopAtV prog w A h₀ env x body Q E it s₂) E s := by
  refine list_loop (ol := listOf items c) (items := items) (fun i m nx => nx = news ∧ K i m) hh rfl ⟨c, rfl⟩ (fun i m nx h => by rw [h.1]; exact hl) F N ⟨rfl, hk⟩ ?_ ?_
  · rintro i v m₁ news₁ h tk I oI _ hv ⟨rfl, hK⟩ hne F₁ N₁
    exact turn i v m₁ h tk I oI hv hK hne F₁ N₁
  · rintro m₁ news₁ h tk ⟨rfl, hK⟩ F₁ N₁
    exact done m₁ h tk hK F₁ N₁
theorem range_keep {r : Addr} {a₀ b₀ : Int} {t₀ u₀ v₀ : Tok} {n : Nat} {m₀ : Str → Option Value} {news : List (Addr × Obj)} (K : Nat → (Str → Option Value) → Prop)
    (hh : A.handled = none) (hr : IsRange s.heap r a₀ b₀ 1 t₀ u₀ v₀) (hsmall : Builtin.Range.small a₀ b₀ 1 = true) (hn : Builtin.Range.rangeSize a₀ b₀ 1 = (n : Int))
    (F : Fr h₀ env.locals s.heap m₀) (N : News h₀ env.locals s.heap news) (hk : K 0 m₀)
    (turn : ∀ (i : Nat) t m₁ h tk I oI, i < n → K i m₁ → (∀ p ∈ news, p.1 ≠ I) → Fr h₀ env.locals h (fun y => if y = x then some (.int (a₀ + (i : Int)) t) else m₁ y) → News h₀ env.locals h ((I, oI) :: news) →
      wpAny (model prog w) A (execs body env) (LPost h₀ env.locals (fun m nx => nx = news ∧ K (i + 1) m) I oI { s with heap := h, toks := tk } Q) E { s with heap := h, toks := tk })
    (done : ∀ m₁ h tk, K n m₁ → Fr h₀ env.locals h m₁ → News h₀ env.locals h news → Q .next { s with heap := h, toks := tk }) :
    wpAny (model prog w) A (pyIter (.ref r)) (fun it s₂ => LoopAtV prog w A h₀ env x body Q E it s₂) E s := by
  refine range_loop (fun i m nx => nx = news ∧ K i m) hh hr hsmall hn F N ⟨rfl, hk⟩ ?_ ?_
  · rintro i t m₁ news₁ h tk I oI hi ⟨rfl, hK⟩ hne F₁ N₁
    exact turn i t m₁ h tk I oI hi hK hne F₁ N₁
  · rintro m₁ news₁ h tk ⟨rfl, hK⟩ F₁ N₁
    exact done m₁ h tk hK F₁ N₁
theorem keep_end {L : Addr} {K : (Str → Option Value) → Prop} {I : Addr} {oI : Obj} {s₁ : Shared} {h' : Heap} {tk : Nat} {m' : Str → Option Value} {all news : List (Addr × Obj)}
    (F : Fr h₀ L h' m') (N : News h₀ L h' all) (hI : ∀ p ∈ news, p.1 ≠ I) (hs : ∀ p ∈ (I, oI) :: news, p ∈ all) (hj : K m') :
    LEnd h₀ L (fun m nx => nx = news ∧ K m) I oI s₁ { s₁ with heap := h', toks := tk } := LEnd.intro F N news hs hI ⟨rfl, hj⟩
/-- append to a made list: the rest of the ledger by membership -/
theorem append_mine {L D : Addr} {m : Str → Option Value} {news : List (Addr × Obj)} {us : List Value} {n : Nat} {v : Value} {R : Value → Shared → Prop} (rest : List (Addr × Obj)) (F : Fr h₀ L s.heap m) (N : News h₀ L s.heap news) (hm : (D, listOf us.toArray n) ∈ news)
    (hr : ∀ p ∈ rest, p ∈ news ∧ p.1 ≠ D) (hsz : us.length ≤ 1000000) (h : ∀ h', Fr h₀ L h' m → News h₀ L h' ((D, listOf (us ++ [v]).toArray (n + 1)) :: rest) → R .none { s with heap := h' }) :
    wpAny (model prog w) A (call (.builtin "list.append") [.ref D, v]) R E s := by
  have z := N _ hm
  refine append_at (hsz := by rw [List.size_toArray, PySem.sizeLine_eq]; omega) z.1 fun h' hs ho' => h h' (F.change hs z.2.1 z.2.2) fun p hp => ?_
  rcases List.mem_cons.mp hp with rfl | hp
  · refine ⟨?_, z.2⟩
    rw [ho']; simp
  · have y := N p (hr p hp).1
    exact ⟨(hs.2 _ (hr p hp).2).trans y.1, y.2⟩
end
end Mine
end

section
namespace Mine
section
variable {prog : Program} {w : World} {A : Around} {E : Value → Shared → Prop} {s : Shared} {env : Env} {h₀ : Heap} {x : Str} {body : List Stmt} {Q : Flow → Shared → Prop}
/-- a loop over a list that was there before the call -/
theorem script_loop {l : Addr} {items : Array Value} {m₀ : Str → Option Value} {news : List (Addr × Obj)} (J : Nat → (Str → Option Value) → List (Addr × Obj) → Prop)
    (hh : A.handled = none) (hl : h₀.IsList l items)
    (F : Fr h₀ env.locals s.heap m₀) (N : News h₀ env.locals s.heap news) (hj : J 0 m₀ news)
    (turn : ∀ (i : Nat) v m₁ news₁ h tk I oI, i < items.size → items[i]? = some v → J i m₁ news₁ → (∀ p ∈ news₁, p.1 ≠ I) → Fr h₀ env.locals h (fun y => if y = x then some v else m₁ y) → News h₀ env.locals h ((I, oI) :: news₁) →
      wpAny (model prog w) A (execs body env) (LPost h₀ env.locals (J (i + 1)) I oI { s with heap := h, toks := tk } Q) E { s with heap := h, toks := tk })
    (done : ∀ m₁ news₁ h tk, J items.size m₁ news₁ → Fr h₀ env.locals h m₁ → News h₀ env.locals h news₁ → Q .next { s with heap := h, toks := tk }) :
    wpAny (model prog w) A (pyIter (.ref l)) (fun it s₂ => LoopAtV prog w A h₀ env x body Q E it s₂) E s := by
  have hls : s.heap.IsList l items := hl.at fun o e => F.keep l o e
  obtain ⟨ol, hol, _⟩ := id hl
  have hlL : l < env.locals := Nat.lt_of_lt_of_le (Heap.lt_size hol) F.above
  have hlt : l < s.heap.objs.size := Nat.lt_trans hlL F.ns.lt
  have hne : l ≠ s.heap.objs.size := Nat.ne_of_lt hlt
  refine wpAny_pyIter_list hls ?_
  have W := Walks.list (prog := prog) (w := w) hh s.heap.objs.size l hne items
  refine ⟨_, _, _, items.size, _, _, m₀, news, J, rfl, W, ?_, ?_, ?_, ⟨⟨_, Heap.get?_push_size _ rfl, rfl, rfl⟩, hls.at fun o e => Heap.get?_push_of_some _ e⟩, F.push _, (fun p hp => ⟨Heap.get?_push_of_some _ (N p hp).1, (N p hp).2⟩), hj, ?_, ?_⟩
  · intro hm
    rcases List.mem_cons.mp hm with e | hm
    · exact absurd F.ns.lt (e ▸ Nat.lt_irrefl _)
    · exact absurd hlL ((List.mem_singleton.mp hm) ▸ Nat.lt_irrefl _)
  · intro b hb
    rw [List.mem_singleton.mp hb]
    exact next_is_new F
  · intro p hp hI
    exact absurd (Heap.lt_size (N p hp).1) ((List.mem_singleton.mp hI) ▸ Nat.lt_irrefl _)
  · rintro i v m₁ news₁ s₁ own ⟨hh', tk', rfl⟩ hin hP hJ hoff hown hown2 _ hst F₁ N₁
    have hst' : ∃ oI, hh'.get? s.heap.objs.size = some oI := by obtain ⟨⟨o, e, _⟩, _⟩ := hst; exact ⟨o, e⟩
    obtain ⟨oI, heI⟩ := hst'
    have hI₀ : h₀.get? s.heap.objs.size = none := next_is_new F
    have hIL : s.heap.objs.size ≠ env.locals := fun e => absurd F.ns.lt (e ▸ Nat.lt_irrefl _)
    have N₂ : News h₀ env.locals hh' ((s.heap.objs.size, oI) :: news₁) := fun p hp => by
      rcases List.mem_cons.mp hp with rfl | hp
      · exact ⟨heI, hIL, hI₀⟩
      · exact N₁ p (List.mem_append_right _ hp)
    have hne' : ∀ p ∈ news₁, p.1 ≠ s.heap.objs.size := fun p hp e => hoff p hp (by rw [e]; exact List.mem_singleton.mpr rfl)
    refine wpAny_mono (turn i v m₁ news₁ hh' tk' s.heap.objs.size oI hin hP hJ hne' F₁ N₂) (fun f s₂ p => ?_) fun _ _ e => e
    have fin : LEnd h₀ env.locals (J (i + 1)) s.heap.objs.size oI { s with heap := hh', toks := tk' } s₂ → LoopStepU h₀ env.locals [s.heap.objs.size] own (J (i + 1)) { s with heap := hh', toks := tk' } .next s₂ := by
      rintro ⟨h', tk, m', news', e, F', N', hI, hJ'⟩
      refine ⟨rfl, h', tk, m', news', e, F', fun p hp => ?_, fun p hp hq => hI p hp (List.mem_singleton.mp hq), hJ'⟩
      rcases List.mem_append.mp hp with hp | hp
      · obtain ⟨a, o⟩ := p
        have h2 : hh'.get? a = some o := hown2 _ hp
        rcases List.mem_cons.mp (hown _ hp) with h1 | h1
        · have h1' : a = s.heap.objs.size := h1
          rw [h1', heI] at h2; cases h2; rw [h1']
          exact N' _ List.mem_cons_self
        · have h1' : a = l := List.mem_singleton.mp h1
          have h3 := (N₁ _ (List.mem_append_left _ hp)).2.2
          rw [show (a, o).1 = l from h1', hol] at h3
          cases h3
      · exact N' p (List.mem_cons_of_mem _ hp)
    cases f with
    | ret v => exact .ret p
    | brk => exact .brk p
    | next => exact .next (fin p)
    | cont => exact .cont (fin p)
  · rintro h' tk m' news' F' N' _ hJ
    exact done m' news' h' tk hJ F' N'

end
end Mine
namespace Mine
section
variable {prog : Program} {w : World} {A : Around} {E : Value → Shared → Prop} {s : Shared} {h₀ : Heap}
/-- append a text to a made list of texts, wherever it lies in the ledger -/
theorem app_mid {L D : Addr} {m : Str → Option Value} {l : List (Str × Tok)} {c : Nat} {a : Str} {t : Tok} {R : Value → Shared → Prop} (pre : List (Addr × Obj)) {post : List (Addr × Obj)} (F : Fr h₀ L s.heap m)
    (N : News h₀ L s.heap (pre ++ (D, listOf (strValues l).toArray c) :: post)) (hpre : ∀ p ∈ pre, p.1 ≠ D) (hpost : ∀ p ∈ post, p.1 ≠ D) (hsz : l.length ≤ 1000000)
    (h : ∀ h', Fr h₀ L h' m → News h₀ L h' (pre ++ (D, listOf (strValues (l ++ [(a, t)])).toArray (c + 1)) :: post) → R .none { s with heap := h' }) :
    wpAny (model prog w) A (call (.builtin "list.append") [.ref D, .str a t]) R E s := by
  refine append_mine (us := strValues l) (n := c) (pre ++ post) F N (List.mem_append_right _ List.mem_cons_self) (fun p hp => ?_) (by simp [strValues]; exact hsz) fun h' F' N' => h h' F' fun p hp => ?_
  · rcases List.mem_append.mp hp with hp | hp
    · exact ⟨List.mem_append_left _ hp, hpre p hp⟩
    · exact ⟨List.mem_append_right _ (List.mem_cons_of_mem _ hp), hpost p hp⟩
  · have e : strValues (l ++ [(a, t)]) = strValues l ++ [.str a t] := by simp [strValues]
    rw [e] at hp
    rcases List.mem_append.mp hp with hp | hp
    · exact N' p (List.mem_cons_of_mem _ (List.mem_append_left _ hp))
    · rcases List.mem_cons.mp hp with rfl | hp
      · exact N' _ List.mem_cons_self
      · exact N' p (List.mem_cons_of_mem _ (List.mem_append_right _ hp))
end
end Mine
namespace Mine
theorem ne_nil {D : Addr} : ∀ p ∈ ([] : List (Addr × Obj)), p.1 ≠ D := fun p hp => absurd hp List.not_mem_nil
theorem ne_cons {D a : Addr} {o : Obj} {r : List (Addr × Obj)} (h : @Ne Nat a D) (hr : ∀ p ∈ r, p.1 ≠ D) : ∀ p ∈ (a, o) :: r, p.1 ≠ D := fun p hp => by
  rcases List.mem_cons.mp hp with rfl | hp
  · exact h
  · exact hr p hp
theorem ne_head {D a : Addr} {o : Obj} {r : List (Addr × Obj)} (h : ∀ p ∈ (a, o) :: r, p.1 ≠ D) : @Ne Nat a D ∧ ∀ p ∈ r, p.1 ≠ D := ⟨h _ List.mem_cons_self, fun p hp => h p (List.mem_cons_of_mem _ hp)⟩
end Mine
namespace Mine
section
variable {prog : Program} {w : World} {A : Around} {E : Value → Shared → Prop} {s : Shared}
/-- the last item of a list of texts -/
theorem last_text {value slice : PySem.Expr} {D : Addr} {l : List (Str × Tok)} {a : Str} {t u : Tok} {Q : Value → Shared → Prop} (hl : s.heap.IsList D (strValues (l ++ [(a, t)])).toArray) (h : ∀ t', Q (.str a t') s)
    (hs : subscripted slice false (.ref D) (.int (-1) u) = operate [.ref D, .int (-1) u] (getItem (.ref D) (.int (-1) u)) := by with_unfolding_all rfl) :
    wpAny (model prog w) A (subscriptTail value slice (.ref D) (.int (-1) u)) Q E s := by
  refine item_strsTneg hl (by decide) (by simp; omega) (by decide) (fun y t' e => ?_) hs
  have : (-1 + ((l ++ [(a, t)]).length : Int)).toNat = l.length := by simp; omega
  rw [this, List.map_append, List.getElem?_append_right (by simp)] at e
  simp at e
  rw [← e]; exact h t'
end
end Mine
end

section
namespace Mine
section
variable {prog : Program} {w : World} {A : Around} {E : Value → Shared → Prop} {s : Shared} {env : Env} {h₀ : Heap} {x : Str} {body : List Stmt} {Q : Flow → Shared → Prop}
theorem pyIter_strX {x' : Str} {t : Tok} {R : Value → Shared → Prop}
    (hQ : ∀ (o : Obj) (St : Nat → Heap → Prop), (∀ A' : Around, A'.handled = none → Walks prog w A' s.heap.objs.size [s.heap.objs.size] [s.heap.objs.size] x'.cps.size (SignAt x') St) → (∀ i h, St i h → ∃ o, h.get? s.heap.objs.size = some o) → St 0 (s.heap.push o) →
      R (.ref s.heap.objs.size) { s with heap := s.heap.push o }) : wpAny (model prog w) A (pyIter (.str x' t)) R E s := by
  cases ha : x'.cps.all (· < 128)
  · exact wpAny_pyIter_wide ha (hQ _ _ (fun A' hA => Walks.strWide hA _ x' t) (fun i h ⟨o, e, _⟩ => ⟨o, e⟩) ⟨_, Heap.get?_push_size _ rfl, rfl, rfl⟩)
  · exact wpAny_pyIter_ascii ha (hQ _ _ (fun A' hA => Walks.strAscii hA _ x' t) (fun i h ⟨o, e, _⟩ => ⟨o, e⟩) ⟨_, Heap.get?_push_size _ rfl, rfl, rfl⟩)
/-- a loop over the signs of a text -/
theorem text_loop {xt : Str} {tx : Tok} {m₀ : Str → Option Value} {news : List (Addr × Obj)} (J : Nat → (Str → Option Value) → List (Addr × Obj) → Prop)
    (hh : A.handled = none)
    (F : Fr h₀ env.locals s.heap m₀) (N : News h₀ env.locals s.heap news) (hj : J 0 m₀ news)
    (turn : ∀ (i c : Nat) t m₁ news₁ h tk I oI, xt.cps[i]? = some c → J i m₁ news₁ → (∀ p ∈ news₁, p.1 ≠ I) → Fr h₀ env.locals h (fun y => if y = x then some (.str ⟨#[c]⟩ t) else m₁ y) → News h₀ env.locals h ((I, oI) :: news₁) →
      wpAny (model prog w) A (execs body env) (LPost h₀ env.locals (J (i + 1)) I oI { s with heap := h, toks := tk } Q) E { s with heap := h, toks := tk })
    (done : ∀ m₁ news₁ h tk, J xt.length m₁ news₁ → Fr h₀ env.locals h m₁ → News h₀ env.locals h news₁ → Q .next { s with heap := h, toks := tk }) :
    wpAny (model prog w) A (pyIter (.str xt tx)) (fun it s₂ => LoopAtV prog w A h₀ env x body Q E it s₂) E s := by
  refine pyIter_strX fun o St hW hSt hst => ?_
  have W := hW A hh
  refine ⟨_, _, _, xt.cps.size, _, _, m₀, news, J, rfl, W, ?_, ?_, ?_, hst, F.push _, (fun p hp => ⟨Heap.get?_push_of_some _ (N p hp).1, (N p hp).2⟩), hj, ?_, ?_⟩
  · intro hm
    exact absurd F.ns.lt ((List.mem_singleton.mp hm) ▸ Nat.lt_irrefl _)
  · intro b hb
    rw [List.mem_singleton.mp hb]
    exact next_is_new F
  · intro p hp hI
    exact absurd (Heap.lt_size (N p hp).1) ((List.mem_singleton.mp hI) ▸ Nat.lt_irrefl _)
  · rintro i v m₁ news₁ s₁ own ⟨hh', tk', rfl⟩ hin ⟨c, t, hc, rfl⟩ hJ hoff hown hown2 _ hst F₁ N₁
    have hst' : ∃ oI, hh'.get? s.heap.objs.size = some oI := hSt _ _ hst
    obtain ⟨oI, heI⟩ := hst'
    have hI₀ : h₀.get? s.heap.objs.size = none := next_is_new F
    have hIL : s.heap.objs.size ≠ env.locals := fun e => absurd F.ns.lt (e ▸ Nat.lt_irrefl _)
    have N₂ : News h₀ env.locals hh' ((s.heap.objs.size, oI) :: news₁) := fun p hp => by
      rcases List.mem_cons.mp hp with rfl | hp
      · exact ⟨heI, hIL, hI₀⟩
      · exact N₁ p (List.mem_append_right _ hp)
    have hne : ∀ p ∈ news₁, p.1 ≠ s.heap.objs.size := fun p hp e => hoff p hp (by rw [e]; exact List.mem_singleton.mpr rfl)
    refine wpAny_mono (turn i c t m₁ news₁ hh' tk' s.heap.objs.size oI hc hJ hne F₁ N₂) (fun f s₂ p => ?_) fun _ _ e => e
    have fin : LEnd h₀ env.locals (J (i + 1)) s.heap.objs.size oI { s with heap := hh', toks := tk' } s₂ → LoopStepU h₀ env.locals [s.heap.objs.size] own (J (i + 1)) { s with heap := hh', toks := tk' } .next s₂ := by
      rintro ⟨h', tk, m', news', e, F', N', hI, hJ'⟩
      refine ⟨rfl, h', tk, m', news', e, F', fun p hp => ?_, fun p hp hq => hI p hp (List.mem_singleton.mp hq), hJ'⟩
      rcases List.mem_append.mp hp with hp | hp
      · have h1 := List.mem_singleton.mp (hown p hp)
        have h2 := hown2 p hp
        have h3 : p = (s.heap.objs.size, oI) := by
          obtain ⟨a, o⟩ := p
          cases h1
          have h2' : hh'.get? s.heap.objs.size = some o := h2
          rw [heI] at h2'; cases h2'; rfl
        rw [h3]; exact N' _ List.mem_cons_self
      · exact N' p (List.mem_cons_of_mem _ hp)
    cases f with
    | ret v => exact .ret p
    | brk => exact .brk p
    | next => exact .next (fin p)
    | cont => exact .cont (fin p)
  · rintro h' tk m' news' F' N' _ hJ
    exact done m' news' h' tk hJ F' N'
end
end Mine
end

section
namespace Mine
section
variable {prog : Program} {w : World} {A : Around} {E : Value → Shared → Prop} {s : Shared} {env : Env} {h₀ : Heap} {xi xc : Str} {body : List Stmt} {Q : Flow → Shared → Prop}

/-- the loop with two names stands before its first turn -/
def PairM (prog : Program) (w : World) (A : Around) (env : Env) (xi xc : Str) (body : List Stmt) (Q : Flow → Shared → Prop) (E : Value → Shared → Prop) (it : Value) (s₂ : Shared) : Prop :=
  ∀ pk pv pt x1, codeAny (model prog w) A (.forLoop (.Tuple [.Name xi pk, .Name xc pv] x1 pt) it body [] env) (fun r s' => match r with | .ok f => Q f s' | .error e => cameBackBy (model prog w) A env E e s') s₂

theorem For_pairM {pk pv pt pos : Pos} {x1 : Nat} {iter : Expr}
    (h : wpAny (model prog w) A (eval iter env) (fun xv s₁ => wpAny (model prog w) A (pyIter xv) (fun it s₂ => PairM prog w A env xi xc body Q E it s₂) E s₁) E s)
    (hs : ∀ x, foldedSetIterable iter env x = pure x) :
    wpAny (model prog w) A (exec (.For (.Tuple [.Name xi pk, .Name xc pv] x1 pt) iter body [] pos) env) Q E s :=
  wpAny_For (wpAny_mono h (fun _ _ h₁ => wpAny_mono h₁ (fun _ _ h₂ => h₂ pk pv pt x1) fun _ _ e => e) fun _ _ e => e) hs

def MEnd (h₀ : Heap) (L : Addr) (K : List Value → (Str → Option Value) → Prop) (n : Nat) (l : Addr) (rest : List (Addr × Obj)) (s₁ s₂ : Shared) : Prop :=
  ∃ h' tk m' us c, s₂ = { s₁ with heap := h', toks := tk } ∧ Fr h₀ L h' m' ∧ News h₀ L h' ((l, listOf us.toArray c) :: rest) ∧ us.length = n ∧ K us m'
def MPost (h₀ : Heap) (L : Addr) (K : List Value → (Str → Option Value) → Prop) (n : Nat) (l : Addr) (rest : List (Addr × Obj)) (s₁ : Shared) (Q : Flow → Shared → Prop) (f : Flow) (s₂ : Shared) : Prop :=
  match f with
  | .ret v => Q (.ret v) s₂
  | .brk => Q .next s₂
  | _ => MEnd h₀ L K n l rest s₁ s₂

/-- a loop over the pairs of a made list that the turn may store into -/
theorem enum_mut {l e it : Addr} {n c : Nat} {vs : List Value} {rest : List (Addr × Obj)} {m : Str → Option Value} (K : Nat → List Value → (Str → Option Value) → Prop)
    (hh : A.handled = none) (hxi : env.kindOf xi = some .local) (hxc : env.kindOf xc = some .local)
    (hp : (env.scope.kind == .class || (env.scope.kind == .module && env.locals != env.globals)) = false)
    (he : IsEnum s.heap e it 0 .none) (hit : s.heap.IsListIter it l 0) (hei : e ≠ it) (hle : l ≠ e) (hli : l ≠ it) (heL : e ≠ env.locals) (hiL : it ≠ env.locals)
    (he0 : h₀.get? e = none) (hi0 : h₀.get? it = none) (hr : ∀ p ∈ rest, p.1 ≠ e ∧ p.1 ≠ it)
    (F : Fr h₀ env.locals s.heap m) (N : News h₀ env.locals s.heap ((l, listOf vs.toArray c) :: rest)) (hv : vs.length = n) (hK : K 0 vs m)
    (turn : ∀ (i : Nat) v t us cc m₁ h tk oe oi, us.length = n → us[i]? = some v → K i us m₁ →
      Fr h₀ env.locals h (fun y => if y = xc then some v else if y = xi then some (.int i t) else m₁ y) → News h₀ env.locals h ((l, listOf us.toArray cc) :: (e, oe) :: (it, oi) :: rest) →
      wpAny (model prog w) A (execs body env) (MPost h₀ env.locals (K (i + 1)) n l ((e, oe) :: (it, oi) :: rest) { s with heap := h, toks := tk } Q) E { s with heap := h, toks := tk })
    (done : ∀ us cc m₁ h tk, us.length = n → K n us m₁ → Fr h₀ env.locals h m₁ → News h₀ env.locals h ((l, listOf us.toArray cc) :: rest) → Q .next { s with heap := h, toks := tk })
    (hE : PassesOwn (model prog w) A env E := by passes_own) :
    wpAny (model prog w) A (pyIter (.ref e)) (fun it s₂ => PairM prog w A env xi xc body Q E it s₂) E s := by
  refine wpAny_pyIter_enum he ?_
  intro pk pv pt x1
  refine codeAny_forLoop_any
    (fun k s' => ∃ h' tk m' us cc i old, s' = { s with heap := h', toks := tk } ∧ IsEnum h' e it ((i : Nat) : Int) old ∧ h'.IsListIter it l i ∧ Fr h₀ env.locals h' m' ∧
      News h₀ env.locals h' ((l, listOf us.toArray cc) :: rest) ∧ us.length = n ∧ K i us m' ∧ i ≤ n ∧ k = n + 1 - i) ?_ (n + 1)
    ⟨s.heap, s.toks, m, vs, c, 0, .none, rfl, he, hit, F, N, hv, hK, Nat.zero_le _, rfl⟩
  rintro k s' ⟨H, tk, m', us, cc, i, old, rfl, he', hit', F', N', hus, hK', hi, rfl⟩
  have hl' : H.IsList l us.toArray := ⟨_, (N' _ List.mem_cons_self).1, rfl, cc, rfl⟩
  have keep : ∀ h₁ : Heap, (∀ b o, b ≠ e → b ≠ it → H.get? b = some o → h₁.get? b = some o) → Fr h₀ env.locals h₁ m' ∧ News h₀ env.locals h₁ ((l, listOf us.toArray cc) :: rest) := fun h₁ hk =>
    ⟨⟨F'.ns.at' fun o x => hk _ o (Ne.symm heL) (Ne.symm hiL) x, fun b o x => hk b o (fun q => by rw [q, he0] at x; cases x) (fun q => by rw [q, hi0] at x; cases x) (F'.keep b o x), F'.above⟩,
     fun p hp => by
      rcases List.mem_cons.mp hp with rfl | hq
      · exact ⟨hk _ _ hle hli (N' _ hp).1, (N' _ hp).2⟩
      · exact ⟨hk _ _ (hr p hq).1 (hr p hq).2 (N' _ hp).1, (N' _ hp).2⟩⟩
  cases hv' : us.toArray[i]? with
  | none =>
    have hsz : i = n := Nat.le_antisymm hi (by have := Array.getElem?_eq_none_iff.mp hv'; simpa [hus] using this)
    refine wpAny_pyNext_enum_end hh he' hit' hl' hv' fun h₁ he₁ => wpAny_execs_nil ?_
    obtain ⟨F₁, N₁⟩ := keep h₁ fun b o _ hb x => he₁ b o hb x
    exact done us cc m' h₁ tk hus (hsz ▸ hK') F₁ N₁
  | some v =>
    have hlt : i < n := by have := (Array.getElem?_eq_some_iff.mp hv').1; simpa [hus] using this
    have hv2 : us[i]? = some v := by simpa using hv'
    have heH : e < H.objs.size := Heap.lt_size he'
    obtain ⟨oi, hoi, _⟩ := id hit'
    have hiH : it < H.objs.size := Heap.lt_size hoi
    refine wpAny_pyNext_enum_item he' hit' hl' hv' hei fun h₁ heo hit₁ ht₁ hz₁ hk₁ => ?_
    refine wpAny_letOwnedTupleGo_enum heo fun h₂ he₂ hs₂ => ?_
    replace hs₂ : Heap.SameBut e h₁ h₂ := hs₂
    have ht₂ : h₂.IsTuple H.objs.size #[.int i tk, v] := ⟨_, (hs₂.2 _ (Nat.ne_of_gt heH)).trans ht₁, rfl, _, rfl⟩
    refine wpAny_assign_Tuple hh ht₂ rfl rfl fun h₃ hx₃ => ?_
    replace hx₃ : Heap.ExtBut h₂.objs.size h₂ h₃ := hx₃
    have up₃ : ∀ b o, h₂.get? b = some o → h₃.get? b = some o := fun b o x => hx₃ b o (Nat.ne_of_lt (Heap.lt_size x)) x
    obtain ⟨F₃, N₃⟩ := keep h₃ fun b o hb hb' x => up₃ b o (hs₂.extBut b o hb (hk₁ b o hb hb' x))
    show wpAny _ A (do holding [v] (assign (.Name xi pk) env (.int i tk)); do holding [] (assign (.Name xc pv) env v); pure ()) _ _ _
    refine wpAny_bind (wpAny_holding (wpAny_assign_Name (wpAny_storeName_local hxi F₃.ns (fun h₄ hn₄ hs₄ => ?_) hp)))
    replace hs₄ : Heap.SameBut env.locals h₃ h₄ := hs₄
    have F₄ := F₃.set hn₄ hs₄
    refine wpAny_bind (wpAny_holding (wpAny_assign_Name (wpAny_storeName_local hxc F₄.ns (fun h₅ hn₅ hs₅ => wpAny_pure ?_) hp)))
    replace hs₅ : Heap.SameBut env.locals h₄ h₅ := hs₅
    have F₅ := F₄.set hn₅ hs₅
    have N₅ : News h₀ env.locals h₅ ((l, listOf us.toArray cc) :: rest) := (N₃.set hs₄).set hs₅
    have up₅ : ∀ b o, b ≠ env.locals → h₂.get? b = some o → h₅.get? b = some o := fun b o hb x => hs₅.extBut b o hb (hs₄.extBut b o hb (up₃ b o x))
    have he₅ : IsEnum h₅ e it ((i : Int) + 1) v := up₅ e _ heL he₂
    have hit₅ : h₅.IsListIter it l (i + 1) := (hit₁.extBut hs₂.extBut (Ne.symm hei)).at fun o x => up₅ it o hiL x
    obtain ⟨oi₅, hoi₅, hoi₅'⟩ := id hit₅
    obtain ⟨oe₅, hoe₅⟩ : ∃ o, h₅.get? e = some o := ⟨_, he₅⟩
    have hoE := hoe₅.symm.trans he₅
    have N₆ : News h₀ env.locals h₅ ((l, listOf us.toArray cc) :: (e, oe₅) :: (it, oi₅) :: rest) := fun p hp => by
      rcases List.mem_cons.mp hp with rfl | hp
      · exact N₅ _ List.mem_cons_self
      rcases List.mem_cons.mp hp with rfl | hp
      · exact ⟨hoe₅, heL, he0⟩
      rcases List.mem_cons.mp hp with rfl | hp
      · exact ⟨hoi₅, hiL, hi0⟩
      · exact N₅ _ (List.mem_cons_of_mem _ hp)
    refine wpAny_mono (wpAny_passesOwn hE (turn i v tk us cc m' h₅ _ oe₅ oi₅ hus hv2 hK' F₅ N₆)) (fun f s₃ h₆ => ?_) fun _ _ x => x
    have fin : MEnd h₀ env.locals (K (i + 1)) n l ((e, oe₅) :: (it, oi₅) :: rest) { s with heap := h₅, toks := tk + 1 } s₃ → ∃ k', k' < n + 1 - i ∧ ∃ h' tk m' us cc i old, s₃ = { s with heap := h', toks := tk } ∧ IsEnum h' e it ((i : Nat) : Int) old ∧ h'.IsListIter it l i ∧ Fr h₀ env.locals h' m' ∧
        News h₀ env.locals h' ((l, listOf us.toArray cc) :: rest) ∧ us.length = n ∧ K i us m' ∧ i ≤ n ∧ k' = n + 1 - i := by
      rintro ⟨h', tk', m₂, us', c', rfl, F₇, N₇, hus', hK₇⟩
      refine ⟨n + 1 - (i + 1), by omega, h', tk', m₂, us', c', i + 1, v, rfl, ?_, ?_, F₇, ?_, hus', hK₇, hlt, rfl⟩
      · have e1 : ((i + 1 : Nat) : Int) = (i : Int) + 1 := by push_cast; rfl
        rw [e1]
        exact (N₇ _ (List.mem_cons_of_mem _ List.mem_cons_self)).1.trans hoE
      · exact ⟨oi₅, (N₇ _ (List.mem_cons_of_mem _ (List.mem_cons_of_mem _ List.mem_cons_self))).1, hoi₅'⟩
      · intro p hp
        rcases List.mem_cons.mp hp with rfl | hp
        · exact N₇ _ List.mem_cons_self
        · exact N₇ _ (List.mem_cons_of_mem _ (List.mem_cons_of_mem _ (List.mem_cons_of_mem _ hp)))
    cases f with
    | ret v => exact h₆
    | brk => exact h₆
    | next => exact fin h₆
    | cont => exact fin h₆

/-- enumerate over a made list -/
theorem call_enum_mut {l L : Addr} {c : Nat} {vs : List Value} {rest : List (Addr × Obj)} {m : Str → Option Value} {R : Value → Shared → Prop}
    (F : Fr h₀ L s.heap m) (N : News h₀ L s.heap ((l, listOf vs.toArray c) :: rest))
    (h : ∀ h' e it, IsEnum h' e it 0 .none → h'.IsListIter it l 0 → e ≠ it → l ≠ e → l ≠ it → e ≠ L → it ≠ L → h₀.get? e = none → h₀.get? it = none → (∀ p ∈ rest, p.1 ≠ e ∧ p.1 ≠ it) → Fr h₀ L h' m → News h₀ L h' ((l, listOf vs.toArray c) :: rest) →
      R (.ref e) { s with heap := h' }) :
    wpAny (model prog w) A (call (.type "enumerate") [.ref l]) R E s := by
  have hls : s.heap.IsList l vs.toArray := ⟨_, (N _ List.mem_cons_self).1, rfl, c, rfl⟩
  have hLs : L < s.heap.objs.size := F.ns.lt
  have hab : h₀.objs.size ≤ L := F.above
  have hlt : l < s.heap.objs.size := Heap.lt_size (N _ List.mem_cons_self).1
  refine call_enumerate_list hls fun h' he hit hsz hk => ?_
  refine h h' _ _ he hit (Nat.succ_ne_self _) (Nat.ne_of_lt (Nat.lt_succ_of_lt hlt)) (Nat.ne_of_lt hlt) (Nat.ne_of_gt (Nat.lt_succ_of_lt hLs)) (Nat.ne_of_gt hLs)
    (Heap.get?_none_of_le (Nat.le_trans hab (Nat.le_of_lt (Nat.lt_succ_of_lt hLs)))) (Heap.get?_none_of_le (Nat.le_trans hab (Nat.le_of_lt hLs))) (fun p hp => ?_)
    ⟨F.ns.keeps hk, fun b o e => hk b o (F.keep b o e), F.above⟩ fun p hp => ⟨hk _ _ (N p hp).1, (N p hp).2⟩
  have hq : p.1 < s.heap.objs.size := Heap.lt_size (N p (List.mem_cons_of_mem _ hp)).1
  exact ⟨Nat.ne_of_lt (Nat.lt_succ_of_lt hq), Nat.ne_of_lt hq⟩
end
end Mine
namespace Mine
section
variable {prog : Program} {w : World} {A : Around} {E : Value → Shared → Prop} {s : Shared} {env : Env} {h₀ : Heap} {xi xc : Str} {body : List Stmt} {Q : Flow → Shared → Prop}
def PEnd (h₀ : Heap) (L : Addr) (K : (Str → Option Value) → Prop) (all : List (Addr × Obj)) (s₁ s₂ : Shared) : Prop :=
  ∃ h' tk m', s₂ = { s₁ with heap := h', toks := tk } ∧ Fr h₀ L h' m' ∧ News h₀ L h' all ∧ K m'
def PPost (h₀ : Heap) (L : Addr) (K Kd : (Str → Option Value) → Prop) (all : List (Addr × Obj)) (s₁ : Shared) (Q : Flow → Shared → Prop) (f : Flow) (s₂ : Shared) : Prop :=
  match f with
  | .ret v => Q (.ret v) s₂
  | .brk => PEnd h₀ L Kd all s₁ s₂
  | _ => PEnd h₀ L K all s₁ s₂
theorem PEnd.intro {L : Addr} {K : (Str → Option Value) → Prop} {all : List (Addr × Obj)} {s₁ : Shared} {h' : Heap} {tk : Nat} {m' : Str → Option Value} (F : Fr h₀ L h' m') (N : News h₀ L h' all) (hk : K m') :
    PEnd h₀ L K all s₁ { s₁ with heap := h', toks := tk } := ⟨h', tk, m', rfl, F, N, hk⟩
/-- a loop over the pairs of a text -/
theorem pair_text {as : List Str} {e : Addr} {L : Addr} {m : Str → Option Value} {news : List (Addr × Obj)} (K : Nat → (Str → Option Value) → Prop) (Kd : (Str → Option Value) → Prop)
    (S : PairSrcL prog w A E h₀ L ItemKind.str as (.ref e) s m news) (eL : env.locals = L) (hk : K 0 m)
    (turn : ∀ (i : Nat) a t u m₁ h tk own, as[i]? = some a → K i m₁ → (∀ p ∈ own, ∀ q ∈ news, p.1 ≠ q.1) →
      Fr h₀ env.locals h (fun y => if y = xc then some (.str a u) else if y = xi then some (.int i t) else m₁ y) → News h₀ env.locals h (own ++ news) →
      wpAny (model prog w) A (execs body env) (PPost h₀ env.locals (K (i + 1)) Kd (own ++ news) { s with heap := h, toks := tk } Q) E { s with heap := h, toks := tk })
    (last : ∀ m₁, K as.length m₁ → Kd m₁)
    (after : ∀ m₁ h tk, Kd m₁ → Fr h₀ env.locals h m₁ → News h₀ env.locals h news → Q .next { s with heap := h, toks := tk }) :
    wpAny (model prog w) A (pyIter (.ref e)) (fun it s₂ => PairAt3 prog w A h₀ env xi xc body Q E it s₂) E s := by
  refine S env eL xi xc body Q (fun i m₁ nx => nx = news ∧ K i m₁) ⟨rfl, hk⟩ ?_ ?_
  · rintro i a t v m₁ news₁ s₁ own ⟨h, tk, rfl⟩ ha hka ⟨rfl, hK⟩ _ hown F₁ N₁
    obtain ⟨u, rfl⟩ := ItemKind.str_is hka
    refine wpAny_mono (turn i a t u m₁ h tk own ha hK hown F₁ N₁) (fun f s₂ p => ?_) fun _ _ e => e
    cases f with
    | ret v => exact p
    | brk =>
      obtain ⟨h', tk', m', rfl, F', N', hk'⟩ := p
      exact after m' h' tk' hk' F' N'.right
    | next =>
      obtain ⟨h', tk', m', rfl, F', N', hk'⟩ := p
      exact ⟨rfl, h', tk', m', _, rfl, F', N', rfl, rfl, hk'⟩
    | cont =>
      obtain ⟨h', tk', m', rfl, F', N', hk'⟩ := p
      exact ⟨rfl, h', tk', m', _, rfl, F', N', rfl, rfl, hk'⟩
  · rintro h' tk m' news' F' N' _ ⟨rfl, hK⟩
    exact after m' h' tk (last _ hK) F' N'
end
end Mine
namespace Mine
section
variable {prog : Program} {w : World} {A : Around} {E : Value → Shared → Prop} {s : Shared} {env : Env} {h₀ : Heap} {xi xc xl : Str} {body : List Stmt} {Q : Flow → Shared → Prop}
def sp : Str := Str.ofString " "
/-- the place where the loop over the first row leaves its index -/
def Marg (as : List Str) (j : Nat) : Prop := j < as.length ∧ (∀ k, k < j → as[k]? = some sp) ∧ (as[j]? ≠ some sp ∨ j + 1 = as.length)
def LeadK (xl xi : Str) (D : Addr) (as : List Str) (i : Nat) (m₁ : Str → Option Value) : Prop :=
  m₁ xl = some (.ref D) ∧ (∀ k, k < i → as[k]? = some sp) ∧ (0 < i → ∃ t, m₁ xi = some (.int ((i : Int) - 1) t))
def LeadD (xl xi : Str) (D : Addr) (as : List Str) (m₁ : Str → Option Value) : Prop := m₁ xl = some (.ref D) ∧ ∃ j : Nat, ∃ t, m₁ xi = some (.int j t) ∧ Marg as j
theorem pair_lead {as : List Str} {e D : Addr} {L : Addr} {m : Str → Option Value} {news : List (Addr × Obj)}
    (S : PairSrcL prog w A E h₀ L ItemKind.str as (.ref e) s m news) (eL : env.locals = L) (hm : m xl = some (.ref D)) (hne : 0 < as.length)
    (turn : ∀ (i : Nat) a t u m₁ h tk own, as[i]? = some a → LeadK xl xi D as i m₁ → (∀ p ∈ own, ∀ q ∈ news, p.1 ≠ q.1) →
      Fr h₀ env.locals h (fun y => if y = xc then some (.str a u) else if y = xi then some (.int i t) else m₁ y) → News h₀ env.locals h (own ++ news) →
      wpAny (model prog w) A (execs body env) (PPost h₀ env.locals (LeadK xl xi D as (i + 1)) (LeadD xl xi D as) (own ++ news) { s with heap := h, toks := tk } Q) E { s with heap := h, toks := tk })
    (after : ∀ (j : Nat) t m₁ h tk, m₁ xl = some (.ref D) → m₁ xi = some (.int j t) → Marg as j → Fr h₀ env.locals h m₁ → News h₀ env.locals h news → Q .next { s with heap := h, toks := tk }) :
    wpAny (model prog w) A (pyIter (.ref e)) (fun it s₂ => PairAt3 prog w A h₀ env xi xc body Q E it s₂) E s := by
  refine pair_text (LeadK xl xi D as) (LeadD xl xi D as) S eL ⟨hm, fun k hk => absurd hk (Nat.not_lt_zero _), fun h => absurd h (Nat.lt_irrefl _)⟩ turn ?_ ?_
  · rintro m₁ ⟨h1, h2, h3⟩
    obtain ⟨t, ht⟩ := h3 hne
    refine ⟨h1, as.length - 1, t, ?_, Nat.sub_lt hne Nat.one_pos, fun k hk => h2 k (Nat.lt_of_lt_of_le hk (Nat.sub_le ..)), .inr (Nat.sub_add_cancel hne)⟩
    rw [ht]
    have : ((as.length : Int) - 1) = ((as.length - 1 : Nat) : Int) := by omega
    rw [this]
  · rintro m₁ h tk ⟨h1, j, t, h2, h3⟩ F₁ N₁
    exact after j t m₁ h tk h1 h2 h3 F₁ N₁
theorem lead_next {as : List Str} {D : Addr} {i : Nat} {a : Str} {t : Tok} {m₁ m' : Str → Option Value} (ha : as[i]? = some a) (hs : a = sp) (h : LeadK xl xi D as i m₁) (e1 : m' xl = m₁ xl) (e2 : m' xi = some (.int i t)) : LeadK xl xi D as (i + 1) m' := by
  refine ⟨e1.trans h.1, fun k hk => ?_, fun _ => ⟨t, ?_⟩⟩
  · rcases Nat.lt_succ_iff_lt_or_eq.mp hk with hk | rfl
    · exact h.2.1 k hk
    · rw [ha, hs]
  · rw [e2]
    have : ((i + 1 : Nat) : Int) - 1 = (i : Int) := by omega
    rw [this]
theorem lead_brk {as : List Str} {D : Addr} {i : Nat} {a : Str} {t : Tok} {m₁ m' : Str → Option Value} (ha : as[i]? = some a) (hs : a ≠ sp) (h : LeadK xl xi D as i m₁) (e1 : m' xl = m₁ xl) (e2 : m' xi = some (.int i t)) : LeadD xl xi D as m' :=
  ⟨e1.trans h.1, i, t, e2, (List.getElem?_eq_some_iff.mp ha).1, h.2.1, .inl (by rw [ha]; intro q; exact hs (Option.some.inj q))⟩
end
end Mine

namespace Mine
theorem frKnow2 {h₀ : Heap} {L : Addr} {h : Heap} {m : Str → Option Value} {a b : Str} {u v : Value} (h1 : m a = some u) (h2 : m b = some v) (F : Fr h₀ L h m) : Fr h₀ L h (fun y => kstB m [(a, u), (b, v)] y) :=
  frKnows0 [(a, u), (b, v)] (fun p hp => by
    rcases List.mem_cons.mp hp with rfl | hp
    · exact h1
    · rw [List.mem_singleton.mp hp]; exact h2) F
theorem frKnows2 {h₀ : Heap} {L : Addr} {h : Heap} {m : Str → Option Value} {a b x y : Str} {u v ux uy : Value} (h1 : m a = some u) (h2 : m b = some v) (F : Fr h₀ L h (fun z => if z = x then some ux else if z = y then some uy else m z)) :
    Fr h₀ L h (fun z => if z = x then some ux else if z = y then some uy else kstB m [(a, u), (b, v)] z) := by
  have e : kstB m [(a, u), (b, v)] = m := kn_eq (fun p hp => by
    rcases List.mem_cons.mp hp with rfl | hp
    · exact h1
    · rw [List.mem_singleton.mp hp]; exact h2)
  rw [e]; exact F
end Mine

namespace Mine
section
variable {prog : Program} {w : World} {A : Around} {E : Value → Shared → Prop} {s : Shared} {env : Env} {h₀ : Heap} {xi xc xl xk : Str} {body : List Stmt} {Q : Flow → Shared → Prop}
/-- rows before i are cut, the others are as they were -/
def MutK (xl xk : Str) (D : Addr) (kv : Value) (cut : Str → Str) (ps : List Str) (i : Nat) (us : List Value) (m₁ : Str → Option Value) : Prop :=
  m₁ xl = some (.ref D) ∧ m₁ xk = some kv ∧ ∃ l : List (Str × Tok), us = strValues l ∧ l.map (·.1) = (ps.take i).map cut ++ ps.drop i
theorem enum_cut {D e it : Addr} {kv : Value} {l₀ : List (Str × Tok)} {c : Nat} {rest : List (Addr × Obj)} {m : Str → Option Value} (cut : Str → Str)
    (hh : A.handled = none) (hxi : env.kindOf xi = some .local) (hxc : env.kindOf xc = some .local)
    (hp : (env.scope.kind == .class || (env.scope.kind == .module && env.locals != env.globals)) = false)
    (he : IsEnum s.heap e it 0 .none) (hit : s.heap.IsListIter it D 0) (hei : e ≠ it) (hle : D ≠ e) (hli : D ≠ it) (heL : e ≠ env.locals) (hiL : it ≠ env.locals)
    (he0 : h₀.get? e = none) (hi0 : h₀.get? it = none) (hr : ∀ p ∈ rest, p.1 ≠ e ∧ p.1 ≠ it)
    (F : Fr h₀ env.locals s.heap m) (N : News h₀ env.locals s.heap ((D, listOf (strValues l₀).toArray c) :: rest)) (h1 : m xl = some (.ref D)) (h2 : m xk = some kv)
    (turn : ∀ (i : Nat) a u t l cc m₁ h tk oe oi, (l₀.map (·.1))[i]? = some a → (strValues l)[i]? = some (.str a u) → m₁ xl = some (.ref D) → m₁ xk = some kv → MutK xl xk D kv cut (l₀.map (·.1)) i (strValues l) m₁ →
      Fr h₀ env.locals h (fun y => if y = xc then some (.str a u) else if y = xi then some (.int i t) else m₁ y) → News h₀ env.locals h ((D, listOf (strValues l).toArray cc) :: (e, oe) :: (it, oi) :: rest) →
      wpAny (model prog w) A (execs body env) (MPost h₀ env.locals (MutK xl xk D kv cut (l₀.map (·.1)) (i + 1)) l₀.length D ((e, oe) :: (it, oi) :: rest) { s with heap := h, toks := tk } Q) E { s with heap := h, toks := tk })
    (done : ∀ l cc m₁ h tk, m₁ xl = some (.ref D) → l.map (·.1) = (l₀.map (·.1)).map cut → Fr h₀ env.locals h m₁ → News h₀ env.locals h ((D, listOf (strValues l).toArray cc) :: rest) → Q .next { s with heap := h, toks := tk })
    (hE : PassesOwn (model prog w) A env E := by passes_own) :
    wpAny (model prog w) A (pyIter (.ref e)) (fun it s₂ => PairM prog w A env xi xc body Q E it s₂) E s := by
  refine enum_mut (n := l₀.length) (MutK xl xk D kv cut (l₀.map (·.1))) hh hxi hxc hp he hit hei hle hli heL hiL he0 hi0 hr F N (by simp [strValues]) ⟨h1, h2, l₀, rfl, by simp⟩ ?_ ?_ hE
  · rintro i v t us cc m₁ h tk oe oi hus hv hK F₁ N₁
    obtain ⟨k1, k2, l, rfl, hl⟩ := id hK
    have hil : i < (l₀.map (·.1)).length := by have := (List.getElem?_eq_some_iff.mp hv).1; rw [hus] at this; simpa using this
    obtain ⟨a, ha⟩ : ∃ a, (l₀.map (·.1))[i]? = some a := ⟨_, List.getElem?_eq_getElem hil⟩
    have h3 : (l.map (·.1))[i]? = some a := by
      have hlen : ((List.take i (l₀.map (·.1))).map cut).length = i := by rw [List.length_map, List.length_take]; omega
      rw [hl, List.getElem?_append_right (by rw [hlen]; exact Nat.le_refl _), hlen, Nat.sub_self, List.getElem?_drop, Nat.add_zero, ha]
    have h4 : ∃ u, v = .str a u := by
      rw [List.getElem?_map] at h3
      cases hli : l[i]? with
      | none => rw [hli] at h3; cases h3
      | some p =>
        rw [hli] at h3
        have e1 : p.1 = a := Option.some.inj h3
        have : (strValues l)[i]? = some (.str p.1 p.2) := by simp [strValues, hli]
        rw [this] at hv
        exact ⟨p.2, by rw [← e1]; exact (Option.some.inj hv).symm⟩
    obtain ⟨u, rfl⟩ := h4
    exact turn i a u t l cc m₁ h tk oe oi ha hv k1 k2 hK F₁ N₁
  · rintro us cc m₁ h tk hus ⟨k1, k2, l, rfl, hl⟩ F₁ N₁
    refine done l cc m₁ h tk k1 ?_ F₁ N₁
    rw [hl, List.take_of_length_le (by simp), List.drop_of_length_le (by simp), List.append_nil]
theorem MutK.set {D : Addr} {kv : Value} {cut : Str → Str} {ps : List Str} {i : Nat} {l : List (Str × Tok)} {m₁ m' : Str → Option Value} {a : Str} {u : Tok} (h : MutK xl xk D kv cut ps i (strValues l) m₁) (ha : ps[i]? = some a)
    (e1 : m' xl = some (.ref D)) (e2 : m' xk = some kv) : MutK xl xk D kv cut ps (i + 1) ((strValues l).set i (.str (cut a) u)) m' := by
  obtain ⟨_, _, l', hl', hl⟩ := h
  have hi : i < ps.length := (List.getElem?_eq_some_iff.mp ha).1
  refine ⟨e1, e2, l'.set i (cut a, u), ?_, ?_⟩
  · rw [hl']; simp [strValues, List.map_set]
  · rw [List.map_set, hl, List.set_append_right _ _ (by rw [List.length_map, List.length_take]; omega)]
    have : (ps.take (i + 1)) = ps.take i ++ [a] := by rw [List.take_add_one, ha]; rfl
    rw [this, List.map_append, List.append_assoc]
    congr 1
    have hd : ps.drop i = a :: ps.drop (i + 1) := by rw [List.drop_eq_getElem_cons hi, (List.getElem?_eq_some_iff.mp ha).2]
    rw [hd]
    simp [Nat.min_eq_left (Nat.le_of_lt hi)]
end
end Mine

namespace Mine
section
variable {prog : Program} {w : World} {A : Around} {E : Value → Shared → Prop} {s : Shared} {env : Env} {h₀ : Heap} {xi xc xl xk : Str} {body : List Stmt} {Q : Flow → Shared → Prop}
structure EnumAt (h₀ : Heap) (L : Addr) (h : Heap) (l e it : Addr) (rest : List (Addr × Obj)) : Prop where
  en : IsEnum h e it 0 .none
  li : h.IsListIter it l 0
  ei : e ≠ it
  le : l ≠ e
  ll : l ≠ it
  eL : e ≠ L
  iL : it ≠ L
  e0 : h₀.get? e = none
  i0 : h₀.get? it = none
  rs : ∀ p ∈ rest, p.1 ≠ e ∧ p.1 ≠ it
theorem call_enum_at {l L : Addr} {c : Nat} {vs : List Value} {rest : List (Addr × Obj)} {m : Str → Option Value} {R : Value → Shared → Prop}
    (F : Fr h₀ L s.heap m) (N : News h₀ L s.heap ((l, listOf vs.toArray c) :: rest))
    (h : ∀ h' e it, EnumAt h₀ L h' l e it rest → Fr h₀ L h' m → News h₀ L h' ((l, listOf vs.toArray c) :: rest) → R (.ref e) { s with heap := h' }) :
    wpAny (model prog w) A (call (.type "enumerate") [.ref l]) R E s :=
  call_enum_mut F N fun h' e it a1 a2 a3 a4 a5 a6 a7 a8 a9 a0 F' N' => h h' e it ⟨a1, a2, a3, a4, a5, a6, a7, a8, a9, a0⟩ F' N'
theorem enum_cut_at {D e it : Addr} {kv : Value} {l₀ : List (Str × Tok)} {c : Nat} {rest : List (Addr × Obj)} {m : Str → Option Value} (cut : Str → Str)
    (hh : A.handled = none) (hxi : env.kindOf xi = some .local) (hxc : env.kindOf xc = some .local)
    (hp : (env.scope.kind == .class || (env.scope.kind == .module && env.locals != env.globals)) = false)
    (at' : EnumAt h₀ env.locals s.heap D e it rest)
    (F : Fr h₀ env.locals s.heap m) (N : News h₀ env.locals s.heap ((D, listOf (strValues l₀).toArray c) :: rest)) (h1 : m xl = some (.ref D)) (h2 : m xk = some kv)
    (hE : PassesOwn (model prog w) A env E)
    (turn : ∀ (i : Nat) a u t l cc m₁ h tk oe oi, (l₀.map (·.1))[i]? = some a → (strValues l)[i]? = some (.str a u) → l.length = l₀.length → m₁ xl = some (.ref D) → m₁ xk = some kv → MutK xl xk D kv cut (l₀.map (·.1)) i (strValues l) m₁ →
      Fr h₀ env.locals h (fun y => if y = xc then some (.str a u) else if y = xi then some (.int i t) else m₁ y) → News h₀ env.locals h ((D, listOf (strValues l).toArray cc) :: (e, oe) :: (it, oi) :: rest) →
      wpAny (model prog w) A (execs body env) (MPost h₀ env.locals (MutK xl xk D kv cut (l₀.map (·.1)) (i + 1)) l₀.length D ((e, oe) :: (it, oi) :: rest) { s with heap := h, toks := tk } Q) E { s with heap := h, toks := tk })
    (done : ∀ l cc m₁ h tk, m₁ xl = some (.ref D) → l.map (·.1) = (l₀.map (·.1)).map cut → Fr h₀ env.locals h m₁ → News h₀ env.locals h ((D, listOf (strValues l).toArray cc) :: rest) → Q .next { s with heap := h, toks := tk }) :
    wpAny (model prog w) A (pyIter (.ref e)) (fun it s₂ => PairM prog w A env xi xc body Q E it s₂) E s :=
  enum_cut cut hh hxi hxc hp at'.en at'.li at'.ei at'.le at'.ll at'.eL at'.iL at'.e0 at'.i0 at'.rs F N h1 h2 (fun i a u t l cc m₁ h tk oe oi ha hv k1 k2 hK F₁ N₁ =>
    turn i a u t l cc m₁ h tk oe oi ha hv (by
      obtain ⟨_, _, l', e1, e2⟩ := id hK
      have z1 : l'.length = l.length := by have := congrArg List.length e1; simpa [strValues] using this.symm
      have z2 := congrArg List.length e2
      have z3 := (List.getElem?_eq_some_iff.mp ha).1
      simp only [List.length_map, List.length_append, List.length_take, List.length_drop] at z2 z3
      omega) k1 k2 hK F₁ N₁) done hE
end
end Mine

namespace Mine
section
variable {prog : Program} {w : World} {A : Around} {E : Value → Shared → Prop} {s : Shared} {h₀ : Heap}
theorem set_mine {L D : Addr} {m : Str → Option Value} {rest : List (Addr × Obj)} {us : List Value} {n i : Nat} {t : Tok} {v : Value} {R : Unit → Shared → Prop} (F : Fr h₀ L s.heap m) (N : News h₀ L s.heap ((D, listOf us.toArray n) :: rest))
    (hD : ∀ p ∈ rest, p.1 ≠ D) (hi : i < us.length) (hsz : us.length ≤ 1000000) (h : ∀ h' c, Fr h₀ L h' m → News h₀ L h' ((D, listOf (us.set i v).toArray c) :: rest) → R () { s with heap := h' }) :
    wpAny (model prog w) A (setItem (.ref D) (.int (i : Int) t) v) R E s := by
  have z := N _ List.mem_cons_self
  refine ki_setAt z.1 (Int.natCast_nonneg _) (by omega) (by simp; omega) (h _ n (F.change (Heap.SameBut.update ..) z.2.1 z.2.2) ?_)
  exact ki_turn (pre := []) (its' := (us.set i v).toArray) (n' := n) _ N (fun p hp => absurd hp List.not_mem_nil) hD (by simp) (by simp)
end
end Mine

namespace Mine
theorem apart3 {h₀ : Heap} {L : Addr} {h : Heap} {l e it : Addr} {rest : List (Addr × Obj)} {oe oi : Obj} (a : EnumAt h₀ L h l e it rest) (b : ∀ p ∈ rest, p.1 < l) : ∀ p ∈ (e, oe) :: (it, oi) :: rest, p.1 ≠ l := fun p hp => by
  rcases List.mem_cons.mp hp with rfl | hp
  · exact a.le.symm
  rcases List.mem_cons.mp hp with rfl | hp
  · exact a.ll.symm
  · exact Nat.ne_of_lt (b p hp)
end Mine

namespace Mine
end Mine

namespace Mine
theorem MEnd.intro {h₀ : Heap} {L : Addr} {K : List Value → (Str → Option Value) → Prop} {n : Nat} {l : Addr} {rest : List (Addr × Obj)} {s₁ : Shared} {h' : Heap} {tk : Nat} {m' : Str → Option Value} {us : List Value} {c : Nat}
    (F : Fr h₀ L h' m') (N : News h₀ L h' ((l, listOf us.toArray c) :: rest)) (hn : us.length = n) (hk : K us m') : MEnd h₀ L K n l rest s₁ { s₁ with heap := h', toks := tk } := ⟨h', tk, m', us, c, rfl, F, N, hn, hk⟩
theorem cut_sum (j : Int) : ∀ ps : List Str, ((ps.map fun p => Txt.slice p (some j) none).map (·.length)).sum ≤ (ps.map (·.length)).sum
  | [] => Nat.le_refl _
  | p :: ps => by
    have h1 := PyProof.Txt.length_slice_le p (some j) none
    have h2 := cut_sum j ps
    simp only [List.map_cons, List.sum_cons]
    omega
theorem split_sum (x : Str) : ((Txt.split x (Str.ofString "\n")).map (·.length)).sum ≤ x.length := by
  have h := split_weight x (Str.ofString "\n") (by decide)
  have h2 : Txt.split x (Str.ofString "\n") ≠ [] := by
    intro e
    have := StrLaws.join_split x (Str.ofString "\n")
    rw [e] at this
    subst this
    exact absurd e (by decide)
  have h3 : 0 < (Txt.split x (Str.ofString "\n")).length := List.length_pos_iff.mpr h2
  omega
theorem cut_joinOk (x : Str) (j : Int) (h : x.length ≤ 100000) : JoinOk (Str.ofString "\n") ((Txt.split x (Str.ofString "\n")).map fun p => Txt.slice p (some j) none) = true := by
  refine joinOk_of ?_
  have h1 := cut_sum j (Txt.split x (Str.ofString "\n"))
  have h2 := split_sum x
  have h3 := split_le x (Str.ofString "\n")
  have h4 : (Str.ofString "\n").length = 1 := by decide
  rw [h4, List.length_map]
  omega
end Mine
end

section
namespace Mine
def nl : Str := Str.ofString "\n"
theorem nl_eq : Str.ofString "\n" = ⟨#[10]⟩ := by decide
theorem sp_eq : Str.ofString " " = ⟨#[32]⟩ := by decide
/-- parts glued by one sign -/
def jl (c : Nat) : List (List Nat) → List Nat
  | [] => []
  | [x] => x
  | x :: y :: r => x ++ c :: jl c (y :: r)
theorem cut_eq {c : Nat} : ∀ {x y s t : List Nat}, c ∉ x → c ∉ y → x ++ c :: s = y ++ c :: t → x = y ∧ s = t
  | [], [], s, t, _, _, e => ⟨rfl, (List.cons.inj e).2⟩
  | [], b :: y, s, t, _, hy, e => absurd (List.mem_cons.mpr (.inl (List.cons.inj e).1)) hy
  | a :: x, [], s, t, hx, _, e => absurd (List.mem_cons.mpr (.inl (List.cons.inj e).1.symm)) hx
  | a :: x, b :: y, s, t, hx, hy, e => by
    have e1 := (List.cons.inj e).1
    have e2 := cut_eq (fun h => hx (List.mem_cons_of_mem _ h)) (fun h => hy (List.mem_cons_of_mem _ h)) (List.cons.inj e).2
    exact ⟨by rw [e1, e2.1], e2.2⟩
theorem jl_inj {c : Nat} : ∀ {a b : List (List Nat)}, a ≠ [] → b ≠ [] → (∀ p ∈ a, c ∉ p) → (∀ p ∈ b, c ∉ p) → jl c a = jl c b → a = b
  | [], _, h, _, _, _, _ => absurd rfl h
  | _, [], _, h, _, _, _ => absurd rfl h
  | [x], [y], _, _, _, _, e => by have e : x = y := e; rw [e]
  | [x], y :: z :: r, _, _, ha, _, e => by
    have e : x = y ++ c :: jl c (z :: r) := e
    exact absurd (by rw [e]; simp) (ha x (by simp))
  | x :: z :: r, [y], _, _, _, hb, e => by
    have e : x ++ c :: jl c (z :: r) = y := e
    exact absurd (by rw [← e]; simp) (hb y (by simp))
  | x :: z :: r, y :: z' :: r', _, _, ha, hb, e => by
    have e : x ++ c :: jl c (z :: r) = y ++ c :: jl c (z' :: r') := e
    obtain ⟨e1, e2⟩ := cut_eq (ha x (by simp)) (hb y (by simp)) e
    have := jl_inj (a := z :: r) (b := z' :: r') (by simp) (by simp) (fun p hp => ha p (List.mem_cons_of_mem _ hp)) (fun p hp => hb p (List.mem_cons_of_mem _ hp)) e2
    rw [e1, this]
theorem join_jl (c : Nat) : ∀ ps : List Str, (Str.join ⟨#[c]⟩ ps).cps.toList = jl c (ps.map fun p => p.cps.toList)
  | [] => rfl
  | [x] => rfl
  | x :: y :: r => by
    have ih := join_jl c (y :: r)
    show ((x ++ ⟨#[c]⟩) ++ Str.join ⟨#[c]⟩ (y :: r)).cps.toList = x.cps.toList ++ c :: jl c ((y :: r).map fun p => p.cps.toList)
    rw [← ih]
    show ((x.cps ++ #[c]) ++ (Str.join ⟨#[c]⟩ (y :: r)).cps).toList = _
    simp
theorem split_ne (x : Str) : Txt.split x ⟨#[10]⟩ ≠ [] := by
  intro e
  have := StrLaws.join_split x ⟨#[10]⟩
  rw [e] at this
  subst this
  exact absurd e (by decide)
/-- rows without a line feed come back from their joined text -/
theorem split_join {ps : List Str} (h0 : ps ≠ []) (hf : ∀ p ∈ ps, 10 ∉ p.cps.toList) : Txt.split (Txt.join (Str.ofString "\n") ps) (Str.ofString "\n") = ps := by
  have e0 : Txt.join (Str.ofString "\n") ps = Str.join ⟨#[10]⟩ ps := by rw [nl_eq]; exact StrLaws.glued_eq_join _ _
  rw [e0, nl_eq]
  have e1 := StrLaws.join_split (Str.join ⟨#[10]⟩ ps) ⟨#[10]⟩
  have e2 := congrArg (fun x : Str => x.cps.toList) e1
  simp only [join_jl] at e2
  have e3 := jl_inj (c := 10) (by simpa using split_ne _) (by simpa using h0) (by
    intro p hp
    obtain ⟨q, hq, rfl⟩ := List.mem_map.mp hp
    exact StrLaws.split_free _ _ q hq) (by
    intro p hp
    obtain ⟨q, hq, rfl⟩ := List.mem_map.mp hp
    exact hf q hq) e2
  have inj : ∀ a b : List Str, (a.map fun p => p.cps.toList) = (b.map fun p => p.cps.toList) → a = b := by
    intro a
    induction a with
    | nil => intro b hb; cases b with
      | nil => rfl
      | cons _ _ => cases hb
    | cons x a ih => intro b hb; cases b with
      | nil => cases hb
      | cons y b =>
        have h1 := (List.cons.inj hb).1
        have h2 := ih b (List.cons.inj hb).2
        rw [str_eq_of_lists h1, h2]
  exact inj _ _ e3
end Mine

namespace Mine
theorem idx_out {j : Nat} {n : Nat} (h : n ≤ j) : Builtin.Str.strSliceIndices (some (j : Int)) none 1 n = [] := by
  unfold Builtin.Str.strSliceIndices sliceRange
  simp only [show (1 : Int) > 0 by decide, if_true]
  rw [if_neg (by omega)]
  have h1 : min (j : Int) (n : Int) = n := by omega
  have h2 : max (0 : Int) (n : Int) = n := by omega
  simp [h1, h2]
theorem sg_from (x : Str) (j : Nat) : sg (Txt.slice x (some (j : Int)) none) = (sg x).drop j := by
  by_cases h : j ≤ x.length
  · rw [eq_of_beq (slice_closes_from (x := x) (i := (j : Int)) ⟨by omega, by have := sg_len x; unfold sg at this; omega⟩), sg_mk]
    have e := sg_len x
    unfold sg at e ⊢
    rw [List.take_of_length_le (by simp only [List.length_drop]; omega)]
    simp
  · have e := idx_out (j := j) (n := x.length) (by omega)
    unfold Txt.slice
    rw [e]
    have h2 : (sg x).drop j = [] := List.drop_of_length_le (by rw [sg_len]; omega)
    rw [h2]
    split
    · rename_i hc
      have : x.length = 0 := by simp at hc; omega
      exact List.length_eq_zero_iff.mp (by rw [sg_len, this])
    · rfl
end Mine

namespace Mine
theorem signs_at (x : Str) (i : Nat) : (signs x)[i]? = ((sg x)[i]?).map fun n => (⟨#[n]⟩ : Str) := by simp [signs, sg]
theorem sign_sp (x : Str) (i : Nat) : (signs x)[i]? = some sp ↔ (sg x)[i]? = some 32 := by
  rw [signs_at]
  constructor
  · intro h
    cases hx : (sg x)[i]? with
    | none => rw [hx] at h; cases h
    | some n =>
      rw [hx] at h
      have h1 : (⟨#[n]⟩ : Str) = sp := Option.some.inj h
      have h2 : (⟨#[n]⟩ : Str) = ⟨#[32]⟩ := h1.trans sp_eq
      have h3 := one_beq n 32
      rw [h2] at h3
      have : n = 32 := eq_of_beq (h3.symm.trans (by decide))
      rw [this]
  · intro h
    rw [h]
    show some _ = some sp
    rw [show sp = (⟨#[32]⟩ : Str) from sp_eq]
/-- the margin is the count of blanks ahead -/
theorem marg_of {x : Str} {k j c : Nat} {o : List Nat} (hx : sg x = List.replicate k 32 ++ c :: o) (hc : c ≠ 32) (h : Marg (signs x) j) : j = k := by
  obtain ⟨h1, h2, h3⟩ := h
  have hl : (signs x).length = k + 1 + o.length := by
    have := sg_len x
    rw [signs_length, ← this, hx]
    simp
    omega
  rcases Nat.lt_trichotomy j k with hj | hj | hj
  · exfalso
    have e : (signs x)[j]? = some sp := (sign_sp x j).mpr (by rw [hx, List.getElem?_append_left (by simpa using hj)]; simp [hj])
    rcases h3 with h3 | h3
    · exact h3 e
    · omega
  · exact hj
  · exfalso
    have e := (sign_sp x k).mp (h2 k hj)
    rw [hx, List.getElem?_append_right (by simp)] at e
    simp at e
    exact hc e
theorem ded_rows {ps rs : List Str} {r₀ : Str} {k c : Nat} {o : List Nat} (hps : ps = r₀ :: rs) (hf : ∀ p ∈ ps, 10 ∉ p.cps.toList) (hx : sg r₀ = List.replicate k 32 ++ c :: o) (hc : c ≠ 32) {y : Str} {j : Nat}
    (hy : (Txt.split (Txt.join (Str.ofString "\n") ps) (Str.ofString "\n"))[0]? = some y) (hM : Marg (signs y) j) :
    Txt.join (Str.ofString "\n") ((Txt.split (Txt.join (Str.ofString "\n") ps) (Str.ofString "\n")).map fun p => Txt.slice p (some (j : Int)) none) = Txt.join (Str.ofString "\n") (ps.map fun p => Txt.slice p (some (k : Int)) none) := by
  rw [split_join (by rw [hps]; simp) hf] at hy ⊢
  rw [hps] at hy
  have e : r₀ = y := by simpa using hy
  subst e
  rw [marg_of hx hc hM]
theorem ded_first {ps rs : List Str} {r₀ : Str} {k c : Nat} {o : List Nat} (hps : ps = r₀ :: rs) (hf : ∀ p ∈ ps, 10 ∉ p.cps.toList) (hx : sg r₀ = List.replicate k 32 ++ c :: o) :
    ∀ y, (Txt.split (Txt.join (Str.ofString "\n") ps) (Str.ofString "\n"))[0]? = some y → 0 < (signs y).length := by
  intro y hy
  rw [split_join (by rw [hps]; simp) hf, hps] at hy
  have e : r₀ = y := by simpa using hy
  subst e
  rw [signs_length, ← sg_len, hx]
  simp
  omega
theorem cut_zero (x : Str) : Txt.slice x (some ((0 : Nat) : Int)) none = x := sg_inj (by rw [sg_from]; rfl)
theorem cut_ahead (x y : Str) (a k : Nat) (h : x.length = a) : Txt.slice (x ++ y) (some ((k + a : Nat) : Int)) none = Txt.slice y (some (k : Int)) none := by
  refine sg_inj ?_
  rw [sg_from, sg_from, sg_app, List.drop_append, List.drop_of_length_le (by rw [sg_len]; omega), sg_len]
  simp only [List.nil_append]
  congr 1
  omega
theorem cut_all (x : Str) (k : Nat) (h : x.length ≤ k) : Txt.slice x (some (k : Int)) none = Str.ofString "" := by
  refine sg_inj ?_
  rw [sg_from, List.drop_of_length_le (by rw [sg_len]; exact h)]
  rfl
theorem cut_exact (x y : Str) (k : Nat) (h : x.length = k) : Txt.slice (x ++ y) (some (k : Int)) none = y := by
  have := cut_ahead x y k 0 h
  rw [Nat.zero_add] at this
  rw [this]
  exact cut_zero y
end Mine

namespace Mine
theorem sg_mul (c : Nat) (n : Int) : sg (Txt.mul ⟨#[c]⟩ n) = List.replicate n.toNat c := mul_one_list c n
theorem mul_len (c : Nat) (n : Int) : (Txt.mul ⟨#[c]⟩ n).length = n.toNat := by rw [← sg_len, sg_mul, List.length_replicate]
def opening (i : Nat) : Str := [Str.ofString "if x:", Str.ofString "\tif x:"].getD i Str.empty
/-- a text with no line feed -/
def Free (x : Str) : Prop := 10 ∉ sg x
theorem Free.app {x y : Str} (hx : Free x) (hy : Free y) : Free (x ++ y) := by
  unfold Free at *
  rw [sg_app]
  intro h
  rcases List.mem_append.mp h with h | h
  · exact hx h
  · exact hy h
theorem Free.mul {c : Nat} (n : Int) (hc : c ≠ 10) : Free (Txt.mul ⟨#[c]⟩ n) := by
  unfold Free
  rw [sg_mul]
  intro h
  exact hc (List.eq_of_mem_replicate h).symm
theorem opening_facts {i : Nat} (h : i < 2) : (opening i).length ≤ 6 ∧ Free (opening i) ∧ ∃ c o, sg (opening i) = c :: o ∧ c ≠ 32 := by
  rcases Nat.lt_succ_iff_lt_or_eq.mp h with h | rfl
  · have : i = 0 := by omega
    subst this
    exact ⟨by decide, (by unfold Free; decide), _, _, rfl, by decide⟩
  · exact ⟨by decide, (by unfold Free; decide), _, _, rfl, by decide⟩
end Mine

namespace Mine
theorem free_join0 : ∀ ps : List Str, (∀ p ∈ ps, Free p) → Free (Str.join (Str.ofString "") ps)
  | [], _ => by unfold Free; decide
  | [x], h => h x (by simp)
  | x :: y :: r, h => by
    have ih := free_join0 (y :: r) (fun p hp => h p (List.mem_cons_of_mem _ hp))
    show Free ((x ++ Str.ofString "") ++ Str.join (Str.ofString "") (y :: r))
    exact ((h x (by simp)).app (by unfold Free; decide)).app ih
/-- the signs ahead -/
def ah (x k : Int) : Str := Txt.item (Str.ofString " \ta.") ((x.fdiv 7 + k).fmod 4)
theorem ah_facts (x k : Int) : (ah x k).length = 1 ∧ Free (ah x k) := by
  have h1 := fmod_lo (x.fdiv 7 + k) (n := 4) (by decide)
  have h2 := fmod_hi (x.fdiv 7 + k) (n := 4) (by decide)
  unfold ah
  revert h1 h2
  generalize (x.fdiv 7 + k).fmod 4 = i
  intro h1 h2
  have : i = 0 ∨ i = 1 ∨ i = 2 ∨ i = 3 := by omega
  rcases this with rfl | rfl | rfl | rfl <;> exact ⟨by decide, by unfold Free; decide⟩
/-- ''.join of one-sign texts with no line feed -/
theorem join_free {prog : Program} {w : World} {A : Around} {E : Value → Shared → Prop} {s : Shared} {t : Tok} {Q : Value → Shared → Prop} {D : Addr} {ys : List Value} {l : List Int} {g : Int → Str}
    (hl : s.heap.IsList D ys.toArray) (hc : CarriedAll ys (l.map fun a => PyData.str (g a))) (h1 : ∀ a, (g a).length = 1 ∧ Free (g a)) (hn : l.length ≤ 1048576)
    (h : ∀ (d : Str) t' k, d.length = l.length → Free d → Q (.str d t') { s with toks := k }) :
    wpAny (model prog w) A (call (.builtin "str.join") [.str (PySem.Str.ofString "") t, .ref D]) Q E s :=
  KT.join_1 hl hc (fun a _ => (h1 a).1) hn fun t' k e => h _ t' k e (by
    show Free (Builtin.Str.glued _ _)
    rw [StrLaws.glued_eq_join]
    refine free_join0 _ fun p hp => ?_
    obtain ⟨b, _, eb⟩ := List.mem_map.1 hp
    rw [← eb]; exact (h1 b).2)
end Mine
end

section
namespace Mine
/-- a local name's read with nothing bound: the exception that the interpreter makes -/
def UnbExc (h h' : Heap) (e : Addr) : Prop :=
  (∀ b o, h.get? b = some o → h'.get? b = some o) ∧ h.get? e = none ∧
    ∃ ob t, h'.get? e = some ob ∧ ob.cls = .type "UnboundLocalError" ∧ ob.data = .fields #[t, .none, .none, .none, .bool false, .none, unsetMember]
theorem own_unb (args : List Value) : ownMembersOf (.type "UnboundLocalError") args = #[unsetMember] := rfl
theorem first_unb : ((Manifest.find? "UnboundLocalError").elim false fun t => t.mro.contains "StopIteration" || t.mro.contains "SystemExit") = false := by decide +kernel
section
variable {α : Type} {M : Model} {A : Around} {E : Value → Shared → Prop} {s : Shared}
theorem raise_unb {msg : String} {Q : α → Shared → Prop} (hh : A.handled = none)
    (h : ∀ h' tk e, UnbExc s.heap h' e → E (.ref e) { s with heap := h', toks := tk }) (hm : (msg : Str).length ≤ sizeLine) :
    wpAny M A (raiseErrorMade "UnboundLocalError" msg : Sem α) Q E s := by
  unfold raiseErrorMade
  refine wpAny_bind (wpAny_mkStr (wpAny_bind ?_) hm)
  unfold newExc newTuple
  refine wpAny_bind (wpAny_newObj_type ?_)
  refine wpAny_bind (m := firstArgMember _ _) (wpAny_of_eq (a := Value.none) (by simp only [firstArgMember, first_unb]; rfl) ?_)
  rw [own_unb]
  refine wpAny_newObj_type ?_
  unfold raiseNew
  refine wpAny_bind (wpAny_handled ?_)
  rw [hh]
  first
    | refine wpAny_throw ?_
    | refine wpAny_bind (wpAny_pure (wpAny_throw ?_))
  exact h _ _ _ ⟨fun b o hb => Heap.get?_push_of_some _ (Heap.get?_push_of_some _ hb), Heap.get?_none_of_le (by simp), _, .ref s.heap.objs.size, Heap.get?_push_size _ rfl, rfl, rfl⟩
theorem name_unb {x : Str} {pos : Pos} {env : Env} {m : Str → Option Value} {Q : Value → Shared → Prop} (hh : A.handled = none) (hk : env.scope.kind = .function) (hl : env.kindOf x = some .local) (hn : s.heap.Ns env.locals m) (hv : m x = none)
    (hm : (s!"cannot access local variable '{x.toString}' where it is not associated with a value" : Str).length ≤ sizeLine)
    (h : ∀ h' tk e, UnbExc s.heap h' e → E (.ref e) { s with heap := h', toks := tk }) (hd : (x == ("__debug__" : Str)) = false) :
    wpAny M A (eval (.Name x pos) env) Q E s := by
  refine wpAny_Name ?_ hd
  unfold loadName
  simp only [Env.blockKind, hk, hl, ScopeKind.isAnnotationScope, Bool.false_and, Bool.false_eq_true, if_false]
  refine wpAny_bind (wpAny_nsGet hn ?_)
  rw [hv]
  exact wpAny_bind (wpAny_rule (raise_unb hh h hm))
end
section
variable {M : Model} {A : Around} {E : Value → Shared → Prop} {s' : Shared} {base g g₂ h : Heap} {outer : List Env} {L a e t : Addr} {m : Str → Option Value} {name : Str} {scope : Scope} {cd : Value} {Q : Unit → Shared → Prop} {news : List (Addr × Obj)}
theorem leave_unb (K : Below A base outer g) (hx : UnbExc h s'.heap e) (F : Fr g L h m) (N : News g L h news)
    (hQ : ∀ h', RaisedN base outer e (.type "UnboundLocalError") news h' → g.UpToSlots h' → Q () { s' with heap := h' }) (hk : scope.kind = .function := by rfl) :
    wpAny M (A.deeper (envOf name scope L a cd)) (leaving (envOf name scope L a cd) (.ref e)) Q E s' := by
  obtain ⟨hkeeps, hnew, ob, tp, he, hcls, hd⟩ := hx
  have K' := K.push (name := name) (a := a) (cd := cd) F hk
  have hin : ∀ env ∈ (envOf name scope L a cd :: outer), ∀ b, env.frame = some b → b ∈ (envOf name scope L a cd :: outer).filterMap (·.frame) := fun env he b hb => List.mem_filterMap.mpr ⟨env, he, hb⟩
  have st : base.StaysIn (hideAll h ((envOf name scope L a cd :: outer).filterMap (·.frame))) := fun b o q => hideAll_get _ (K'.stays b o q) fun hm => by
    rw [(K'.frames.mem hm).1] at q; cases q
  have hl : ∀ q ∈ news, (hideAll h ((envOf name scope L a cd :: outer).filterMap (·.frame))).get? q.1 = some q.2 ∧ base.get? q.1 = none := fun q hq => by
    refine ⟨hideAll_get _ (N q hq).1 fun hm => ?_, fresh_of_stays K.stays (N q hq).2.2⟩
    obtain ⟨env, he, hf⟩ := List.mem_filterMap.mp hm
    rcases List.mem_cons.mp he with rfl | he
    · exact (N q hq).2.1 (Option.some.inj hf).symm
    · obtain ⟨o, ho, _⟩ := (K.frames.mem (List.mem_filterMap.mpr ⟨env, he, hf⟩)).2
      rw [(N q hq).2.2] at ho; cases ho
  have hen : (hideAll h ((envOf name scope L a cd :: outer).filterMap (·.frame))).get? e = none := by
    cases q : (hideAll h ((envOf name scope L a cd :: outer).filterMap (·.frame))).get? e with
    | none => rfl
    | some o => have := of_hideAll _ q; rw [hnew] at this; cases this
  refine wpAny_leaving_firstW (a0 := tp) K'.stack ((funFrames_hide K'.frames hin).of_keeps fun b o hb _ => ⟨o, hkeeps b o hb, rfl⟩) rfl he (fun b o hb => hkeeps b o (of_hideAll _ hb)) hen hd rfl rfl fun h' hL => ?_
  obtain ⟨k1, ⟨_, _, k2⟩, k3, k4⟩ := hL
  exact hQ h' ⟨_, tp, st, hl, k1, hen, k2, by rw [← hcls]; exact k3⟩ (((Heap.UpToSlots.of_keeps F.keep).trans (Heap.UpToSlots.of_keeps hkeeps)).trans k4)
end
end Mine
namespace Mine
section
variable {prog : Program} {w : World} {A : Around} {E : Value → Shared → Prop} {s' : Shared} {h₀ h : Heap} {outer : List Env} {L e : Addr} {m : Str → Option Value} {env : Env}
  {b₀ : Stmt} {suite : List Stmt} {pos np : Pos} {rest : List ExceptHandler} {Q : Flow → Shared → Prop} {news : List (Addr × Obj)} {x : Str} {X T' : String}
/-- an exception that a callee raised, caught in a frame with cells -/
theorem caught_X (hfr : A.frames = some (env :: outer)) (hf : env.frame = some L) (F : Fr h₀ L h m) (hsm : h.UpToSlots s'.heap) (R : RaisedN h₀ (env :: outer) e (.type X) news s'.heap)
    (hname : ∀ (A' : Around) (s : Shared) (Q' : Value → Shared → Prop) (E' : Value → Shared → Prop), Fr h₀ L s.heap m → Q' (.type T') s → wpAny (model prog w) A' (eval (.Name x np) env) Q' E' s)
    (hexc : isSubtype (.type T') (.type "BaseException") = pure true) (hnt : isSubtype (.type ((Manifest.find? T').elim "type" fun y => y.metatype)) (.type "tuple") = pure false) (hsub : isSubtype (.type X) (.type T') = pure true)
    (k : ∀ h', Fr h₀ L h' m → News h₀ L h' news → wpAny (model prog w) (A.mark (some (.ref e))) (execs (b₀ :: suite) env) Q E { s' with heap := h' })
    (hE : PassesOwnAt (model prog w) (A.mark (some (.ref e))) A env E) :
    wpAny (model prog w) A (noteFrame (.ref e) env)
      (fun _ s₂ => wpAny (model prog w) A (setFlight (.ref e) none) (fun _ s₃ =>
        wpAny (model prog w) A (handleBy (.ref e) env (.ExceptHandler (some (.Name x np)) none (b₀ :: suite) pos :: rest)) Q E s₃) E s₂) E s' := by
  obtain ⟨B, a0, hB, hl, hfl⟩ := R
  have hL : B.get? L = none := by
    obtain ⟨_, ⟨L', _, hf', hn', _⟩, _⟩ := hfl.2.2.1
    have : L = L' := Option.some.inj (hf.symm.trans hf')
    subst this
    exact hn'
  refine wpAny_looks_onW hfr hf hfl fun h₄ hheld₄ hsm₄ => ?_
  refine wpAny_landsW hheld₄ fun h₅ hheld hsm₅' => ?_
  have hsm₅ := hsm₄.trans hsm₅'
  have hheld' := flyingW_base hB hheld
  have F₅ := F.of_stays hheld'.1 (hsm.trans hsm₅)
  obtain ⟨ob, hob, hobc⟩ := hheld'.there
  refine wpAny_handleBy_builtin (X := X) (T := T') (b := true) hexc hnt hsub (hname _ _ _ _ F₅ ⟨rfl, ⟨ob, hob, hobc⟩, ?_⟩)
  refine lands_againW hheld fun h₆ hfl₆ hsm₆ => ?_
  have F₆ := F.of_stays (flyingW_base hB hfl₆).1 ((hsm.trans hsm₅).trans hsm₆)
  exact wpAny_passesOwnAt hE (k h₆ F₆ fun q hq => ⟨hfl₆.1 _ _ (hl q hq).1, (fun z => by have := (hl q hq).1; rw [z, hL] at this; cases this), (hl q hq).2⟩)
end
end Mine
end

namespace Mine
open_top hd for PySem.Challenge.rw_dm0104_04
end Mine

section
local macro_rules | `(tactic| walk_at "exec For Tuple Call cons nil") => `(tactic| (refine Mine.stop ?_))
local macro_rules | `(tactic| walk_at "subscriptTail") => `(tactic| ((with_reducible show wpAny _ _ (subscriptTail _ (Expr.Slice (some _) none none _) (Value.str _ _) (Value.ref _)) _ _ _); (with_reducible rename Fr _ _ _ _ => F'); (with_reducible rename News _ _ _ _ => N'); (refine slice_strN_sn (s := ⟨_, _, _, _, _⟩) F' N' ?_ (hsz := by rw [PySem.sizeLine_eq]; omega)); intro _ _ _ _ _; (try dsimp only)))
local macro_rules | `(tactic| walk_at "setItem ref int") => `(tactic| ((with_reducible show wpAny _ _ (setItem (Value.ref _) (Value.int _ _) (Value.str _ _)) _ _ _); (refine Mine.set_mine (by k_asm) (by k_asm) (by assumption) (by assumption) (by assumption) ?_); intro _ _ _ _; (try dsimp only)))
local macro_rules | `(tactic| walk_at "call builtin:str.join") => `(tactic| ((with_reducible show wpAny _ _ (call (Value.builtin "str.join") [Value.str _ _, Value.ref _]) _ _ _); (rename (List.map _ _ = List.map _ (Txt.split _ _)) => hl'); (refine SC.join (News.isList (by k_asm) (by k_mem)) hl' (Mine.cut_joinOk _ _ (by assumption)) ?_); intro _ _; (try dsimp only)))
local macro_rules | `(tactic| walk_at "PPost") => `(tactic| (dsimp only [Mine.PPost]))
local macro_rules | `(tactic| walk_at "MPost") => `(tactic| (dsimp only [Mine.MPost]))
local macro_rules | `(tactic| walk_at "call type:enumerate") => `(tactic| ((with_reducible show wpAny _ _ (call (Value.type _) [Value.ref _]) _ _ _); (with_unfolding_all refine Mine.call_enum_at (by k_asm) (by k_asm) ?_); intro _ _ _ _ _ _; (try dsimp only)))
local macro_rules | `(tactic| walk_at "pyIter ref") => `(tactic| (refine Mine.stop ?_))
local macro_rules | `(tactic| walk_at "call builtin:str.split") => `(tactic| ((refine KSpl.split1 (by k_asm) (by k_asm) (by decide) ?_ (by rw [PySem.sizeLine_eq]; omega)); intro D' l' _ _ e' a' _ _ lt'; (try k_fold)))
namespace Mine
theorem ded_call {w : World} {news : List (Addr × Obj)} {n : PySem.Str} {t : Tok} {loose : List Str} {mean : ExcName → Option Value} {mg mb : Str → Option Value}
    {dp un : Nat} {gd : Option (List Code)} {cn : Str} {cs : Scope} {a : Addr} {ccd : Value} {cl : List (Str × Addr)} {outer : List Env} {A₀ : Around} {base h₀ : Heap} {L : Addr} {m : Str → Option Value} {s : Shared} {Q E : Value → Shared → Prop}
    (B : Below A₀ base outer h₀) (F : Fr h₀ L s.heap m) (X : (Mine.hd.heap_39 w.params).In h₀) (N : News h₀ L s.heap news) (T : Top Mine.hd.view_39 loose mean mg mb h₀) (hk : cs.kind = .function) (hp : n.length ≤ 100000)
    (hd : dp + 1 < recursionLimit) (hu : un + 8 < cLine)
    (hne : ∀ y, (Txt.split n (Str.ofString "\n"))[0]? = some y → 0 < (signs y).length)
    (ret : ∀ y (j : Nat) t h' tk', (Txt.split n (Str.ofString "\n"))[0]? = some y → Mine.Marg (signs y) j → Fr h₀ L h' m → News h₀ L h' news → Q (.str (Txt.join (Str.ofString "\n") ((Txt.split n (Str.ofString "\n")).map fun p => Txt.slice p (some (j : Int)) none)) t) { s with heap := h', toks := tk' }) :
    wpAny (model Challenge.rw_dm0104_04.row.prog w) (ktrTop dp un gd cn cs L a ccd cl outer) (call (.ref 21) [.str n t]) Q E s := by
  revert X
  k_fill
  intro X
  w_top off
  refine wpAny_call ?_
  k_dflt cell_enter
  k_steps
  refine Mine.go ?_
  rename Fr _ _ _ _ => F'
  (with_reducible apply For_pair3F)
  (case _F => with_unfolding_all exact F')
  (case hh => with_unfolding_all rfl)
  (case hxi => with_unfolding_all rfl)
  (case hxc => with_unfolding_all rfl)
  (case hp => with_unfolding_all rfl)
  (case hs => (intro _; with_unfolding_all rfl))
  k_steps
  refine Mine.go ?_
  rename PairSrcL _ _ _ _ _ _ _ _ _ _ _ _ => S'
  rename (List.map _ _ = Txt.split _ _) => hsp
  rename ((List.map _ _)[_]? = some _) => hy0
  have hy1 := hy0
  rw [hsp] at hy1
  with_unfolding_all refine' Mine.pair_lead (xl := Str.ofString "lines") S' rfl rfl (hne _ hy1) (fun i a t u m₁ h tk own ha hK hown F₁ N₁ => ?_) (fun j tj m₁ h tk hm1 hm2 hM F₁ N₁ => ?_)
  · clear S'
    (try dsimp only)
    (try k_fold)
    k_steps
    · rename ((_ != _) = true) => hc
      exact Mine.PEnd.intro F₁ N₁ (Mine.lead_brk ha (by simpa [Mine.sp] using hc) hK rfl rfl)
    · rename ((_ != _) = false) => hc
      exact Mine.PEnd.intro F₁ N₁ (Mine.lead_next ha (by simpa [Mine.sp] using hc) hK rfl rfl)
  · clear S'
    replace F₁ := Mine.frKnow2 hm1 hm2 F₁
    dsimp only [kstB] at F₁
    (try dsimp only)
    (try k_fold)
    k_steps
    refine Mine.go ?_
    (with_reducible apply Mine.For_pairM)
    (case hs => (intro _; with_unfolding_all rfl))
    k_steps
    refine Mine.go ?_
    rename Fr _ _ _ _ => F₂
    rename News _ _ _ _ => N₂
    rename Mine.EnumAt _ _ _ _ _ _ _ => at'
    with_unfolding_all refine' Mine.enum_cut_at (xl := Str.ofString "lines") (xk := Str.ofString "i") (fun p => Txt.slice p (some (j : Int)) none) rfl rfl rfl rfl at' F₂ N₂ rfl rfl (by passes_own) (fun i a u t l cc m₂ h tk oe oi ha hv hlen k1 k2 hK F₃ N₃ => ?_) (fun l cc m₂ h tk k1 hl F₃ N₃ => ?_)
    · clear F₂ N₂ F₁ N₁
      replace F₃ := Mine.frKnows2 k1 k2 F₃
      have hshort : a.length ≤ n.length := part_short (by rw [← hsp]; exact List.mem_of_getElem? ha)
      rename (∀ p ∈ news, p.1 < _) => lt'
      have hD' : ∀ p ∈ (_, oe) :: (_, oi) :: news, p.1 ≠ _ := Mine.apart3 at' lt'
      have hi' := (List.getElem?_eq_some_iff.mp hv).1
      have hcnt := congrArg List.length hsp
      have hcnt2 := split_le n (Str.ofString "\n")
      have hsz' : (strValues l).length ≤ 1000000 := by rw [← hcnt] at hcnt2; simp only [strValues, List.length_map] at hcnt2 ⊢; omega
      dsimp only [kstB] at F₃
      (try dsimp only)
      (try k_fold)
      k_steps
      rename Fr _ _ _ _ => F₄
      rename News _ _ _ _ => N₄
      exact Mine.MEnd.intro F₄ N₄ (by simp [strValues, hlen]) (hK.set ha rfl rfl)
    · clear F₂ N₂ F₁ N₁
      replace F₃ := Mine.frKnow F₃ k1
      rw [hsp] at hl
      (try dsimp only)
      (try k_fold)
      k_steps
      refine ret _ j _ _ _ hy1 hM ?_ ?_
      · k_asm
      · rename News _ _ _ _ => N₅
        exact cb_drop N₅ (fun p hp => List.mem_cons_of_mem _ hp)
end Mine
end

section
local macro_rules | `(tactic| walk_at "exec For Tuple Call cons nil") => `(tactic| (refine Mine.stop ?_))
local macro_rules | `(tactic| walk_at "PPost") => `(tactic| (dsimp only [Mine.PPost]))
local macro_rules | `(tactic| walk_at "MPost") => `(tactic| (dsimp only [Mine.MPost]))
local macro_rules | `(tactic| walk_at "call type:enumerate") => `(tactic| ((with_reducible show wpAny _ _ (call (Value.type _) [Value.ref _]) _ _ _); (with_unfolding_all refine Mine.call_enum_at (by k_asm) (by k_asm) ?_); intro _ _ _ _ _ _; (try dsimp only)))
local macro_rules | `(tactic| walk_at "pyIter ref") => `(tactic| (refine Mine.stop ?_))
local macro_rules | `(tactic| walk_at "call builtin:str.split") => `(tactic| ((refine KSpl.split1 (by k_asm) (by k_asm) (by decide) ?_ (by rw [PySem.sizeLine_eq]; omega)); intro D' l' _ _ e' a' _ _ lt'; (try k_fold)))
local macro_rules | `(tactic| walk_at "eval Name") => `(tactic| ((with_reducible show wpAny _ _ (eval (Expr.Name (Str.ofString "i") _) _) _ _ _); (rename Fr _ _ _ _ => F'); (rename (_ = none) => hi'); (with_unfolding_all refine Mine.name_unb rfl rfl rfl F'.ns hi' (by rw [PySem.sizeLine_eq]; decide +kernel) ?_ (by decide)); intro h' tk' e' x'; (try dsimp only)))
local macro_rules | `(tactic| walk_at "leaving ref") => `(tactic| (refine Mine.stop ?_))
namespace Mine
theorem raised_drop {base : Heap} {l : List Env} {e : Addr} {cls : Value} {news news' : List (Addr × Obj)} {h : Heap} (R : RaisedN base l e cls news h) (hs : ∀ p ∈ news', p ∈ news) : RaisedN base l e cls news' h := by
  obtain ⟨B, a0, hB, hl, hf⟩ := R
  exact ⟨B, a0, hB, fun q hq => hl q (hs q hq), hf⟩
theorem ded_unb {w : World} {news : List (Addr × Obj)} {n : PySem.Str} {t : Tok} {loose : List Str} {mean : ExcName → Option Value} {mg mb : Str → Option Value}
    {dp un : Nat} {gd : Option (List Code)} {cn : Str} {cs : Scope} {a : Addr} {ccd : Value} {cl : List (Str × Addr)} {outer : List Env} {A₀ : Around} {base h₀ : Heap} {L : Addr} {m : Str → Option Value} {s : Shared} {Q E : Value → Shared → Prop}
    (B : Below A₀ base outer h₀) (F : Fr h₀ L s.heap m) (X : (Mine.hd.heap_39 w.params).In h₀) (N : News h₀ L s.heap news) (T : Top Mine.hd.view_39 loose mean mg mb h₀) (hk : cs.kind = .function) (hp : n.length ≤ 100000)
    (hd : dp + 1 < recursionLimit) (hu : un + 8 < cLine)
    (hne : ∀ y, (Txt.split n (Str.ofString "\n"))[0]? = some y → signs y = [])
    (err : ∀ g' h' tk e, Fr h₀ L g' m → RaisedN base (envX cn cs L a ccd cl :: outer) e (.type "UnboundLocalError") news h' → g'.UpToSlots h' → E (.ref e) { s with heap := h', toks := tk }) :
    wpAny (model Challenge.rw_dm0104_04.row.prog w) (ktrTop dp un gd cn cs L a ccd cl outer) (call (.ref 21) [.str n t]) Q E s := by
  revert X
  k_fill
  intro X
  w_top off
  refine wpAny_call ?_
  k_dflt cell_enter
  k_steps
  refine Mine.go ?_
  rename Fr _ _ _ _ => F'
  (with_reducible apply For_pair3F)
  (case _F => with_unfolding_all exact F')
  (case hh => with_unfolding_all rfl)
  (case hxi => with_unfolding_all rfl)
  (case hxc => with_unfolding_all rfl)
  (case hp => with_unfolding_all rfl)
  (case hs => (intro _; with_unfolding_all rfl))
  k_steps
  refine Mine.go ?_
  rename PairSrcL _ _ _ _ _ _ _ _ _ _ _ _ => S'
  rename (List.map _ _ = Txt.split _ _) => hsp
  rename ((List.map _ _)[_]? = some _) => hy0
  have hy1 := hy0
  rw [hsp] at hy1
  have hnil := hne _ hy1
  with_unfolding_all refine' Mine.pair_text (fun _ m₁ => m₁ (Str.ofString "lines") = some (.ref _) ∧ m₁ (Str.ofString "i") = none) (fun m₁ => m₁ (Str.ofString "lines") = some (.ref _) ∧ m₁ (Str.ofString "i") = none) S' rfl ⟨rfl, rfl⟩ (fun i a t u m₁ h tk own ha hK hown F₁ N₁ => ?_) (fun m₁ h => h) (fun m₁ h tk hK F₁ N₁ => ?_)
  · rw [hnil] at ha
    cases ha
  · clear S'
    obtain ⟨hm1, hm2⟩ := hK
    replace F₁ := Mine.frKnow F₁ hm1
    (try dsimp only at F₁)
    (try dsimp only)
    (try k_fold)
    k_steps
    refine Mine.go ?_
    (with_reducible apply Mine.For_pairM)
    (case hs => (intro _; with_unfolding_all rfl))
    k_steps
    refine Mine.go ?_
    rename Fr _ _ _ _ => F₂
    rename News _ _ _ _ => N₂
    rename Mine.EnumAt _ _ _ _ _ _ _ => at'
    with_unfolding_all refine' Mine.enum_mut (n := _) (fun i us m₂ => i = 0 ∧ m₂ (Str.ofString "i") = none) rfl rfl rfl rfl at'.en at'.li at'.ei at'.le at'.ll at'.eL at'.iL at'.e0 at'.i0 at'.rs F₂ N₂ rfl ⟨rfl, hm2⟩ (fun i v t us cc m₂ h tk oe oi hus hv hK F₃ N₃ => ?_) (fun us cc m₂ h tk hus hK F₃ N₃ => ?_) (by passes_own)
    · clear F₂ N₂ F₁ N₁
      obtain ⟨rfl, hK2⟩ := hK
      (try dsimp only)
      (try k_fold)
      k_steps
      refine Mine.go ?_
      rename Mine.UnbExc _ _ _ => x₉
      rename Fr _ _ _ _ => F₉
      rename Below _ _ _ _ => B₉
      rename Fr h₀ L _ m => FG₉
      refine Mine.leave_unb B₉ x₉ F₉ N₃ (fun h₂ R U => ?_)
      exact err _ _ _ _ FG₉ (Mine.raised_drop R fun p hp => List.mem_cons_of_mem _ (List.mem_cons_of_mem _ (List.mem_cons_of_mem _ hp))) U
    · exfalso
      have h1 := hK.1
      rw [strValues, List.length_map] at h1
      rw [List.eq_nil_of_length_eq_zero h1] at hy0
      cases hy0
end Mine
end

section
local macro_rules | `(tactic| walk_at "exec While BoolOp cons nil") => `(tactic| (refine Mine.stop ?_))
namespace Mine
def lead (l : List Nat) : Nat := (l.takeWhile (· == 32)).length
def margZ (l : List Nat) : Int := if lead l = l.length ∨ l[lead l]? = some 10 then (lead l : Int) - 1 else lead l
def MJ (x : Str) (tx : Tok) (news : List (Addr × Obj)) (n : Nat) (m : Str → Option Value) (nx : List (Addr × Obj)) : Prop :=
  nx = news ∧ ∃ i : Nat, ∃ t, m (Str.ofString "text") = some (.str x tx) ∧ m (Str.ofString "count") = some (.int i t) ∧ i + n = x.length ∧ ∀ k, k < i → (sg x)[k]? = some 32
theorem lead_of {l : List Nat} : ∀ {i : Nat}, (∀ k, k < i → l[k]? = some 32) → (l[i]? ≠ some 32) → lead l = i := by
  induction l with
  | nil =>
    intro i h _
    cases i with
    | zero => rfl
    | succ i => exact absurd (h 0 (Nat.succ_pos _)) (by simp)
  | cons a r ih =>
    intro i h h2
    cases i with
    | zero =>
      have : a ≠ 32 := fun e => h2 (by rw [e]; rfl)
      simp [lead, this]
    | succ i =>
      have e : a = 32 := by simpa using h 0 (Nat.succ_pos _)
      have := ih (i := i) (fun k hk => by simpa using h (k + 1) (Nat.succ_lt_succ hk)) (by simpa using h2)
      simp only [lead] at this ⊢
      rw [e, List.takeWhile_cons_of_pos (by decide), List.length_cons, this]
theorem item_at {x : Str} {i : Nat} {c : Nat} (h : (i : Int) < x.length) : (Txt.item x (i : Int) == ⟨#[c]⟩) = true ↔ (sg x)[i]? = some c := by
  rw [item_pos (by omega) h, one_beq]
  have hl : i < (sg x).length := by rw [sg_len]; omega
  rw [beq_iff_eq, Int.toNat_natCast, List.getD_eq_getElem?_getD, List.getElem?_eq_getElem hl]
  simp
theorem nl_is : Str.ofString "\n" = ⟨#[10]⟩ := by decide
theorem sp_is : Str.ofString " " = ⟨#[32]⟩ := by decide
section
variable {x : Str} {i j : Nat}
theorem mg_end (hij : i + j = x.length) (hl : ∀ k, k < i → (sg x)[k]? = some 32) (hi : (i : Int) = x.length) : margZ (sg x) = (i : Int) - 1 := by
  have hlen := sg_len x
  have e := lead_of hl (by rw [List.getElem?_eq_none (by omega)]; simp)
  unfold margZ
  rw [e, if_pos (.inl (by omega))]
theorem mg_nl (hl : ∀ k, k < i → (sg x)[k]? = some 32) (hi : (i : Int) < x.length) (h : (Txt.item x (i : Int) == Str.ofString "\n") = true) : margZ (sg x) = (i : Int) - 1 := by
  rw [nl_is, item_at hi] at h
  have e := lead_of hl (by rw [h]; simp)
  unfold margZ
  rw [e, if_pos (.inr h)]
theorem mg_oth (hl : ∀ k, k < i → (sg x)[k]? = some 32) (hi : (i : Int) < x.length) (h : (Txt.item x (i : Int) == Str.ofString " ") = false) (h2 : (Txt.item x (i : Int) == Str.ofString "\n") = false) : margZ (sg x) = (i : Int) := by
  have h' : (sg x)[i]? ≠ some 32 := fun q => by rw [sp_is, (item_at hi).mpr q] at h; cases h
  have h2' : (sg x)[i]? ≠ some 10 := fun q => by rw [nl_is, (item_at hi).mpr q] at h2; cases h2
  have e := lead_of hl h'
  have hlen := sg_len x
  unfold margZ
  rw [e, if_neg (fun q => q.elim (fun q => by omega) h2')]
theorem mg_step (hl : ∀ k, k < i → (sg x)[k]? = some 32) (hi : (i : Int) < x.length) (h : (Txt.item x (i : Int) == Str.ofString " ") = true) : ∀ k, k < i + 1 → (sg x)[k]? = some 32 := by
  rw [sp_is, item_at hi] at h
  intro k hk
  rcases Nat.lt_succ_iff_lt_or_eq.mp hk with hk | rfl
  · exact hl k hk
  · exact h
end
theorem margin_call {w : World} {news : List (Addr × Obj)} {n : PySem.Str} {t : Tok} {loose : List Str} {mean : ExcName → Option Value} {mg mb : Str → Option Value}
    {dp un : Nat} {gd : Option (List Code)} {cn : Str} {cs : Scope} {a : Addr} {ccd : Value} {cl : List (Str × Addr)} {outer : List Env} {A₀ : Around} {base h₀ : Heap} {L : Addr} {m : Str → Option Value} {s : Shared} {Q E : Value → Shared → Prop}
    (B : Below A₀ base outer h₀) (F : Fr h₀ L s.heap m) (X : (Mine.hd.heap_39 w.params).In h₀) (N : News h₀ L s.heap news) (T : Top Mine.hd.view_39 loose mean mg mb h₀) (hk : cs.kind = .function) (hp : n.length ≤ 100000)
    (hd : dp + 1 < recursionLimit) (hu : un + 8 < cLine)
    (ret : ∀ t h' tk', Fr h₀ L h' m → News h₀ L h' news → Q (.int (margZ (sg n)) t) { s with heap := h', toks := tk' }) :
    wpAny (model Challenge.rw_dm0104_04.row.prog w) (ktrTop dp un gd cn cs L a ccd cl outer) (call (.ref 28) [.str n t]) Q E s := by
  revert X
  k_fill
  intro X
  w_top off
  refine wpAny_call ?_
  k_dflt cell_enter
  k_steps
  refine Mine.go ?_
  rename Fr _ _ _ _ => F'
  rename News _ _ _ _ => N'
  with_unfolding_all refine' While_inv (Mine.MJ n t _) (n₀ := n.length) F' N' ⟨rfl, 0, _, rfl, rfl, by omega, fun k hk => absurd hk (Nat.not_lt_zero _)⟩ (fun j m₁ news₁ h₁ tk₁ F₁ N₁ hJ => ?_) (by passes_own)
  obtain ⟨rfl, i, ti, hm1, hm2, hij, hl⟩ := hJ
  replace F₁ := Mine.frKnow2 hm1 hm2 F₁
  dsimp only [kstB] at F₁
  (try dsimp only)
  (try k_fold)
  k_steps
  · rename Fr _ _ _ _ => F₂
    rename News _ _ _ _ => N₂
    have hlt : (i : Int) < n.length := by assumption
    exact WhileStep.intro (n' := j - 1) F₂ N₂ (by omega) ⟨rfl, i + 1, _, rfl, by push_cast; rfl, by omega, Mine.mg_step hl hlt (by assumption)⟩
  all_goals first
    | (exfalso; omega)
    | (have e := Mine.mg_end hij hl (by omega))
    | (have e := Mine.mg_nl hl (by assumption) (by assumption))
    | (have e := Mine.mg_oth hl (by assumption) (by assumption) (by assumption))
  all_goals (rw [← e]; exact ret _ _ _ (by k_asm) (by k_asm))
end Mine
end

section
namespace Mine
def cutStep (z : Int) (p : List Nat × Int) (c : Nat) : List Nat × Int :=
  if c = 10 then (p.1 ++ [10], 0) else (if z ≤ p.2 then p.1 ++ [c] else p.1, p.2 + 1)
def cutF (z : Int) (l : List Nat) : List Nat × Int := l.foldl (cutStep z) ([], 0)
def cutS (z : Int) (x : Str) : Str := ⟨(cutF z (sg x)).1.toArray⟩
def ones (l : List Nat) : List Str := l.map fun c => (⟨#[c]⟩ : Str)
def CJ (x : Str) (z : Int) (tz : Tok) (D : Addr) (Z : List (Addr × Obj)) (i : Nat) (m : Str → Option Value) (nx : List (Addr × Obj)) : Prop :=
  ∃ l c tc, nx = (D, listOf (strValues l).toArray c) :: Z ∧ l.map (·.1) = ones (cutF z ((sg x).take i)).1 ∧ l.length ≤ i ∧
    m (Str.ofString "left") = some (.ref D) ∧ m (Str.ofString "column") = some (.int (cutF z ((sg x).take i)).2 tc) ∧ m (Str.ofString "margin") = some (.int z tz)
theorem cutF_snoc {x : Str} {z : Int} {i c : Nat} (h : x.cps[i]? = some c) : cutF z ((sg x).take (i + 1)) = cutStep z (cutF z ((sg x).take i)) c := by
  have h' : (sg x)[i]? = some c := by simpa [sg] using h
  rw [List.take_add_one, h', cutF, List.foldl_append]
  rfl
theorem one_nl {c : Nat} (h : ((⟨#[c]⟩ : Str) == Str.ofString "\n") = true) : c = 10 := by rw [nl_is, one_beq] at h; exact eq_of_beq h
theorem one_no {c : Nat} (h : ((⟨#[c]⟩ : Str) == Str.ofString "\n") = false) : c ≠ 10 := fun e => by rw [nl_is, one_beq, e] at h; cases h
section
variable {x : Str} {z : Int} {i c : Nat} {l : List (Str × Tok)} {t : Tok}
theorem cj_nl (hc : x.cps[i]? = some c) (hl : l.map (·.1) = ones (cutF z ((sg x).take i)).1) (h : c = 10) : (l ++ [((⟨#[c]⟩ : Str), t)]).map (·.1) = ones (cutF z ((sg x).take (i + 1))).1 := by
  rw [cutF_snoc hc, cutStep, if_pos h, List.map_append, hl, ones, ones, List.map_append, h]; rfl
theorem cj_nl2 (hc : x.cps[i]? = some c) (h : c = 10) : some (Value.int 0 t) = some (Value.int (cutF z ((sg x).take (i + 1))).2 t) := by
  rw [cutF_snoc hc, cutStep, if_pos h]
theorem cj_in (hc : x.cps[i]? = some c) (hl : l.map (·.1) = ones (cutF z ((sg x).take i)).1) (h : c ≠ 10) (h2 : z ≤ (cutF z ((sg x).take i)).2) : (l ++ [((⟨#[c]⟩ : Str), t)]).map (·.1) = ones (cutF z ((sg x).take (i + 1))).1 := by
  rw [cutF_snoc hc, cutStep, if_neg h, if_pos h2, List.map_append, hl, ones, ones, List.map_append]; rfl
theorem cj_out (hc : x.cps[i]? = some c) (hl : l.map (·.1) = ones (cutF z ((sg x).take i)).1) (h : c ≠ 10) (h2 : ¬ z ≤ (cutF z ((sg x).take i)).2) : l.map (·.1) = ones (cutF z ((sg x).take (i + 1))).1 := by
  rw [cutF_snoc hc, cutStep, if_neg h, if_neg h2, hl]
theorem cj_col (hc : x.cps[i]? = some c) (h : c ≠ 10) : some (Value.int ((cutF z ((sg x).take i)).2 + 1) t) = some (Value.int (cutF z ((sg x).take (i + 1))).2 t) := by
  rw [cutF_snoc hc, cutStep, if_neg h]
end
theorem ones_join (l : List Nat) : Txt.join (Str.ofString "") (ones l) = ⟨l.toArray⟩ := by
  have e0 : Txt.join (Str.ofString "") (ones l) = Str.join ⟨#[]⟩ (ones l) := StrLaws.glued_eq_join _ _
  rw [e0, ones, join_ones]
theorem ones_ok {l : List Nat} (h : (ones l).length ≤ 1000000) : JoinOk (Str.ofString "") (ones l) = true := by
  refine joinOk_of ?_
  have h1 : ((ones l).map (·.length)).sum = l.length := by
    unfold ones
    induction l with
    | nil => rfl
    | cons a r ih =>
      simp only [List.map_cons, List.sum_cons, List.length_cons]
      have := ih (by simp [ones] at h ⊢; omega)
      rw [this]
      show 1 + r.length = _
      omega
  have h2 : (Str.ofString "").length = 0 := rfl
  have h3 : (ones l).length = l.length := by simp [ones]
  rw [h1, h2]
  omega
theorem know3 {m : Str → Option Value} {a b c : Str} {u v x : Value} (h1 : m a = some u) (h2 : m b = some v) (h3 : m c = some x) : ∀ p ∈ [(a, u), (b, v), (c, x)], m p.1 = some p.2 := by
  intro p hp
  rcases List.mem_cons.mp hp with rfl | hp
  · exact h1
  rcases List.mem_cons.mp hp with rfl | hp
  · exact h2
  · rw [List.mem_singleton.mp hp]; exact h3
end Mine
local macro_rules | `(tactic| walk_at "call builtin:str.join") => `(tactic| (k_here; (with_reducible show wpAny _ _ (call (Value.builtin "str.join") [Value.str _ _, Value.ref _]) _ _ _); ((rename (List.map _ _ = Mine.ones _) => hl'); (refine SC.join (News.isList (by k_asm) (by k_mem)) hl' (by assumption) ?_)); intro _ _; (try dsimp only); (try k_fold)))
local macro_rules | `(tactic| walk_at "pyIter str") => `(tactic| (refine Mine.stop ?_))
local macro_rules | `(tactic| walk_at "exec For Name Name cons nil") => `(tactic| with_unfolding_all ((rename Fr _ _ _ _ => F'); (refine For_invVF F' (by rfl) (by rfl) ?_)))
local macro_rules | `(tactic| walk_at "LPost") => `(tactic| (dsimp only [Mine.LPost]))
local macro_rules | `(tactic| walk_at "call builtin:list.append") => `(tactic| ((k_dflt (refine Mine.app_mid [_] (by k_asm) (by k_asm) (Mine.ne_cons (by assumption) Mine.ne_nil) (by assumption) (by omega) ?_)); intro _ _ N9'; (dsimp only [List.cons_append, List.nil_append] at N9'); (try dsimp only); (try k_fold)))
namespace Mine
theorem cut_call {w : World} {news : List (Addr × Obj)} {n : PySem.Str} {z : Int} {t tz : Tok} {loose : List Str} {mean : ExcName → Option Value} {mg mb : Str → Option Value}
    {dp un : Nat} {gd : Option (List Code)} {cn : Str} {cs : Scope} {a : Addr} {ccd : Value} {cl : List (Str × Addr)} {outer : List Env} {A₀ : Around} {base h₀ : Heap} {L : Addr} {m : Str → Option Value} {s : Shared} {Q E : Value → Shared → Prop}
    (B : Below A₀ base outer h₀) (F : Fr h₀ L s.heap m) (X : (Mine.hd.heap_39 w.params).In h₀) (N : News h₀ L s.heap news) (T : Top Mine.hd.view_39 loose mean mg mb h₀) (hk : cs.kind = .function) (hp : n.length ≤ 100000)
    (hd : dp + 1 < recursionLimit) (hu : un + 8 < cLine)
    (ret : ∀ t h' tk', Fr h₀ L h' m → News h₀ L h' news → Q (.str (cutS z n) t) { s with heap := h', toks := tk' }) :
    wpAny (model Challenge.rw_dm0104_04.row.prog w) (ktrTop dp un gd cn cs L a ccd cl outer) (call (.ref 35) [.str n t, .int z tz]) Q E s := by
  revert X
  k_fill
  intro X
  w_top off
  refine wpAny_call ?_
  k_dflt cell_enter
  k_steps
  refine Mine.go ?_
  rename Fr _ _ _ _ => F'
  rename News _ _ _ _ => N'
  rename (∀ p ∈ news, p.1 < _) => lt'
  with_unfolding_all refine' Mine.text_loop (Mine.CJ n z tz _ _) rfl F' N' ⟨[], _, _, rfl, rfl, Nat.zero_le _, rfl, rfl, rfl⟩ (fun i c tc m₁ news₁ h tk I oI hc hJ hne F₁ N₁ => ?_) (fun m₁ news₁ h tk hJ F₁ N₁ => ?_)
  · obtain ⟨l, cc, tcol, rfl, hl, hlen, hm1, hm2, hm3⟩ := hJ
    have hi := (Array.getElem?_eq_some_iff.mp hc).1
    have q := Mine.ne_head hne
    have q1 := q.1
    have q1' := q1.symm
    have q2 : ∀ p ∈ news, p.1 ≠ _ := fun p hp => Nat.ne_of_lt (lt' p hp)
    have hi2 : n.cps.size = n.length := rfl
    replace F₁ := Mine.frKnows [(Str.ofString "left", _), (Str.ofString "column", _), (Str.ofString "margin", _)] (Mine.know3 hm1 hm2 hm3) F₁
    dsimp only [kstB] at F₁
    (try dsimp only)
    (try k_fold)
    k_steps
    · rename Fr _ _ _ _ => F₂
      rename News _ _ _ _ => N₂
      have hc' := Mine.one_nl (by assumption)
      with_unfolding_all exact LEnd.intro F₂ N₂ _ (fun p hp => hp) (Mine.ne_cons q1 q.2) ⟨_, _, _, rfl, Mine.cj_nl hc hl hc', by rw [List.length_append]; exact Nat.succ_le_succ hlen, rfl, Mine.cj_nl2 hc hc', rfl⟩
    · rename Fr _ _ _ _ => F₂
      rename News _ _ _ _ => N₂
      have hc' := Mine.one_no (by assumption)
      with_unfolding_all exact LEnd.intro F₂ N₂ _ (fun p hp => hp) (Mine.ne_cons q1 q.2) ⟨_, _, _, rfl, Mine.cj_in hc hl hc' (by assumption), by rw [List.length_append]; exact Nat.succ_le_succ hlen, rfl, Mine.cj_col hc hc', rfl⟩
    · rename Fr _ _ _ _ => F₂
      have hc' := Mine.one_no (by assumption)
      with_unfolding_all exact LEnd.intro F₂ (by k_asm) _ (fun p hp => hp) (Mine.ne_cons q1 q.2) ⟨_, _, _, rfl, Mine.cj_out hc hl hc' (by omega), Nat.le_succ_of_le hlen, rfl, Mine.cj_col hc hc', rfl⟩
  · obtain ⟨l, cc, tcol, rfl, hl, hlen, hm1, hm2, hm3⟩ := hJ
    rw [show (sg n).take n.length = sg n from by rw [← sg_len, List.take_length]] at hl
    have hok : JoinOk (Str.ofString "") (ones (cutF z (sg n)).1) = true := Mine.ones_ok (by rw [← hl, List.length_map]; omega)
    replace F₁ := Mine.frKnow F₁ hm1
    (try dsimp only at F₁)
    (try dsimp only)
    (try k_fold)
    k_steps
    rw [Mine.ones_join]
    refine ret _ _ _ ?_ ?_
    · k_asm
    · rename News _ _ _ _ => N₅
      exact cb_drop N₅ (fun p hp => List.mem_cons_of_mem _ hp)
end Mine
end

section
namespace Mine
theorem lead_app {p r : List Nat} : lead (p ++ 10 :: r) = lead p := by
  induction p with
  | nil => simp [lead]
  | cons a p ih =>
    by_cases h : a = 32
    · simp only [lead] at ih ⊢
      rw [List.cons_append, h, List.takeWhile_cons_of_pos (by decide), List.takeWhile_cons_of_pos (by decide), List.length_cons, List.length_cons, ih]
    · simp [lead, h]
theorem lead_le (l : List Nat) : lead l ≤ l.length := by
  induction l with
  | nil => simp [lead]
  | cons a l ih =>
    by_cases h : a = 32
    · simp only [lead] at ih ⊢
      rw [h, List.takeWhile_cons_of_pos (by decide), List.length_cons, List.length_cons]
      omega
    · simp [lead, h]
theorem lead_before : ∀ {l : List Nat} {k : Nat}, k < lead l → l[k]? = some 32
  | [], k, h => by simp [lead] at h
  | a :: l, k, h => by
    by_cases e : a = 32
    · cases k with
      | zero => rw [e]; rfl
      | succ k =>
        have : k < lead l := by
          simp only [lead] at h ⊢
          rw [e, List.takeWhile_cons_of_pos (by decide), List.length_cons] at h
          omega
        simpa using lead_before this
    · simp [lead, e] at h
theorem lead_at : ∀ {l : List Nat}, l[lead l]? ≠ some 32
  | [] => by simp [lead]
  | a :: l => by
    by_cases e : a = 32
    · have := lead_at (l := l)
      have h : lead (a :: l) = lead l + 1 := by
        simp only [lead]; rw [e, List.takeWhile_cons_of_pos (by decide), List.length_cons]
      rw [h]; simpa using this
    · simp [lead, e]
/-- the margin is told by the first row -/
theorem marg_row {p : List Nat} (hp : 10 ∉ p) {r : List (List Nat)} : margZ (jl 10 (p :: r)) = if lead p = p.length then (p.length : Int) - 1 else lead p := by
  cases r with
  | nil =>
    show margZ p = _
    unfold margZ
    by_cases h : lead p = p.length
    · rw [if_pos (.inl h), if_pos h, h]
    · rw [if_neg h, if_neg]
      rintro (q | q)
      · exact h q
      · exact hp (List.mem_of_getElem? q)
  | cons y r =>
    show margZ (p ++ 10 :: jl 10 (y :: r)) = _
    unfold margZ
    rw [lead_app]
    by_cases h : lead p = p.length
    · rw [if_pos h, if_pos, h]
      right
      rw [h, List.getElem?_append_right (Nat.le_refl _), Nat.sub_self]; rfl
    · have hl := lead_le p
      rw [if_neg h, if_neg]
      rintro (q | q)
      · rw [List.length_append, List.length_cons] at q; omega
      · rw [List.getElem?_append_left (by omega)] at q
        exact hp (List.mem_of_getElem? q)
theorem cut_run (z : Int) : ∀ (p : List Nat) (out : List Nat) (col : Int), 10 ∉ p → p.foldl (cutStep z) (out, col) = (out ++ p.drop (z - col).toNat, col + p.length)
  | [], out, col, _ => by simp
  | a :: p, out, col, h => by
    have ha : a ≠ 10 := fun e => h (by rw [e]; exact List.mem_cons_self)
    have hp : 10 ∉ p := fun e => h (List.mem_cons_of_mem _ e)
    rw [List.foldl_cons, cutStep, if_neg ha]
    by_cases q : z ≤ col
    · simp only [if_pos q]
      rw [cut_run z p _ _ hp, show (z - col).toNat = 0 by omega, show (z - (col + 1)).toNat = 0 by omega]
      simp only [List.drop_zero, List.append_assoc, List.length_cons, Prod.mk.injEq]
      exact ⟨by first | rfl | trivial, by push_cast; omega⟩
    · simp only [if_neg q]
      rw [cut_run z p _ _ hp, show (z - col).toNat = (z - (col + 1)).toNat + 1 by omega]
      simp only [List.drop_succ_cons, List.length_cons, Prod.mk.injEq]
      exact ⟨by first | rfl | trivial, by push_cast; omega⟩
theorem cut_rows (k : Nat) : ∀ (rows : List (List Nat)) (out : List Nat), (∀ p ∈ rows, 10 ∉ p) → rows ≠ [] → ((jl 10 rows).foldl (cutStep k) (out, 0)).1 = out ++ jl 10 (rows.map (·.drop k))
  | [], _, _, h => absurd rfl h
  | [p], out, h, _ => by
    show (p.foldl (cutStep k) (out, 0)).1 = _
    rw [cut_run _ _ _ _ (h p (by simp))]
    show out ++ p.drop ((k : Int) - 0).toNat = out ++ p.drop k
    rw [show ((k : Int) - 0).toNat = k by omega]
  | p :: q :: r, out, h, _ => by
    show ((p ++ 10 :: jl 10 (q :: r)).foldl (cutStep k) (out, 0)).1 = _
    rw [List.foldl_append, cut_run _ _ _ _ (h p (by simp)), List.foldl_cons, cutStep, if_pos rfl]
    rw [cut_rows k (q :: r) _ (fun x hx => h x (List.mem_cons_of_mem _ hx)) (by simp)]
    show out ++ p.drop ((k : Int) - 0).toNat ++ [10] ++ jl 10 ((q :: r).map (·.drop k)) = out ++ (p.drop k ++ 10 :: jl 10 ((q :: r).map (·.drop k)))
    rw [show ((k : Int) - 0).toNat = k by omega]
    simp
/-- a text by its rows -/
theorem rows_of (x : Str) : ∃ y r, Txt.split x (Str.ofString "\n") = y :: r ∧ (∀ p ∈ y :: r, 10 ∉ sg p) ∧ sg x = jl 10 ((y :: r).map sg) := by
  rw [nl_eq]
  have e1 := StrLaws.join_split x ⟨#[10]⟩
  have e2 := congrArg (fun x : Str => x.cps.toList) e1
  simp only [join_jl] at e2
  cases hs : Txt.split x ⟨#[10]⟩ with
  | nil => exact absurd hs (split_ne x)
  | cons y r =>
    rw [hs] at e2
    exact ⟨y, r, rfl, fun p hp => StrLaws.split_free x 10 p (by rw [hs]; exact hp), e2.symm⟩
theorem empty_row {x : Str} : (∀ y, (Txt.split x (Str.ofString "\n"))[0]? = some y → signs y = []) ↔ margZ (sg x) = -1 := by
  obtain ⟨y, r, e, hf, hx⟩ := rows_of x
  rw [e, hx, List.map_cons, marg_row (hf y (by simp))]
  have hl : (signs y).length = (sg y).length := by rw [signs_length, sg_len]
  have hle := lead_le (sg y)
  constructor
  · intro h
    have := h y rfl
    rw [this] at hl
    have h0 : (sg y).length = 0 := hl.symm
    rw [if_pos (by omega), h0]; rfl
  · intro h z hz
    have : y = z := by simpa using hz
    subst this
    refine List.eq_nil_of_length_eq_zero ?_
    rw [hl]
    split at h <;> omega
theorem ded_is {x y : Str} {j : Nat} (hy : (Txt.split x (Str.ofString "\n"))[0]? = some y) (hM : Marg (signs y) j) :
    margZ (sg x) = j ∧ Txt.join (Str.ofString "\n") ((Txt.split x (Str.ofString "\n")).map fun p => Txt.slice p (some (j : Int)) none) = cutS j x := by
  obtain ⟨y', r, e, hf, hx⟩ := rows_of x
  rw [e] at hy ⊢
  have : y' = y := by simpa using hy
  subst this
  obtain ⟨h1, h2, h3⟩ := hM
  have hl : (signs y').length = (sg y').length := by rw [signs_length, sg_len]
  have hb : ∀ k, k < j → (sg y')[k]? = some 32 := fun k hk => (sign_sp _ _).mp (h2 k hk)
  constructor
  · rw [hx, List.map_cons, marg_row (hf _ (by simp))]
    by_cases hj : (sg y')[j]? = some 32
    · rcases h3 with h3 | h3
      · exact absurd ((sign_sp _ _).mpr hj) h3
      · have : lead (sg y') = (sg y').length := lead_of (fun k hk => by
          rcases Nat.lt_succ_iff_lt_or_eq.mp (show k < j + 1 by omega) with hk | rfl
          · exact hb k hk
          · exact hj) (by rw [List.getElem?_eq_none (Nat.le_refl _)]; simp)
        rw [if_pos this]; omega
    · have : lead (sg y') = j := lead_of hb hj
      rw [if_neg (by omega), this]
  · refine sg_inj ?_
    unfold cutS cutF
    rw [sg_mk, hx, cut_rows j _ _ (by
      intro p hp
      obtain ⟨q, hq, rfl⟩ := List.mem_map.mp hp
      exact hf q hq) (by simp), List.nil_append]
    have e0 : ∀ ps : List Str, Txt.join (Str.ofString "\n") ps = Str.join ⟨#[10]⟩ ps := fun ps => by rw [nl_eq]; exact StrLaws.glued_eq_join _ _
    rw [e0]
    show (Str.join ⟨#[10]⟩ _).cps.toList = _
    rw [join_jl, List.map_map, List.map_map]
    congr 1
    refine List.map_congr_left fun p _ => ?_
    exact sg_from _ _
end Mine
end

section
namespace Mine
def sign4 (x : Int) : PySem.Str := [Str.ofString " ", Str.ofString "\n", Str.ofString "a", Str.ofString "\t", Str.ofString " ", Str.ofString "b", Str.ofString "\r", Str.ofString "."].getD (x.fmod 8).toNat Str.empty
theorem sign4_one (x : Int) : (sign4 x).length = 1 := by
  have h1 := fmod_lo x (n := 8) (by decide)
  have h2 := fmod_hi x (n := 8) (by decide)
  unfold sign4
  have h3 : (x.fmod 8).toNat < 8 := by omega
  revert h3
  generalize (x.fmod 8).toNat = i
  exact (by decide +kernel : ∀ i, i < 8 → ([Str.ofString " ", Str.ofString "\n", Str.ofString "a", Str.ofString "\t", Str.ofString " ", Str.ofString "b", Str.ofString "\r", Str.ofString "."].getD i Str.empty).length = 1) i
theorem unb_isExc : isSubtype (.type "UnboundLocalError") (.type "BaseException") = pure true := by rw [isSubtype_type]; kernel_rfl
theorem unb_notTuple : isSubtype (.type ((Manifest.find? "UnboundLocalError").elim "type" fun x => x.metatype)) (.type "tuple") = pure false := by
  rw [show ((Manifest.find? "UnboundLocalError").elim "type" fun x => x.metatype) = "type" from by kernel_rfl, isSubtype_type]; kernel_rfl
theorem ded_both {w : World} {news : List (Addr × Obj)} {n : PySem.Str} {t : Tok} {loose : List Str} {mean : ExcName → Option Value} {mg mb : Str → Option Value}
    {dp un : Nat} {gd : Option (List Code)} {cn : Str} {cs : Scope} {a : Addr} {ccd : Value} {cl : List (Str × Addr)} {outer : List Env} {A₀ : Around} {base h₀ : Heap} {L : Addr} {m : Str → Option Value} {s : Shared} {Q E : Value → Shared → Prop}
    (B : Below A₀ base outer h₀) (F : Fr h₀ L s.heap m) (X : (Mine.hd.heap_39 w.params).In h₀) (N : News h₀ L s.heap news) (T : Top Mine.hd.view_39 loose mean mg mb h₀) (hk : cs.kind = .function) (hp : n.length ≤ 100000)
    (hd : dp + 1 < recursionLimit) (hu : un + 8 < cLine)
    (ret : margZ (sg n) ≠ -1 → ∀ t h' tk', Fr h₀ L h' m → News h₀ L h' news → Q (.str (cutS (margZ (sg n)) n) t) { s with heap := h', toks := tk' })
    (err : margZ (sg n) = -1 → ∀ g' h' tk e, Fr h₀ L g' m → RaisedN base (envX cn cs L a ccd cl :: outer) e (.type "UnboundLocalError") news h' → g'.UpToSlots h' → E (.ref e) { s with heap := h', toks := tk }) :
    wpAny (model Challenge.rw_dm0104_04.row.prog w) (ktrTop dp un gd cn cs L a ccd cl outer) (call (.ref 21) [.str n t]) Q E s := by
  by_cases h : margZ (sg n) = -1
  · exact ded_unb B F X N T hk hp hd hu (empty_row.mpr h) (err h)
  · refine ded_call B F X N T hk hp hd hu (fun y hy => ?_) (fun y j t h' tk' hy hM F' N' => ?_)
    · refine Nat.pos_of_ne_zero fun q => h (empty_row.mp fun z hz => ?_)
      rw [hy] at hz
      cases hz
      exact List.eq_nil_of_length_eq_zero q
    · obtain ⟨e1, e2⟩ := ded_is hy hM
      have := ret h t h' tk' F' N'
      rw [e1] at this
      rw [e2]; exact this
end Mine
local macro_rules | `(tactic| walk_at "call ref") => `(tactic| (k_here; (with_reducible show wpAny _ _ (call (Value.ref 21) _) _ _ _); refine Mine.stop ?_))
local macro_rules | `(tactic| walk_at "call ref") => `(tactic| (k_here; (with_reducible show wpAny _ _ (call (Value.ref 28) _) _ _ _); k_dflt (refine Mine.margin_call (by k_asm) (by k_asm) (by k_asm) (by k_asm) (by k_asm) rfl (by omega) (by ktr_room) (by ktr_units) ?_); intro t9 h9 tk9 F9 N9; (try dsimp only); (try k_fold)))
local macro_rules | `(tactic| walk_at "call ref") => `(tactic| (k_here; (with_reducible show wpAny _ _ (call (Value.ref 35) _) _ _ _); k_dflt (refine Mine.cut_call (by k_asm) (by k_asm) (by k_asm) (by k_asm) (by k_asm) rfl (by omega) (by ktr_room) (by ktr_units) ?_); intro t9 h9 tk9 F9 N9; (try dsimp only); (try k_fold)))
local macro_rules | `(tactic| walk_at "CompSrc") => `(tactic| (k_here; (try k_fmods); (try kcf_lens); k_dflt (refine LCg.CompSrc.base (by rfl) (by k_asm) (by k_asm) (by assumption) (by size_fits) ?_; intro g'; (refine' kct_list Mine.sign4 (by first | assumption | l_ints) (fun k' t' I' oI' C' oC' D' m' ys' h' tk' E' hk' hC' hx' F' N' off' ne' hMark' => ?_) ?_); (all_goals (try (simp only [LCg.Off3, and_true] at off'))); kcf_last)))
local macro_rules | `(tactic| walk_at "CompEnd") => `(tactic| ((refine' Mine.ct_end ?kF ?kN ?kr ?ks ?ko ?kS; (case kF => assumption); (case kN => assumption); (case kr => (with_unfolding_all rfl)); (case ks => kcf_all); (case ko => first | assumption | (simp only [LCg.Off3, and_true]; done) | (simp only [LCg.Off3, and_true]; assumption)); (case kS => first | lcg_src | assumption))))
local macro_rules | `(tactic| walk_at "call builtin:str.join") => `(tactic| (k_here; (with_reducible show wpAny _ _ (call (Value.builtin "str.join") [Value.str _ _, Value.ref _]) _ _ _); (with_reducible rename CarriedAll _ (List.map _ _) => ktC); (refine Mine.join_any (by first | assumption | is_list | exact News.isList (by k_asm) (by k_mem)) ktC (fun a _ => Mine.sign4_one a) (by first | omega | kt_fact) ?_; intro d' t' k' hd')))
local macro_rules | `(tactic| walk_at "exec Try") => `(tactic| ((with_reducible show wpAny _ _ (exec (Stmt.Try _ (_ :: _) _ [] _) _) _ _ _); refine wpAny_Try_except ?_))
local macro_rules | `(tactic| walk_at "noteFrame ref") => `(tactic| (refine Mine.stop ?_))
theorem PySem.Challenge.cw_dm0104_04_holds : PySem.Challenge.rw_dm0104_04.Holds := by
  refine Mine.hd ?_
  k_with "table" => skip
  k_go0
  (all_goals try k_fold)
  k_steps
  refine Mine.go ?_
  k_dflt (refine Mine.ded_both (by k_asm) (by k_asm) (by k_asm) (by k_asm) (by k_asm) rfl (by omega) (by ktr_room) (by ktr_units) ?_ ?_)
  · intro hz9 t9 h9 tk9 F9 N9
    (try dsimp only)
    (try k_fold)
    k_steps
  · intro hz9 g9 h9 tk9 e9 F9 R9 U9
    (try dsimp only)
    (try k_fold)
    with_unfolding_all refine' Mine.caught_X (T' := "UnboundLocalError") rfl rfl F9 U9 R9 (fun A' s Q' E' F8 hq => ?_) Mine.unb_isExc Mine.unb_notTuple (by rw [isSubtype_type]; kernel_rfl) (fun h8 F8 N8 => ?_) (by passes_own)
    · k_dflt (refine nameX_B F8 (by k_asm) (by k_asm) (by k_is) PyProof.Rows.Boot.«UnboundLocalError» (by decide) hq rfl rfl (by decide))
    · (try dsimp only)
      (try k_fold)
      k_steps
end
