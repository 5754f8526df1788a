import PyProof.Rows.All
import Wide.All
import OpenK.AllK
import Wide.FinOn
import PySem.Challenge.RW_dm0104_03
open PySem PySem.W PyProof.Rows PyProof.V PySem.Spec PySem.Calls
set_option Elab.async false
set_option maxRecDepth 100000
set_option maxHeartbeats 8000000
namespace Mine
/-- the end of a turn of a comprehension of texts -/
theorem ct_end {h₀ : Heap} {L I C D : Addr} {m : Str → Option Value} {s₁ : Shared} {oI oC oD : Obj} {S : List (Addr × Obj) → Prop} {r : Str} {t : Tok} {h' : Heap} {tk : Nat} {all news : List (Addr × Obj)} {y : Str}
    (F : Fr h₀ L h' m) (N : News h₀ L h' all) (hy : y = r) (sub : ∀ p ∈ (I, oI) :: (C, oC) :: (D, oD) :: news, p ∈ all) (off : LCg.Off3 I C D news) (hS : S news) :
    LCg.CompEnd h₀ L m s₁ I oI C oC D oD S (fun y news' => KCtEl news r y news') (.str y t) { s₁ with heap := h', toks := tk } :=
  LCg.CompEnd.intro F N news sub off hS ⟨rfl, t, by rw [hy]⟩
/-- a table of one-sign texts -/
theorem getD_one {l : List Str} {d : Str} (h : (d :: l).all (fun x => x.length == 1) = true) (i : Nat) : (l.getD i d).length = 1 := by
  have ha := List.all_eq_true.mp h
  by_cases hk : i < l.length
  · have e : l.getD i d = l[i] := by simp [List.getD, hk]
    rw [e]
    exact eq_of_beq (ha _ (List.mem_cons_of_mem _ (List.getElem_mem hk)))
  · have e : l.getD i d = d := by simp [List.getD, Nat.not_lt.mp hk]
    rw [e]
    exact eq_of_beq (ha _ List.mem_cons_self)
/-- ''.join of one-sign texts: some text of that length -/
theorem join_any {prog : Program} {w : World} {A : Around} {E : Value → Shared → Prop} {s : Shared} {t : Tok} {Q : Value → Shared → Prop} {D : Addr} {ys : List Value} {l : List Int} {g : Int → Str}
    (hl : s.heap.IsList D ys.toArray) (hc : CarriedAll ys (l.map fun a => PyData.str (g a))) (h1 : ∀ a ∈ l, (g a).length = 1) (hn : l.length ≤ 1048576)
    (h : ∀ (d : Str) t' k, d.length = l.length → Q (.str d t') { s with toks := k }) :
    wpAny (model prog w) A (call (.builtin "str.join") [.str (PySem.Str.ofString "") t, .ref D]) Q E s :=
  KT.join_1 hl hc h1 hn fun t' k e => h _ t' k e
end Mine
namespace Mine
/-- + of two texts: some text of at most that length -/
theorem add_any {prog : Program} {w : World} {A : Around} {E : Value → Shared → Prop} {s : Shared} {t u : Tok} {Q : Value → Shared → Prop} {x y : Str} (a b : Nat)
    (hx : x.length ≤ a) (hy : y.length ≤ b) (hs : a + b ≤ 16777216) (h : ∀ (z : Str) t' k, z.length ≤ a + b → Q (.str z t') { s with toks := k }) :
    wpAny (model prog w) A (binaryOp .Add (.str x t) (.str y u)) Q E s :=
  KXadd.add hx hy hs fun t' k e => h _ t' k (by omega)
end Mine

namespace Mine
/-- a text's signs -/
def sg (x : Str) : List Nat := x.cps.toList
theorem sg_len (x : Str) : (sg x).length = x.length := Array.length_toList
theorem sg_inj {x y : Str} (h : sg x = sg y) : x = y := Str.ext' (Array.toList_inj.mp h)
theorem sg_mk (l : List Nat) : sg ⟨l.toArray⟩ = l := by simp [sg]
theorem sg_app (x y : Str) : sg (x ++ y) = sg x ++ sg y := by simp [sg, Str.cps_append]
theorem getD_sg (x : Str) (i : Nat) : x.cps.getD i 0 = (sg x).getD i 0 := by
  simp [sg, Array.getD_eq_getD_getElem?]
theorem item_pos {x : Str} {i : Int} (h0 : 0 ≤ i) (h1 : i < x.length) : Txt.item x i = ⟨#[(sg x).getD i.toNat 0]⟩ := by
  rw [W.item_meets ⟨h0, h1⟩, getD_sg]
theorem item_neg {x : Str} {i : Int} (h0 : i < 0) (h1 : -(x.length : Int) ≤ i) : Txt.item x i = ⟨#[(sg x).getD (i + x.length).toNat 0]⟩ := by
  rw [eq_of_beq (item_closes_neg h0 h1 rfl), getD_sg]
theorem one_beq (a b : Nat) : ((⟨#[a]⟩ : Str) == ⟨#[b]⟩) = (a == b) := by
  rw [Bool.eq_iff_iff]; simp
theorem one_bne (a b : Nat) : ((⟨#[a]⟩ : Str) != ⟨#[b]⟩) = (a != b) := by
  simp only [bne, one_beq]
theorem sg_slice {x : Str} {i j : Int} (h : 0 ≤ i) (h1 : i ≤ j) (h2 : j ≤ x.length) : sg (Txt.slice x (some i) (some j)) = ((sg x).drop i.toNat).take (j - i).toNat := by
  rw [eq_of_beq (slice_closes (x := x) (i := i) (j := j) ⟨h, h1, by have := sg_len x; unfold sg at this; omega⟩), sg_mk]; rfl
theorem sg_slice_to {x : Str} {j : Int} (h : 0 ≤ j) (h2 : j ≤ x.length) : sg (Txt.slice x none (some j)) = (sg x).take j.toNat := by
  rw [eq_of_beq (slice_closes_to (x := x) (j := j) ⟨h, by have := sg_len x; unfold sg at this; omega⟩), sg_mk]
  simp [sg]
theorem sg_rev (x : Str) (u : Tok) : sg (Txt.sliceBy x none none (-1, u)) = (sg x).reverse := by
  unfold sg
  rw [step_rev_list]
  apply List.ext_getElem?
  intro i
  rw [List.getElem?_map]
  by_cases h : i < x.length
  · have hl : x.cps.toList.length = x.length := Array.length_toList
    rw [List.getElem?_range h, List.getElem?_reverse (by omega), hl]
    have h2 : x.length - 1 - i < x.cps.toList.length := by omega
    rw [List.getElem?_eq_getElem h2]
    have h3 : x.length - 1 - i < x.cps.size := by simpa using h2
    simp [Array.getD, h3]
  · have hl : x.cps.toList.length = x.length := Array.length_toList
    rw [List.getElem?_eq_none (by simpa using h), List.getElem?_eq_none (by rw [List.length_reverse]; omega)]
    rfl
end Mine

namespace Mine
/-- where the walk is to stand still -/
def still {α : Type} (t : Sem α) : Sem α := t
theorem stop {α : Type} {M : Model} {A : Around} {t : Sem α} {Q : α → Shared → Prop} {E : Value → Shared → Prop} {s : Shared} (h : wpAny M A (still t) Q E s) : wpAny M A t Q E s := h
theorem go {α : Type} {M : Model} {A : Around} {t : Sem α} {Q : α → Shared → Prop} {E : Value → Shared → Prop} {s : Shared} (h : wpAny M A t Q E s) : wpAny M A (still t) Q E s := h
section
variable {prog : Program} {w : World} {A : Around} {E : Value → Shared → Prop} {s : Shared} {env : Env} {h₀ : Heap} {x : Str} {body : List Stmt} {Q : Flow → Shared → Prop}

/-- a turn's end: the invariant again, beside the iterator's own object -/
def LEnd (h₀ : Heap) (L : Addr) (J : (Str → Option Value) → List (Addr × Obj) → Prop) (I : Addr) (oI : Obj) (s₁ s₂ : Shared) : Prop :=
  ∃ h' tk m' news', s₂ = { s₁ with heap := h', toks := tk } ∧ Fr h₀ L h' m' ∧ News h₀ L h' ((I, oI) :: news') ∧ (∀ p ∈ news', p.1 ≠ I) ∧ J m' news'
def LPost (h₀ : Heap) (L : Addr) (J : (Str → Option Value) → List (Addr × Obj) → Prop) (I : Addr) (oI : Obj) (s₁ : Shared) (Q : Flow → Shared → Prop) (f : Flow) (s₂ : Shared) : Prop :=
  match f with
  | .ret v => Q (.ret v) s₂
  | .brk => Q .next s₂
  | _ => LEnd h₀ L J I oI s₁ s₂
theorem LEnd.intro {L : Addr} {J : (Str → Option Value) → List (Addr × Obj) → Prop} {I : Addr} {oI : Obj} {s₁ : Shared} {h' : Heap} {tk : Nat} {m' : Str → Option Value} {all : List (Addr × Obj)}
    (F : Fr h₀ L h' m') (N : News h₀ L h' all) (news' : List (Addr × Obj)) (hs : ∀ p ∈ (I, oI) :: news', p ∈ all) (hI : ∀ p ∈ news', p.1 ≠ I) (hj : J m' news') :
    LEnd h₀ L J I oI s₁ { s₁ with heap := h', toks := tk } := ⟨h', tk, m', news', rfl, F, fun p hp => N p (hs p hp), hI, hj⟩

/-- a frame's name that is known -/
theorem frKnow {L : Addr} {h : Heap} {m : Str → Option Value} {a : Str} {v : Value} (F : Fr h₀ L h m) (e : m a = some v) : Fr h₀ L h (fun y => if y = a then some v else m y) := by
  have : (fun y => if y = a then some v else m y) = m := by
    funext y
    by_cases h : y = a
    · rw [if_pos h, h, e]
    · rw [if_neg h]
  rw [this]; exact F

theorem kn_eq {m : Str → Option Value} {ps : List (Str × Value)} (h : ∀ p ∈ ps, m p.1 = some p.2) : kstB m ps = m := funext fun _ => kstB_eq h fun _ => rfl
theorem frKnows {L : Addr} {h : Heap} {m : Str → Option Value} {u : Value} (ps : List (Str × Value)) (e : ∀ p ∈ ps, m p.1 = some p.2) (F : Fr h₀ L h (fun y => if y = x then some u else m y)) : Fr h₀ L h (fun y => if y = x then some u else kstB m ps y) := by
  rw [kn_eq e]; exact F
theorem frKnows0 {L : Addr} {h : Heap} {m : Str → Option Value} (ps : List (Str × Value)) (e : ∀ p ∈ ps, m p.1 = some p.2) (F : Fr h₀ L h m) : Fr h₀ L h (fun y => kstB m ps y) := by
  rw [kn_eq e]; exact F
theorem range_loop {r : Addr} {a₀ b₀ : Int} {t₀ u₀ v₀ : Tok} {n : Nat} {m₀ : Str → Option Value} {news : List (Addr × Obj)} (J : Nat → (Str → Option Value) → List (Addr × Obj) → Prop)
    (hh : A.handled = none) (hr : IsRange s.heap r a₀ b₀ 1 t₀ u₀ v₀) (hsmall : Builtin.Range.small a₀ b₀ 1 = true) (hn : Builtin.Range.rangeSize a₀ b₀ 1 = (n : Int))
    (F : Fr h₀ env.locals s.heap m₀) (N : News h₀ env.locals s.heap news) (hj : J 0 m₀ news)
    (turn : ∀ (i : Nat) t m₁ news₁ h tk I oI, i < n → J i m₁ news₁ → (∀ p ∈ news₁, p.1 ≠ I) → Fr h₀ env.locals h (fun y => if y = x then some (.int (a₀ + (i : Int)) t) else m₁ y) → News h₀ env.locals h ((I, oI) :: news₁) →
      wpAny (model prog w) A (execs body env) (LPost h₀ env.locals (J (i + 1)) I oI { s with heap := h, toks := tk } Q) E { s with heap := h, toks := tk })
    (done : ∀ m₁ news₁ h tk, J n m₁ news₁ → Fr h₀ env.locals h m₁ → News h₀ env.locals h news₁ → Q .next { s with heap := h, toks := tk }) :
    wpAny (model prog w) A (pyIter (.ref r)) (fun it s₂ => LoopAtV prog w A h₀ env x body Q E it s₂) E s := by
  refine wpAny_pyIter_range hr hsmall ?_
  have W : Walks prog w A s.heap.objs.size [s.heap.objs.size] [s.heap.objs.size] n (fun i v => i < n ∧ ∃ t, v = .int (a₀ + i * 1) t)
      (fun i h => IsRangeIter h s.heap.objs.size (a₀ + (i : Nat) * 1) ((n : Int) - (i : Nat)) 1) := (Walks.range hh _ a₀ 1 n).bound
  refine ⟨_, _, _, n, _, _, m₀, news, J, rfl, W, ?_, ?_, ?_, (by show IsRangeIter _ _ _ _ _; rw [hn]; simpa using Heap.get?_push_size _ rfl), F.push _, (fun p hp => ⟨Heap.get?_push_of_some _ (N p hp).1, (N p hp).2⟩), hj, ?_, ?_⟩
  · intro hm
    exact absurd F.ns.lt ((List.mem_singleton.mp hm) ▸ Nat.lt_irrefl _)
  · intro b hb
    rw [List.mem_singleton.mp hb]
    exact next_is_new F
  · intro p hp hI
    exact absurd (Heap.lt_size (N p hp).1) ((List.mem_singleton.mp hI) ▸ Nat.lt_irrefl _)
  · rintro i v m₁ news₁ s₁ own ⟨hh', tk', rfl⟩ hin ⟨_, t, rfl⟩ hJ hoff hown hown2 _ hst F₁ N₁
    have e1 : a₀ + (i : Int) * 1 = a₀ + (i : Int) := by omega
    rw [e1] at F₁
    have hst' : ∃ oI, hh'.get? s.heap.objs.size = some oI := ⟨_, hst⟩
    obtain ⟨oI, heI⟩ := hst'
    have hI₀ : h₀.get? s.heap.objs.size = none := next_is_new F
    have hIL : s.heap.objs.size ≠ env.locals := fun e => absurd F.ns.lt (e ▸ Nat.lt_irrefl _)
    have N₂ : News h₀ env.locals hh' ((s.heap.objs.size, oI) :: news₁) := fun p hp => by
      rcases List.mem_cons.mp hp with rfl | hp
      · exact ⟨heI, hIL, hI₀⟩
      · exact N₁ p (List.mem_append_right _ hp)
    have hne : ∀ p ∈ news₁, p.1 ≠ s.heap.objs.size := fun p hp e => hoff p hp (by rw [e]; exact List.mem_singleton.mpr rfl)
    refine wpAny_mono (turn i t m₁ news₁ hh' tk' s.heap.objs.size oI hin hJ hne F₁ N₂) (fun f s₂ p => ?_) fun _ _ e => e
    have fin : LEnd h₀ env.locals (J (i + 1)) s.heap.objs.size oI { s with heap := hh', toks := tk' } s₂ → LoopStepU h₀ env.locals [s.heap.objs.size] own (J (i + 1)) { s with heap := hh', toks := tk' } .next s₂ := by
      rintro ⟨h', tk, m', news', e, F', N', hI, hJ'⟩
      refine ⟨rfl, h', tk, m', news', e, F', fun p hp => ?_, fun p hp hq => hI p hp (List.mem_singleton.mp hq), hJ'⟩
      rcases List.mem_append.mp hp with hp | hp
      · have h1 := List.mem_singleton.mp (hown p hp)
        have h2 := hown2 p hp
        have h3 : p = (s.heap.objs.size, oI) := by
          obtain ⟨a, o⟩ := p
          cases h1
          have h2' : hh'.get? s.heap.objs.size = some o := h2
          rw [heI] at h2'; cases h2'; rfl
        rw [h3]; exact N' _ List.mem_cons_self
      · exact N' p (List.mem_cons_of_mem _ hp)
    cases f with
    | ret v => exact .ret p
    | brk => exact .brk p
    | next => exact .next (fin p)
    | cont => exact .cont (fin p)
  · rintro h' tk m' news' F' N' _ hJ
    exact done m' news' h' tk hJ F' N'

/-- a loop over a list that the call has made and the loop leaves alone -/
theorem list_loop {l : Addr} {items : Array Value} {ol : Obj} {m₀ : Str → Option Value} {news : List (Addr × Obj)} (J : Nat → (Str → Option Value) → List (Addr × Obj) → Prop)
    (hh : A.handled = none) (hcls : ol.cls = .type "list") (hdat : ∃ n, ol.data = .seq items n) (hkeep : ∀ i m nx, J i m nx → (l, ol) ∈ nx)
    (F : Fr h₀ env.locals s.heap m₀) (N : News h₀ env.locals s.heap news) (hj : J 0 m₀ news)
    (turn : ∀ (i : Nat) v m₁ news₁ h tk I oI, i < items.size → items[i]? = some v → J i m₁ news₁ → (∀ p ∈ news₁, p.1 ≠ I) → Fr h₀ env.locals h (fun y => if y = x then some v else m₁ y) → News h₀ env.locals h ((I, oI) :: news₁) →
      wpAny (model prog w) A (execs body env) (LPost h₀ env.locals (J (i + 1)) I oI { s with heap := h, toks := tk } Q) E { s with heap := h, toks := tk })
    (done : ∀ m₁ news₁ h tk, J items.size m₁ news₁ → Fr h₀ env.locals h m₁ → News h₀ env.locals h news₁ → Q .next { s with heap := h, toks := tk }) :
    wpAny (model prog w) A (pyIter (.ref l)) (fun it s₂ => LoopAtV prog w A h₀ env x body Q E it s₂) E s := by
  have hl0 := N _ (hkeep _ _ _ hj)
  have hls : s.heap.IsList l items := ⟨ol, hl0.1, hcls, hdat⟩
  have hlt : l < s.heap.objs.size := Heap.lt_size hl0.1
  have hne : l ≠ s.heap.objs.size := Nat.ne_of_lt hlt
  refine wpAny_pyIter_list hls ?_
  have W := Walks.list (prog := prog) (w := w) hh s.heap.objs.size l hne items
  refine ⟨_, _, _, items.size, _, _, m₀, news, J, rfl, W, ?_, ?_, ?_, ⟨⟨_, Heap.get?_push_size _ rfl, rfl, rfl⟩, hls.at fun o e => Heap.get?_push_of_some _ e⟩, F.push _, (fun p hp => ⟨Heap.get?_push_of_some _ (N p hp).1, (N p hp).2⟩), hj, ?_, ?_⟩
  · intro hm
    rcases List.mem_cons.mp hm with e | hm
    · exact absurd F.ns.lt (e ▸ Nat.lt_irrefl _)
    · exact hl0.2.1 (List.mem_singleton.mp hm).symm
  · intro b hb
    rw [List.mem_singleton.mp hb]
    exact next_is_new F
  · intro p hp hI
    exact absurd (Heap.lt_size (N p hp).1) ((List.mem_singleton.mp hI) ▸ Nat.lt_irrefl _)
  · rintro i v m₁ news₁ s₁ own ⟨hh', tk', rfl⟩ hin hP hJ hoff hown hown2 _ hst F₁ N₁
    have hst' : ∃ oI, hh'.get? s.heap.objs.size = some oI := by obtain ⟨⟨o, e, _⟩, _⟩ := hst; exact ⟨o, e⟩
    obtain ⟨oI, heI⟩ := hst'
    have hI₀ : h₀.get? s.heap.objs.size = none := next_is_new F
    have hIL : s.heap.objs.size ≠ env.locals := fun e => absurd F.ns.lt (e ▸ Nat.lt_irrefl _)
    have N₂ : News h₀ env.locals hh' ((s.heap.objs.size, oI) :: news₁) := fun p hp => by
      rcases List.mem_cons.mp hp with rfl | hp
      · exact ⟨heI, hIL, hI₀⟩
      · exact N₁ p (List.mem_append_right _ hp)
    have hne' : ∀ p ∈ news₁, p.1 ≠ s.heap.objs.size := fun p hp e => hoff p hp (by rw [e]; exact List.mem_singleton.mpr rfl)
    have hl1 : hh'.get? l = some ol := (N₂ _ (List.mem_cons_of_mem _ (hkeep _ _ _ hJ))).1
    refine wpAny_mono (turn i v m₁ news₁ hh' tk' s.heap.objs.size oI hin hP hJ hne' F₁ N₂) (fun f s₂ p => ?_) fun _ _ e => e
    have fin : LEnd h₀ env.locals (J (i + 1)) s.heap.objs.size oI { s with heap := hh', toks := tk' } s₂ → LoopStepU h₀ env.locals [s.heap.objs.size] own (J (i + 1)) { s with heap := hh', toks := tk' } .next s₂ := by
      rintro ⟨h', tk, m', news', e, F', N', hI, hJ'⟩
      refine ⟨rfl, h', tk, m', news', e, F', fun p hp => ?_, fun p hp hq => hI p hp (List.mem_singleton.mp hq), hJ'⟩
      rcases List.mem_append.mp hp with hp | hp
      · obtain ⟨a, o⟩ := p
        have h2 : hh'.get? a = some o := hown2 _ hp
        rcases List.mem_cons.mp (hown _ hp) with h1 | h1
        · have h1' : a = s.heap.objs.size := h1
          rw [h1', heI] at h2; cases h2; rw [h1']
          exact N' _ List.mem_cons_self
        · have h1' : a = l := List.mem_singleton.mp h1
          rw [h1', hl1] at h2; cases h2; rw [h1']
          exact N' _ (List.mem_cons_of_mem _ (hkeep _ _ _ hJ'))
      · exact N' p (List.mem_cons_of_mem _ hp)
    cases f with
    | ret v => exact .ret p
    | brk => exact .brk p
    | next => exact .next (fin p)
    | cont => exact .cont (fin p)
  · rintro h' tk m' news' F' N' _ hJ
    exact done m' news' h' tk hJ F' N'

/-- as list_loop, the made things left as they are -/
theorem list_keep {l : Addr} {items : Array Value} {c : Nat} {m₀ : Str → Option Value} {news : List (Addr × Obj)} (K : Nat → (Str → Option Value) → Prop)
    (hh : A.handled = none) (hl : (l, listOf items c) ∈ news)
    (F : Fr h₀ env.locals s.heap m₀) (N : News h₀ env.locals s.heap news) (hk : K 0 m₀)
    (turn : ∀ (i : Nat) v m₁ h tk I oI, items[i]? = some v → K i m₁ → (∀ p ∈ news, p.1 ≠ I) → Fr h₀ env.locals h (fun y => if y = x then some v else m₁ y) → News h₀ env.locals h ((I, oI) :: news) →
      wpAny (model prog w) A (execs body env) (LPost h₀ env.locals (fun m nx => nx = news ∧ K (i + 1) m) I oI { s with heap := h, toks := tk } Q) E { s with heap := h, toks := tk })
    (done : ∀ m₁ h tk, K items.size m₁ → Fr h₀ env.locals h m₁ → News h₀ env.locals h news → Q .next { s with heap := h, toks := tk }) :
    wpAny (model prog w) A (pyIter (.ref l)) (fun it s₂ => LoopAtV prog w A h₀ env x body Q E it s₂) E s := by
  refine list_loop (ol := listOf items c) (items := items) (fun i m nx => nx = news ∧ K i m) hh rfl ⟨c, rfl⟩ (fun i m nx h => by rw [h.1]; exact hl) F N ⟨rfl, hk⟩ ?_ ?_
  · rintro i v m₁ news₁ h tk I oI _ hv ⟨rfl, hK⟩ hne F₁ N₁
    exact turn i v m₁ h tk I oI hv hK hne F₁ N₁
  · rintro m₁ news₁ h tk ⟨rfl, hK⟩ F₁ N₁
    exact done m₁ h tk hK F₁ N₁
theorem range_keep {r : Addr} {a₀ b₀ : Int} {t₀ u₀ v₀ : Tok} {n : Nat} {m₀ : Str → Option Value} {news : List (Addr × Obj)} (K : Nat → (Str → Option Value) → Prop)
    (hh : A.handled = none) (hr : IsRange s.heap r a₀ b₀ 1 t₀ u₀ v₀) (hsmall : Builtin.Range.small a₀ b₀ 1 = true) (hn : Builtin.Range.rangeSize a₀ b₀ 1 = (n : Int))
    (F : Fr h₀ env.locals s.heap m₀) (N : News h₀ env.locals s.heap news) (hk : K 0 m₀)
    (turn : ∀ (i : Nat) t m₁ h tk I oI, i < n → K i m₁ → (∀ p ∈ news, p.1 ≠ I) → Fr h₀ env.locals h (fun y => if y = x then some (.int (a₀ + (i : Int)) t) else m₁ y) → News h₀ env.locals h ((I, oI) :: news) →
      wpAny (model prog w) A (execs body env) (LPost h₀ env.locals (fun m nx => nx = news ∧ K (i + 1) m) I oI { s with heap := h, toks := tk } Q) E { s with heap := h, toks := tk })
    (done : ∀ m₁ h tk, K n m₁ → Fr h₀ env.locals h m₁ → News h₀ env.locals h news → Q .next { s with heap := h, toks := tk }) :
    wpAny (model prog w) A (pyIter (.ref r)) (fun it s₂ => LoopAtV prog w A h₀ env x body Q E it s₂) E s := by
  refine range_loop (fun i m nx => nx = news ∧ K i m) hh hr hsmall hn F N ⟨rfl, hk⟩ ?_ ?_
  · rintro i t m₁ news₁ h tk I oI hi ⟨rfl, hK⟩ hne F₁ N₁
    exact turn i t m₁ h tk I oI hi hK hne F₁ N₁
  · rintro m₁ news₁ h tk ⟨rfl, hK⟩ F₁ N₁
    exact done m₁ h tk hK F₁ N₁
theorem keep_end {L : Addr} {K : (Str → Option Value) → Prop} {I : Addr} {oI : Obj} {s₁ : Shared} {h' : Heap} {tk : Nat} {m' : Str → Option Value} {all news : List (Addr × Obj)}
    (F : Fr h₀ L h' m') (N : News h₀ L h' all) (hI : ∀ p ∈ news, p.1 ≠ I) (hs : ∀ p ∈ (I, oI) :: news, p ∈ all) (hj : K m') :
    LEnd h₀ L (fun m nx => nx = news ∧ K m) I oI s₁ { s₁ with heap := h', toks := tk } := LEnd.intro F N news hs hI ⟨rfl, hj⟩
end
end Mine

namespace Mine
open_top hd for PySem.Challenge.rw_dm0104_03
end Mine

namespace Mine
def sunderL (l : List Nat) : Bool := decide (2 < l.length) && l.getD 0 0 == 95 && l.getD (l.length - 1) 0 == 95 && l.getD 1 0 != 95 && l.getD (l.length - 2) 0 != 95
def nxtL (st : Int) (c : Nat) : Int := if c = 95 then ([1, 5, 3, 4, 4, 5] : List Int).getD st.toNat 0 else ([5, 2, 2, 2, 2, 5] : List Int).getD st.toNat 0
def stAt (x : Str) (i : Nat) : Int := ((sg x).take i).foldl nxtL 0
theorem getD_snoc_last (q : List Nat) (c : Nat) : (q ++ [c]).getD q.length 0 = c := by simp
theorem getD_snoc_lt (q : List Nat) (c i : Nat) (h : i < q.length) : (q ++ [c]).getD i 0 = q.getD i 0 := by
  simp [List.getD, List.getElem?_append_left h]
theorem dead (r : List Nat) : r.foldl nxtL 5 = 5 := by
  induction r with
  | nil => rfl
  | cons c r ih =>
    rw [List.foldl_cons]
    have : nxtL 5 c = 5 := by unfold nxtL; split <;> rfl
    rw [this]; exact ih
theorem live (b : Nat) (hb : b ≠ 95) : ∀ (n : Nat) (r : List Nat), r.length = n →
    r.foldl nxtL 2 = (if (b :: r).getD r.length 0 ≠ 95 then 2 else if (b :: r).getD (r.length - 1) 0 ≠ 95 then 3 else 4)
  | 0, r, h => by
    obtain rfl := List.length_eq_zero_iff.mp h
    simp [hb]
  | n + 1, r, h => by
    rcases List.eq_nil_or_concat r with rfl | ⟨r', c, rfl⟩
    · simp at h
    · simp only [List.concat_eq_append, List.length_append, List.length_singleton] at h ⊢
      have ih := live b hb n r' (by omega)
      rw [List.foldl_append, ih]
      have e1 : (b :: (r' ++ [c])).getD (r'.length + 1) 0 = c := by
        have := getD_snoc_last (b :: r') c
        simpa using this
      have e2 : (b :: (r' ++ [c])).getD (r'.length + 1 - 1) 0 = (b :: r').getD r'.length 0 := by
        have := getD_snoc_lt (b :: r') c r'.length (by simp)
        simpa using this
      rw [e1, e2]
      generalize (b :: r').getD r'.length 0 = d
      generalize (b :: r').getD (r'.length - 1) 0 = d'
      simp only [List.foldl_cons, List.foldl_nil]
      by_cases hc : c = 95
      · by_cases hd : d = 95
        · by_cases hd' : d' = 95
          · simp [hc, hd, hd', nxtL]
          · simp [hc, hd, hd', nxtL]
        · simp [hc, hd, nxtL]
      · by_cases hd : d = 95
        · by_cases hd' : d' = 95
          · simp [hc, hd, hd', nxtL]
          · simp [hc, hd, hd', nxtL]
        · simp [hc, hd, nxtL]
theorem machine : ∀ p : List Nat, sunderL p = (p.foldl nxtL 0 == 3)
  | [] => by decide
  | [a] => by
    by_cases h : a = 95
    · subst h; decide
    · have : nxtL 0 a = 5 := by unfold nxtL; rw [if_neg h]; rfl
      simp [sunderL, this]
  | a :: b :: r => by
    by_cases ha : a = 95
    · by_cases hb : b = 95
      · subst ha; subst hb
        have : nxtL (nxtL 0 95) 95 = 5 := by decide
        rw [List.foldl_cons, List.foldl_cons, this, dead]
        simp [sunderL]
      · subst ha
        have : nxtL (nxtL 0 95) b = 2 := by simp [nxtL, hb]
        rw [List.foldl_cons, List.foldl_cons, this, live b hb r.length r rfl]
        have e1 : (95 :: b :: r).getD ((95 :: b :: r).length - 1) 0 = (b :: r).getD r.length 0 := by simp
        have e2 : (95 :: b :: r).getD 1 0 = b := rfl
        have e3 : (95 :: b :: r).getD 0 0 = 95 := rfl
        unfold sunderL
        rw [e1, e2, e3]
        cases r with
        | nil => simp [hb]
        | cons c r =>
          have e4 : (95 :: b :: c :: r).getD ((95 :: b :: c :: r).length - 2) 0 = (b :: c :: r).getD ((c :: r).length - 1) 0 := rfl
          rw [e4]
          have e5 : decide (2 < (95 :: b :: c :: r).length) = true := by simp
          rw [e5]
          generalize (b :: c :: r).getD ((c :: r).length) 0 = d
          generalize (b :: c :: r).getD ((c :: r).length - 1) 0 = d'
          by_cases hd : d = 95
          · by_cases hd' : d' = 95
            · simp [hb, hd, hd']
            · simp [hb, hd, hd']
          · simp [hb, hd]
    · have : nxtL 0 a = 5 := by unfold nxtL; rw [if_neg ha]; rfl
      rw [List.foldl_cons, this, dead]
      simp [sunderL, ha]
theorem getD_rev (p : List Nat) (i : Nat) (h : i < p.length) : p.reverse.getD i 0 = p.getD (p.length - 1 - i) 0 := by
  simp [List.getD, List.getElem?_reverse h]
theorem sunder_rev (p : List Nat) : sunderL p.reverse = sunderL p := by
  unfold sunderL
  rw [List.length_reverse]
  by_cases h : 2 < p.length
  · rw [getD_rev p _ (by omega), getD_rev p _ (by omega), getD_rev p _ (by omega), getD_rev p _ (by omega)]
    have e1 : p.length - 1 - 0 = p.length - 1 := by omega
    have e2 : p.length - 1 - (p.length - 1) = 0 := by omega
    have e3 : p.length - 1 - 1 = p.length - 2 := by omega
    have e4 : p.length - 1 - (p.length - 2) = 1 := by omega
    rw [e1, e2, e3, e4]
    generalize p.getD 0 0 = a
    generalize p.getD 1 0 = b
    generalize p.getD (p.length - 1) 0 = c
    generalize p.getD (p.length - 2) 0 = d
    generalize decide (2 < p.length) = f
    cases f <;> cases a == 95 <;> cases c == 95 <;> cases b != 95 <;> cases d != 95 <;> rfl
  · simp [h]
theorem charAt_sg {z : Str} {i : Nat} (hi : i < z.length) : (Txt.charAt z (0 + (i : Int))).getD 0 = (sg z).getD i 0 := by
  have h := item_pos (x := z) (i := 0 + (i : Int)) (by omega) (by omega)
  have e : (0 + (i : Int)).toNat = i := by omega
  rw [e] at h
  unfold Txt.item at h
  have h2 := congrArg (fun s : Str => s.cps.toList) h
  simpa using h2
theorem st_next {z : Str} {i : Nat} (hi : i < z.length) : nxtL (stAt z i) ((Txt.charAt z (0 + (i : Int))).getD 0) = stAt z (i + 1) := by
  rw [charAt_sg hi]
  have hl : i < (sg z).length := by rw [sg_len]; exact hi
  unfold stAt
  rw [List.take_add_one, List.getElem?_eq_getElem hl, List.foldl_append]
  simp [List.getD, hl]
theorem sg_head {z : Str} {i : Nat} (hi : i < z.length) : sg (Txt.slice z none (some (0 + (i : Int) + 1))) = (sg z).take (i + 1) := by
  rw [sg_slice_to (by omega) (by omega)]
  have e : (0 + (i : Int) + 1).toNat = i + 1 := by omega
  rw [e]
theorem key1 {z : Str} {i : Nat} (hi : i < z.length) : sunderL (sg (Txt.slice z none (some (0 + (i : Int) + 1)))) = (nxtL (stAt z i) ((Txt.charAt z (0 + (i : Int))).getD 0) == 3) := by
  rw [st_next hi, sg_head hi, machine]; rfl
theorem key2 {z : Str} {i : Nat} {u : Tok} (hi : i < z.length) : sunderL (sg (Txt.sliceBy (Txt.slice z none (some (0 + (i : Int) + 1))) none none (-1, u))) = (nxtL (stAt z i) ((Txt.charAt z (0 + (i : Int))).getD 0) == 3) := by
  rw [sg_rev, sunder_rev, key1 hi]
end Mine

namespace Mine
theorem us : Str.ofString "_" = ⟨#[95]⟩ := by decide +kernel
theorem sunder_items {x : Str} (h : 2 < (x.length : Int)) : Txt.item x 0 = ⟨#[(sg x).getD 0 0]⟩ ∧ Txt.item x 1 = ⟨#[(sg x).getD 1 0]⟩ ∧ Txt.item x (-1) = ⟨#[(sg x).getD (x.length - 1) 0]⟩ ∧ Txt.item x (-2) = ⟨#[(sg x).getD (x.length - 2) 0]⟩ := by
  refine ⟨item_pos (by omega) (by omega), item_pos (by omega) (by omega), ?_, ?_⟩
  · rw [item_neg (by omega) (by omega)]
    have : (-1 + (x.length : Int)).toNat = x.length - 1 := by omega
    rw [this]
  · rw [item_neg (by omega) (by omega)]
    have : (-2 + (x.length : Int)).toNat = x.length - 2 := by omega
    rw [this]
section
variable {a0 a1 a2 a3 n : Nat}
theorem sun1 (h : (a0 == a2) = false) : (a0 == a2) = (decide (2 < n) && a0 == 95 && a2 == 95 && a1 != 95 && a3 != 95) := by
  rw [h]; by_cases q0 : a0 = 95 <;> by_cases q2 : a2 = 95 <;> simp_all
theorem sun2 (h : (a2 == 95) = false) : (a2 == 95) = (decide (2 < n) && a0 == 95 && a2 == 95 && a1 != 95 && a3 != 95) := by
  rw [h]; simp
theorem sun3 (h : (a1 != 95) = false) : (a1 != 95) = (decide (2 < n) && a0 == 95 && a2 == 95 && a1 != 95 && a3 != 95) := by
  rw [h]; simp
theorem sun4 (h8 : 2 < n) (h0 : (a0 == a2) = true) (h2 : (a2 == 95) = true) (h1 : (a1 != 95) = true) : (a3 != 95) = (decide (2 < n) && a0 == 95 && a2 == 95 && a1 != 95 && a3 != 95) := by
  have e0 := eq_of_beq h0; have e2 := eq_of_beq h2; subst e0; subst e2; rw [h1]; simp [h8]
end
theorem sunder_spec (w : World) (news : List (Addr × Obj)) (x : PySem.Str) (t : Tok) (loose : List Str) (mean : ExcName → Option Value) (mg mb : Str → Option Value) :
    CbClaim Challenge.rw_dm0104_03.row.prog w (Mine.hd.heap_39 w.params) Mine.hd.view_39 loose mean mg mb 21 news [] (x.length ≤ 100) [.str x t] (fun _ => .bool (sunderL (sg x))) := by
  k_fill
  w_top off
  dsimp only [CbClaim, CbLists, CbRet]
  intro dp un gd cn cs a ccd cl outer A₀ base h₀ L m s Q E B F X N T hk hpre hd hu hret
  refine wpAny_call ?_
  k_dflt cell_enter
  k_steps
  all_goals refine cb_retB (Q := Q) hret ?_ (by k_asm) (by k_asm)
  all_goals first
    | (have h9 : 2 < (x.length : Int) := by omega
       obtain ⟨i0, i1, i2, i3⟩ := sunder_items h9
       have h8 : 2 < x.length := by omega
       simp only [i0, i1, i2, i3, us, one_beq, one_bne] at *
       simp only [sunderL, sg_len]
       first | exact sun1 (by assumption) | exact sun2 (by assumption) | exact sun3 (by assumption) | exact sun4 h8 (by assumption) (by assumption) (by assumption))
    | (have h8 : ¬ 2 < x.length := by omega
       simp [sunderL, sg_len, h8]; omega)
theorem next_spec (w : World) (news : List (Addr × Obj)) (st : Int) (k : Nat) (t u : Tok) (loose : List Str) (mean : ExcName → Option Value) (mg mb : Str → Option Value) :
    CbClaim Challenge.rw_dm0104_03.row.prog w (Mine.hd.heap_39 w.params) Mine.hd.view_39 loose mean mg mb 28 news [] (0 ≤ st ∧ st ≤ 5) [.int st t, .str ⟨#[k]⟩ u] (fun t => .int (nxtL st k) t) := by
  k_fill
  w_top off
  dsimp only [CbClaim, CbLists, CbRet]
  intro dp un gd cn cs a ccd cl outer A₀ base h₀ L m s Q E B F X N T hk hpre hd hu hret
  refine wpAny_call ?_
  k_dflt cell_enter
  k_steps
  all_goals refine cb_retI (Q := Q) hret ?_ (by k_asm) (cb_drop (by k_asm) (fun p hp => List.Mem.tail _ (List.Mem.tail _ hp)))
  · have e : (k == 95) = true := by rw [← one_beq, ← us]; assumption
    unfold nxtL; rw [if_pos (eq_of_beq e)]
  · have e : (k == 95) = false := by rw [← one_beq, ← us]; assumption
    unfold nxtL; rw [if_neg (fun q => by rw [q] at e; cases e)]
end Mine

namespace Mine
def sign (x : Int) : PySem.Str := [Str.ofString "_", Str.ofString "_", Str.ofString "a", Str.ofString "-", Str.ofString "9"].getD (x.fmod 5).toNat Str.empty
theorem sign_one (x : Int) : (sign x).length = 1 := by
  have h1 := fmod_lo x (n := 5) (by decide)
  have h2 := fmod_hi x (n := 5) (by decide)
  unfold sign
  have h3 : (x.fmod 5).toNat < 5 := by omega
  revert h3
  generalize (x.fmod 5).toNat = i
  exact (by decide +kernel : ∀ i, i < 5 → ([Str.ofString "_", Str.ofString "_", Str.ofString "a", Str.ofString "-", Str.ofString "9"].getD i Str.empty).length = 1) i
theorem four {t1 t2 t3 t4 : Tok} {i : Nat} {v : Value} (h : (#[Value.str (Str.ofString "_a") t1, Value.str (Str.ofString "_") t2, Value.str (Str.ofString "__a") t3, Value.str (Str.ofString "a") t4] : Array Value)[i]? = some v) :
    ∃ z t, v = .str z t ∧ z.length ≤ 3 := by
  match i, h with
  | 0, h => cases h; exact ⟨_, _, rfl, by decide +kernel⟩
  | 1, h => cases h; exact ⟨_, _, rfl, by decide +kernel⟩
  | 2, h => cases h; exact ⟨_, _, rfl, by decide +kernel⟩
  | 3, h => cases h; exact ⟨_, _, rfl, by decide +kernel⟩
def Kopen (d : Str) (td : Tok) (_ : Nat) (m : Str → Option Value) : Prop := m (Str.ofString "drawn") = some (.str d td)
def Kj (d : Str) (td : Tok) (x : Str) (tx : Tok) (i : Nat) (m : Str → Option Value) : Prop :=
  m (Str.ofString "drawn") = some (.str d td) ∧ m (Str.ofString "text") = some (.str x tx) ∧ ∃ t, m (Str.ofString "state") = some (.int (stAt x i) t)
theorem item_rule {prog : Program} {w : World} {A : Around} {E : Value → Shared → Prop} {s : Shared} {value slice : PySem.Expr} {x : PySem.Str} {t u : Tok} {i : Nat} {Q : Value → Shared → Prop}
    (h1 : i < x.length) (hn : x.length ≤ 1000) (h : Q (.str ⟨#[(sg x).getD i 0]⟩ s.toks) { s with toks := s.toks + 1 })
    (hs : subscripted slice false (.str x t) (.int (0 + (i : Int)) u) = operate [.str x t, .int (0 + (i : Int)) u] (getItem (.str x t) (.int (0 + (i : Int)) u)) := by with_unfolding_all rfl)
    (ht : ∀ r, letTemporaryGo value (.str x t) r = pure () := by intro _; with_unfolding_all rfl) :
    wpAny (model prog w) A (subscriptTail value slice (.str x t) (.int (0 + (i : Int)) u)) Q E s := by
  refine KXi.item rfl (by omega) (by omega) (by omega) (fun _ => ?_) hs ht
  rw [item_pos (by omega) (by omega)]
  have e : (0 + (i : Int)).toNat = i := by omega
  rw [e]; exact h
theorem nxtL_bd (st : Int) (c : Nat) : 0 ≤ nxtL st c ∧ nxtL st c ≤ 5 := by
  unfold nxtL
  generalize st.toNat = n
  split
  · match n with
    | 0 | 1 | 2 | 3 | 4 | 5 => decide
    | n + 6 => simp
  · match n with
    | 0 | 1 | 2 | 3 | 4 | 5 => decide
    | n + 6 => simp
theorem fold_bd (l : List Nat) (st : Int) (h : 0 ≤ st ∧ st ≤ 5) : 0 ≤ l.foldl nxtL st ∧ l.foldl nxtL st ≤ 5 := by
  induction l generalizing st with
  | nil => exact h
  | cons c r ih => exact ih _ (nxtL_bd st c)
theorem stAt_bd (x : Str) (i : Nat) : 0 ≤ stAt x i ∧ stAt x i ≤ 5 := fold_bd _ 0 ⟨by decide, by decide⟩
theorem ne_same {prog : Program} {w : World} {A : Around} {E : Value → Shared → Prop} {s : Shared} {Q : Value → Shared → Prop} {c d : Bool} (e : c = d) (h : Q (.bool false) s) : wpAny (model prog w) A (compareOp .NotEq (.bool c) (.bool d)) Q E s :=
  PyProof.Rows.ne_bool (by rw [e, bne_self_eq_false]; exact h)
section
variable {w : World} {news : List (Addr × Obj)} {loose : List Str} {mean : ExcName → Option Value} {mg mb : Str → Option Value} {dp un : Nat} {gd : Option (List Code)} {cn : Str} {cs : Scope} {a : Addr} {ccd : Value} {cl : List (Str × Addr)} {outer : List Env} {A₀ : Around} {base h₀ : Heap} {L : Addr} {m : Str → Option Value} {s : Shared} {Q E : Value → Shared → Prop}
theorem next_call {st : Int} {k : Nat} {t u : Tok} (B : Below A₀ base outer h₀) (F : Fr h₀ L s.heap m) (X : (Mine.hd.heap_39 w.params).In h₀) (N : News h₀ L s.heap news) (T : Top Mine.hd.view_39 loose mean mg mb h₀) (hk : cs.kind = .function) (hp : 0 ≤ st ∧ st ≤ 5)
    (hd : dp + 1 < recursionLimit) (hu : un + 8 < cLine) (ret : ∀ t h' tk', Fr h₀ L h' m → News h₀ L h' news → Q (.int (nxtL st k) t) { s with heap := h', toks := tk' }) :
    wpAny (model Challenge.rw_dm0104_03.row.prog w) (ktrTop dp un gd cn cs L a ccd cl outer) (call (.ref 28) [.int st t, .str ⟨#[k]⟩ u]) Q E s :=
  next_spec w news st k t u loose mean mg mb dp un gd cn cs a ccd cl outer A₀ base h₀ L m s Q E B F X N T hk hp hd hu ret
theorem sunder_call {x : Str} {t : Tok} (B : Below A₀ base outer h₀) (F : Fr h₀ L s.heap m) (X : (Mine.hd.heap_39 w.params).In h₀) (N : News h₀ L s.heap news) (T : Top Mine.hd.view_39 loose mean mg mb h₀) (hk : cs.kind = .function) (hp : x.length ≤ 100)
    (hd : dp + 1 < recursionLimit) (hu : un + 8 < cLine) (ret : ∀ (_ : Tok) h' tk', Fr h₀ L h' m → News h₀ L h' news → Q (.bool (sunderL (sg x))) { s with heap := h', toks := tk' }) :
    wpAny (model Challenge.rw_dm0104_03.row.prog w) (ktrTop dp un gd cn cs L a ccd cl outer) (call (.ref 21) [.str x t]) Q E s :=
  sunder_spec w news x t loose mean mg mb dp un gd cn cs a ccd cl outer A₀ base h₀ L m s Q E B F X N T hk hp hd hu ret
end
end Mine
local macro_rules | `(tactic| walk_at "call ref") => `(tactic| (k_here; (with_reducible show wpAny _ _ (call (Value.ref 28) _) _ _ _); k_dflt (refine' Mine.next_call ?k1 ?k2 ?k3 ?k4 ?k5 ?kK ?kp ?kd ?ku ?kR; (case k1 => k_asm); (case k2 => k_asm); (case k3 => k_asm); (case k4 => k_asm); (case k5 => k_asm); (case kK => exact rfl); (case kp => exact Mine.stAt_bd _ _); (case kd => ktr_room); (case ku => ktr_units)); intro t9 h9 tk9 F9 N9; (try dsimp only); (try k_fold)))
local macro_rules | `(tactic| walk_at "call ref") => `(tactic| (k_here; (with_reducible show wpAny _ _ (call (Value.ref 21) _) _ _ _); k_dflt (refine Mine.sunder_call (by k_asm) (by k_asm) (by k_asm) (by k_asm) (by k_asm) rfl (by first | omega | (rw [step_rev_len]; omega)) (by ktr_room) (by ktr_units) ?_); intro t9 h9 tk9 F9 N9; (try dsimp only); (try k_fold)))
local macro_rules | `(tactic| walk_at "CompSrc") => `(tactic| (k_here; (try k_fmods); (try kcf_lens); k_dflt (refine LCg.CompSrc.ledger (by rfl) (by k_asm) (by k_asm) (by k_mem) (by kcf_size) ?_; intro g'; (refine' kct_list Mine.sign (by first | assumption | l_ints) (fun k' t' I' oI' C' oC' D' m' ys' h' tk' E' hk' hC' hx' F' N' off' ne' hMark' => ?_) ?_); (all_goals (try (simp only [LCg.Off3, and_true] at off'))); kcf_last)))
local macro_rules | `(tactic| walk_at "CompEnd") => `(tactic| ((refine' Mine.ct_end ?kF ?kN ?kr ?ks ?ko ?kS; (case kF => assumption); (case kN => assumption); (case kr => (with_unfolding_all rfl)); (case ks => kcf_all); (case ko => first | assumption | (simp only [LCg.Off3, and_true]; done) | (simp only [LCg.Off3, and_true]; assumption)); (case kS => first | lcg_src | assumption))))
local macro_rules | `(tactic| walk_at "call builtin:str.join") => `(tactic| (k_here; (with_reducible show wpAny _ _ (call (Value.builtin "str.join") [Value.str _ _, Value.ref _]) _ _ _); (with_reducible rename CarriedAll _ (List.map _ _) => ktC); (refine Mine.join_any (by first | assumption | is_list | exact News.isList (by k_asm) (by k_mem)) ktC (fun a _ => Mine.sign_one a) (by first | omega | kt_fact) ?_; intro d' t' k' hd')))
local macro_rules | `(tactic| walk_at "binaryOp Add str str") => `(tactic| (k_here; (with_reducible show wpAny _ _ (binaryOp Operator.Add (Value.str _ _) (Value.str _ _)) _ _ _); (first
  | (refine Mine.add_any 3 30 (by first | assumption | decide +kernel) (by omega) (by decide) ?_; intro z' t' k' hz')
  | (refine Mine.add_any 33 1 (by omega) (by decide +kernel) (by decide) ?_; intro z' t' k' hz'))))
local macro_rules | `(tactic| walk_at "exec For Name List cons nil") => `(tactic| (k_here; (with_reducible show wpAny _ _ (exec (Stmt.For (Expr.Name (Str.ofString "opening") _) _ _ _ _) _) _ _ _); (rename Fr _ _ _ _ => lF'); (with_unfolding_all refine' For_invVF lF' ?k1 ?k2 ?_; (case k1 => exact rfl); (case k2 => exact rfl); k_whole)))
local macro_rules | `(tactic| walk_at "exec For Name Call cons nil") => `(tactic| (k_here; (with_reducible show wpAny _ _ (exec (Stmt.For (Expr.Name (Str.ofString "j") _) _ _ _ _) _) _ _ _); (rename Fr _ _ _ _ => lF'); (with_unfolding_all refine' For_invVF lF' ?k1 ?k2 ?_; (case k1 => exact rfl); (case k2 => exact rfl); k_whole)))
local macro_rules | `(tactic| walk_at "pyIter ref") => `(tactic| ((first | (with_reducible show wpAny _ _ (pyIter (Value.ref _)) (fun it s₂ => LoopAtV _ _ _ _ _ (Str.ofString "opening") _ _ _ it s₂) _ _) | (with_reducible show wpAny _ _ (pyIter (Value.ref _)) (fun it s₂ => LoopAtV _ _ _ _ _ (Str.ofString "j") _ _ _ it s₂) _ _)); refine Mine.stop ?_))
local macro_rules | `(tactic| walk_at "LPost") => `(tactic| (dsimp only [Mine.LPost]))
local macro_rules | `(tactic| walk_at "compareOp NotEq bool bool") => `(tactic| (k_here; (first | refine Mine.ne_same (Mine.key1 (by omega)) ?_ | refine Mine.ne_same (Mine.key2 (by omega)) ?_)))
theorem PySem.Challenge.cw_dm0104_03_holds : PySem.Challenge.rw_dm0104_03.Holds := by
  refine Mine.hd ?_
  k_with "table" => skip
  k_go0
  (all_goals try k_fold)
  k_steps
  refine Mine.go ?_
  rename Fr _ _ _ _ => lF
  rename News _ _ _ _ => lN
  with_unfolding_all refine' Mine.list_keep (Mine.Kopen _ _) rfl (List.Mem.head _) lF lN rfl (fun i v m h tk I oI hv hK hne F' N' => ?kturn) (fun m h tk hK F' N' => ?kdone)
  case kdone =>
    clear lF lN
    (try k_fold)
    k_steps
  case kturn =>
    clear lF lN
    obtain ⟨z, tz, hz, hz'⟩ := Mine.four hv
    subst hz
    have F'' := Mine.frKnows [(Str.ofString "drawn", _)] (List.forall_mem_cons.mpr ⟨hK, List.forall_mem_nil _⟩) F'
    dsimp only [kstB] at F''
    clear F' hv hK
    dsimp only
    (try k_fold)
    k_steps
    refine Mine.go ?_
    rename Fr _ _ _ _ => lF
    rename News _ _ _ _ => lN
    rename IsRange _ _ _ _ _ _ _ _ => rgX
    with_unfolding_all refine' Mine.range_keep (Mine.Kj _ _ _ _) rfl rgX (small_one (by omega) (by omega) (by omega) (by omega)) (rangeSize_nat _ _) lF lN ⟨rfl, rfl, _, rfl⟩ (fun i t m h tk I oI hi hK hne' F' N' => ?kturn) (fun m h tk hK F' N' => ?kdone)
    case kdone =>
      clear lF lN rgX
      obtain ⟨hKd, hKt, tS, hKs⟩ := hK
      have F'' := Mine.frKnows0 [(Str.ofString "drawn", _)] (List.forall_mem_cons.mpr ⟨hKd, List.forall_mem_nil _⟩) F'
      dsimp only [kstB] at F''
      clear F'
      dsimp only
      (try k_fold)
      k_steps
      refine Mine.keep_end (by assumption) (by assumption) (by assumption) (fun _ hp => hp) (by with_unfolding_all rfl)
    case kturn =>
      clear lF lN rgX
      obtain ⟨hKd, hKt, tS, hKs⟩ := hK
      have F'' := Mine.frKnows [(Str.ofString "drawn", _), (Str.ofString "text", _), (Str.ofString "state", _)] (List.forall_mem_cons.mpr ⟨hKd, List.forall_mem_cons.mpr ⟨hKt, List.forall_mem_cons.mpr ⟨hKs, List.forall_mem_nil _⟩⟩⟩) F'
      dsimp only [kstB] at F''
      clear F' hKd hKt hKs
      dsimp only
      (try k_fold)
      k_steps
      refine Mine.keep_end (by assumption) (by assumption) (by assumption) (by kcf_all) ⟨by with_unfolding_all rfl, by with_unfolding_all rfl, _, by (rw [← Mine.st_next (by omega)]; with_unfolding_all rfl)⟩
