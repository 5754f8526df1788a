import PyProof.Rows.All
import Wide.All
import OpenK.AllK
import Wide.FinOn
import PySem.Challenge.RW_dm0104_06
open PySem PySem.W PyProof.Rows PyProof.V PySem.Spec PySem.Calls
set_option Elab.async false
set_option maxRecDepth 100000
set_option maxHeartbeats 8000000
namespace Mine
/-- the end of a turn of a comprehension of texts -/
theorem ct_end {h₀ : Heap} {L I C D : Addr} {m : Str → Option Value} {s₁ : Shared} {oI oC oD : Obj} {S : List (Addr × Obj) → Prop} {r : Str} {t : Tok} {h' : Heap} {tk : Nat} {all news : List (Addr × Obj)} {y : Str}
    (F : Fr h₀ L h' m) (N : News h₀ L h' all) (hy : y = r) (sub : ∀ p ∈ (I, oI) :: (C, oC) :: (D, oD) :: news, p ∈ all) (off : LCg.Off3 I C D news) (hS : S news) :
    LCg.CompEnd h₀ L m s₁ I oI C oC D oD S (fun y news' => KCtEl news r y news') (.str y t) { s₁ with heap := h', toks := tk } :=
  LCg.CompEnd.intro F N news sub off hS ⟨rfl, t, by rw [hy]⟩
/-- a table of one-sign texts -/
theorem getD_one {l : List Str} {d : Str} (h : (d :: l).all (fun x => x.length == 1) = true) (i : Nat) : (l.getD i d).length = 1 := by
  have ha := List.all_eq_true.mp h
  by_cases hk : i < l.length
  · have e : l.getD i d = l[i] := by simp [List.getD, hk]
    rw [e]
    exact eq_of_beq (ha _ (List.mem_cons_of_mem _ (List.getElem_mem hk)))
  · have e : l.getD i d = d := by simp [List.getD, Nat.not_lt.mp hk]
    rw [e]
    exact eq_of_beq (ha _ List.mem_cons_self)
/-- ''.join of one-sign texts: some text of that length -/
theorem join_any {prog : Program} {w : World} {A : Around} {E : Value → Shared → Prop} {s : Shared} {t : Tok} {Q : Value → Shared → Prop} {D : Addr} {ys : List Value} {l : List Int} {g : Int → Str}
    (hl : s.heap.IsList D ys.toArray) (hc : CarriedAll ys (l.map fun a => PyData.str (g a))) (h1 : ∀ a ∈ l, (g a).length = 1) (hn : l.length ≤ 1048576)
    (h : ∀ (d : Str) t' k, d.length = l.length → Q (.str d t') { s with toks := k }) :
    wpAny (model prog w) A (call (.builtin "str.join") [.str (PySem.Str.ofString "") t, .ref D]) Q E s :=
  KT.join_1 hl hc h1 hn fun t' k e => h _ t' k e
end Mine
namespace Mine
/-- + of two texts: some text of at most that length -/
theorem add_any {prog : Program} {w : World} {A : Around} {E : Value → Shared → Prop} {s : Shared} {t u : Tok} {Q : Value → Shared → Prop} {x y : Str} (a b : Nat)
    (hx : x.length ≤ a) (hy : y.length ≤ b) (hs : a + b ≤ 16777216) (h : ∀ (z : Str) t' k, z.length ≤ a + b → Q (.str z t') { s with toks := k }) :
    wpAny (model prog w) A (binaryOp .Add (.str x t) (.str y u)) Q E s :=
  KXadd.add hx hy hs fun t' k e => h _ t' k (by omega)
end Mine

namespace Mine
/-- a text's signs -/
def sg (x : Str) : List Nat := x.cps.toList
theorem sg_len (x : Str) : (sg x).length = x.length := Array.length_toList
theorem sg_inj {x y : Str} (h : sg x = sg y) : x = y := Str.ext' (Array.toList_inj.mp h)
theorem sg_mk (l : List Nat) : sg ⟨l.toArray⟩ = l := by simp [sg]
theorem sg_app (x y : Str) : sg (x ++ y) = sg x ++ sg y := by simp [sg, Str.cps_append]
theorem getD_sg (x : Str) (i : Nat) : x.cps.getD i 0 = (sg x).getD i 0 := by
  simp [sg, Array.getD_eq_getD_getElem?]
theorem item_pos {x : Str} {i : Int} (h0 : 0 ≤ i) (h1 : i < x.length) : Txt.item x i = ⟨#[(sg x).getD i.toNat 0]⟩ := by
  rw [W.item_meets ⟨h0, h1⟩, getD_sg]
theorem item_neg {x : Str} {i : Int} (h0 : i < 0) (h1 : -(x.length : Int) ≤ i) : Txt.item x i = ⟨#[(sg x).getD (i + x.length).toNat 0]⟩ := by
  rw [eq_of_beq (item_closes_neg h0 h1 rfl), getD_sg]
theorem one_beq (a b : Nat) : ((⟨#[a]⟩ : Str) == ⟨#[b]⟩) = (a == b) := by
  rw [Bool.eq_iff_iff]; simp
theorem one_bne (a b : Nat) : ((⟨#[a]⟩ : Str) != ⟨#[b]⟩) = (a != b) := by
  simp only [bne, one_beq]
theorem sg_slice {x : Str} {i j : Int} (h : 0 ≤ i) (h1 : i ≤ j) (h2 : j ≤ x.length) : sg (Txt.slice x (some i) (some j)) = ((sg x).drop i.toNat).take (j - i).toNat := by
  rw [eq_of_beq (slice_closes (x := x) (i := i) (j := j) ⟨h, h1, by have := sg_len x; unfold sg at this; omega⟩), sg_mk]; rfl
theorem sg_slice_to {x : Str} {j : Int} (h : 0 ≤ j) (h2 : j ≤ x.length) : sg (Txt.slice x none (some j)) = (sg x).take j.toNat := by
  rw [eq_of_beq (slice_closes_to (x := x) (j := j) ⟨h, by have := sg_len x; unfold sg at this; omega⟩), sg_mk]
  simp [sg]
theorem sg_rev (x : Str) (u : Tok) : sg (Txt.sliceBy x none none (-1, u)) = (sg x).reverse := by
  unfold sg
  rw [step_rev_list]
  apply List.ext_getElem?
  intro i
  rw [List.getElem?_map]
  by_cases h : i < x.length
  · have hl : x.cps.toList.length = x.length := Array.length_toList
    rw [List.getElem?_range h, List.getElem?_reverse (by omega), hl]
    have h2 : x.length - 1 - i < x.cps.toList.length := by omega
    rw [List.getElem?_eq_getElem h2]
    have h3 : x.length - 1 - i < x.cps.size := by simpa using h2
    simp [Array.getD, h3]
  · have hl : x.cps.toList.length = x.length := Array.length_toList
    rw [List.getElem?_eq_none (by simpa using h), List.getElem?_eq_none (by rw [List.length_reverse]; omega)]
    rfl
end Mine

namespace Mine
/-- where the walk is to stand still -/
def still {α : Type} (t : Sem α) : Sem α := t
theorem stop {α : Type} {M : Model} {A : Around} {t : Sem α} {Q : α → Shared → Prop} {E : Value → Shared → Prop} {s : Shared} (h : wpAny M A (still t) Q E s) : wpAny M A t Q E s := h
theorem go {α : Type} {M : Model} {A : Around} {t : Sem α} {Q : α → Shared → Prop} {E : Value → Shared → Prop} {s : Shared} (h : wpAny M A t Q E s) : wpAny M A (still t) Q E s := h
section
variable {prog : Program} {w : World} {A : Around} {E : Value → Shared → Prop} {s : Shared} {env : Env} {h₀ : Heap} {x : Str} {body : List Stmt} {Q : Flow → Shared → Prop}

/-- a turn's end: the invariant again, beside the iterator's own object -/
def LEnd (h₀ : Heap) (L : Addr) (J : (Str → Option Value) → List (Addr × Obj) → Prop) (I : Addr) (oI : Obj) (s₁ s₂ : Shared) : Prop :=
  ∃ h' tk m' news', s₂ = { s₁ with heap := h', toks := tk } ∧ Fr h₀ L h' m' ∧ News h₀ L h' ((I, oI) :: news') ∧ (∀ p ∈ news', p.1 ≠ I) ∧ J m' news'
def LPost (h₀ : Heap) (L : Addr) (J : (Str → Option Value) → List (Addr × Obj) → Prop) (I : Addr) (oI : Obj) (s₁ : Shared) (Q : Flow → Shared → Prop) (f : Flow) (s₂ : Shared) : Prop :=
  match f with
  | .ret v => Q (.ret v) s₂
  | .brk => Q .next s₂
  | _ => LEnd h₀ L J I oI s₁ s₂
theorem LEnd.intro {L : Addr} {J : (Str → Option Value) → List (Addr × Obj) → Prop} {I : Addr} {oI : Obj} {s₁ : Shared} {h' : Heap} {tk : Nat} {m' : Str → Option Value} {all : List (Addr × Obj)}
    (F : Fr h₀ L h' m') (N : News h₀ L h' all) (news' : List (Addr × Obj)) (hs : ∀ p ∈ (I, oI) :: news', p ∈ all) (hI : ∀ p ∈ news', p.1 ≠ I) (hj : J m' news') :
    LEnd h₀ L J I oI s₁ { s₁ with heap := h', toks := tk } := ⟨h', tk, m', news', rfl, F, fun p hp => N p (hs p hp), hI, hj⟩

theorem LEnd.intro2 {L : Addr} {J : (Str → Option Value) → List (Addr × Obj) → Prop} {I D : Addr} {oI o : Obj} {s₁ : Shared} {h' : Heap} {tk : Nat} {m' : Str → Option Value} {rest : List (Addr × Obj)}
    (F : Fr h₀ L h' m') (N : News h₀ L h' ((D, o) :: (I, oI) :: rest)) (hI : ∀ p ∈ (D, o) :: rest, p.1 ≠ I) (hj : J m' ((D, o) :: rest)) :
    LEnd h₀ L J I oI s₁ { s₁ with heap := h', toks := tk } := LEnd.intro F N ((D, o) :: rest) (fun p hp => by
      rcases List.mem_cons.mp hp with rfl | hp
      · exact List.Mem.tail _ (List.Mem.head _)
      · rcases List.mem_cons.mp hp with rfl | hp
        · exact List.Mem.head _
        · exact List.Mem.tail _ (List.Mem.tail _ hp)) hI hj
/-- a frame's name that is known -/
theorem frKnow {L : Addr} {h : Heap} {m : Str → Option Value} {a : Str} {v : Value} (F : Fr h₀ L h m) (e : m a = some v) : Fr h₀ L h (fun y => if y = a then some v else m y) := by
  have : (fun y => if y = a then some v else m y) = m := by
    funext y
    by_cases h : y = a
    · rw [if_pos h, h, e]
    · rw [if_neg h]
  rw [this]; exact F

theorem kn_eq {m : Str → Option Value} {ps : List (Str × Value)} (h : ∀ p ∈ ps, m p.1 = some p.2) : kstB m ps = m := funext fun _ => kstB_eq h fun _ => rfl
theorem frKnows {L : Addr} {h : Heap} {m : Str → Option Value} {u : Value} (ps : List (Str × Value)) (e : ∀ p ∈ ps, m p.1 = some p.2) (F : Fr h₀ L h (fun y => if y = x then some u else m y)) : Fr h₀ L h (fun y => if y = x then some u else kstB m ps y) := by
  rw [kn_eq e]; exact F
theorem frKnows0 {L : Addr} {h : Heap} {m : Str → Option Value} (ps : List (Str × Value)) (e : ∀ p ∈ ps, m p.1 = some p.2) (F : Fr h₀ L h m) : Fr h₀ L h (fun y => kstB m ps y) := by
  rw [kn_eq e]; exact F
theorem range_loop {r : Addr} {a₀ b₀ : Int} {t₀ u₀ v₀ : Tok} {n : Nat} {m₀ : Str → Option Value} {news : List (Addr × Obj)} (J : Nat → (Str → Option Value) → List (Addr × Obj) → Prop)
    (hh : A.handled = none) (hr : IsRange s.heap r a₀ b₀ 1 t₀ u₀ v₀) (hsmall : Builtin.Range.small a₀ b₀ 1 = true) (hn : Builtin.Range.rangeSize a₀ b₀ 1 = (n : Int))
    (F : Fr h₀ env.locals s.heap m₀) (N : News h₀ env.locals s.heap news) (hj : J 0 m₀ news)
    (turn : ∀ (i : Nat) t m₁ news₁ h tk I oI, i < n → J i m₁ news₁ → (∀ p ∈ news₁, p.1 ≠ I) → Fr h₀ env.locals h (fun y => if y = x then some (.int (a₀ + (i : Int)) t) else m₁ y) → News h₀ env.locals h ((I, oI) :: news₁) →
      wpAny (model prog w) A (execs body env) (LPost h₀ env.locals (J (i + 1)) I oI { s with heap := h, toks := tk } Q) E { s with heap := h, toks := tk })
    (done : ∀ m₁ news₁ h tk, J n m₁ news₁ → Fr h₀ env.locals h m₁ → News h₀ env.locals h news₁ → Q .next { s with heap := h, toks := tk }) :
    wpAny (model prog w) A (pyIter (.ref r)) (fun it s₂ => LoopAtV prog w A h₀ env x body Q E it s₂) E s := by
  refine wpAny_pyIter_range hr hsmall ?_
  have W : Walks prog w A s.heap.objs.size [s.heap.objs.size] [s.heap.objs.size] n (fun i v => i < n ∧ ∃ t, v = .int (a₀ + i * 1) t)
      (fun i h => IsRangeIter h s.heap.objs.size (a₀ + (i : Nat) * 1) ((n : Int) - (i : Nat)) 1) := (Walks.range hh _ a₀ 1 n).bound
  refine ⟨_, _, _, n, _, _, m₀, news, J, rfl, W, ?_, ?_, ?_, (by show IsRangeIter _ _ _ _ _; rw [hn]; simpa using Heap.get?_push_size _ rfl), F.push _, (fun p hp => ⟨Heap.get?_push_of_some _ (N p hp).1, (N p hp).2⟩), hj, ?_, ?_⟩
  · intro hm
    exact absurd F.ns.lt ((List.mem_singleton.mp hm) ▸ Nat.lt_irrefl _)
  · intro b hb
    rw [List.mem_singleton.mp hb]
    exact next_is_new F
  · intro p hp hI
    exact absurd (Heap.lt_size (N p hp).1) ((List.mem_singleton.mp hI) ▸ Nat.lt_irrefl _)
  · rintro i v m₁ news₁ s₁ own ⟨hh', tk', rfl⟩ hin ⟨_, t, rfl⟩ hJ hoff hown hown2 _ hst F₁ N₁
    have e1 : a₀ + (i : Int) * 1 = a₀ + (i : Int) := by omega
    rw [e1] at F₁
    have hst' : ∃ oI, hh'.get? s.heap.objs.size = some oI := ⟨_, hst⟩
    obtain ⟨oI, heI⟩ := hst'
    have hI₀ : h₀.get? s.heap.objs.size = none := next_is_new F
    have hIL : s.heap.objs.size ≠ env.locals := fun e => absurd F.ns.lt (e ▸ Nat.lt_irrefl _)
    have N₂ : News h₀ env.locals hh' ((s.heap.objs.size, oI) :: news₁) := fun p hp => by
      rcases List.mem_cons.mp hp with rfl | hp
      · exact ⟨heI, hIL, hI₀⟩
      · exact N₁ p (List.mem_append_right _ hp)
    have hne : ∀ p ∈ news₁, p.1 ≠ s.heap.objs.size := fun p hp e => hoff p hp (by rw [e]; exact List.mem_singleton.mpr rfl)
    refine wpAny_mono (turn i t m₁ news₁ hh' tk' s.heap.objs.size oI hin hJ hne F₁ N₂) (fun f s₂ p => ?_) fun _ _ e => e
    have fin : LEnd h₀ env.locals (J (i + 1)) s.heap.objs.size oI { s with heap := hh', toks := tk' } s₂ → LoopStepU h₀ env.locals [s.heap.objs.size] own (J (i + 1)) { s with heap := hh', toks := tk' } .next s₂ := by
      rintro ⟨h', tk, m', news', e, F', N', hI, hJ'⟩
      refine ⟨rfl, h', tk, m', news', e, F', fun p hp => ?_, fun p hp hq => hI p hp (List.mem_singleton.mp hq), hJ'⟩
      rcases List.mem_append.mp hp with hp | hp
      · have h1 := List.mem_singleton.mp (hown p hp)
        have h2 := hown2 p hp
        have h3 : p = (s.heap.objs.size, oI) := by
          obtain ⟨a, o⟩ := p
          cases h1
          have h2' : hh'.get? s.heap.objs.size = some o := h2
          rw [heI] at h2'; cases h2'; rfl
        rw [h3]; exact N' _ List.mem_cons_self
      · exact N' p (List.mem_cons_of_mem _ hp)
    cases f with
    | ret v => exact .ret p
    | brk => exact .brk p
    | next => exact .next (fin p)
    | cont => exact .cont (fin p)
  · rintro h' tk m' news' F' N' _ hJ
    exact done m' news' h' tk hJ F' N'

/-- a loop over a list that the call has made and the loop leaves alone -/
theorem list_loop {l : Addr} {items : Array Value} {ol : Obj} {m₀ : Str → Option Value} {news : List (Addr × Obj)} (J : Nat → (Str → Option Value) → List (Addr × Obj) → Prop)
    (hh : A.handled = none) (hcls : ol.cls = .type "list") (hdat : ∃ n, ol.data = .seq items n) (hkeep : ∀ i m nx, J i m nx → (l, ol) ∈ nx)
    (F : Fr h₀ env.locals s.heap m₀) (N : News h₀ env.locals s.heap news) (hj : J 0 m₀ news)
    (turn : ∀ (i : Nat) v m₁ news₁ h tk I oI, i < items.size → items[i]? = some v → J i m₁ news₁ → (∀ p ∈ news₁, p.1 ≠ I) → Fr h₀ env.locals h (fun y => if y = x then some v else m₁ y) → News h₀ env.locals h ((I, oI) :: news₁) →
      wpAny (model prog w) A (execs body env) (LPost h₀ env.locals (J (i + 1)) I oI { s with heap := h, toks := tk } Q) E { s with heap := h, toks := tk })
    (done : ∀ m₁ news₁ h tk, J items.size m₁ news₁ → Fr h₀ env.locals h m₁ → News h₀ env.locals h news₁ → Q .next { s with heap := h, toks := tk }) :
    wpAny (model prog w) A (pyIter (.ref l)) (fun it s₂ => LoopAtV prog w A h₀ env x body Q E it s₂) E s := by
  have hl0 := N _ (hkeep _ _ _ hj)
  have hls : s.heap.IsList l items := ⟨ol, hl0.1, hcls, hdat⟩
  have hlt : l < s.heap.objs.size := Heap.lt_size hl0.1
  have hne : l ≠ s.heap.objs.size := Nat.ne_of_lt hlt
  refine wpAny_pyIter_list hls ?_
  have W := Walks.list (prog := prog) (w := w) hh s.heap.objs.size l hne items
  refine ⟨_, _, _, items.size, _, _, m₀, news, J, rfl, W, ?_, ?_, ?_, ⟨⟨_, Heap.get?_push_size _ rfl, rfl, rfl⟩, hls.at fun o e => Heap.get?_push_of_some _ e⟩, F.push _, (fun p hp => ⟨Heap.get?_push_of_some _ (N p hp).1, (N p hp).2⟩), hj, ?_, ?_⟩
  · intro hm
    rcases List.mem_cons.mp hm with e | hm
    · exact absurd F.ns.lt (e ▸ Nat.lt_irrefl _)
    · exact hl0.2.1 (List.mem_singleton.mp hm).symm
  · intro b hb
    rw [List.mem_singleton.mp hb]
    exact next_is_new F
  · intro p hp hI
    exact absurd (Heap.lt_size (N p hp).1) ((List.mem_singleton.mp hI) ▸ Nat.lt_irrefl _)
  · rintro i v m₁ news₁ s₁ own ⟨hh', tk', rfl⟩ hin hP hJ hoff hown hown2 _ hst F₁ N₁
    have hst' : ∃ oI, hh'.get? s.heap.objs.size = some oI := by obtain ⟨⟨o, e, _⟩, _⟩ := hst; exact ⟨o, e⟩
    obtain ⟨oI, heI⟩ := hst'
    have hI₀ : h₀.get? s.heap.objs.size = none := next_is_new F
    have hIL : s.heap.objs.size ≠ env.locals := fun e => absurd F.ns.lt (e ▸ Nat.lt_irrefl _)
    have N₂ : News h₀ env.locals hh' ((s.heap.objs.size, oI) :: news₁) := fun p hp => by
      rcases List.mem_cons.mp hp with rfl | hp
      · exact ⟨heI, hIL, hI₀⟩
      · exact N₁ p (List.mem_append_right _ hp)
    have hne' : ∀ p ∈ news₁, p.1 ≠ s.heap.objs.size := fun p hp e => hoff p hp (by rw [e]; exact List.mem_singleton.mpr rfl)
    have hl1 : hh'.get? l = some ol := (N₂ _ (List.mem_cons_of_mem _ (hkeep _ _ _ hJ))).1
    refine wpAny_mono (turn i v m₁ news₁ hh' tk' s.heap.objs.size oI hin hP hJ hne' F₁ N₂) (fun f s₂ p => ?_) fun _ _ e => e
    have fin : LEnd h₀ env.locals (J (i + 1)) s.heap.objs.size oI { s with heap := hh', toks := tk' } s₂ → LoopStepU h₀ env.locals [s.heap.objs.size] own (J (i + 1)) { s with heap := hh', toks := tk' } .next s₂ := by
      rintro ⟨h', tk, m', news', e, F', N', hI, hJ'⟩
      refine ⟨rfl, h', tk, m', news', e, F', fun p hp => ?_, fun p hp hq => hI p hp (List.mem_singleton.mp hq), hJ'⟩
      rcases List.mem_append.mp hp with hp | hp
      · obtain ⟨a, o⟩ := p
        have h2 : hh'.get? a = some o := hown2 _ hp
        rcases List.mem_cons.mp (hown _ hp) with h1 | h1
        · have h1' : a = s.heap.objs.size := h1
          rw [h1', heI] at h2; cases h2; rw [h1']
          exact N' _ List.mem_cons_self
        · have h1' : a = l := List.mem_singleton.mp h1
          rw [h1', hl1] at h2; cases h2; rw [h1']
          exact N' _ (List.mem_cons_of_mem _ (hkeep _ _ _ hJ'))
      · exact N' p (List.mem_cons_of_mem _ hp)
    cases f with
    | ret v => exact .ret p
    | brk => exact .brk p
    | next => exact .next (fin p)
    | cont => exact .cont (fin p)
  · rintro h' tk m' news' F' N' _ hJ
    exact done m' news' h' tk hJ F' N'

/-- as list_loop, the made things left as they are -/
theorem list_keep {l : Addr} {items : Array Value} {c : Nat} {m₀ : Str → Option Value} {news : List (Addr × Obj)} (K : Nat → (Str → Option Value) → Prop)
    (hh : A.handled = none) (hl : (l, listOf items c) ∈ news)
    (F : Fr h₀ env.locals s.heap m₀) (N : News h₀ env.locals s.heap news) (hk : K 0 m₀)
    (turn : ∀ (i : Nat) v m₁ h tk I oI, items[i]? = some v → K i m₁ → (∀ p ∈ news, p.1 ≠ I) → Fr h₀ env.locals h (fun y => if y = x then some v else m₁ y) → News h₀ env.locals h ((I, oI) :: news) →
      wpAny (model prog w) A (execs body env) (LPost h₀ env.locals (fun m nx => nx = news ∧ K (i + 1) m) I oI { s with heap := h, toks := tk } Q) E { s with heap := h, toks := tk })
    (done : ∀ m₁ h tk, K items.size m₁ → Fr h₀ env.locals h m₁ → News h₀ env.locals h news → Q .next { s with heap := h, toks := tk }) :
    wpAny (model prog w) A (pyIter (.ref l)) (fun it s₂ => LoopAtV prog w A h₀ env x body Q E it s₂) E s := by
  refine list_loop (ol := listOf items c) (items := items) (fun i m nx => nx = news ∧ K i m) hh rfl ⟨c, rfl⟩ (fun i m nx h => by rw [h.1]; exact hl) F N ⟨rfl, hk⟩ ?_ ?_
  · rintro i v m₁ news₁ h tk I oI _ hv ⟨rfl, hK⟩ hne F₁ N₁
    exact turn i v m₁ h tk I oI hv hK hne F₁ N₁
  · rintro m₁ news₁ h tk ⟨rfl, hK⟩ F₁ N₁
    exact done m₁ h tk hK F₁ N₁
theorem range_keep {r : Addr} {a₀ b₀ : Int} {t₀ u₀ v₀ : Tok} {n : Nat} {m₀ : Str → Option Value} {news : List (Addr × Obj)} (K : Nat → (Str → Option Value) → Prop)
    (hh : A.handled = none) (hr : IsRange s.heap r a₀ b₀ 1 t₀ u₀ v₀) (hsmall : Builtin.Range.small a₀ b₀ 1 = true) (hn : Builtin.Range.rangeSize a₀ b₀ 1 = (n : Int))
    (F : Fr h₀ env.locals s.heap m₀) (N : News h₀ env.locals s.heap news) (hk : K 0 m₀)
    (turn : ∀ (i : Nat) t m₁ h tk I oI, i < n → K i m₁ → (∀ p ∈ news, p.1 ≠ I) → Fr h₀ env.locals h (fun y => if y = x then some (.int (a₀ + (i : Int)) t) else m₁ y) → News h₀ env.locals h ((I, oI) :: news) →
      wpAny (model prog w) A (execs body env) (LPost h₀ env.locals (fun m nx => nx = news ∧ K (i + 1) m) I oI { s with heap := h, toks := tk } Q) E { s with heap := h, toks := tk })
    (done : ∀ m₁ h tk, K n m₁ → Fr h₀ env.locals h m₁ → News h₀ env.locals h news → Q .next { s with heap := h, toks := tk }) :
    wpAny (model prog w) A (pyIter (.ref r)) (fun it s₂ => LoopAtV prog w A h₀ env x body Q E it s₂) E s := by
  refine range_loop (fun i m nx => nx = news ∧ K i m) hh hr hsmall hn F N ⟨rfl, hk⟩ ?_ ?_
  · rintro i t m₁ news₁ h tk I oI hi ⟨rfl, hK⟩ hne F₁ N₁
    exact turn i t m₁ h tk I oI hi hK hne F₁ N₁
  · rintro m₁ news₁ h tk ⟨rfl, hK⟩ F₁ N₁
    exact done m₁ h tk hK F₁ N₁
theorem keep_end {L : Addr} {K : (Str → Option Value) → Prop} {I : Addr} {oI : Obj} {s₁ : Shared} {h' : Heap} {tk : Nat} {m' : Str → Option Value} {all news : List (Addr × Obj)}
    (F : Fr h₀ L h' m') (N : News h₀ L h' all) (hI : ∀ p ∈ news, p.1 ≠ I) (hs : ∀ p ∈ (I, oI) :: news, p ∈ all) (hj : K m') :
    LEnd h₀ L (fun m nx => nx = news ∧ K m) I oI s₁ { s₁ with heap := h', toks := tk } := LEnd.intro F N news hs hI ⟨rfl, hj⟩
/-- append to a made list: the rest of the ledger by membership -/
theorem append_mine {L D : Addr} {m : Str → Option Value} {news : List (Addr × Obj)} {us : List Value} {n : Nat} {v : Value} {R : Value → Shared → Prop} (rest : List (Addr × Obj)) (F : Fr h₀ L s.heap m) (N : News h₀ L s.heap news) (hm : (D, listOf us.toArray n) ∈ news)
    (hr : ∀ p ∈ rest, p ∈ news ∧ p.1 ≠ D) (hsz : us.length ≤ 1000000) (h : ∀ h', Fr h₀ L h' m → News h₀ L h' ((D, listOf (us ++ [v]).toArray (n + 1)) :: rest) → R .none { s with heap := h' }) :
    wpAny (model prog w) A (call (.builtin "list.append") [.ref D, v]) R E s := by
  have z := N _ hm
  refine append_at (hsz := by rw [List.size_toArray, PySem.sizeLine_eq]; omega) z.1 fun h' hs ho' => h h' (F.change hs z.2.1 z.2.2) fun p hp => ?_
  rcases List.mem_cons.mp hp with rfl | hp
  · refine ⟨?_, z.2⟩
    rw [ho']; simp
  · have y := N p (hr p hp).1
    exact ⟨(hs.2 _ (hr p hp).2).trans y.1, y.2⟩
end
end Mine

namespace Mine
open_top hd for PySem.Challenge.rw_dm0104_06
end Mine

namespace Mine
def patOf (c : Str) : Str := Str.ofString "_" ++ c ++ Str.ofString "__"
def privB (c n : Str) : Bool := decide ((((Str.ofString "_").length + c.length + (Str.ofString "__").length : Nat) : Int) < (n.length : Int)) && (Txt.startswith n (patOf c) && (Txt.item n (-1) != Str.ofString "_" || Txt.item n (-2) != Str.ofString "_"))
def ownTo (n : Str) : Nat → List Str
  | 0 => []
  | i + 1 => ownTo n i ++ (if Txt.item n (1 + (i : Int)) == Str.ofString "_" && Txt.item n (1 + (i : Int) + 1) == Str.ofString "_" then [Txt.slice n (some 1) (some (1 + (i : Int)))] else [])
def ownersOf (n : Str) : List Str :=
  if Txt.slice n none (some 1) != Str.ofString "_" || Txt.slice n (some (-2)) none == Str.ofString "__" then [] else ownTo n ((n.length : Int) - 2 - 1).toNat
theorem us1 : Str.ofString "_" = ⟨#[95]⟩ := by decide +kernel
theorem us2 : Str.ofString "__" = ⟨#[95, 95]⟩ := by decide +kernel
theorem us1_len : (Str.ofString "_").length = 1 := by decide +kernel
theorem us2_len : (Str.ofString "__").length = 2 := by decide +kernel
theorem sg_pat (c : Str) : sg (patOf c) = 95 :: (sg c ++ [95, 95]) := by
  unfold patOf
  rw [sg_app, sg_app, us1, us2]
  simp [sg]
theorem pat_len (c : Str) : (patOf c).length = c.length + 3 := by
  rw [← sg_len, sg_pat]; simp [sg_len]
theorem starts_iff (c n : Str) : Txt.startswith n (patOf c) = true ↔ c.length + 3 ≤ n.length ∧ (sg n).take (c.length + 3) = 95 :: (sg c ++ [95, 95]) := by
  unfold Txt.startswith
  rw [StrLaws.subAt_eq, pat_len]
  simp only [Bool.and_eq_true, decide_eq_true_eq, List.drop_zero, beq_iff_eq, Nat.zero_add]
  rw [← sg_pat]; rfl
/-- the owners that a text names, over its signs: c is the piece between an underscore that opens and two underscores with something behind -/
def Owns (c n : List Nat) : Prop := c.length + 3 < n.length ∧ n.take (c.length + 3) = 95 :: (c ++ [95, 95]) ∧ ¬ (n.getD (n.length - 1) 0 = 95 ∧ n.getD (n.length - 2) 0 = 95)
theorem priv_iff (c n : Str) : privB c n = true ↔ Owns (sg c) (sg n) := by
  unfold privB Owns
  simp only [Bool.and_eq_true, decide_eq_true_eq, Bool.or_eq_true, starts_iff, us1_len, us2_len, sg_len]
  constructor
  · rintro ⟨h1, ⟨h2, h3⟩, h4⟩
    have hl : c.length + 3 < n.length := by omega
    refine ⟨hl, h3, ?_⟩
    rintro ⟨e1, e2⟩
    rw [item_neg (by omega) (by omega), item_neg (by omega) (by omega), us1, one_bne, one_bne] at h4
    have q1 : (-1 + (n.length : Int)).toNat = n.length - 1 := by omega
    have q2 : (-2 + (n.length : Int)).toNat = n.length - 2 := by omega
    rw [q1, q2, e1, e2] at h4
    simp at h4
  · rintro ⟨h1, h2, h3⟩
    refine ⟨by omega, ⟨by omega, h2⟩, ?_⟩
    rw [item_neg (by omega) (by omega), item_neg (by omega) (by omega), us1, one_bne, one_bne]
    have q1 : (-1 + (n.length : Int)).toNat = n.length - 1 := by omega
    have q2 : (-2 + (n.length : Int)).toNat = n.length - 2 := by omega
    rw [q1, q2]
    by_cases e1 : (sg n).getD (n.length - 1) 0 = 95
    · right; simpa using fun e2 => h3 ⟨e1, e2⟩
    · left; simpa using e1
theorem mem_ownTo {c n : Str} : ∀ {i : Nat}, i + 2 < n.length → (c ∈ ownTo n i ↔ ∃ j, j < i ∧ (sg n).getD (1 + j) 0 = 95 ∧ (sg n).getD (2 + j) 0 = 95 ∧ sg c = ((sg n).drop 1).take j)
  | 0, _ => by simp [ownTo]
  | i + 1, h => by
    have ih := mem_ownTo (c := c) (n := n) (i := i) (by omega)
    unfold ownTo
    rw [List.mem_append, ih, item_pos (by omega) (by omega), item_pos (by omega) (by omega), us1, one_beq, one_beq]
    have q1 : (1 + (i : Int)).toNat = 1 + i := by omega
    have q2 : (1 + (i : Int) + 1).toNat = 2 + i := by omega
    rw [q1, q2]
    have hs : sg (Txt.slice n (some 1) (some (1 + (i : Int)))) = ((sg n).drop 1).take i := by
      rw [sg_slice (by omega) (by omega) (by omega)]
      have q3 : (1 + (i : Int) - 1).toNat = i := by omega
      rw [q3]; rfl
    constructor
    · rintro (⟨j, hj, r⟩ | hc)
      · exact ⟨j, by omega, r⟩
      · split at hc
        · rename_i hcond
          simp only [Bool.and_eq_true, beq_iff_eq] at hcond
          rw [List.mem_singleton.mp hc]
          exact ⟨i, by omega, hcond.1, hcond.2, hs⟩
        · cases hc
    · rintro ⟨j, hj, h1, h2, h3⟩
      by_cases e : j = i
      · subst e
        right
        rw [if_pos (by rw [h1, h2]; rfl)]
        exact List.mem_singleton.mpr (sg_inj (h3.trans hs.symm))
      · exact .inl ⟨j, by omega, h1, h2, h3⟩
theorem slice_one {n : Str} (h : 1 ≤ n.length) : (Txt.slice n none (some 1) != Str.ofString "_") = ((sg n).getD 0 0 != 95) := by
  have hs : sg (Txt.slice n none (some 1)) = [(sg n).getD 0 0] := by
    rw [sg_slice_to (by omega) (by omega)]
    have hl : 0 < (sg n).length := by rw [sg_len]; omega
    cases e : sg n with
    | nil => rw [e] at hl; cases hl
    | cons a r => rfl
  have e : Txt.slice n none (some 1) = ⟨#[(sg n).getD 0 0]⟩ := sg_inj (hs.trans (by simp [sg]))
  rw [e, us1, one_bne]
theorem slice_zero {n : Str} (h : n.length = 0) : (Txt.slice n none (some 1) != Str.ofString "_") = true := by
  have := Txt.slice_le n none (some 1)
  have hl : (Txt.slice n none (some 1)).length = 0 := by omega
  rw [bne_iff_ne]
  intro e
  rw [e, us1_len] at hl
  cases hl
theorem slice_two {n : Str} (h : 2 ≤ n.length) : (Txt.slice n (some (-2)) none == Str.ofString "__") = ((sg n).getD (n.length - 2) 0 == 95 && (sg n).getD (n.length - 1) 0 == 95) := by
  have hs : sg (Txt.slice n (some (-2)) none) = (sg n).drop (n.length - 2) := by
    show sg (StrLaws.sliceText n (some (-2)) none) = _
    rw [StrLaws.sliceText_neg_lo n none (by omega) (by omega), StrLaws.sliceText_from ⟨by omega, by have := sg_len n; unfold sg at this; omega⟩, sg_mk]
    have q : (-2 + (n.length : Int)).toNat = n.length - 2 := by omega
    rw [q]
    apply List.take_of_length_le
    rw [List.length_drop]
    have := sg_len n; unfold sg at this
    omega
  have hd : (sg n).drop (n.length - 2) = [(sg n).getD (n.length - 2) 0, (sg n).getD (n.length - 1) 0] := by
    have hl := sg_len n
    apply List.ext_getElem?
    intro i
    rw [List.getElem?_drop]
    match i with
    | 0 => simp [List.getElem?_eq_getElem (show n.length - 2 < (sg n).length by omega)]
    | 1 =>
      have e : n.length - 2 + 1 = n.length - 1 := by omega
      rw [e]
      simp [List.getElem?_eq_getElem (show n.length - 1 < (sg n).length by omega)]
    | i + 2 =>
      rw [List.getElem?_eq_none (by omega)]
      rfl
  rw [Bool.eq_iff_iff]
  simp only [beq_iff_eq, Bool.and_eq_true]
  constructor
  · intro e
    rw [e, us2] at hs
    rw [hd] at hs
    generalize (sg n).getD (n.length - 2) 0 = a at *
    generalize (sg n).getD (n.length - 1) 0 = b at *
    have hs' : [95, 95] = [a, b] := by simpa [sg] using hs
    simp at hs'
    exact ⟨hs'.1.symm, hs'.2.symm⟩
  · rintro ⟨e1, e2⟩
    apply sg_inj
    rw [hs, hd, e1, e2, us2]
    simp [sg]
theorem take_two (l : List Nat) (j : Nat) (h : j + 2 ≤ l.length) : l.take (j + 2) = l.take j ++ [l.getD j 0, l.getD (j + 1) 0] := by
  have h1 : l.take (j + 1) = l.take j ++ [l.getD j 0] := by
    rw [List.take_add_one, List.getElem?_eq_getElem (show j < l.length by omega)]
    simp [List.getD, List.getElem?_eq_getElem (show j < l.length by omega)]
  have h2 : l.take (j + 1 + 1) = l.take (j + 1) ++ [l.getD (j + 1) 0] := by
    rw [List.take_add_one, List.getElem?_eq_getElem (show j + 1 < l.length by omega)]
    simp [List.getD, List.getElem?_eq_getElem (show j + 1 < l.length by omega)]
  rw [show j + 2 = j + 1 + 1 from rfl, h2, h1]; simp
theorem owns_iff (c n : Str) : c ∈ ownersOf n ↔ Owns (sg c) (sg n) := by
  by_cases h3 : n.length ≤ 3
  · have e : ownersOf n = [] := by
      unfold ownersOf
      have q : ((n.length : Int) - 2 - 1).toNat = 0 := by omega
      rw [q]; split <;> rfl
    rw [e]
    constructor
    · intro h; cases h
    · rintro ⟨h, _⟩; simp only [sg_len] at h; omega
  · have hl := sg_len n
    unfold ownersOf
    rw [slice_one (by omega), slice_two (by omega)]
    have q : ((n.length : Int) - 2 - 1).toNat = n.length - 3 := by omega
    rw [q]
    have hm := mem_ownTo (c := c) (n := n) (i := n.length - 3) (by omega)
    obtain ⟨a, r, hn⟩ : ∃ a r, sg n = a :: r := by
      cases e : sg n with
      | nil => rw [e] at hl; simp at hl; omega
      | cons a r => exact ⟨a, r, rfl⟩
    have hr : r.length + 1 = n.length := by rw [hn] at hl; simpa using hl
    have g0 : (sg n).getD 0 0 = a := by rw [hn]; rfl
    have gs : ∀ k, (sg n).getD (1 + k) 0 = r.getD k 0 := fun k => by rw [hn, Nat.add_comm]; rfl
    have gs2 : ∀ k, (sg n).getD (2 + k) 0 = r.getD (k + 1) 0 := fun k => by rw [hn, show 2 + k = (k + 1) + 1 by omega]; rfl
    have gd : (sg n).drop 1 = r := by rw [hn]; rfl
    rw [gd] at hm
    simp only [gs, gs2] at hm
    rw [g0]
    unfold Owns
    rw [hl]
    generalize (sg n).getD (n.length - 1) 0 = x
    generalize (sg n).getD (n.length - 2) 0 = y
    by_cases hxy : x = 95 ∧ y = 95
    · rw [if_pos (by simp [hxy.1, hxy.2])]
      constructor
      · intro h; cases h
      · rintro ⟨_, _, h⟩; exact absurd hxy h
    · by_cases ha : a = 95
      · rw [if_neg (by
          subst ha
          simp only [bne_self_eq_false, Bool.false_or, Bool.and_eq_true, beq_iff_eq]
          exact fun h => hxy ⟨h.2, h.1⟩), hm, hn]
        clear hm
        constructor
        · rintro ⟨j, hj, h1, h2, hc⟩
          have hcl : (sg c).length = j := by rw [hc, List.length_take]; omega
          refine ⟨by omega, ?_, hxy⟩
          rw [hcl, show j + 3 = (j + 2) + 1 from rfl, List.take_succ_cons, take_two r j (by omega), h1, h2, hc, ha]
        · rintro ⟨h1, h2, _⟩
          generalize hcl : (sg c).length = j at h1 h2
          rw [show j + 3 = (j + 2) + 1 from rfl, List.take_succ_cons, take_two r j (by omega)] at h2
          have h2' := (List.cons.inj h2).2
          have hlen : (r.take j).length = (sg c).length := by rw [List.length_take, hcl]; omega
          obtain ⟨e1, e2⟩ := List.append_inj h2' hlen
          have e3 := List.cons.inj e2
          have e4 := List.cons.inj e3.2
          exact ⟨j, by omega, e3.1, e4.1, e1.symm⟩
      · rw [if_pos (by simp [ha])]
        constructor
        · intro h; cases h
        · rintro ⟨_, h2, _⟩
          rw [hn, show (sg c).length + 3 = ((sg c).length + 2) + 1 from rfl, List.take_succ_cons] at h2
          exact absurd (List.cons.inj h2).1 ha
theorem key6 (c n : Str) : privB c n = (ownersOf n).any (· == c) := by
  rw [Bool.eq_iff_iff, priv_iff, ← owns_iff, List.any_eq_true]
  constructor
  · intro h; exact ⟨c, h, by simp⟩
  · rintro ⟨x, hx, e⟩; rw [← eq_of_beq e]; exact hx
end Mine

local macro_rules | `(tactic| walk_at "compareOp NotEq str str") => `(tactic| ((with_reducible show wpAny _ _ (compareOp _ (Value.str (Txt.item _ (-2)) _) _) _ _ _); dsimp only; (with_reducible refine ne_str ?_)))
namespace Mine
section
variable {A B C D : Bool}
theorem pr1 (h1 : A = true) (h2 : B = true) (h3 : C = true) : true = (A && (B && (C || D))) := by simp [h1, h2, h3]
theorem pr2 (h1 : A = true) (h2 : B = true) (h3 : C = false) (h4 : D = true) : true = (A && (B && (C || D))) := by simp [h1, h2, h4]
theorem pr3 (h3 : C = false) (h4 : D = false) : false = (A && (B && (C || D))) := by simp [h3, h4]
theorem pr4 (h2 : B = false) : false = (A && (B && (C || D))) := by simp [h2]
theorem pr5 (h1 : A = false) : false = (A && (B && (C || D))) := by simp [h1]
end
theorem priv_spec (w : World) (news : List (Addr × Obj)) (c n : PySem.Str) (t u : Tok) (loose : List Str) (mean : ExcName → Option Value) (mg mb : Str → Option Value) :
    CbClaim Challenge.rw_dm0104_06.row.prog w (Mine.hd.heap_39 w.params) Mine.hd.view_39 loose mean mg mb 21 news [] (c.length ≤ 100 ∧ n.length ≤ 100) [.str c t, .str n u] (fun _ => .bool (privB c n)) := by
  k_fill
  w_top off
  dsimp only [CbClaim, CbLists, CbRet]
  intro dp un gd cn cs a ccd cl outer A₀ base h₀ L m s Q E B F X N T hk hpre hd hu hret
  refine wpAny_call ?_
  k_dflt cell_enter
  k_steps
  all_goals refine cb_retB (Q := Q) hret ?_ (by k_asm) (by k_asm)
  all_goals unfold privB
  all_goals first
    | exact pr1 (decide_eq_true (by assumption)) (by assumption) (by assumption)
    | exact pr2 (decide_eq_true (by assumption)) (by assumption) (by assumption) (by assumption)
    | exact pr3 (by assumption) (by assumption)
    | exact pr4 (by assumption)
    | exact pr5 (decide_eq_false (by assumption))
    | exact pr5 (decide_eq_false (by omega))
def Jown (n : Str) (t : Tok) (l : Addr) (news : List (Addr × Obj)) (i : Nat) (m : Str → Option Value) (nx : List (Addr × Obj)) : Prop :=
  ∃ us c, nx = (l, listOf us.toArray c) :: news ∧ StrsAre us (ownTo n i) ∧ us.length ≤ i ∧ m (Str.ofString "name") = some (.str n t) ∧ m (Str.ofString "owners") = some (.ref l)
end Mine
local macro_rules | `(tactic| walk_at "exec For Name Call cons nil") => `(tactic| (k_here; (with_reducible show wpAny _ _ (exec (Stmt.For (Expr.Name (Str.ofString "k") _) _ _ _ _) _) _ _ _); (rename Fr _ _ _ _ => lF'); (with_unfolding_all refine' For_invVF lF' ?k1 ?k2 ?_; (case k1 => exact rfl); (case k2 => exact rfl); k_whole)))
local macro_rules | `(tactic| walk_at "pyIter ref") => `(tactic| ((with_reducible show wpAny _ _ (pyIter (Value.ref _)) (fun it s₂ => LoopAtV _ _ _ _ _ (Str.ofString "k") _ _ _ it s₂) _ _); refine Mine.stop ?_))
local macro_rules | `(tactic| walk_at "LPost") => `(tactic| (dsimp only [Mine.LPost]))
namespace Mine
theorem owners_call {w : World} {news : List (Addr × Obj)} {n : PySem.Str} {t : Tok} {loose : List Str} {mean : ExcName → Option Value} {mg mb : Str → Option Value}
    {dp un : Nat} {gd : Option (List Code)} {cn : Str} {cs : Scope} {a : Addr} {ccd : Value} {cl : List (Str × Addr)} {outer : List Env} {A₀ : Around} {base h₀ : Heap} {L : Addr} {m : Str → Option Value} {s : Shared} {Q E : Value → Shared → Prop}
    (B : Below A₀ base outer h₀) (F : Fr h₀ L s.heap m) (X : (Mine.hd.heap_39 w.params).In h₀) (N : News h₀ L s.heap news) (T : Top Mine.hd.view_39 loose mean mg mb h₀) (hk : cs.kind = .function) (hp : n.length ≤ 100)
    (hd : dp + 1 < recursionLimit) (hu : un + 8 < cLine)
    (ret : ∀ b h' tk' us c, Fr h₀ L h' m → News h₀ L h' ((b, listOf us.toArray c) :: news) → StrsAre us (ownersOf n) → (∀ p ∈ news, p.1 < b) → Q (.ref b) { s with heap := h', toks := tk' }) :
    wpAny (model Challenge.rw_dm0104_06.row.prog w) (ktrTop dp un gd cn cs L a ccd cl outer) (call (.ref 28) [.str n t]) Q E s := by
  k_fill
  w_top off
  refine wpAny_call ?_
  k_dflt cell_enter
  k_steps
  · exact ret _ _ _ [] 0 (by k_asm) (by k_asm) (by unfold ownersOf; rw [if_pos (by simp_all)]; exact .nil) (by assumption)
  · exact ret _ _ _ [] 0 (by k_asm) (by k_asm) (by unfold ownersOf; rw [if_pos (by simp_all)]; exact .nil) (by assumption)
  · refine Mine.go ?_
    dsimp only
    rename Fr _ _ _ _ => lF
    rename News _ _ _ _ => lN
    rename IsRange _ _ _ _ _ _ _ _ => rgX
    with_unfolding_all refine' Mine.range_loop (Jown n t _ news) rfl rgX (small_one (by omega) (by omega) (by omega) (by omega)) (rangeSize_nat _ _) lF lN ⟨[], 0, rfl, .nil, Nat.le_refl _, rfl, rfl⟩ (fun i' t' m' nx' h' tk' I' oI' hi' hJ' hne' F' N' => ?_) (fun m' nx' h' tk' hJ' F' N' => ?_)
    · obtain ⟨us, c, rfl, hus, hlen, hm1, hm2⟩ := hJ'
      have F'' := Mine.frKnows [(Str.ofString "name", _), (Str.ofString "owners", _)] (List.forall_mem_cons.mpr ⟨hm1, List.forall_mem_cons.mpr ⟨hm2, List.forall_mem_nil _⟩⟩) F'
      dsimp only [kstB] at F''
      have hneL := hne' _ (List.Mem.head _)
      have hneN : ∀ p ∈ news, p.1 ≠ I' := fun p hp => hne' p (List.Mem.tail _ hp)
      have kM := kstMark
      clear F' hm1 hm2 lF lN rgX
      dsimp only at hneL ⊢
      (try k_fold)
      k_steps
      · refine Mine.append_mine ((I', oI') :: news) (by k_asm) (by k_asm) (List.Mem.tail _ (List.Mem.head _)) ?_ (by omega) ?_
        · intro p hp
          rcases List.mem_cons.mp hp with rfl | hp
          · exact ⟨List.Mem.head _, fun e => hneL e.symm⟩
          · exact ⟨List.Mem.tail _ (List.Mem.tail _ hp), Nat.ne_of_lt (by rename ∀ p ∈ news, p.1 < _ => hlt; exact hlt p hp)⟩
        · intro h9 F9 N9
          dsimp only
          (try k_fold)
          k_steps
          refine LEnd.intro2 (by assumption) N9 (fun p hp => ?_) ⟨_, _, rfl, ?_, ?_, by with_unfolding_all rfl, by with_unfolding_all rfl⟩
          · rcases List.mem_cons.mp hp with rfl | hp
            · exact hneL
            · exact hneN p hp
          · unfold ownTo
            rw [if_pos (by simp_all)]
            exact hus.append' (.cons _ _ .nil)
          · rw [List.length_append, List.length_singleton]; omega
      · refine LEnd.intro (by assumption) (by assumption) ((_, _) :: news) (fun p hp => hp) hne' ⟨_, _, rfl, ?_, by omega, by with_unfolding_all rfl, by with_unfolding_all rfl⟩
        unfold ownTo
        rw [if_neg (by simp_all), List.append_nil]
        exact hus
      · refine LEnd.intro (by assumption) (by assumption) ((_, _) :: news) (fun p hp => hp) hne' ⟨_, _, rfl, ?_, by omega, by with_unfolding_all rfl, by with_unfolding_all rfl⟩
        unfold ownTo
        rw [if_neg (by simp_all), List.append_nil]
        exact hus
    · obtain ⟨us, c, rfl, hus, hlen, hm1, hm2⟩ := hJ'
      have F'' := Mine.frKnows0 [(Str.ofString "name", _), (Str.ofString "owners", _)] (List.forall_mem_cons.mpr ⟨hm1, List.forall_mem_cons.mpr ⟨hm2, List.forall_mem_nil _⟩⟩) F'
      dsimp only [kstB] at F''
      clear F' hm1 hm2 lF lN rgX
      dsimp only
      (try k_fold)
      k_steps
      refine ret _ _ _ us c (by k_asm) (by k_asm) ?_ (by assumption)
      unfold ownersOf
      rw [if_neg (by simp_all)]
      exact hus
end Mine

namespace Mine
def sign (x : Int) : PySem.Str := [Str.ofString "_", Str.ofString "_", Str.ofString "_", Str.ofString "a", Str.ofString "b", Str.ofString "%"].getD (x.fmod 6).toNat Str.empty
theorem sign_one (x : Int) : (sign x).length = 1 := by
  have h1 := fmod_lo x (n := 6) (by decide)
  have h2 := fmod_hi x (n := 6) (by decide)
  unfold sign
  have h3 : (x.fmod 6).toNat < 6 := by omega
  revert h3
  generalize (x.fmod 6).toNat = i
  exact (by decide +kernel : ∀ i, i < 6 → ([Str.ofString "_", Str.ofString "_", Str.ofString "_", Str.ofString "a", Str.ofString "b", Str.ofString "%"].getD i Str.empty).length = 1) i
theorem four {x1 x2 x3 x4 : Str} {t1 t2 t3 t4 : Tok} {i : Nat} {v : Value} (h : (#[Value.str x1 t1, Value.str x2 t2, Value.str x3 t3, Value.str x4 t4] : Array Value)[i]? = some v)
    (h1 : x1.length ≤ 30) (h2 : x2.length ≤ 30) (h3 : x3.length ≤ 30) (h4 : x4.length ≤ 30) :
    ∃ z t, v = .str z t ∧ z.length ≤ 30 := by
  match i, h with
  | 0, h => cases h; exact ⟨_, _, rfl, h1⟩
  | 1, h => cases h; exact ⟨_, _, rfl, h2⟩
  | 2, h => cases h; exact ⟨_, _, rfl, h3⟩
  | 3, h => cases h; exact ⟨_, _, rfl, h4⟩
def Kname (_ : Nat) (_ : Str → Option Value) : Prop := True
def Ki (n : Str) (t : Tok) (b : Addr) (_ : Nat) (m : Str → Option Value) : Prop :=
  m (Str.ofString "name") = some (.str n t) ∧ m (Str.ofString "owners") = some (.ref b)
def Kj (n : Str) (t : Tok) (b : Addr) (i : Int) (ti : Tok) (_ : Nat) (m : Str → Option Value) : Prop :=
  m (Str.ofString "name") = some (.str n t) ∧ m (Str.ofString "owners") = some (.ref b) ∧ m (Str.ofString "i") = some (.int i ti)
theorem ne_same {prog : Program} {w : World} {A : Around} {E : Value → Shared → Prop} {s : Shared} {Q : Value → Shared → Prop} {c d : Bool} (e : c = d) (h : Q (.bool false) s) : wpAny (model prog w) A (compareOp .NotEq (.bool c) (.bool d)) Q E s :=
  PyProof.Rows.ne_bool (by rw [e, bne_self_eq_false]; exact h)
section
variable {w : World} {news : List (Addr × Obj)} {loose : List Str} {mean : ExcName → Option Value} {mg mb : Str → Option Value} {dp un : Nat} {gd : Option (List Code)} {cn : Str} {cs : Scope} {a : Addr} {ccd : Value} {cl : List (Str × Addr)} {outer : List Env} {A₀ : Around} {base h₀ : Heap} {L : Addr} {m : Str → Option Value} {s : Shared} {Q E : Value → Shared → Prop}
theorem priv_call {c n : Str} {t u : Tok} (B : Below A₀ base outer h₀) (F : Fr h₀ L s.heap m) (X : (Mine.hd.heap_39 w.params).In h₀) (N : News h₀ L s.heap news) (T : Top Mine.hd.view_39 loose mean mg mb h₀) (hk : cs.kind = .function) (hp : c.length ≤ 100 ∧ n.length ≤ 100)
    (hd : dp + 1 < recursionLimit) (hu : un + 8 < cLine) (ret : ∀ (_ : Tok) h' tk', Fr h₀ L h' m → News h₀ L h' news → Q (.bool (privB c n)) { s with heap := h', toks := tk' }) :
    wpAny (model Challenge.rw_dm0104_06.row.prog w) (ktrTop dp un gd cn cs L a ccd cl outer) (call (.ref 21) [.str c t, .str n u]) Q E s :=
  priv_spec w news c n t u loose mean mg mb dp un gd cn cs a ccd cl outer A₀ base h₀ L m s Q E B F X N T hk hp hd hu ret
end
end Mine
local macro_rules | `(tactic| walk_at "call ref") => `(tactic| (k_here; (with_reducible show wpAny _ _ (call (Value.ref 28) _) _ _ _); k_dflt (refine Mine.owners_call (by k_asm) (by k_asm) (by k_asm) (by k_asm) (by k_asm) rfl (by omega) (by ktr_room) (by ktr_units) ?_); intro b9 h9 tk9 us9 c9 F9 N9 hs9 hl9; (try dsimp only); (try k_fold)))
local macro_rules | `(tactic| walk_at "call ref") => `(tactic| (k_here; (with_reducible show wpAny _ _ (call (Value.ref 21) _) _ _ _); k_dflt (refine Mine.priv_call (by k_asm) (by k_asm) (by k_asm) (by k_asm) (by k_asm) rfl (by omega) (by ktr_room) (by ktr_units) ?_); intro t9 h9 tk9 F9 N9; (try dsimp only); (try k_fold)))
local macro_rules | `(tactic| walk_at "CompSrc") => `(tactic| (k_here; (try k_fmods); (try kcf_lens); k_dflt (refine LCg.CompSrc.ledger (by rfl) (by k_asm) (by k_asm) (by k_mem) (by kcf_size) ?_; intro g'; (refine' kct_list Mine.sign (by first | assumption | l_ints) (fun k' t' I' oI' C' oC' D' m' ys' h' tk' E' hk' hC' hx' F' N' off' ne' hMark' => ?_) ?_); (all_goals (try (simp only [LCg.Off3, and_true] at off'))); kcf_last)))
local macro_rules | `(tactic| walk_at "CompEnd") => `(tactic| ((refine' Mine.ct_end ?kF ?kN ?kr ?ks ?ko ?kS; (case kF => assumption); (case kN => assumption); (case kr => (with_unfolding_all rfl)); (case ks => kcf_all); (case ko => first | assumption | (simp only [LCg.Off3, and_true]; done) | (simp only [LCg.Off3, and_true]; assumption)); (case kS => first | lcg_src | assumption))))
local macro_rules | `(tactic| walk_at "call builtin:str.join") => `(tactic| (k_here; (with_reducible show wpAny _ _ (call (Value.builtin "str.join") [Value.str _ _, Value.ref _]) _ _ _); (with_reducible rename CarriedAll _ (List.map _ _) => ktC); (refine Mine.join_any (by first | assumption | is_list | exact News.isList (by k_asm) (by k_mem)) ktC (fun a _ => Mine.sign_one a) (by first | omega | kt_fact) ?_; intro d' t' k' hd')))
local macro_rules | `(tactic| walk_at "binaryOp Add str str") => `(tactic| (k_here; (with_reducible show wpAny _ _ (binaryOp Operator.Add (Value.str _ _) (Value.str _ _)) _ _ _); (first
  | (refine Mine.add_any 1 10 (by decide +kernel) (by omega) (by decide) ?_; intro z' t' k' hz')
  | (refine Mine.add_any 11 4 (by omega) (by decide +kernel) (by decide) ?_; intro z' t' k' hz'))))
local macro_rules | `(tactic| walk_at "exec For Name List cons nil") => `(tactic| (k_here; (with_reducible show wpAny _ _ (exec (Stmt.For (Expr.Name (Str.ofString "name") _) _ _ _ _) _) _ _ _); (rename Fr _ _ _ _ => lF'); (with_unfolding_all refine' For_invVF lF' ?k1 ?k2 ?_; (case k1 => exact rfl); (case k2 => exact rfl); k_whole)))
local macro_rules | `(tactic| walk_at "exec For Name Call cons nil") => `(tactic| (k_here; (rename Fr _ _ _ _ => lF'); (with_unfolding_all refine' For_invVF lF' ?k1 ?k2 ?_; (case k1 => exact rfl); (case k2 => exact rfl); k_whole)))
local macro_rules | `(tactic| walk_at "pyIter ref") => `(tactic| ((with_reducible show wpAny _ _ (pyIter (Value.ref _)) (fun it s₂ => LoopAtV _ _ _ _ _ _ _ _ _ it s₂) _ _); refine Mine.stop ?_))
local macro_rules | `(tactic| walk_at "LPost") => `(tactic| (dsimp only [Mine.LPost]))
local macro_rules | `(tactic| walk_at "compareOp In str ref") => `(tactic| (k_here; (refine in_list_strs (News.isList (by k_asm) (by k_mem)) (by assumption) ?_)))
local macro_rules | `(tactic| walk_at "compareOp NotEq bool bool") => `(tactic| (k_here; (refine Mine.ne_same (Mine.key6 _ _) ?_)))
theorem PySem.Challenge.cw_dm0104_06_holds : PySem.Challenge.rw_dm0104_06.Holds := by
  refine Mine.hd ?_
  k_with "table" => skip
  k_go0
  (all_goals try k_fold)
  k_steps
  refine Mine.go ?_
  rename Fr _ _ _ _ => lF
  rename News _ _ _ _ => lN
  with_unfolding_all refine' Mine.list_keep Mine.Kname rfl (List.Mem.head _) lF lN trivial (fun i v m h tk I oI hv hK hne F' N' => ?_) (fun m h tk hK F' N' => ?_)
  · clear lF lN hK
    obtain ⟨z, tz, hz, hz'⟩ := Mine.four hv (by omega) (by omega) (by omega) (by omega)
    subst hz
    clear hv
    dsimp only
    (try k_fold)
    k_steps
    refine Mine.go ?_
    rename Fr _ _ _ _ => lF
    rename News _ _ _ _ => lN
    rename IsRange _ _ _ _ _ _ _ _ => rgX
    with_unfolding_all refine' Mine.range_keep (Mine.Ki z tz _) rfl rgX (small_one (by omega) (by omega) (by omega) (by omega)) (rangeSize_nat _ _) lF lN ⟨rfl, rfl⟩ (fun i t m h tk I oI hi hK hne' F' N' => ?_) (fun m h tk hK F' N' => ?_)
    · clear lF lN rgX
      obtain ⟨hK1, hK2⟩ := hK
      have F'' := Mine.frKnows [(Str.ofString "name", _), (Str.ofString "owners", _)] (List.forall_mem_cons.mpr ⟨hK1, List.forall_mem_cons.mpr ⟨hK2, List.forall_mem_nil _⟩⟩) F'
      dsimp only [kstB] at F''
      clear F' hK1 hK2
      dsimp only
      (try k_fold)
      k_steps
      refine Mine.go ?_
      rename Fr _ _ _ _ => lF
      rename News _ _ _ _ => lN
      rename IsRange _ _ _ _ _ _ _ _ => rgX
      with_unfolding_all refine' Mine.range_keep (Mine.Kj z tz _ _ _) rfl rgX (small_one (by omega) (by omega) (by omega) (by omega)) (rangeSize_nat _ _) lF lN ⟨rfl, rfl, rfl⟩ (fun j t m h tk I oI hi hK hne' F' N' => ?_) (fun m h tk hK F' N' => ?_)
      · clear lF lN rgX
        obtain ⟨hK1, hK2, hK3⟩ := hK
        have F'' := Mine.frKnows [(Str.ofString "name", _), (Str.ofString "owners", _), (Str.ofString "i", _)] (List.forall_mem_cons.mpr ⟨hK1, List.forall_mem_cons.mpr ⟨hK2, List.forall_mem_cons.mpr ⟨hK3, List.forall_mem_nil _⟩⟩⟩) F'
        dsimp only [kstB] at F''
        clear F' hK1 hK2 hK3
        dsimp only
        (try k_fold)
        k_steps
        refine Mine.keep_end (by assumption) (by assumption) (by assumption) (by kcf_all) ⟨by with_unfolding_all rfl, by with_unfolding_all rfl, by with_unfolding_all rfl⟩
      · clear lF lN rgX
        obtain ⟨hK1, hK2, hK3⟩ := hK
        dsimp only
        (try k_fold)
        k_steps
        refine Mine.keep_end (by assumption) (by assumption) (by assumption) (by kcf_all) ⟨hK1, hK2⟩
    · clear lF lN rgX
      dsimp only
      (try k_fold)
      k_steps
      refine Mine.keep_end (by assumption) (by assumption) (by assumption) (by kcf_all) trivial
  · clear lF lN
    dsimp only
    (try k_fold)
    k_steps
