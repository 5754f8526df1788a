import PyProof.Rows.All
import Wide.All
import OpenK.AllK
import Wide.FinOn
import PySem.Challenge.RW_dm0104_02
open PySem PySem.W PyProof.Rows PyProof.V PySem.Spec PySem.Calls
set_option Elab.async false
set_option maxRecDepth 100000
set_option maxHeartbeats 8000000
namespace Mine
/-- the end of a turn of a comprehension of texts -/
theorem ct_end {h₀ : Heap} {L I C D : Addr} {m : Str → Option Value} {s₁ : Shared} {oI oC oD : Obj} {S : List (Addr × Obj) → Prop} {r : Str} {t : Tok} {h' : Heap} {tk : Nat} {all news : List (Addr × Obj)} {y : Str}
    (F : Fr h₀ L h' m) (N : News h₀ L h' all) (hy : y = r) (sub : ∀ p ∈ (I, oI) :: (C, oC) :: (D, oD) :: news, p ∈ all) (off : LCg.Off3 I C D news) (hS : S news) :
    LCg.CompEnd h₀ L m s₁ I oI C oC D oD S (fun y news' => KCtEl news r y news') (.str y t) { s₁ with heap := h', toks := tk } :=
  LCg.CompEnd.intro F N news sub off hS ⟨rfl, t, by rw [hy]⟩
/-- a table of one-sign texts -/
theorem getD_one {l : List Str} {d : Str} (h : (d :: l).all (fun x => x.length == 1) = true) (i : Nat) : (l.getD i d).length = 1 := by
  have ha := List.all_eq_true.mp h
  by_cases hk : i < l.length
  · have e : l.getD i d = l[i] := by simp [List.getD, hk]
    rw [e]
    exact eq_of_beq (ha _ (List.mem_cons_of_mem _ (List.getElem_mem hk)))
  · have e : l.getD i d = d := by simp [List.getD, Nat.not_lt.mp hk]
    rw [e]
    exact eq_of_beq (ha _ List.mem_cons_self)
/-- ''.join of one-sign texts: some text of that length -/
theorem join_any {prog : Program} {w : World} {A : Around} {E : Value → Shared → Prop} {s : Shared} {t : Tok} {Q : Value → Shared → Prop} {D : Addr} {ys : List Value} {l : List Int} {g : Int → Str}
    (hl : s.heap.IsList D ys.toArray) (hc : CarriedAll ys (l.map fun a => PyData.str (g a))) (h1 : ∀ a ∈ l, (g a).length = 1) (hn : l.length ≤ 1048576)
    (h : ∀ (d : Str) t' k, d.length = l.length → Q (.str d t') { s with toks := k }) :
    wpAny (model prog w) A (call (.builtin "str.join") [.str (PySem.Str.ofString "") t, .ref D]) Q E s :=
  KT.join_1 hl hc h1 hn fun t' k e => h _ t' k e
end Mine
namespace Mine
/-- + of two texts: some text of at most that length -/
theorem add_any {prog : Program} {w : World} {A : Around} {E : Value → Shared → Prop} {s : Shared} {t u : Tok} {Q : Value → Shared → Prop} {x y : Str} (a b : Nat)
    (hx : x.length ≤ a) (hy : y.length ≤ b) (hs : a + b ≤ 16777216) (h : ∀ (z : Str) t' k, z.length ≤ a + b → Q (.str z t') { s with toks := k }) :
    wpAny (model prog w) A (binaryOp .Add (.str x t) (.str y u)) Q E s :=
  KXadd.add hx hy hs fun t' k e => h _ t' k (by omega)
end Mine

namespace Mine
/-- a text's signs -/
def sg (x : Str) : List Nat := x.cps.toList
theorem sg_len (x : Str) : (sg x).length = x.length := Array.length_toList
theorem sg_inj {x y : Str} (h : sg x = sg y) : x = y := Str.ext' (Array.toList_inj.mp h)
theorem sg_mk (l : List Nat) : sg ⟨l.toArray⟩ = l := by simp [sg]
theorem sg_app (x y : Str) : sg (x ++ y) = sg x ++ sg y := by simp [sg, Str.cps_append]
theorem getD_sg (x : Str) (i : Nat) : x.cps.getD i 0 = (sg x).getD i 0 := by
  simp [sg, Array.getD_eq_getD_getElem?]
theorem item_pos {x : Str} {i : Int} (h0 : 0 ≤ i) (h1 : i < x.length) : Txt.item x i = ⟨#[(sg x).getD i.toNat 0]⟩ := by
  rw [W.item_meets ⟨h0, h1⟩, getD_sg]
theorem item_neg {x : Str} {i : Int} (h0 : i < 0) (h1 : -(x.length : Int) ≤ i) : Txt.item x i = ⟨#[(sg x).getD (i + x.length).toNat 0]⟩ := by
  rw [eq_of_beq (item_closes_neg h0 h1 rfl), getD_sg]
theorem one_beq (a b : Nat) : ((⟨#[a]⟩ : Str) == ⟨#[b]⟩) = (a == b) := by
  rw [Bool.eq_iff_iff]; simp
theorem one_bne (a b : Nat) : ((⟨#[a]⟩ : Str) != ⟨#[b]⟩) = (a != b) := by
  simp only [bne, one_beq]
theorem sg_slice {x : Str} {i j : Int} (h : 0 ≤ i) (h1 : i ≤ j) (h2 : j ≤ x.length) : sg (Txt.slice x (some i) (some j)) = ((sg x).drop i.toNat).take (j - i).toNat := by
  rw [eq_of_beq (slice_closes (x := x) (i := i) (j := j) ⟨h, h1, by have := sg_len x; unfold sg at this; omega⟩), sg_mk]; rfl
theorem sg_slice_to {x : Str} {j : Int} (h : 0 ≤ j) (h2 : j ≤ x.length) : sg (Txt.slice x none (some j)) = (sg x).take j.toNat := by
  rw [eq_of_beq (slice_closes_to (x := x) (j := j) ⟨h, by have := sg_len x; unfold sg at this; omega⟩), sg_mk]
  simp [sg]
theorem sg_rev (x : Str) (u : Tok) : sg (Txt.sliceBy x none none (-1, u)) = (sg x).reverse := by
  unfold sg
  rw [step_rev_list]
  apply List.ext_getElem?
  intro i
  rw [List.getElem?_map]
  by_cases h : i < x.length
  · have hl : x.cps.toList.length = x.length := Array.length_toList
    rw [List.getElem?_range h, List.getElem?_reverse (by omega), hl]
    have h2 : x.length - 1 - i < x.cps.toList.length := by omega
    rw [List.getElem?_eq_getElem h2]
    have h3 : x.length - 1 - i < x.cps.size := by simpa using h2
    simp [Array.getD, h3]
  · have hl : x.cps.toList.length = x.length := Array.length_toList
    rw [List.getElem?_eq_none (by simpa using h), List.getElem?_eq_none (by rw [List.length_reverse]; omega)]
    rfl
end Mine

namespace Mine
/-- where the walk is to stand still -/
def still {α : Type} (t : Sem α) : Sem α := t
theorem stop {α : Type} {M : Model} {A : Around} {t : Sem α} {Q : α → Shared → Prop} {E : Value → Shared → Prop} {s : Shared} (h : wpAny M A (still t) Q E s) : wpAny M A t Q E s := h
theorem go {α : Type} {M : Model} {A : Around} {t : Sem α} {Q : α → Shared → Prop} {E : Value → Shared → Prop} {s : Shared} (h : wpAny M A t Q E s) : wpAny M A (still t) Q E s := h
section
variable {prog : Program} {w : World} {A : Around} {E : Value → Shared → Prop} {s : Shared} {env : Env} {h₀ : Heap} {x : Str} {body : List Stmt} {Q : Flow → Shared → Prop}

/-- a turn's end: the invariant again, beside the iterator's own object -/
def LEnd (h₀ : Heap) (L : Addr) (J : (Str → Option Value) → List (Addr × Obj) → Prop) (I : Addr) (oI : Obj) (s₁ s₂ : Shared) : Prop :=
  ∃ h' tk m' news', s₂ = { s₁ with heap := h', toks := tk } ∧ Fr h₀ L h' m' ∧ News h₀ L h' ((I, oI) :: news') ∧ (∀ p ∈ news', p.1 ≠ I) ∧ J m' news'
def LPost (h₀ : Heap) (L : Addr) (J : (Str → Option Value) → List (Addr × Obj) → Prop) (I : Addr) (oI : Obj) (s₁ : Shared) (Q : Flow → Shared → Prop) (f : Flow) (s₂ : Shared) : Prop :=
  match f with
  | .ret v => Q (.ret v) s₂
  | .brk => Q .next s₂
  | _ => LEnd h₀ L J I oI s₁ s₂
theorem LEnd.intro {L : Addr} {J : (Str → Option Value) → List (Addr × Obj) → Prop} {I : Addr} {oI : Obj} {s₁ : Shared} {h' : Heap} {tk : Nat} {m' : Str → Option Value} {all : List (Addr × Obj)}
    (F : Fr h₀ L h' m') (N : News h₀ L h' all) (news' : List (Addr × Obj)) (hs : ∀ p ∈ (I, oI) :: news', p ∈ all) (hI : ∀ p ∈ news', p.1 ≠ I) (hj : J m' news') :
    LEnd h₀ L J I oI s₁ { s₁ with heap := h', toks := tk } := ⟨h', tk, m', news', rfl, F, fun p hp => N p (hs p hp), hI, hj⟩

theorem LEnd.intro2 {L : Addr} {J : (Str → Option Value) → List (Addr × Obj) → Prop} {I D : Addr} {oI o : Obj} {s₁ : Shared} {h' : Heap} {tk : Nat} {m' : Str → Option Value} {rest : List (Addr × Obj)}
    (F : Fr h₀ L h' m') (N : News h₀ L h' ((D, o) :: (I, oI) :: rest)) (hI : ∀ p ∈ (D, o) :: rest, p.1 ≠ I) (hj : J m' ((D, o) :: rest)) :
    LEnd h₀ L J I oI s₁ { s₁ with heap := h', toks := tk } := LEnd.intro F N ((D, o) :: rest) (fun p hp => by
      rcases List.mem_cons.mp hp with rfl | hp
      · exact List.Mem.tail _ (List.Mem.head _)
      · rcases List.mem_cons.mp hp with rfl | hp
        · exact List.Mem.head _
        · exact List.Mem.tail _ (List.Mem.tail _ hp)) hI hj
/-- a frame's name that is known -/
theorem frKnow {L : Addr} {h : Heap} {m : Str → Option Value} {a : Str} {v : Value} (F : Fr h₀ L h m) (e : m a = some v) : Fr h₀ L h (fun y => if y = a then some v else m y) := by
  have : (fun y => if y = a then some v else m y) = m := by
    funext y
    by_cases h : y = a
    · rw [if_pos h, h, e]
    · rw [if_neg h]
  rw [this]; exact F

theorem kn_eq {m : Str → Option Value} {ps : List (Str × Value)} (h : ∀ p ∈ ps, m p.1 = some p.2) : kstB m ps = m := funext fun _ => kstB_eq h fun _ => rfl
theorem frKnows {L : Addr} {h : Heap} {m : Str → Option Value} {u : Value} (ps : List (Str × Value)) (e : ∀ p ∈ ps, m p.1 = some p.2) (F : Fr h₀ L h (fun y => if y = x then some u else m y)) : Fr h₀ L h (fun y => if y = x then some u else kstB m ps y) := by
  rw [kn_eq e]; exact F
theorem frKnows0 {L : Addr} {h : Heap} {m : Str → Option Value} (ps : List (Str × Value)) (e : ∀ p ∈ ps, m p.1 = some p.2) (F : Fr h₀ L h m) : Fr h₀ L h (fun y => kstB m ps y) := by
  rw [kn_eq e]; exact F
theorem range_loop {r : Addr} {a₀ b₀ : Int} {t₀ u₀ v₀ : Tok} {n : Nat} {m₀ : Str → Option Value} {news : List (Addr × Obj)} (J : Nat → (Str → Option Value) → List (Addr × Obj) → Prop)
    (hh : A.handled = none) (hr : IsRange s.heap r a₀ b₀ 1 t₀ u₀ v₀) (hsmall : Builtin.Range.small a₀ b₀ 1 = true) (hn : Builtin.Range.rangeSize a₀ b₀ 1 = (n : Int))
    (F : Fr h₀ env.locals s.heap m₀) (N : News h₀ env.locals s.heap news) (hj : J 0 m₀ news)
    (turn : ∀ (i : Nat) t m₁ news₁ h tk I oI, i < n → J i m₁ news₁ → (∀ p ∈ news₁, p.1 ≠ I) → Fr h₀ env.locals h (fun y => if y = x then some (.int (a₀ + (i : Int)) t) else m₁ y) → News h₀ env.locals h ((I, oI) :: news₁) →
      wpAny (model prog w) A (execs body env) (LPost h₀ env.locals (J (i + 1)) I oI { s with heap := h, toks := tk } Q) E { s with heap := h, toks := tk })
    (done : ∀ m₁ news₁ h tk, J n m₁ news₁ → Fr h₀ env.locals h m₁ → News h₀ env.locals h news₁ → Q .next { s with heap := h, toks := tk }) :
    wpAny (model prog w) A (pyIter (.ref r)) (fun it s₂ => LoopAtV prog w A h₀ env x body Q E it s₂) E s := by
  refine wpAny_pyIter_range hr hsmall ?_
  have W : Walks prog w A s.heap.objs.size [s.heap.objs.size] [s.heap.objs.size] n (fun i v => i < n ∧ ∃ t, v = .int (a₀ + i * 1) t)
      (fun i h => IsRangeIter h s.heap.objs.size (a₀ + (i : Nat) * 1) ((n : Int) - (i : Nat)) 1) := (Walks.range hh _ a₀ 1 n).bound
  refine ⟨_, _, _, n, _, _, m₀, news, J, rfl, W, ?_, ?_, ?_, (by show IsRangeIter _ _ _ _ _; rw [hn]; simpa using Heap.get?_push_size _ rfl), F.push _, (fun p hp => ⟨Heap.get?_push_of_some _ (N p hp).1, (N p hp).2⟩), hj, ?_, ?_⟩
  · intro hm
    exact absurd F.ns.lt ((List.mem_singleton.mp hm) ▸ Nat.lt_irrefl _)
  · intro b hb
    rw [List.mem_singleton.mp hb]
    exact next_is_new F
  · intro p hp hI
    exact absurd (Heap.lt_size (N p hp).1) ((List.mem_singleton.mp hI) ▸ Nat.lt_irrefl _)
  · rintro i v m₁ news₁ s₁ own ⟨hh', tk', rfl⟩ hin ⟨_, t, rfl⟩ hJ hoff hown hown2 _ hst F₁ N₁
    have e1 : a₀ + (i : Int) * 1 = a₀ + (i : Int) := by omega
    rw [e1] at F₁
    have hst' : ∃ oI, hh'.get? s.heap.objs.size = some oI := ⟨_, hst⟩
    obtain ⟨oI, heI⟩ := hst'
    have hI₀ : h₀.get? s.heap.objs.size = none := next_is_new F
    have hIL : s.heap.objs.size ≠ env.locals := fun e => absurd F.ns.lt (e ▸ Nat.lt_irrefl _)
    have N₂ : News h₀ env.locals hh' ((s.heap.objs.size, oI) :: news₁) := fun p hp => by
      rcases List.mem_cons.mp hp with rfl | hp
      · exact ⟨heI, hIL, hI₀⟩
      · exact N₁ p (List.mem_append_right _ hp)
    have hne : ∀ p ∈ news₁, p.1 ≠ s.heap.objs.size := fun p hp e => hoff p hp (by rw [e]; exact List.mem_singleton.mpr rfl)
    refine wpAny_mono (turn i t m₁ news₁ hh' tk' s.heap.objs.size oI hin hJ hne F₁ N₂) (fun f s₂ p => ?_) fun _ _ e => e
    have fin : LEnd h₀ env.locals (J (i + 1)) s.heap.objs.size oI { s with heap := hh', toks := tk' } s₂ → LoopStepU h₀ env.locals [s.heap.objs.size] own (J (i + 1)) { s with heap := hh', toks := tk' } .next s₂ := by
      rintro ⟨h', tk, m', news', e, F', N', hI, hJ'⟩
      refine ⟨rfl, h', tk, m', news', e, F', fun p hp => ?_, fun p hp hq => hI p hp (List.mem_singleton.mp hq), hJ'⟩
      rcases List.mem_append.mp hp with hp | hp
      · have h1 := List.mem_singleton.mp (hown p hp)
        have h2 := hown2 p hp
        have h3 : p = (s.heap.objs.size, oI) := by
          obtain ⟨a, o⟩ := p
          cases h1
          have h2' : hh'.get? s.heap.objs.size = some o := h2
          rw [heI] at h2'; cases h2'; rfl
        rw [h3]; exact N' _ List.mem_cons_self
      · exact N' p (List.mem_cons_of_mem _ hp)
    cases f with
    | ret v => exact .ret p
    | brk => exact .brk p
    | next => exact .next (fin p)
    | cont => exact .cont (fin p)
  · rintro h' tk m' news' F' N' _ hJ
    exact done m' news' h' tk hJ F' N'

/-- a loop over a list that the call has made and the loop leaves alone -/
theorem list_loop {l : Addr} {items : Array Value} {ol : Obj} {m₀ : Str → Option Value} {news : List (Addr × Obj)} (J : Nat → (Str → Option Value) → List (Addr × Obj) → Prop)
    (hh : A.handled = none) (hcls : ol.cls = .type "list") (hdat : ∃ n, ol.data = .seq items n) (hkeep : ∀ i m nx, J i m nx → (l, ol) ∈ nx)
    (F : Fr h₀ env.locals s.heap m₀) (N : News h₀ env.locals s.heap news) (hj : J 0 m₀ news)
    (turn : ∀ (i : Nat) v m₁ news₁ h tk I oI, i < items.size → items[i]? = some v → J i m₁ news₁ → (∀ p ∈ news₁, p.1 ≠ I) → Fr h₀ env.locals h (fun y => if y = x then some v else m₁ y) → News h₀ env.locals h ((I, oI) :: news₁) →
      wpAny (model prog w) A (execs body env) (LPost h₀ env.locals (J (i + 1)) I oI { s with heap := h, toks := tk } Q) E { s with heap := h, toks := tk })
    (done : ∀ m₁ news₁ h tk, J items.size m₁ news₁ → Fr h₀ env.locals h m₁ → News h₀ env.locals h news₁ → Q .next { s with heap := h, toks := tk }) :
    wpAny (model prog w) A (pyIter (.ref l)) (fun it s₂ => LoopAtV prog w A h₀ env x body Q E it s₂) E s := by
  have hl0 := N _ (hkeep _ _ _ hj)
  have hls : s.heap.IsList l items := ⟨ol, hl0.1, hcls, hdat⟩
  have hlt : l < s.heap.objs.size := Heap.lt_size hl0.1
  have hne : l ≠ s.heap.objs.size := Nat.ne_of_lt hlt
  refine wpAny_pyIter_list hls ?_
  have W := Walks.list (prog := prog) (w := w) hh s.heap.objs.size l hne items
  refine ⟨_, _, _, items.size, _, _, m₀, news, J, rfl, W, ?_, ?_, ?_, ⟨⟨_, Heap.get?_push_size _ rfl, rfl, rfl⟩, hls.at fun o e => Heap.get?_push_of_some _ e⟩, F.push _, (fun p hp => ⟨Heap.get?_push_of_some _ (N p hp).1, (N p hp).2⟩), hj, ?_, ?_⟩
  · intro hm
    rcases List.mem_cons.mp hm with e | hm
    · exact absurd F.ns.lt (e ▸ Nat.lt_irrefl _)
    · exact hl0.2.1 (List.mem_singleton.mp hm).symm
  · intro b hb
    rw [List.mem_singleton.mp hb]
    exact next_is_new F
  · intro p hp hI
    exact absurd (Heap.lt_size (N p hp).1) ((List.mem_singleton.mp hI) ▸ Nat.lt_irrefl _)
  · rintro i v m₁ news₁ s₁ own ⟨hh', tk', rfl⟩ hin hP hJ hoff hown hown2 _ hst F₁ N₁
    have hst' : ∃ oI, hh'.get? s.heap.objs.size = some oI := by obtain ⟨⟨o, e, _⟩, _⟩ := hst; exact ⟨o, e⟩
    obtain ⟨oI, heI⟩ := hst'
    have hI₀ : h₀.get? s.heap.objs.size = none := next_is_new F
    have hIL : s.heap.objs.size ≠ env.locals := fun e => absurd F.ns.lt (e ▸ Nat.lt_irrefl _)
    have N₂ : News h₀ env.locals hh' ((s.heap.objs.size, oI) :: news₁) := fun p hp => by
      rcases List.mem_cons.mp hp with rfl | hp
      · exact ⟨heI, hIL, hI₀⟩
      · exact N₁ p (List.mem_append_right _ hp)
    have hne' : ∀ p ∈ news₁, p.1 ≠ s.heap.objs.size := fun p hp e => hoff p hp (by rw [e]; exact List.mem_singleton.mpr rfl)
    have hl1 : hh'.get? l = some ol := (N₂ _ (List.mem_cons_of_mem _ (hkeep _ _ _ hJ))).1
    refine wpAny_mono (turn i v m₁ news₁ hh' tk' s.heap.objs.size oI hin hP hJ hne' F₁ N₂) (fun f s₂ p => ?_) fun _ _ e => e
    have fin : LEnd h₀ env.locals (J (i + 1)) s.heap.objs.size oI { s with heap := hh', toks := tk' } s₂ → LoopStepU h₀ env.locals [s.heap.objs.size] own (J (i + 1)) { s with heap := hh', toks := tk' } .next s₂ := by
      rintro ⟨h', tk, m', news', e, F', N', hI, hJ'⟩
      refine ⟨rfl, h', tk, m', news', e, F', fun p hp => ?_, fun p hp hq => hI p hp (List.mem_singleton.mp hq), hJ'⟩
      rcases List.mem_append.mp hp with hp | hp
      · obtain ⟨a, o⟩ := p
        have h2 : hh'.get? a = some o := hown2 _ hp
        rcases List.mem_cons.mp (hown _ hp) with h1 | h1
        · have h1' : a = s.heap.objs.size := h1
          rw [h1', heI] at h2; cases h2; rw [h1']
          exact N' _ List.mem_cons_self
        · have h1' : a = l := List.mem_singleton.mp h1
          rw [h1', hl1] at h2; cases h2; rw [h1']
          exact N' _ (List.mem_cons_of_mem _ (hkeep _ _ _ hJ'))
      · exact N' p (List.mem_cons_of_mem _ hp)
    cases f with
    | ret v => exact .ret p
    | brk => exact .brk p
    | next => exact .next (fin p)
    | cont => exact .cont (fin p)
  · rintro h' tk m' news' F' N' _ hJ
    exact done m' news' h' tk hJ F' N'

/-- as list_loop, the made things left as they are -/
theorem list_keep {l : Addr} {items : Array Value} {c : Nat} {m₀ : Str → Option Value} {news : List (Addr × Obj)} (K : Nat → (Str → Option Value) → Prop)
    (hh : A.handled = none) (hl : (l, listOf items c) ∈ news)
    (F : Fr h₀ env.locals s.heap m₀) (N : News h₀ env.locals s.heap news) (hk : K 0 m₀)
    (turn : ∀ (i : Nat) v m₁ h tk I oI, items[i]? = some v → K i m₁ → (∀ p ∈ news, p.1 ≠ I) → Fr h₀ env.locals h (fun y => if y = x then some v else m₁ y) → News h₀ env.locals h ((I, oI) :: news) →
      wpAny (model prog w) A (execs body env) (LPost h₀ env.locals (fun m nx => nx = news ∧ K (i + 1) m) I oI { s with heap := h, toks := tk } Q) E { s with heap := h, toks := tk })
    (done : ∀ m₁ h tk, K items.size m₁ → Fr h₀ env.locals h m₁ → News h₀ env.locals h news → Q .next { s with heap := h, toks := tk }) :
    wpAny (model prog w) A (pyIter (.ref l)) (fun it s₂ => LoopAtV prog w A h₀ env x body Q E it s₂) E s := by
  refine list_loop (ol := listOf items c) (items := items) (fun i m nx => nx = news ∧ K i m) hh rfl ⟨c, rfl⟩ (fun i m nx h => by rw [h.1]; exact hl) F N ⟨rfl, hk⟩ ?_ ?_
  · rintro i v m₁ news₁ h tk I oI _ hv ⟨rfl, hK⟩ hne F₁ N₁
    exact turn i v m₁ h tk I oI hv hK hne F₁ N₁
  · rintro m₁ news₁ h tk ⟨rfl, hK⟩ F₁ N₁
    exact done m₁ h tk hK F₁ N₁
theorem range_keep {r : Addr} {a₀ b₀ : Int} {t₀ u₀ v₀ : Tok} {n : Nat} {m₀ : Str → Option Value} {news : List (Addr × Obj)} (K : Nat → (Str → Option Value) → Prop)
    (hh : A.handled = none) (hr : IsRange s.heap r a₀ b₀ 1 t₀ u₀ v₀) (hsmall : Builtin.Range.small a₀ b₀ 1 = true) (hn : Builtin.Range.rangeSize a₀ b₀ 1 = (n : Int))
    (F : Fr h₀ env.locals s.heap m₀) (N : News h₀ env.locals s.heap news) (hk : K 0 m₀)
    (turn : ∀ (i : Nat) t m₁ h tk I oI, i < n → K i m₁ → (∀ p ∈ news, p.1 ≠ I) → Fr h₀ env.locals h (fun y => if y = x then some (.int (a₀ + (i : Int)) t) else m₁ y) → News h₀ env.locals h ((I, oI) :: news) →
      wpAny (model prog w) A (execs body env) (LPost h₀ env.locals (fun m nx => nx = news ∧ K (i + 1) m) I oI { s with heap := h, toks := tk } Q) E { s with heap := h, toks := tk })
    (done : ∀ m₁ h tk, K n m₁ → Fr h₀ env.locals h m₁ → News h₀ env.locals h news → Q .next { s with heap := h, toks := tk }) :
    wpAny (model prog w) A (pyIter (.ref r)) (fun it s₂ => LoopAtV prog w A h₀ env x body Q E it s₂) E s := by
  refine range_loop (fun i m nx => nx = news ∧ K i m) hh hr hsmall hn F N ⟨rfl, hk⟩ ?_ ?_
  · rintro i t m₁ news₁ h tk I oI hi ⟨rfl, hK⟩ hne F₁ N₁
    exact turn i t m₁ h tk I oI hi hK hne F₁ N₁
  · rintro m₁ news₁ h tk ⟨rfl, hK⟩ F₁ N₁
    exact done m₁ h tk hK F₁ N₁
theorem keep_end {L : Addr} {K : (Str → Option Value) → Prop} {I : Addr} {oI : Obj} {s₁ : Shared} {h' : Heap} {tk : Nat} {m' : Str → Option Value} {all news : List (Addr × Obj)}
    (F : Fr h₀ L h' m') (N : News h₀ L h' all) (hI : ∀ p ∈ news, p.1 ≠ I) (hs : ∀ p ∈ (I, oI) :: news, p ∈ all) (hj : K m') :
    LEnd h₀ L (fun m nx => nx = news ∧ K m) I oI s₁ { s₁ with heap := h', toks := tk } := LEnd.intro F N news hs hI ⟨rfl, hj⟩
/-- append to a made list: the rest of the ledger by membership -/
theorem append_mine {L D : Addr} {m : Str → Option Value} {news : List (Addr × Obj)} {us : List Value} {n : Nat} {v : Value} {R : Value → Shared → Prop} (rest : List (Addr × Obj)) (F : Fr h₀ L s.heap m) (N : News h₀ L s.heap news) (hm : (D, listOf us.toArray n) ∈ news)
    (hr : ∀ p ∈ rest, p ∈ news ∧ p.1 ≠ D) (hsz : us.length ≤ 1000000) (h : ∀ h', Fr h₀ L h' m → News h₀ L h' ((D, listOf (us ++ [v]).toArray (n + 1)) :: rest) → R .none { s with heap := h' }) :
    wpAny (model prog w) A (call (.builtin "list.append") [.ref D, v]) R E s := by
  have z := N _ hm
  refine append_at (hsz := by rw [List.size_toArray, PySem.sizeLine_eq]; omega) z.1 fun h' hs ho' => h h' (F.change hs z.2.1 z.2.2) fun p hp => ?_
  rcases List.mem_cons.mp hp with rfl | hp
  · refine ⟨?_, z.2⟩
    rw [ho']; simp
  · have y := N p (hr p hp).1
    exact ⟨(hs.2 _ (hr p hp).2).trans y.1, y.2⟩
end
end Mine

namespace Mine
def dunB (x : Str) : Bool := decide (4 < (x.length : Int)) && (Txt.slice x none (some 2) == Txt.slice x (some (-2)) none && (Txt.slice x (some (-2)) none == Str.ofString "__" && (Txt.item x 2 != Str.ofString "_" && Txt.item x (-3) != Str.ofString "_")))
/-- the pairs that the inner loop tells -/
def rowTo (x : Str) (i : Int) : Nat → List (Int × Int)
  | 0 => []
  | k + 1 => rowTo x i k ++ (if dunB (Txt.slice x (some i) (some (i + (k : Int)))) then [(i, i + (k : Int))] else [])
def pairsTo (x : Str) : Nat → List (Int × Int)
  | 0 => []
  | i + 1 => pairsTo x i ++ rowTo x (0 + (i : Int)) ((x.length : Int) + 1 - (0 + (i : Int))).toNat
def winTo (x : Str) : Nat → List Int
  | 0 => []
  | k + 1 => winTo x k ++ (if Txt.item x (2 + (k : Int)) != Str.ofString "_" && Txt.item x (2 + (k : Int) - 1) ++ Txt.item x (2 + (k : Int) - 2) == Str.ofString "__" then [2 + (k : Int)] else [])
def woutTo (x : Str) : Nat → List Int
  | 0 => []
  | k + 1 => woutTo x k ++ (if Txt.item x (2 + (k : Int)) != Str.ofString "_" && Txt.item x (2 + (k : Int) + 1) ++ Txt.item x (2 + (k : Int) + 2) == Str.ofString "__" then [2 + (k : Int)] else [])
def inTo (a : Int) (bs : List Int) : List (Int × Int) := (bs.filter (fun b => decide (a ≤ b))).map fun b => (a - 2, b + 3)
def outTo (as bs : List Int) : List (Int × Int) := as.flatMap fun a => inTo a bs
theorem us1 : Str.ofString "_" = ⟨#[95]⟩ := by decide +kernel
theorem us2 : Str.ofString "__" = ⟨#[95, 95]⟩ := by decide +kernel
theorem two_sg {y : Str} {a b : Nat} (h : sg y = [a, b]) : (y == Str.ofString "__") = (a == 95 && b == 95) := by
  rw [Bool.eq_iff_iff, us2]
  simp only [beq_iff_eq, Bool.and_eq_true]
  constructor
  · intro e
    rw [e] at h
    have h' : [95, 95] = [a, b] := by simpa [sg] using h
    simp at h'
    exact ⟨h'.1.symm, h'.2.symm⟩
  · rintro ⟨rfl, rfl⟩
    exact sg_inj (h.trans (by simp [sg]))
theorem pair_eq (a b : Nat) : ((⟨#[a]⟩ : Str) ++ ⟨#[b]⟩ == Str.ofString "__") = (a == 95 && b == 95) := two_sg (by simp [sg, Str.cps_append])
def inP (l : List Nat) (k : Nat) : Bool := l.getD (k + 2) 0 != 95 && (l.getD (k + 1) 0 == 95 && l.getD k 0 == 95)
def outP (l : List Nat) (k : Nat) : Bool := l.getD (k + 2) 0 != 95 && (l.getD (k + 3) 0 == 95 && l.getD (k + 4) 0 == 95)
theorem win_eq (x : Str) : ∀ N, N + 4 ≤ x.length → winTo x N = ((List.range N).filter (inP (sg x))).map fun (k : Nat) => 2 + (k : Int)
  | 0, _ => rfl
  | k + 1, h => by
    unfold winTo
    rw [win_eq x k (by omega), List.range_succ, List.filter_append, List.map_append, item_pos (by omega) (by omega), item_pos (by omega) (by omega), item_pos (by omega) (by omega), us1, one_bne, pair_eq]
    have q1 : (2 + (k : Int)).toNat = k + 2 := by omega
    have q2 : (2 + (k : Int) - 1).toNat = k + 1 := by omega
    have q3 : (2 + (k : Int) - 2).toNat = k := by omega
    rw [q1, q2, q3]
    congr 1
    show (if inP (sg x) k = true then _ else _) = _
    cases hP : inP (sg x) k <;> simp [hP]
theorem wout_eq (x : Str) : ∀ N, N + 4 ≤ x.length → woutTo x N = ((List.range N).filter (outP (sg x))).map fun (k : Nat) => 2 + (k : Int)
  | 0, _ => rfl
  | k + 1, h => by
    unfold woutTo
    rw [wout_eq x k (by omega), List.range_succ, List.filter_append, List.map_append, item_pos (by omega) (by omega), item_pos (by omega) (by omega), item_pos (by omega) (by omega), us1, one_bne, pair_eq]
    have q1 : (2 + (k : Int)).toNat = k + 2 := by omega
    have q2 : (2 + (k : Int) + 1).toNat = k + 3 := by omega
    have q3 : (2 + (k : Int) + 2).toNat = k + 4 := by omega
    rw [q1, q2, q3]
    congr 1
    show (if outP (sg x) k = true then _ else _) = _
    cases hP : outP (sg x) k <;> simp [hP]
def dunP (l : List Nat) (i j : Nat) : Bool := decide (4 < j - i) && (inP l i && outP l (j - 5))
theorem getD_cut (l : List Nat) (i k m : Nat) (hm : m < k) : ((l.drop i).take k).getD m 0 = l.getD (i + m) 0 := by
  simp only [List.getD, List.getElem?_take, hm, if_true, List.getElem?_drop]
theorem dun_eq (x : Str) (i k : Nat) (h : i + k ≤ x.length) : dunB (Txt.slice x (some (0 + (i : Int))) (some (0 + (i : Int) + (k : Int)))) = dunP (sg x) i (i + k) := by
  have hs : sg (Txt.slice x (some (0 + (i : Int))) (some (0 + (i : Int) + (k : Int)))) = ((sg x).drop i).take k := by
    rw [sg_slice (by omega) (by omega) (by omega)]
    have q1 : (0 + (i : Int)).toNat = i := by omega
    have q2 : (0 + (i : Int) + (k : Int) - (0 + (i : Int))).toNat = k := by omega
    rw [q1, q2]
  generalize Txt.slice x (some (0 + (i : Int))) (some (0 + (i : Int) + (k : Int))) = y at hs
  have hl : y.length = k := by
    rw [← sg_len, hs, List.length_take, List.length_drop, sg_len]; omega
  unfold dunB dunP
  have q0 : i + k - i = k := by omega
  rw [hl, q0]
  by_cases h4 : 4 < k
  · have e4 : decide (4 < (k : Int)) = true := decide_eq_true (by omega)
    have e4' : decide (4 < k) = true := decide_eq_true h4
    have g : ∀ m, m < k → (sg y).getD m 0 = (sg x).getD (i + m) 0 := fun m hm => by rw [hs]; exact getD_cut _ _ _ _ hm
    have sgl : (sg y).length = k := by rw [sg_len, hl]
    have s1 : sg (Txt.slice y none (some 2)) = [(sg y).getD 0 0, (sg y).getD 1 0] := by
      rw [sg_slice_to (by omega) (by omega)]
      match hy : sg y with
      | [] => rw [hy] at sgl; simp at sgl; omega
      | [_] => rw [hy] at sgl; simp at sgl; omega
      | a :: b :: r => rfl
    have s2 : sg (Txt.slice y (some (-2)) none) = [(sg y).getD (k - 2) 0, (sg y).getD (k - 1) 0] := by
      show sg (StrLaws.sliceText y (some (-2)) none) = _
      rw [StrLaws.sliceText_neg_lo y none (by omega) (by omega), StrLaws.sliceText_from ⟨by omega, by have := sg_len y; unfold sg at this; omega⟩, sg_mk]
      have q : (-2 + (y.length : Int)).toNat = k - 2 := by omega
      rw [q]
      have hd : (sg y).drop (k - 2) = [(sg y).getD (k - 2) 0, (sg y).getD (k - 1) 0] := by
        apply List.ext_getElem?
        intro m
        rw [List.getElem?_drop]
        match m with
        | 0 => simp [List.getElem?_eq_getElem (show k - 2 < (sg y).length by omega)]
        | 1 =>
          have e : k - 2 + 1 = k - 1 := by omega
          rw [e]
          simp [List.getElem?_eq_getElem (show k - 1 < (sg y).length by omega)]
        | m + 2 =>
          rw [List.getElem?_eq_none (by omega)]
          rfl
      rw [← hd]
      apply List.take_of_length_le
      rw [List.length_drop]
      unfold sg at sgl; omega
    have t1 := two_sg s1
    have t2 := two_sg s2
    have i2 : Txt.item y 2 = ⟨#[(sg y).getD 2 0]⟩ := item_pos (by omega) (by omega)
    have i3 : Txt.item y (-3) = ⟨#[(sg y).getD (k - 3) 0]⟩ := by
      rw [item_neg (by omega) (by omega)]
      have q : (-3 + (y.length : Int)).toNat = k - 3 := by omega
      rw [q]
    have key : ∀ (A B : Str) (r : Bool), (A == B && (B == Str.ofString "__" && r)) = (A == Str.ofString "__" && (B == Str.ofString "__" && r)) := by
      intro A B r
      cases hB : (B == Str.ofString "__") with
      | false => simp
      | true => rw [eq_of_beq hB]
    rw [e4, e4', key, t1, t2, i2, i3, us1, one_bne, one_bne, g 0 (by omega), g 1 (by omega), g 2 (by omega), g (k - 1) (by omega), g (k - 2) (by omega), g (k - 3) (by omega)]
    unfold inP outP
    have r1 : i + k - 5 + 2 = i + (k - 3) := by omega
    have r2 : i + k - 5 + 3 = i + (k - 2) := by omega
    have r3 : i + k - 5 + 4 = i + (k - 1) := by omega
    rw [r1, r2, r3, Nat.add_zero]
    generalize (sg x).getD i 0 = a0
    generalize (sg x).getD (i + 1) 0 = a1
    generalize (sg x).getD (i + 2) 0 = a2
    generalize (sg x).getD (i + (k - 1)) 0 = b1
    generalize (sg x).getD (i + (k - 2)) 0 = b2
    generalize (sg x).getD (i + (k - 3)) 0 = b3
    cases a0 == 95 <;> cases a1 == 95 <;> cases a2 != 95 <;> cases b1 == 95 <;> cases b2 == 95 <;> cases b3 != 95 <;> rfl
  · rw [decide_eq_false (show ¬ 4 < (k : Int) by omega), decide_eq_false h4]; rfl
theorem row_eq (x : Str) (i : Nat) : ∀ K, i + K ≤ x.length + 1 → rowTo x (0 + (i : Int)) K = ((List.range K).filter fun k => dunP (sg x) i (i + k)).map fun (k : Nat) => ((i : Int), ((i + k : Nat) : Int))
  | 0, _ => rfl
  | k + 1, h => by
    unfold rowTo
    rw [row_eq x i k (by omega), List.range_succ, List.filter_append, List.map_append, dun_eq x i k (by omega)]
    congr 1
    cases hP : dunP (sg x) i (i + k)
    · simp [hP]
    · simp [hP]
theorem shift_filter {α : Type} (f : Nat → α) (c : Nat) (P : Nat → Bool) : ∀ m, ((List.range m).filter fun k => P (c + k)).map (fun k => f (c + k)) = ((List.range (c + m)).filter fun j => decide (c ≤ j) && P j).map f
  | 0 => by
    have : (List.range c).filter (fun j => decide (c ≤ j) && P j) = [] := by
      apply List.filter_eq_nil_iff.mpr
      intro j hj
      have := List.mem_range.mp hj
      simp; omega
    rw [Nat.add_zero, this]; rfl
  | m + 1 => by
    rw [List.range_succ, List.filter_append, List.map_append, shift_filter f c P m, ← Nat.add_assoc, List.range_succ, List.filter_append, List.map_append]
    congr 1
    have : decide (c ≤ c + m) = true := decide_eq_true (by omega)
    cases hP : P (c + m) <;> simp [hP]
/-- one row of pairs -/
theorem row_same (x : Str) (i : Nat) (h : i + 4 < x.length) : rowTo x (0 + (i : Int)) (x.length + 1 - i) = if inP (sg x) i then inTo (2 + (i : Int)) (woutTo x (x.length - 4)) else [] := by
  rw [row_eq x i _ (by omega)]
  cases hI : inP (sg x) i with
  | false =>
    have : (List.range (x.length + 1 - i)).filter (fun k => dunP (sg x) i (i + k)) = [] := by
      apply List.filter_eq_nil_iff.mpr
      intro k _
      simp [dunP, hI]
    rw [this]; rfl
  | true =>
    rw [if_pos rfl]
    unfold inTo
    rw [wout_eq x _ (by omega), List.filter_map, List.map_map, List.filter_filter]
    have e1 := shift_filter (fun j => ((i : Int), (j : Int))) i (fun j => dunP (sg x) i j) (x.length + 1 - i)
    have e2 := shift_filter (fun j => ((i : Int), (j : Int))) 5 (fun j => (decide (i ≤ j - 5)) && outP (sg x) (j - 5)) (x.length - 4)
    have z1 : i + (x.length + 1 - i) = x.length + 1 := by omega
    have z2 : 5 + (x.length - 4) = x.length + 1 := by omega
    rw [z1] at e1
    rw [z2] at e2
    refine e1.trans (Eq.trans ?_ (e2.symm.trans ?_))
    · congr 1
      apply List.filter_congr
      intro j _
      unfold dunP
      rw [hI, Bool.true_and]
      by_cases h5 : 4 < j - i
      · have a1 : decide (i ≤ j) = true := decide_eq_true (by omega)
        have a2 : decide (5 ≤ j) = true := decide_eq_true (by omega)
        have a3 : decide (i ≤ j - 5) = true := decide_eq_true (by omega)
        have a4 : decide (4 < j - i) = true := decide_eq_true h5
        rw [a1, a2, a3, a4]
      · have a4 : decide (4 < j - i) = false := decide_eq_false h5
        rw [a4]
        by_cases h6 : 5 ≤ j ∧ i ≤ j - 5
        · omega
        · have : (decide (5 ≤ j) && decide (i ≤ j - 5)) = false := by
            by_cases h7 : 5 ≤ j
            · have : ¬ i ≤ j - 5 := fun q => h6 ⟨h7, q⟩
              simp [this]
            · simp [h7]
          rw [← Bool.and_assoc (decide (5 ≤ j)), this]
          simp
    · have fe : (fun k => ((i : Int), ((5 + k : Nat) : Int))) = ((fun b : Int => (2 + (i : Int) - 2, b + 3)) ∘ fun (k : Nat) => 2 + (k : Int)) := by
        funext k
        simp only [Function.comp]
        congr 1 <;> omega
      show List.map (fun k => ((i : Int), ((5 + k : Nat) : Int))) _ = _
      rw [fe]
      congr 1
      apply List.filter_congr
      intro k _
      have k1 : 5 + k - 5 = k := by omega
      rw [k1]
      have k2 : decide (i ≤ k) = decide (2 + (i : Int) ≤ 2 + (k : Int)) := by
        by_cases q : i ≤ k
        · rw [decide_eq_true q, decide_eq_true (by omega)]
        · rw [decide_eq_false q, decide_eq_false (by omega)]
      rw [k2]
      rfl
theorem row_none (x : Str) (i : Nat) (h : x.length ≤ i + 4) (hi : i ≤ x.length) : rowTo x (0 + (i : Int)) (x.length + 1 - i) = [] := by
  rw [row_eq x i _ (by omega)]
  have : (List.range (x.length + 1 - i)).filter (fun k => dunP (sg x) i (i + k)) = [] := by
    apply List.filter_eq_nil_iff.mpr
    intro k hk
    have := List.mem_range.mp hk
    have : decide (4 < i + k - i) = false := decide_eq_false (by omega)
    simp only [dunP, this, Bool.false_and]; simp
  rw [this]; rfl
theorem pairs_low (x : Str) : ∀ i, i + 4 ≤ x.length → pairsTo x i = outTo (winTo x i) (woutTo x (x.length - 4))
  | 0, _ => rfl
  | i + 1, h => by
    have z : ((x.length : Int) + 1 - (0 + (i : Int))).toNat = x.length + 1 - i := by omega
    have hw : winTo x (i + 1) = winTo x i ++ (if inP (sg x) i then [2 + (i : Int)] else []) := by
      rw [win_eq x (i + 1) h, win_eq x i (by omega), List.range_succ, List.filter_append, List.map_append]
      congr 1
      cases hP : inP (sg x) i <;> simp [hP]
    unfold pairsTo
    rw [pairs_low x i (by omega), z, row_same x i (by omega), hw]
    unfold outTo
    rw [List.flatMap_append]
    congr 1
    cases hP : inP (sg x) i <;> simp
theorem pairs_high (x : Str) : ∀ i, x.length ≤ i + 4 → ∀ d, i + d ≤ x.length + 1 → pairsTo x (i + d) = pairsTo x i
  | _, _, 0, _ => rfl
  | i, h, d + 1, hd => by
    have z : ((x.length : Int) + 1 - (0 + ((i + d : Nat) : Int))).toNat = x.length + 1 - (i + d) := by omega
    rw [← Nat.add_assoc]
    show pairsTo x (i + d) ++ rowTo x (0 + ((i + d : Nat) : Int)) ((x.length : Int) + 1 - (0 + ((i + d : Nat) : Int))).toNat = _
    rw [pairs_high x i h d (by omega), z, row_none x (i + d) (by omega) (by omega), List.append_nil]
theorem key2 (x : Str) : pairsTo x ((x.length : Int) + 1 - 0).toNat = outTo (winTo x ((x.length : Int) - 2 - 2).toNat) (woutTo x ((x.length : Int) - 2 - 2).toNat) := by
  have z1 : ((x.length : Int) + 1 - 0).toNat = x.length + 1 := by omega
  have z2 : ((x.length : Int) - 2 - 2).toNat = x.length - 4 := by omega
  rw [z1, z2]
  by_cases h : 4 ≤ x.length
  · have e : x.length + 1 = (x.length - 4) + 5 := by omega
    rw [e, pairs_high x (x.length - 4) (by omega) 5 (by omega), pairs_low x _ (by omega)]
  · have e : x.length - 4 = 0 := by omega
    have p := pairs_high x 0 (by omega) (x.length + 1) (by omega)
    rw [Nat.zero_add] at p
    rw [p, e]; rfl
end Mine

namespace Mine
section
variable (elt iter0 iter1 cnd : Expr) (xa xb : Str) (pa pb : Pos) (scope : Scope) (pos : Pos)
def c2 : Expr := .ListComp elt [⟨.Name xa pa, iter0, [], 0⟩, ⟨.Name xb pb, iter1, [cnd], 0⟩] scope pos
theorem turn0 (it acc : Value) (env : Env) : compTurn (c2 elt iter0 iter1 cnd xa xb pa pb scope pos) 0 it acc env = (do
    standAt iter0.pos
    match ← pyNext it with
    | none => pure (.done .next)
    | some v =>
      letOwnedTupleGo (.Name xa pa) it v
      assign (.Name xa pa) env v
      let x ← eval iter1 env
      standAt iter1.pos
      let x ← foldedSetIterable iter1 env x
      let _ ← runOwn (.compStart (c2 elt iter0 iter1 cnd xa xb pa pb scope pos) 1 (← holding [x] (pyIter x)) acc env) env
      again (.compLoop (c2 elt iter0 iter1 cnd xa xb pa pb scope pos) 0 it acc env)) := by rfl
theorem turn1 (it acc : Value) (env : Env) : compTurn (c2 elt iter0 iter1 cnd xa xb pa pb scope pos) 1 it acc env = (do
    standAt iter1.pos
    match ← pyNext it with
    | none => pure (.done .next)
    | some v =>
      letOwnedTupleGo (.Name xb pb) it v
      assign (.Name xb pb) env v
      let mut ok := true
      for c in [cnd] do
        if ok then ok ← isTrue c env (eval c env)
      if ok then
        (do let _ ← call (.builtin "list.append") [acc, ← eval elt env])
      again (.compLoop (c2 elt iter0 iter1 cnd xa xb pa pb scope pos) 1 it acc env)) := by rfl
end
section
variable {prog : Program} {w : World} {A : Around} {R : Result → Shared → Prop} {s : Shared} {elt iter0 iter1 cnd : Expr} {xa xb : Str} {pa pb : Pos} {scope : Scope} {pos : Pos} {env : Env}
theorem start1 {it acc : Value}
    (h0 : codeAny (model prog w) A (.compLoop (c2 elt iter0 iter1 cnd xa xb pa pb scope pos) 1 it acc env) R s)
    (h : wpAny (model prog w) A (pyIter it) (fun it' s' => codeAny (model prog w) A (.compLoop (c2 elt iter0 iter1 cnd xa xb pa pb scope pos) 1 it' acc env) R s')
      (notedBy (model prog w) A env fun x s' => R (.error x) s') s) :
    codeAny (model prog w) A (.compStart (c2 elt iter0 iter1 cnd xa xb pa pb scope pos) 1 it acc env) R s := by
  refine codeAny_of_tree ?_
  show wpAny _ _ ((compStart (c2 elt iter0 iter1 cnd xa xb pa pb scope pos) 1 it acc env).onRaise (fun x => do noteFrame x env; standAt theWindowsPlace)) _ _ s
  refine wpAny_notedAt ?_
  unfold compStart
  show wpAny _ _ (ask >>= _) _ _ s
  refine wpAny_bind (wpAny_askSetting (wpAny_ite ?_))
  split
  · first
      | exact wpAny_bind (wpAny_pure (wpAny_pure (And.intro rfl h0)))
      | exact wpAny_pure (And.intro rfl h0)
  · first
      | exact wpAny_bind (wpAny_rule (wpAny_bind (wpAny_standAt (wpAny_bind (wpAny_mono h (fun it' s' h' => wpAny_pure (And.intro rfl h')) fun _ _ x => x)))))
      | (refine wpAny_bind (wpAny_rule ?_); show wpAny _ _ (standAt iter1.pos >>= _) _ _ s; exact wpAny_bind (wpAny_standAt (wpAny_bind (wpAny_mono h (fun it' s' h' => wpAny_pure (And.intro rfl h')) fun _ _ x => x))))
theorem loop1 {it acc : Value} (I : Nat → Shared → Prop)
    (turn : ∀ n s, I n s → wpAny (model prog w) A (pyNext it) (fun r s₁ => match r with
      | none => R (.ok .next) s₁
      | some v => wpAny (model prog w) A (assign (.Name xb pb) env v) (fun _ s₂ =>
          wpAny (model prog w) A (isTrue cnd env (eval cnd env)) (fun ok s₃ =>
            if ok = true then wpAny (model prog w) A (eval elt env) (fun x s₄ =>
              wpAny (model prog w) A (call (.builtin "list.append") [acc, x]) (fun _ s₅ => ∃ m, m < n ∧ I m s₅) (notedBy (model prog w) A env fun e s' => R (.error e) s') s₄) (notedBy (model prog w) A env fun e s' => R (.error e) s') s₃
            else ∃ m, m < n ∧ I m s₃) (notedBy (model prog w) A env fun e s' => R (.error e) s') s₂) (notedBy (model prog w) A env fun e s' => R (.error e) s') s₁) (notedBy (model prog w) A env fun e s' => R (.error e) s') s)
    (n : Nat) (h : I n s) :
    codeAny (model prog w) A (.compLoop (c2 elt iter0 iter1 cnd xa xb pa pb scope pos) 1 it acc env) R s := by
  refine codeAny_loop rfl I (fun n s hI => ?_) n h
  show wpAny _ A ((compTurn (c2 elt iter0 iter1 cnd xa xb pa pb scope pos) 1 it acc env).onRaise (fun x => do noteFrame x env; theTreesLotGoes x)) _ _ s
  refine wpAny_noted ?_
  rw [turn1]
  refine wpAny_bind (wpAny_standAt (wpAny_bind (wpAny_mono (turn n s hI) (fun r s₁ h₁ => ?_) fun _ _ h' => h')))
  cases r with
  | none => exact wpAny_pure h₁
  | some v =>
    refine wpAny_bind (wpAny_of_eq (a := ()) rfl ?_)
    refine wpAny_bind (wpAny_mono h₁ (fun _ s₂ h₂ => wpAny_bind (wpAny_mono (wpAny_tests_one h₂) (fun ok s₃ h₃ => ?_) fun _ _ h' => h')) fun _ _ h' => h')
    cases ok with
    | false => exact wpAny_pure ⟨rfl, h₃⟩
    | true =>
      exact wpAny_bind (wpAny_bind (wpAny_mono h₃ (fun x s₄ h₄ => wpAny_bind (wpAny_mono h₄ (fun _ s₅ h₅ => wpAny_pure (wpAny_pure ⟨rfl, h₅⟩)) fun _ _ h' => h')) fun _ _ h' => h'))
theorem loop0 {it acc : Value} (I : Nat → Shared → Prop) (hs : ∀ x, foldedSetIterable iter1 env x = pure x)
    (turn : ∀ n s, I n s → wpAny (model prog w) A (pyNext it) (fun r s₁ => match r with
      | none => R (.ok .next) s₁
      | some v => wpAny (model prog w) A (assign (.Name xa pa) env v) (fun _ s₂ =>
          wpAny (model prog w) A (eval iter1 env) (fun x s₃ => wpAny (model prog w) A (pyIter x) (fun it1 s₄ =>
            codeAny (model prog w) A (.compStart (c2 elt iter0 iter1 cnd xa xb pa pb scope pos) 1 it1 acc env) (fun r s₅ => match r with | .ok _ => ∃ m, m < n ∧ I m s₅ | .error e => cameBackBy (model prog w) A env (notedBy (model prog w) A env fun e s' => R (.error e) s') e s₅) s₄)
            (notedBy (model prog w) A env fun e s' => R (.error e) s') s₃) (notedBy (model prog w) A env fun e s' => R (.error e) s') s₂) (notedBy (model prog w) A env fun e s' => R (.error e) s') s₁) (notedBy (model prog w) A env fun e s' => R (.error e) s') s)
    (n : Nat) (h : I n s) :
    codeAny (model prog w) A (.compLoop (c2 elt iter0 iter1 cnd xa xb pa pb scope pos) 0 it acc env) R s := by
  refine codeAny_loop rfl I (fun n s hI => ?_) n h
  show wpAny _ A ((compTurn (c2 elt iter0 iter1 cnd xa xb pa pb scope pos) 0 it acc env).onRaise (fun x => do noteFrame x env; theTreesLotGoes x)) _ _ s
  refine wpAny_noted ?_
  rw [turn0]
  refine wpAny_bind (wpAny_standAt (wpAny_bind (wpAny_mono (turn n s hI) (fun r s₁ h₁ => ?_) fun _ _ h' => h')))
  cases r with
  | none => exact wpAny_pure h₁
  | some v =>
    refine wpAny_bind (wpAny_of_eq (a := ()) rfl ?_)
    refine wpAny_bind (wpAny_mono h₁ (fun _ s₂ h₂ => wpAny_bind (wpAny_mono h₂ (fun x s₃ h₃ => ?_) fun _ _ h' => h')) fun _ _ h' => h')
    refine wpAny_bind (wpAny_standAt (wpAny_bind (wpAny_of_eq (hs x) ?_)))
    refine wpAny_bind (wpAny_holding (wpAny_mono h₃ (fun it1 s₄ h₄ => ?_) fun _ _ h' => h'))
    refine wpAny_bind (wpAny_runOwn (codeAny_mono h₄ fun r s₅ h₅ => ?_))
    cases r with
    | ok f => exact wpAny_pure ⟨rfl, h₅⟩
    | error e => exact h₅
end
end Mine
namespace Mine
def pDat (p : Int × Int) : Dat := .tuple [.int p.1, .int p.2]
abbrev tup2 (i : Int) (t : Tok) (j : Int) (u : Tok) : Obj := { cls := .type "tuple", data := .seq [Value.int i t, Value.int j u].toArray }
theorem inTo_snoc (a b : Int) (bs : List Int) : inTo a (bs ++ [b]) = inTo a bs ++ (if a ≤ b then [(a - 2, b + 3)] else []) := by
  unfold inTo
  rw [List.filter_append, List.map_append]
  by_cases h : a ≤ b <;> simp [h]
theorem outTo_snoc (a : Int) (as bs : List Int) : outTo (as ++ [a]) bs = outTo as bs ++ inTo a bs := by
  unfold outTo; simp
section
variable {prog : Program} {w : World} {A : Around} {s : Shared} {elt iter0 iter1 cnd : Expr} {xa xb : Str} {pa pb : Pos} {scope : Scope} {pos : Pos} {env : Env} {h₀ : Heap} {L : Addr} {m : Str → Option Value} {cl : List (Str × Addr)}
/-- the inner loop of a comprehension with two clauses -/
theorem inner {R : Result → Shared → Prop} {I0 I1 C D lb : Addr} {oI0 : Obj} {vs : List Value} {bs : List Int} {cb : Nat} {nw tups₀ : List (Addr × Obj)} {ys₀ : List Value} {ps₀ : List (Int × Int)} {a : Int} {ta : Tok} {m₁ : Str → Option Value}
    (hh : A.handled = none) (hkind : scope.kind = .function) (hxb : scope.names.lookup xb = some .local) (hxab : xa ≠ xb)
    (mb : (lb, listOf vs.toArray cb) ∈ nw) (hb : IntsAre vs bs) (hsz : ys₀.length + vs.length ≤ 1000000)
    (hit : s.heap.IsListIter I1 lb 0) (F : Fr h₀ L s.heap m) (hn : s.heap.Ns C m₁) (hxa : m₁ xa = some (.int a ta)) (N : News h₀ L s.heap ((I0, oI0) :: (D, LCg.lst ys₀) :: (tups₀ ++ nw)))
    (hD : DatAll tups₀ ys₀ (ps₀.map pDat))
    (off : ∀ p ∈ (I0, oI0) :: (tups₀ ++ nw), p.1 ≠ C ∧ p.1 ≠ D ∧ p.1 ≠ I1) (off0 : ∀ p ∈ tups₀ ++ nw, p.1 ≠ I0)
    (d1 : I1 ≠ C) (d2 : I1 ≠ D) (d3 : C ≠ D) (fI : h₀.get? I1 = none) (fC : h₀.get? C = none) (fD : h₀.get? D = none) (LI : I1 ≠ L) (LC : C ≠ L) (LD : D ≠ L)
    (htest : ∀ oC m₂ b tb h tk nx (Q' : Bool → Shared → Prop) E', LCg.NsObj oC m₂ → m₂ xa = some (.int a ta) → m₂ xb = some (.int b tb) → Fr h₀ L h m → News h₀ L h ((C, oC) :: nx) → (∀ tk', Q' (decide (a ≤ b)) { s with heap := h, toks := tk' }) →
      wpAny (model prog w) A (isTrue cnd (compEnvC scope cl C env) (eval cnd (compEnvC scope cl C env))) Q' E' { s with heap := h, toks := tk })
    (helt : ∀ oC m₂ b tb h tk nx (Q' : Value → Shared → Prop) E', LCg.NsObj oC m₂ → m₂ xa = some (.int a ta) → m₂ xb = some (.int b tb) → Fr h₀ L h m → News h₀ L h ((C, oC) :: nx) → (∀ t u tk', Q' (.ref h.objs.size) { s with heap := h.push (tup2 (a - 2) t (b + 3) u), toks := tk' }) →
      wpAny (model prog w) A (eval elt (compEnvC scope cl C env)) Q' E' { s with heap := h, toks := tk })
    (fin : ∀ h tk ys tups m', Fr h₀ L h m → h.Ns C m' → News h₀ L h ((I0, oI0) :: (D, LCg.lst ys) :: (tups ++ nw)) → DatAll tups ys ((ps₀ ++ inTo a bs).map pDat) → ys.length ≤ ys₀.length + vs.length →
      (∀ p ∈ (I0, oI0) :: (tups ++ nw), p.1 ≠ C ∧ p.1 ≠ D) → (∀ p ∈ tups ++ nw, p.1 ≠ I0) → R (.ok .next) { s with heap := h, toks := tk }) :
    codeAny (model prog w) A (.compLoop (c2 elt iter0 iter1 cnd xa xb pa pb scope pos) 1 (.ref I1) (.ref D) (compEnvC scope cl C env)) R s := by
  refine loop1 (fun n s' => ∃ h' tk j ys tups m', s' = { s with heap := h', toks := tk } ∧ j ≤ vs.length ∧ n = vs.length + 1 - j ∧ h'.IsListIter I1 lb j ∧ Fr h₀ L h' m ∧ h'.Ns C m' ∧ m' xa = some (.int a ta) ∧
      News h₀ L h' ((I0, oI0) :: (D, LCg.lst ys) :: (tups ++ nw)) ∧ DatAll tups ys ((ps₀ ++ inTo a (bs.take j)).map pDat) ∧ ys.length ≤ ys₀.length + j ∧
      (∀ p ∈ (I0, oI0) :: (tups ++ nw), p.1 ≠ C ∧ p.1 ≠ D ∧ p.1 ≠ I1) ∧ (∀ p ∈ tups ++ nw, p.1 ≠ I0)) ?_ (vs.length + 1)
    ⟨s.heap, s.toks, 0, ys₀, tups₀, m₁, rfl, Nat.zero_le _, rfl, hit, F, hn, hxa, N, by simpa [inTo] using hD, Nat.le_refl _, off, off0⟩
  rintro n s' ⟨H, tk, j, ys, tups, m', rfl, hj, rfl, hit', F', hn', hxa', N', hD', hlen, off', off0'⟩
  have hlb : H.IsList lb vs.toArray := ⟨_, (N' _ (List.Mem.tail _ (List.Mem.tail _ (List.mem_append_right _ mb)))).1, rfl, cb, rfl⟩
  cases hv : vs.toArray[j]? with
  | none =>
    have hjl : j = vs.length := by
      have := Array.getElem?_eq_none_iff.mp hv
      rw [List.size_toArray] at this; omega
    refine wpAny_pyNext_list_end hh hit' hlb hv fun h₁ he₁ => ?_
    have F₁ : Fr h₀ L h₁ m := LCg.fr_but F' (I := I1) (fun b o hb e => he₁ b o (by simpa using hb) e) (Ne.symm LI) fI
    have N₁ : News h₀ L h₁ ((I0, oI0) :: (D, LCg.lst ys) :: (tups ++ nw)) := LCg.news_but N' (I := I1) (fun b o hb e => he₁ b o (by simpa using hb) e) (fun p hp => by
      rcases List.mem_cons.mp hp with rfl | hp
      · exact (off' _ (List.Mem.head _)).2.2
      · rcases List.mem_cons.mp hp with rfl | hp
        · exact Ne.symm d2
        · exact (off' p (List.Mem.tail _ hp)).2.2)
    refine fin h₁ tk ys tups m' F₁ (hn'.at' fun o e => he₁ C o (Ne.symm d1) e) N₁ ?_ (by omega) (fun p hp => ⟨(off' p hp).1, (off' p hp).2.1⟩) off0'
    rw [hjl, hb.length, List.take_length] at hD'
    exact hD'
  | some v =>
    have hlt : j < vs.length := by
      have := (Array.getElem?_eq_some_iff.mp hv).1
      simpa using this
    obtain ⟨b, tb, rfl, hbj⟩ := IntsAre.at hb j v (by simpa using hv)
    refine wpAny_pyNext_list_item hit' hlb hv fun h₁ hit₁ hs₁ => ?_
    refine wpAny_assign_Name (wpAny_storeName_local (lookup_relabel_local hxb) (hn'.sameBut hs₁ (Ne.symm d1)) (fun h₂ hn₂ hs₂ => ?_) (by simp [compEnvC, relabel, hkind]))
    have hN₁ : News h₀ L h₁ ((I0, oI0) :: (D, LCg.lst ys) :: (tups ++ nw)) := LCg.news_but N' (I := I1) (fun b o hb e => hs₁.extBut b o (by simpa using hb) e) (fun p hp => by
      rcases List.mem_cons.mp hp with rfl | hp
      · exact (off' _ (List.Mem.head _)).2.2
      · rcases List.mem_cons.mp hp with rfl | hp
        · exact Ne.symm d2
        · exact (off' p (List.Mem.tail _ hp)).2.2)
    have N₂ : News h₀ L h₂ ((I0, oI0) :: (D, LCg.lst ys) :: (tups ++ nw)) := LCg.news_but hN₁ (I := C) (fun b o hb e => hs₂.extBut b o (fun q => hb (List.mem_singleton.mpr q)) e) (fun p hp => by
      rcases List.mem_cons.mp hp with rfl | hp
      · exact (off' _ (List.Mem.head _)).1
      · rcases List.mem_cons.mp hp with rfl | hp
        · exact Ne.symm d3
        · exact (off' p (List.Mem.tail _ hp)).1)
    have F₂ : Fr h₀ L h₂ m := (F'.change hs₁ LI fI).change hs₂ LC fC
    have hit₂ : h₂.IsListIter I1 lb (j + 1) := hit₁.extBut hs₂.extBut d1
    obtain ⟨oC, heC, hoC⟩ := LCg.ns_obj hn₂
    have NC : News h₀ L h₂ ((C, oC) :: (I0, oI0) :: (D, LCg.lst ys) :: (tups ++ nw)) := List.forall_mem_cons.mpr ⟨⟨heC, LC, fC⟩, N₂⟩
    have hma : (fun y => if y = xb then some (Value.int b tb) else m' y) xa = some (.int a ta) := by show (if xa = xb then _ else _) = _; rw [if_neg hxab]; exact hxa'
    have hmb : (fun y => if y = xb then some (Value.int b tb) else m' y) xb = some (.int b tb) := by show (if xb = xb then _ else _) = _; rw [if_pos rfl]
    have htk : bs.take (j + 1) = bs.take j ++ [b] := by rw [List.take_add_one, hbj]; rfl
    refine htest oC _ b tb h₂ _ _ _ _ hoC hma hmb F₂ NC fun tk₃ => ?_
    by_cases hab : a ≤ b
    · rw [decide_eq_true hab]
      show wpAny _ _ _ _ _ _
      refine helt oC _ b tb h₂ _ _ _ _ hoC hma hmb F₂ NC fun t u tk₄ => ?_
      have lt : ∀ {x : Addr} {o : Obj}, h₂.get? x = some o → x ≠ h₂.objs.size := fun e => Nat.ne_of_lt (Heap.lt_size e)
      have tC : h₂.objs.size ≠ C := fun e => lt heC e.symm
      have tD : h₂.objs.size ≠ D := fun e => lt (N₂ _ (List.Mem.tail _ (List.Mem.head _))).1 e.symm
      have tI : h₂.objs.size ≠ I1 := fun e => by obtain ⟨o, q, _⟩ := hit₂; exact lt q e.symm
      have t0 : h₂.objs.size ≠ I0 := fun e => lt (N₂ _ (List.Mem.head _)).1 e.symm
      have tL : h₂.objs.size ≠ L := fun e => absurd F₂.ns.lt (e ▸ Nat.lt_irrefl _)
      have tF : h₀.get? h₂.objs.size = none := next_is_new F₂
      refine append_at (hsz := by show ys.toArray.size ≤ sizeLine; rw [List.size_toArray, PySem.sizeLine_eq]; omega) (Heap.get?_push_of_some _ (N₂ _ (List.Mem.tail _ (List.Mem.head _))).1) fun h₅ hs₅ hD₅ => ?_
      have up : ∀ x o, x ≠ D → h₂.get? x = some o → h₅.get? x = some o := fun x o hx e => hs₅.extBut x o hx (Heap.get?_push_of_some _ e)
      refine ⟨vs.length + 1 - (j + 1), by omega, h₅, _, j + 1, ys ++ [.ref h₂.objs.size], (h₂.objs.size, tup2 (a - 2) t (b + 3) u) :: tups, _, rfl, hlt, rfl, hit₂.at fun o e => up I1 o d2 e, (F₂.push _).change hs₅ LD fD, hn₂.at' fun o e => up C o d3 e, hma, ?_, ?_, by rw [List.length_append, List.length_singleton]; omega, ?_, ?_⟩
      · refine List.forall_mem_cons.mpr ⟨⟨up I0 _ (off' _ (List.Mem.head _)).2.1 (N₂ _ (List.Mem.head _)).1, (N₂ _ (List.Mem.head _)).2⟩, List.forall_mem_cons.mpr ⟨⟨hD₅.trans (congrArg some (LCg.lst_snoc ys _)), LD, fD⟩, List.forall_mem_cons.mpr ⟨⟨hs₅.extBut _ _ tD (Heap.get?_push_size _ rfl), tL, tF⟩, fun p hp => ?_⟩⟩⟩
        exact ⟨up p.1 p.2 (off' p (List.Mem.tail _ hp)).2.1 (N₂ p (List.Mem.tail _ (List.Mem.tail _ hp))).1, (N₂ p (List.Mem.tail _ (List.Mem.tail _ hp))).2⟩
      · rw [htk, inTo_snoc, if_pos hab, ← List.append_assoc, List.map_append]
        exact (hD'.mono fun p hp => List.Mem.tail _ hp).append (.one (.tuple (List.Mem.head _) (.cons (.int _ _) (.cons (.int _ _) .nil))))
      · exact List.forall_mem_cons.mpr ⟨off' _ (List.Mem.head _), List.forall_mem_cons.mpr ⟨⟨tC, tD, tI⟩, fun p hp => off' p (List.Mem.tail _ hp)⟩⟩
      · exact List.forall_mem_cons.mpr ⟨t0, off0'⟩
    · rw [decide_eq_false hab]
      refine ⟨vs.length + 1 - (j + 1), by omega, h₂, tk₃, j + 1, ys, tups, _, rfl, hlt, rfl, hit₂, F₂, hn₂, hma, N₂, ?_, by omega, off', off0'⟩
      rw [htk, inTo_snoc, if_neg hab, List.append_nil]
      exact hD'
theorem outer {R : Result → Shared → Prop} {I0 C D la lb : Addr} {us vs : List Value} {as bs : List Int} {ca cb : Nat} {nw : List (Addr × Obj)} {m₁ : Str → Option Value}
    (hh : A.handled = none) (hkind : scope.kind = .function) (hxa : scope.names.lookup xa = some .local) (hxb : scope.names.lookup xb = some .local) (hxab : xa ≠ xb)
    (ma : (la, listOf us.toArray ca) ∈ nw) (ha : IntsAre us as) (mb : (lb, listOf vs.toArray cb) ∈ nw) (hb : IntsAre vs bs) (hsz : us.length ≤ 500) (hsz2 : vs.length ≤ 500)
    (hit : s.heap.IsListIter I0 la 0) (F : Fr h₀ L s.heap m) (hn : s.heap.Ns C m₁) (N : News h₀ L s.heap ((D, LCg.lst []) :: nw))
    (off : ∀ p ∈ nw, p.1 ≠ C ∧ p.1 ≠ D ∧ p.1 ≠ I0)
    (d1 : I0 ≠ C) (d2 : I0 ≠ D) (d3 : C ≠ D) (fI : h₀.get? I0 = none) (fC : h₀.get? C = none) (fD : h₀.get? D = none) (LI : I0 ≠ L) (LC : C ≠ L) (LD : D ≠ L)
    (hs : ∀ x, foldedSetIterable iter1 (compEnvC scope cl C env) x = pure x)
    (hi1 : ∀ oC m₂ h tk nx (Q' : Value → Shared → Prop) E', LCg.NsObj oC m₂ → Fr h₀ L h m → News h₀ L h ((C, oC) :: nx) → (∀ p ∈ nw, p ∈ nx) → Q' (.ref lb) { s with heap := h, toks := tk } →
      wpAny (model prog w) A (eval iter1 (compEnvC scope cl C env)) Q' E' { s with heap := h, toks := tk })
    (htest : ∀ a ta oC m₂ b tb h tk nx (Q' : Bool → Shared → Prop) E', LCg.NsObj oC m₂ → m₂ xa = some (.int a ta) → m₂ xb = some (.int b tb) → Fr h₀ L h m → News h₀ L h ((C, oC) :: nx) → (∀ tk', Q' (decide (a ≤ b)) { s with heap := h, toks := tk' }) →
      wpAny (model prog w) A (isTrue cnd (compEnvC scope cl C env) (eval cnd (compEnvC scope cl C env))) Q' E' { s with heap := h, toks := tk })
    (helt : ∀ a ta oC m₂ b tb h tk nx (Q' : Value → Shared → Prop) E', LCg.NsObj oC m₂ → m₂ xa = some (.int a ta) → m₂ xb = some (.int b tb) → Fr h₀ L h m → News h₀ L h ((C, oC) :: nx) → (∀ t u tk', Q' (.ref h.objs.size) { s with heap := h.push (tup2 (a - 2) t (b + 3) u), toks := tk' }) →
      wpAny (model prog w) A (eval elt (compEnvC scope cl C env)) Q' E' { s with heap := h, toks := tk })
    (fin : ∀ h tk ys tups m', Fr h₀ L h m → h.Ns C m' → News h₀ L h ((D, LCg.lst ys) :: (tups ++ nw)) → DatAll tups ys ((outTo as bs).map pDat) → (∀ p ∈ tups ++ nw, p.1 ≠ C ∧ p.1 ≠ D) → R (.ok .next) { s with heap := h, toks := tk }) :
    codeAny (model prog w) A (.compLoop (c2 elt iter0 iter1 cnd xa xb pa pb scope pos) 0 (.ref I0) (.ref D) (compEnvC scope cl C env)) R s := by
  refine loop0 (fun n s' => ∃ h' tk i ys tups m', s' = { s with heap := h', toks := tk } ∧ i ≤ us.length ∧ n = us.length + 1 - i ∧ h'.IsListIter I0 la i ∧ Fr h₀ L h' m ∧ h'.Ns C m' ∧
      News h₀ L h' ((D, LCg.lst ys) :: (tups ++ nw)) ∧ DatAll tups ys ((outTo (as.take i) bs).map pDat) ∧ ys.length ≤ i * vs.length ∧
      (∀ p ∈ tups ++ nw, p.1 ≠ C ∧ p.1 ≠ D ∧ p.1 ≠ I0)) hs ?_ (us.length + 1)
    ⟨s.heap, s.toks, 0, [], [], m₁, rfl, Nat.zero_le _, rfl, hit, F, hn, N, .nil, Nat.zero_le _, off⟩
  rintro n s' ⟨H, tk, i, ys, tups, m', rfl, hi, rfl, hit', F', hn', N', hD', hlen, off'⟩
  have hla : H.IsList la us.toArray := ⟨_, (N' _ (List.Mem.tail _ (List.mem_append_right _ ma))).1, rfl, ca, rfl⟩
  cases hv : us.toArray[i]? with
  | none =>
    have hil : i = us.length := by
      have := Array.getElem?_eq_none_iff.mp hv
      rw [List.size_toArray] at this; omega
    refine wpAny_pyNext_list_end hh hit' hla hv fun h₁ he₁ => ?_
    have F₁ : Fr h₀ L h₁ m := LCg.fr_but F' (I := I0) (fun b o hb e => he₁ b o (by simpa using hb) e) (Ne.symm LI) fI
    have N₁ : News h₀ L h₁ ((D, LCg.lst ys) :: (tups ++ nw)) := LCg.news_but N' (I := I0) (fun b o hb e => he₁ b o (by simpa using hb) e) (fun p hp => by
      rcases List.mem_cons.mp hp with rfl | hp
      · exact Ne.symm d2
      · exact (off' p hp).2.2)
    refine fin h₁ tk ys tups m' F₁ (hn'.at' fun o e => he₁ C o (Ne.symm d1) e) N₁ ?_ (fun p hp => ⟨(off' p hp).1, (off' p hp).2.1⟩)
    rw [hil, ha.length, List.take_length] at hD'
    exact hD'
  | some v =>
    have hlt : i < us.length := by
      have := (Array.getElem?_eq_some_iff.mp hv).1
      simpa using this
    obtain ⟨a, ta, rfl, hai⟩ := IntsAre.at ha i v (by simpa using hv)
    refine wpAny_pyNext_list_item hit' hla hv fun h₁ hit₁ hs₁ => ?_
    refine wpAny_assign_Name (wpAny_storeName_local (lookup_relabel_local hxa) (hn'.sameBut hs₁ (Ne.symm d1)) (fun h₂ hn₂ hs₂ => ?_) (by simp [compEnvC, relabel, hkind]))
    have hN₁ : News h₀ L h₁ ((D, LCg.lst ys) :: (tups ++ nw)) := LCg.news_but N' (I := I0) (fun b o hb e => hs₁.extBut b o (by simpa using hb) e) (fun p hp => by
      rcases List.mem_cons.mp hp with rfl | hp
      · exact Ne.symm d2
      · exact (off' p hp).2.2)
    have N₂ : News h₀ L h₂ ((D, LCg.lst ys) :: (tups ++ nw)) := LCg.news_but hN₁ (I := C) (fun b o hb e => hs₂.extBut b o (fun q => hb (List.mem_singleton.mpr q)) e) (fun p hp => by
      rcases List.mem_cons.mp hp with rfl | hp
      · exact Ne.symm d3
      · exact (off' p hp).1)
    have F₂ : Fr h₀ L h₂ m := (F'.change hs₁ LI fI).change hs₂ LC fC
    have hit₂ : h₂.IsListIter I0 la (i + 1) := hit₁.extBut hs₂.extBut d1
    obtain ⟨oC, heC, hoC⟩ := LCg.ns_obj hn₂
    obtain ⟨oI0, heI, hcI, hdI⟩ := id hit₂
    have NC : News h₀ L h₂ ((C, oC) :: (D, LCg.lst ys) :: (tups ++ nw)) := List.forall_mem_cons.mpr ⟨⟨heC, LC, fC⟩, N₂⟩
    have hma : (fun y => if y = xa then some (Value.int a ta) else m' y) xa = some (.int a ta) := by show (if xa = xa then _ else _) = _; rw [if_pos rfl]
    have htk : as.take (i + 1) = as.take i ++ [a] := by rw [List.take_add_one, hai]; rfl
    refine hi1 oC _ h₂ _ _ _ _ hoC F₂ NC (fun p hp => List.Mem.tail _ (List.mem_append_right _ hp)) ?_
    have hlb : h₂.IsList lb vs.toArray := ⟨_, (N₂ _ (List.Mem.tail _ (List.mem_append_right _ mb))).1, rfl, cb, rfl⟩
    refine wpAny_pyIter_list hlb ?_
    have lt : ∀ {x : Addr} {o : Obj}, h₂.get? x = some o → x ≠ h₂.objs.size := fun e => Nat.ne_of_lt (Heap.lt_size e)
    have tL : h₂.objs.size ≠ L := fun e => absurd F₂.ns.lt (e ▸ Nat.lt_irrefl _)
    have bound : (i + 1) * vs.length ≤ 500 * 500 := Nat.mul_le_mul (by omega) hsz2
    have bound2 : (i + 1) * vs.length = i * vs.length + vs.length := Nat.succ_mul ..
    have go : ∀ s₄ : Shared, s₄ = { s with heap := h₂.push { cls := .type "list_iterator", data := .fields #[.ref lb, .int 0 0] }, toks := tk + 1 } →
        codeAny (model prog w) A (.compLoop (c2 elt iter0 iter1 cnd xa xb pa pb scope pos) 1 (.ref h₂.objs.size) (.ref D) (compEnvC scope cl C env))
          (fun r s₅ => match r with | .ok _ => (∃ k, k < us.length + 1 - i ∧ ∃ h' tk i ys tups m', s₅ = { s with heap := h', toks := tk } ∧ i ≤ us.length ∧ k = us.length + 1 - i ∧ h'.IsListIter I0 la i ∧ Fr h₀ L h' m ∧ h'.Ns C m' ∧
      News h₀ L h' ((D, LCg.lst ys) :: (tups ++ nw)) ∧ DatAll tups ys ((outTo (as.take i) bs).map pDat) ∧ ys.length ≤ i * vs.length ∧
      (∀ p ∈ tups ++ nw, p.1 ≠ C ∧ p.1 ≠ D ∧ p.1 ≠ I0)) | .error e => cameBackBy (model prog w) A (compEnvC scope cl C env) (notedBy (model prog w) A (compEnvC scope cl C env) fun e s' => R (.error e) s') e s₅) s₄ := by
      rintro s₄ rfl
      refine inner (I0 := I0) (oI0 := oI0) (lb := lb) (vs := vs) (bs := bs) (cb := cb) (nw := nw) (tups₀ := tups) (ys₀ := ys) (ps₀ := outTo (as.take i) bs) (a := a) (ta := ta) (m₁ := fun y => if y = xa then some (Value.int a ta) else m' y)
        hh hkind hxb hxab mb hb (by omega) ⟨_, Heap.get?_push_size _ rfl, rfl, rfl⟩ (F₂.push _) (hn₂.at' fun o e => Heap.get?_push_of_some _ e) hma
        (List.forall_mem_cons.mpr ⟨⟨Heap.get?_push_of_some _ heI, LI, fI⟩, fun p hp => ⟨Heap.get?_push_of_some _ (N₂ p hp).1, (N₂ p hp).2⟩⟩) hD'
        (List.forall_mem_cons.mpr ⟨⟨d1, d2, lt heI⟩, fun p hp => ⟨(off' p hp).1, (off' p hp).2.1, lt (N₂ p (List.Mem.tail _ hp)).1⟩⟩) (fun p hp => (off' p hp).2.2)
        (Ne.symm (lt heC)) (Ne.symm (lt (N₂ _ (List.Mem.head _)).1)) d3 (next_is_new F₂) fC fD tL LC LD (htest a ta) (helt a ta) ?_
      intro h tk₅ ys₅ tups₅ m₅ F₅ hn₅ N₅ hD₅ hlen₅ off₅ off0₅
      refine ⟨us.length + 1 - (i + 1), by omega, h, tk₅, i + 1, ys₅, tups₅, m₅, rfl, hlt, rfl, ⟨oI0, (N₅ _ (List.Mem.head _)).1, hcI, hdI⟩, F₅, hn₅, fun p hp => N₅ p (List.Mem.tail _ hp), ?_, by omega, fun p hp => ⟨(off₅ p (List.Mem.tail _ hp)).1, (off₅ p (List.Mem.tail _ hp)).2, off0₅ p hp⟩⟩
      rw [htk, outTo_snoc]
      exact hD₅
    exact start1 (go _ rfl) (wpAny_pyIter_listiter (l := lb) (i := 0) ⟨_, Heap.get?_push_size _ rfl, rfl, rfl⟩ (go _ rfl))
theorem listComp2 {Q E : Value → Shared → Prop} {la lb : Addr} {us vs : List Value} {as bs : List Int} {ca cb : Nat} {nw : List (Addr × Obj)}
    (hh : A.handled = none) (hclos : closureFor scope env = pure cl) (hcell : ∀ y ∈ scope.names, y.2 ≠ .cell) (hkind : scope.kind = .function) (hnames : ∀ y ∈ scope.names, y.2 = .local → scope.names.lookup y.1 = some .local)
    (hxa : scope.names.lookup xa = some .local) (hxb : scope.names.lookup xb = some .local) (hxab : xa ≠ xb)
    (F : Fr h₀ L s.heap m) (N : News h₀ L s.heap nw) (ma : (la, listOf us.toArray ca) ∈ nw) (ha : IntsAre us as) (mb : (lb, listOf vs.toArray cb) ∈ nw) (hb : IntsAre vs bs) (hsz : us.length ≤ 500) (hsz2 : vs.length ≤ 500)
    (h0 : ∀ (Q' : Value → Shared → Prop), Q' (.ref la) s → wpAny (model prog w) A (eval iter0 env) Q' E s)
    (hs0 : ∀ x, foldedSetIterable iter0 env x = pure x) (hs1 : ∀ C x, foldedSetIterable iter1 (compEnvC scope cl C env) x = pure x)
    (hi1 : ∀ C oC m₂ h tk nx (Q' : Value → Shared → Prop) E', LCg.NsObj oC m₂ → Fr h₀ L h m → News h₀ L h ((C, oC) :: nx) → (∀ p ∈ nw, p ∈ nx) → Q' (.ref lb) { s with heap := h, toks := tk } →
      wpAny (model prog w) A (eval iter1 (compEnvC scope cl C env)) Q' E' { s with heap := h, toks := tk })
    (htest : ∀ C a ta oC m₂ b tb h tk nx (Q' : Bool → Shared → Prop) E', LCg.NsObj oC m₂ → m₂ xa = some (.int a ta) → m₂ xb = some (.int b tb) → Fr h₀ L h m → News h₀ L h ((C, oC) :: nx) → (∀ tk', Q' (decide (a ≤ b)) { s with heap := h, toks := tk' }) →
      wpAny (model prog w) A (isTrue cnd (compEnvC scope cl C env) (eval cnd (compEnvC scope cl C env))) Q' E' { s with heap := h, toks := tk })
    (helt : ∀ C a ta oC m₂ b tb h tk nx (Q' : Value → Shared → Prop) E', LCg.NsObj oC m₂ → m₂ xa = some (.int a ta) → m₂ xb = some (.int b tb) → Fr h₀ L h m → News h₀ L h ((C, oC) :: nx) → (∀ t u tk', Q' (.ref h.objs.size) { s with heap := h.push (tup2 (a - 2) t (b + 3) u), toks := tk' }) →
      wpAny (model prog w) A (eval elt (compEnvC scope cl C env)) Q' E' { s with heap := h, toks := tk })
    (fin : ∀ D h tk ys tups, Fr h₀ L h m → News h₀ L h ((D, LCg.lst ys) :: (tups ++ nw)) → DatAll tups ys ((outTo as bs).map pDat) → Q (.ref D) { s with heap := h, toks := tk }) :
    wpAny (model prog w) A (eval (c2 elt iter0 iter1 cnd xa xb pa pb scope pos) env) Q E s := by
  unfold c2
  rw [eval_ListComp]
  refine wpAny_comprehension_free (use := none) rfl hs0 hclos hkind hnames (h0 _ ?_)
  have hla : s.heap.IsList la us.toArray := ⟨_, (N _ ma).1, rfl, ca, rfl⟩
  refine wpAny_pyIter_list hla ?_
  generalize hH1 : s.heap.push { cls := .type "list_iterator", data := .fields #[.ref la, .int 0 0] } = H1
  have z1 : H1.objs.size = s.heap.objs.size + 1 := by rw [← hH1, Heap.size_push]
  have up1 : ∀ b o, s.heap.get? b = some o → H1.get? b = some o := fun b o e => hH1 ▸ Heap.get?_push_of_some _ e
  have hit1 : H1.IsListIter s.heap.objs.size la 0 := hH1 ▸ ⟨_, Heap.get?_push_size _ rfl, rfl, rfl⟩
  refine wpAny_newObj_type (wpAny_newFunctionEnv hcell (by intro y hy; simp at hy) (fun h₁ hns₁ hsb₁ => ?_) hkind)
  dsimp only at hns₁ hsb₁ ⊢
  generalize hH2 : H1.push { cls := .type "list", dict := none, data := .seq ([] : List Value).toArray } = H2 at hns₁ hsb₁ ⊢
  have z2 : H2.objs.size = H1.objs.size + 1 := by rw [← hH2, Heap.size_push]
  have up2 : ∀ b o, H1.get? b = some o → H2.get? b = some o := fun b o e => hH2 ▸ Heap.get?_push_of_some _ e
  have hD2 : H2.get? H1.objs.size = some (LCg.lst []) := hH2 ▸ Heap.get?_push_size _ rfl
  have up3 : ∀ b o, H2.get? b = some o → h₁.get? b = some o := fun b o e => hsb₁.extBut b o (Nat.ne_of_lt (Heap.lt_size e)) (Heap.get?_push_of_some _ e)
  have up : ∀ b o, s.heap.get? b = some o → h₁.get? b = some o := fun b o e => up3 b o (up2 b o (up1 b o e))
  have lt : ∀ {x : Addr} {o : Obj}, s.heap.get? x = some o → x < s.heap.objs.size := fun e => Heap.lt_size e
  have fr : ∀ x, s.heap.objs.size ≤ x → h₀.get? x = none := fun x hx => by
    cases e : h₀.get? x with
    | none => rfl
    | some o => exact absurd (lt (F.keep x o e)) (Nat.not_lt.mpr hx)
  have LL : @LT.lt Nat _ L s.heap.objs.size := F.ns.lt
  have hit₁ : h₁.IsListIter s.heap.objs.size la 0 := hit1.at fun o e => up3 _ o (up2 _ o e)
  have F₁ : Fr h₀ L h₁ m := F.keeps up
  have N₁ : News h₀ L h₁ ((H1.objs.size, LCg.lst []) :: nw) := List.forall_mem_cons.mpr ⟨⟨up3 _ _ hD2, (by refine neN ?_; omega), fr _ (by rw [z1]; exact Nat.le_succ _)⟩, fun p hp => ⟨up _ _ (N p hp).1, (N p hp).2⟩⟩
  have run : ∀ s₃ : Shared, s₃ = { s with heap := h₁, toks := s.toks + ([] : List (Str × Value)).length } →
      codeAny (model prog w) A (.compLoop (c2 elt iter0 iter1 cnd xa xb pa pb scope pos) 0 (.ref s.heap.objs.size) (.ref H1.objs.size) (compEnvC scope cl H2.objs.size env)) (compPost (model prog w) A E none Q (.ref H1.objs.size) H2.objs.size) s₃ := by
    rintro s₃ rfl
    refine outer hh hkind hxa hxb hxab ma ha mb hb hsz hsz2 hit₁ F₁ hns₁ N₁ (fun p hp => ?_) ?_ ?_ ?_ (fr _ (Nat.le_refl _)) (fr _ (by rw [z2, z1]; exact Nat.le_add_right _ 2)) (fr _ (by rw [z1]; exact Nat.le_succ _)) ?_ ?_ ?_ (hs1 _) (hi1 _) (htest _) (helt _) ?_
    · have : @LT.lt Nat _ p.1 s.heap.objs.size := lt (N p hp).1
      exact ⟨by refine neN ?_; omega, by refine neN ?_; omega, by refine neN ?_; omega⟩
    · refine neN ?_; omega
    · refine neN ?_; omega
    · refine neN ?_; omega
    · refine neN ?_; omega
    · refine neN ?_; omega
    · refine neN ?_; omega
    · intro h tk ys tups m' F' hn' N' hD' off'
      refine ⟨m', hn', fun h'' hs'' => fin _ h'' tk ys tups (F'.change hs'' (by refine neN ?_; omega) (fr _ (by rw [z2, z1]; exact Nat.le_add_right _ 2))) (fun p hp => ⟨hs''.extBut _ _ ?_ (N' p hp).1, (N' p hp).2⟩) hD'⟩
      rcases List.mem_cons.mp hp with rfl | hp
      · refine neN ?_; omega
      · exact (off' p hp).1
  exact codeAny_compStart_list (run _ rfl) (wpAny_pyIter_listiter hit₁ (run _ rfl))
end
end Mine

namespace Mine
open_top hd for PySem.Challenge.rw_dm0104_02
end Mine

namespace Mine
section
variable {A B C D E : Bool}
theorem dn1 (h1 : A = true) (h2 : B = true) (h3 : C = true) (h4 : D = true) : E = (A && (B && (C && (D && E)))) := by simp [h1, h2, h3, h4]
theorem dn2 (h4 : D = false) : D = (A && (B && (C && (D && E)))) := by simp [h4]
theorem dn3 (h4 : C = false) : C = (A && (B && (C && (D && E)))) := by simp [h4]
theorem dn4 (h4 : B = false) : B = (A && (B && (C && (D && E)))) := by simp [h4]
theorem dn5 (h4 : A = false) : A = (A && (B && (C && (D && E)))) := by simp [h4]
end
theorem dun_spec (w : World) (news : List (Addr × Obj)) (x : PySem.Str) (t : Tok) (loose : List Str) (mean : ExcName → Option Value) (mg mb : Str → Option Value) :
    CbClaim Challenge.rw_dm0104_02.row.prog w (Mine.hd.heap_39 w.params) Mine.hd.view_39 loose mean mg mb 21 news [] (x.length ≤ 100) [.str x t] (fun _ => .bool (dunB x)) := by
  k_fill
  w_top off
  dsimp only [CbClaim, CbLists, CbRet]
  intro dp un gd cn cs a ccd cl outer A₀ base h₀ L m s Q E B F X N T hk hpre hd hu hret
  refine wpAny_call ?_
  k_dflt cell_enter
  k_steps
  all_goals refine cb_retB (Q := Q) hret ?_ (by k_asm) (by k_asm)
  all_goals unfold dunB
  all_goals first
    | exact dn1 (decide_eq_true (by assumption)) (by assumption) (by assumption) (by assumption)
    | exact dn2 (by assumption)
    | exact dn3 (by assumption)
    | exact dn4 (by assumption)
    | exact dn5 (decide_eq_false (by assumption))
end Mine

namespace Mine
def tab9 : List Str := [Str.ofString "_", Str.ofString "_", Str.ofString "_", Str.ofString "a", Str.ofString "B", Str.ofString "7", Str.ofString "-", Str.ofString " ", ⟨#[65343]⟩]
def sign (x : Int) : PySem.Str := tab9.getD (x.fmod 9).toNat Str.empty
theorem sign_one (x : Int) : (sign x).length = 1 := by
  have h1 := fmod_lo x (n := 9) (by decide)
  have h2 := fmod_hi x (n := 9) (by decide)
  unfold sign
  have h3 : (x.fmod 9).toNat < 9 := by omega
  revert h3
  generalize (x.fmod 9).toNat = i
  exact (by decide +kernel : ∀ i, i < 9 → (tab9.getD i Str.empty).length = 1) i
def Jtold (x : Str) (tx : Tok) (l : Addr) (Z : List (Addr × Obj)) (ps : List (Int × Int)) (b : Nat) (m : Str → Option Value) (nx : List (Addr × Obj)) : Prop :=
  ∃ us c tups, nx = (l, listOf us.toArray c) :: (tups ++ Z) ∧ DatAll tups us (ps.map pDat) ∧ us.length ≤ b ∧ (∀ p ∈ tups, p.1 ≠ l) ∧ (∀ p ∈ Z, p.1 ≠ l) ∧ (∀ p ∈ tups, ∀ q ∈ Z, p.1 ≠ q.1) ∧
    m (Str.ofString "text") = some (.str x tx) ∧ m (Str.ofString "told") = some (.ref l)
def Ji (x : Str) (tx : Tok) (l : Addr) (Z : List (Addr × Obj)) (i : Nat) (m : Str → Option Value) (nx : List (Addr × Obj)) : Prop :=
  Jtold x tx l Z (pairsTo x i) (100 * i) m nx
def Jj (x : Str) (tx : Tok) (l : Addr) (Z : List (Addr × Obj)) (i : Nat) (ti : Tok) (k : Nat) (m : Str → Option Value) (nx : List (Addr × Obj)) : Prop :=
  Jtold x tx l Z (pairsTo x i ++ rowTo x (0 + (i : Int)) k) (100 * i + k) m nx ∧ m (Str.ofString "i") = some (.int (0 + (i : Int)) ti)
theorem datAll_snoc {news : List (Addr × Obj)} {v : Value} {d : Dat} (h : DatIn news v d) : ∀ {vs : List Value} {ds : List Dat}, DatAll news vs ds → DatAll news (vs ++ [v]) (ds ++ [d])
  | _, _, .nil => .cons h .nil
  | _, _, .cons a r => .cons a (datAll_snoc h r)
theorem mem_rot {I a : Addr × Obj} {tups Z : List (Addr × Obj)} {p : Addr × Obj} (hp : p ∈ a :: (tups ++ I :: Z)) : p ∈ I :: a :: (tups ++ Z) := by
  rcases List.mem_cons.mp hp with rfl | hp
  · exact List.Mem.tail _ (List.Mem.head _)
  · rcases List.mem_append.mp hp with hp | hp
    · exact List.Mem.tail _ (List.Mem.tail _ (List.mem_append_left _ hp))
    · rcases List.mem_cons.mp hp with rfl | hp
      · exact List.Mem.head _
      · exact List.Mem.tail _ (List.Mem.tail _ (List.mem_append_right _ hp))
theorem three_ne {a b c l : Addr} {oa ob oc : Obj} (h : a < l ∧ b < l ∧ c < l) : ∀ p ∈ [(a, oa), (b, ob), (c, oc)], p.1 ≠ l := by
  intro p hp
  rcases List.mem_cons.mp hp with rfl | hp
  · exact Nat.ne_of_lt h.1
  · rcases List.mem_cons.mp hp with rfl | hp
    · exact Nat.ne_of_lt h.2.1
    · rcases List.mem_cons.mp hp with rfl | hp
      · exact Nat.ne_of_lt h.2.2
      · cases hp
theorem newTuple_mine {M : Model} {A : Around} {E : Value → Shared → Prop} {s : Shared} {L : Addr} {h₀ : Heap} {m : Str → Option Value} {news : List (Addr × Obj)} {vs : List Value} {Q : Value → Shared → Prop} (F : Fr h₀ L s.heap m) (N : News h₀ L s.heap news)
    (h : ∀ l h', Fr h₀ L h' m → News h₀ L h' ((l, { cls := .type "tuple", data := .seq vs.toArray }) :: news) → (∀ p ∈ news, p.1 < l) → Q (.ref l) { s with heap := h' }) (hsz : vs.length ≤ sizeLine) : wpAny M A (newTuple vs) Q E s :=
  newTuple_N F N (fun h' F' N' => h _ h' F' N' fun p hp => Heap.lt_size (N p hp).1) hsz
theorem told_more {x : Str} {i k : Nat} {tups Z : List (Addr × Obj)} {us : List Value} {a : Addr} {t u : Tok} {n : Nat}
    (hc : dunB (Txt.slice x (some (0 + (i : Int))) (some (0 + (i : Int) + (k : Int)))) = true) (h : DatAll tups us ((pairsTo x i ++ rowTo x (0 + (i : Int)) k).map pDat)) :
    DatAll ((a, ({ cls := .type "tuple", data := .seq [Value.int (0 + (i : Int)) t, Value.int (0 + (i : Int) + (k : Int)) u].toArray n } : Obj)) :: tups) (us ++ [.ref a]) ((pairsTo x i ++ rowTo x (0 + (i : Int)) (k + 1)).map pDat) := by
  unfold rowTo
  rw [if_pos hc, ← List.append_assoc, List.map_append (l₂ := [_])]
  exact (h.mono fun p hp => List.Mem.tail _ hp).append (.one (.tuple (List.Mem.head _) (.cons (.int _ _) (.cons (.int _ _) .nil))))
theorem told_same {x : Str} {i k : Nat} {tups : List (Addr × Obj)} {us : List Value}
    (hc : dunB (Txt.slice x (some (0 + (i : Int))) (some (0 + (i : Int) + (k : Int)))) = false) (h : DatAll tups us ((pairsTo x i ++ rowTo x (0 + (i : Int)) k).map pDat)) :
    DatAll tups us ((pairsTo x i ++ rowTo x (0 + (i : Int)) (k + 1)).map pDat) := by
  unfold rowTo
  rw [if_neg (by rw [hc]; exact Bool.false_ne_true), List.append_nil]
  exact h
theorem told_end {h₀ : Heap} {L : Addr} {J : (Str → Option Value) → List (Addr × Obj) → Prop} {I : Addr} {oI : Obj} {s₁ : Shared} {h' : Heap} {tk : Nat} {m' : Str → Option Value} {a : Addr × Obj} {tups Z : List (Addr × Obj)}
    (F : Fr h₀ L h' m') (N : News h₀ L h' (a :: (tups ++ (I, oI) :: Z))) (hI : ∀ p ∈ a :: (tups ++ Z), p.1 ≠ I) (hj : J m' (a :: (tups ++ Z))) :
    LEnd h₀ L J I oI s₁ { s₁ with heap := h', toks := tk } := LEnd.intro F N _ (fun p hp => by
      rcases List.mem_cons.mp hp with rfl | hp
      · exact List.Mem.tail _ (List.mem_append_right _ (List.Mem.head _))
      · rcases List.mem_cons.mp hp with rfl | hp
        · exact List.Mem.head _
        · rcases List.mem_append.mp hp with hp | hp
          · exact List.Mem.tail _ (List.mem_append_left _ hp)
          · exact List.Mem.tail _ (List.mem_append_right _ (List.Mem.tail _ hp))) hI hj
theorem append_tup {prog : Program} {w : World} {A : Around} {E : Value → Shared → Prop} {s : Shared} {h₀ : Heap} {L D a9 I : Addr} {o9 oI : Obj} {m : Str → Option Value} {us : List Value} {n : Nat} {v : Value} {R : List (Addr × Obj)} {Q : Value → Shared → Prop}
    (F : Fr h₀ L s.heap m) (N : News h₀ L s.heap ((a9, o9) :: (I, oI) :: (D, listOf us.toArray n) :: R)) (h1 : I ≠ D) (h2 : a9 ≠ D) (h3 : ∀ p ∈ R, p.1 ≠ D) (hsz : us.length ≤ 1000000)
    (h : ∀ h', Fr h₀ L h' m → News h₀ L h' ((D, listOf (us ++ [v]).toArray (n + 1)) :: (I, oI) :: (a9, o9) :: R) → Q .none { s with heap := h' }) :
    wpAny (model prog w) A (call (.builtin "list.append") [.ref D, v]) Q E s :=
  append_mine ((I, oI) :: (a9, o9) :: R) F N (List.Mem.tail _ (List.Mem.tail _ (List.Mem.head _)))
    (List.forall_mem_cons.mpr ⟨⟨List.Mem.tail _ (List.Mem.head _), h1⟩, List.forall_mem_cons.mpr ⟨⟨List.Mem.head _, h2⟩, fun p hp => ⟨List.Mem.tail _ (List.Mem.tail _ (List.Mem.tail _ hp)), h3 p hp⟩⟩⟩) hsz h
theorem storeC_here {M : Model} {A : Around} {E : Value → Shared → Prop} {s : Shared} {h₀ : Heap} {L a c : Addr} {m : Str → Option Value} {cn : Str} {cs : Scope} {ccd : Value} {cl : List (Str × Addr)}
    {x : Str} {v : Value} {Q : Unit → Shared → Prop} {a1 a2 a3 b1 b2 : Addr × Obj} {tups : List (Addr × Obj)} {o : Obj} {v₀ : Option Value}
    (F : Fr h₀ L s.heap m) (N : News h₀ L s.heap (a1 :: a2 :: a3 :: (tups ++ [b1, b2, (c, o)]))) (hd : o.data = .cell v₀) (h1 : a1.1 ≠ c) (h2 : a2.1 ≠ c) (h3 : a3.1 ≠ c) (ht : ∀ p ∈ tups, p.1 ≠ c) (hc : cl.lookup x = some c)
    (h : ∀ h' o', Fr h₀ L h' m → News h₀ L h' ((c, o') :: a1 :: a2 :: a3 :: tups) → o'.data = .cell (some v) → Q () { s with heap := h' })
    (hk : cs.kind = .function := by rfl) (hx : (envX cn cs L a ccd cl).kindOf x = some .cell := by rfl) : wpAny M A (storeName (envX cn cs L a ccd cl) x v) Q E s := by
  have hmem := N (c, o) (List.Mem.tail _ (List.Mem.tail _ (List.Mem.tail _ (List.mem_append_right _ (List.Mem.tail _ (List.Mem.tail _ (List.Mem.head _)))))))
  refine wpAny_storeName_cell hk hx hc ⟨o, hmem.1, hd⟩ fun h' hv hs => ?_
  obtain ⟨o', ho', hd'⟩ := hv
  have keepP : ∀ p : Addr × Obj, p ∈ a1 :: a2 :: a3 :: (tups ++ [b1, b2, (c, o)]) → p.1 ≠ c → h'.get? p.1 = some p.2 ∧ p.1 ≠ L ∧ h₀.get? p.1 = none := fun p hp hne => ⟨(hs.2 p.1 hne).trans (N p hp).1, (N p hp).2⟩
  refine h h' o' ⟨F.ns.sameBut hs (Ne.symm hmem.2.1), fun b ob e => (hs.2 b (fun q => ?_)).trans (F.keep b ob e), F.above⟩ ?_ hd'
  · rw [q, hmem.2.2] at e; cases e
  · refine List.forall_mem_cons.mpr ⟨⟨ho', hmem.2⟩, List.forall_mem_cons.mpr ⟨keepP _ (List.Mem.head _) h1, List.forall_mem_cons.mpr ⟨keepP _ (List.Mem.tail _ (List.Mem.head _)) h2, List.forall_mem_cons.mpr ⟨keepP _ (List.Mem.tail _ (List.Mem.tail _ (List.Mem.head _))) h3, fun p hp => keepP p (List.Mem.tail _ (List.Mem.tail _ (List.Mem.tail _ (List.mem_append_left _ hp)))) (ht p hp)⟩⟩⟩⟩
section
variable {x : Str} {k : Nat} {us : List Value} {t : Tok}
theorem win_more (h1 : (Txt.item x (2 + (k : Int)) != Str.ofString "_") = true) (h2 : (Txt.item x (2 + (k : Int) - 1) ++ Txt.item x (2 + (k : Int) - 2) == Str.ofString "__") = true) (h : IntsAre us (winTo x k)) : IntsAre (us ++ [.int (2 + (k : Int)) t]) (winTo x (k + 1)) := by
  unfold winTo; rw [if_pos (by rw [h1, h2]; rfl)]; exact IntsAre.append h (.cons _ _ .nil)
theorem win_same1 (h1 : (Txt.item x (2 + (k : Int)) != Str.ofString "_") = false) (h : IntsAre us (winTo x k)) : IntsAre us (winTo x (k + 1)) := by
  unfold winTo; rw [if_neg (by rw [h1]; exact Bool.false_ne_true), List.append_nil]; exact h
theorem win_same2 (h2 : (Txt.item x (2 + (k : Int) - 1) ++ Txt.item x (2 + (k : Int) - 2) == Str.ofString "__") = false) (h : IntsAre us (winTo x k)) : IntsAre us (winTo x (k + 1)) := by
  unfold winTo; rw [if_neg (by rw [h2, Bool.and_false]; exact Bool.false_ne_true), List.append_nil]; exact h
theorem wout_more (h1 : (Txt.item x (2 + (k : Int)) != Str.ofString "_") = true) (h2 : (Txt.item x (2 + (k : Int) + 1) ++ Txt.item x (2 + (k : Int) + 2) == Str.ofString "__") = true) (h : IntsAre us (woutTo x k)) : IntsAre (us ++ [.int (2 + (k : Int)) t]) (woutTo x (k + 1)) := by
  unfold woutTo; rw [if_pos (by rw [h1, h2]; rfl)]; exact IntsAre.append h (.cons _ _ .nil)
theorem wout_same1 (h1 : (Txt.item x (2 + (k : Int)) != Str.ofString "_") = false) (h : IntsAre us (woutTo x k)) : IntsAre us (woutTo x (k + 1)) := by
  unfold woutTo; rw [if_neg (by rw [h1]; exact Bool.false_ne_true), List.append_nil]; exact h
theorem wout_same2 (h2 : (Txt.item x (2 + (k : Int) + 1) ++ Txt.item x (2 + (k : Int) + 2) == Str.ofString "__") = false) (h : IntsAre us (woutTo x k)) : IntsAre us (woutTo x (k + 1)) := by
  unfold woutTo; rw [if_neg (by rw [h2, Bool.and_false]; exact Bool.false_ne_true), List.append_nil]; exact h
end
theorem ne4 {a : Addr × Obj} {b c I : Addr} {ob oc ob' oc' : Obj} {R : List (Addr × Obj)} (h : ∀ p ∈ a :: (b, ob) :: (c, oc) :: R, p.1 ≠ I) : ∀ p ∈ a :: (b, ob') :: (c, oc') :: R, p.1 ≠ I :=
  List.forall_mem_cons.mpr ⟨h a (List.Mem.head _), List.forall_mem_cons.mpr ⟨h (b, ob) (List.Mem.tail _ (List.Mem.head _)), List.forall_mem_cons.mpr ⟨h (c, oc) (List.Mem.tail _ (List.Mem.tail _ (List.Mem.head _))), fun p hp => h p (List.Mem.tail _ (List.Mem.tail _ (List.Mem.tail _ hp)))⟩⟩⟩
def Jk (x : Str) (tx : Tok) (l li lo : Addr) (ce : Addr × Obj) (R : List (Addr × Obj)) (k : Nat) (m : Str → Option Value) (nx : List (Addr × Obj)) : Prop :=
  ∃ us c vs d, nx = ce :: (lo, listOf vs.toArray d) :: (li, listOf us.toArray c) :: R ∧ IntsAre us (winTo x k) ∧ IntsAre vs (woutTo x k) ∧ us.length ≤ k ∧ vs.length ≤ k ∧
    m (Str.ofString "text") = some (.str x tx) ∧ m (Str.ofString "told") = some (.ref l) ∧ m (Str.ofString "ways_in") = some (.ref li)
theorem pDat_ok (ps : List (Int × Int)) : ∀ d ∈ ps.map pDat, kqdOk 8 d = true := by
  intro d hd
  obtain ⟨p, _, rfl⟩ := List.mem_map.mp hd
  rfl
open Classical in
theorem kqd_same {prog : Program} {w : World} {A : Around} {E : Value → Shared → Prop} {s : Shared} {h₀ : Heap} {L a b : Addr} {news n₁ n₂ : List (Addr × Obj)} {oa ob : Obj} {xs ys : List Value} {ka kb : Nat} {ds es : List Dat} {Q : Value → Shared → Prop}
    (N : News h₀ L s.heap news) (ma : (a, oa) ∈ news) (ca : oa.cls = .type "list") (da : oa.data = .seq xs.toArray ka) (Da : DatAll n₁ xs ds) (sa : ∀ p ∈ n₁, p ∈ news)
    (mb : (b, ob) ∈ news) (cb : ob.cls = .type "list") (db : ob.data = .seq ys.toArray kb) (Db : DatAll n₂ ys es) (sb : ∀ p ∈ n₂, p ∈ news)
    (ha : ∀ d ∈ ds, kqdOk 8 d = true) (hb : ∀ d ∈ es, kqdOk 8 d = true) (hu : A.units + 64 < cLine) (e : ds = es) (h : Q (.bool true) s) : wpAny (model prog w) A (compareOp .Eq (.ref a) (.ref b)) Q E s :=
  kqd_eq N ma ca da Da sa mb cb db Db sb ha hb hu (by rw [decide_eq_true e]; exact h)
theorem allLt_mem {d : Nat} : ∀ {l : List (Addr × Obj)}, AllLt d l → ∀ p ∈ l, p.1 < d
  | [], _, _, h => nomatch h
  | _ :: _, h, p, hp => by
    rcases List.mem_cons.mp hp with rfl | hp
    · exact h.1
    · exact allLt_mem h.2 p hp
section
variable {w : World} {news : List (Addr × Obj)} {loose : List Str} {mean : ExcName → Option Value} {mg mb : Str → Option Value} {dp un : Nat} {gd : Option (List Code)} {cn : Str} {cs : Scope} {a : Addr} {ccd : Value} {cl : List (Str × Addr)} {outer : List Env} {A₀ : Around} {base h₀ : Heap} {L : Addr} {m : Str → Option Value} {s : Shared} {Q E : Value → Shared → Prop}
theorem dun_call {x : Str} {t : Tok} (B : Below A₀ base outer h₀) (F : Fr h₀ L s.heap m) (X : (Mine.hd.heap_39 w.params).In h₀) (N : News h₀ L s.heap news) (T : Top Mine.hd.view_39 loose mean mg mb h₀) (hk : cs.kind = .function) (hp : x.length ≤ 100)
    (hd : dp + 1 < recursionLimit) (hu : un + 8 < cLine) (ret : ∀ (_ : Tok) h' tk', Fr h₀ L h' m → News h₀ L h' news → Q (.bool (dunB x)) { s with heap := h', toks := tk' }) :
    wpAny (model Challenge.rw_dm0104_02.row.prog w) (ktrTop dp un gd cn cs L a ccd cl outer) (call (.ref 21) [.str x t]) Q E s :=
  dun_spec w news x t loose mean mg mb dp un gd cn cs a ccd cl outer A₀ base h₀ L m s Q E B F X N T hk hp hd hu ret
end
end Mine
local macro_rules | `(tactic| walk_at "call ref") => `(tactic| (k_here; (with_reducible show wpAny _ _ (call (Value.ref 21) _) _ _ _); k_dflt (refine Mine.dun_call (by k_asm) (by k_asm) (by k_asm) (by k_asm) (by k_asm) rfl (by omega) (by ktr_room) (by ktr_units) ?_); intro t9 h9 tk9 F9 N9; (try dsimp only); (try k_fold)))
local macro_rules | `(tactic| walk_at "CompSrc") => `(tactic| (k_here; (try k_fmods); (try kcf_lens); k_dflt (refine LCg.CompSrc.ledger (by rfl) (by k_asm) (by k_asm) (by k_mem) (by kcf_size) ?_; intro g'; (refine' kct_list Mine.sign (by first | assumption | l_ints) (fun k' t' I' oI' C' oC' D' m' ys' h' tk' E' hk' hC' hx' F' N' off' ne' hMark' => ?_) ?_); (all_goals (try (simp only [LCg.Off3, and_true] at off'))); kcf_last)))
local macro_rules | `(tactic| walk_at "CompEnd") => `(tactic| ((refine' Mine.ct_end ?kF ?kN ?kr ?ks ?ko ?kS; (case kF => assumption); (case kN => assumption); (case kr => (with_unfolding_all rfl)); (case ks => kcf_all); (case ko => first | assumption | (simp only [LCg.Off3, and_true]; done) | (simp only [LCg.Off3, and_true]; assumption)); (case kS => first | lcg_src | assumption))))
local macro_rules | `(tactic| walk_at "call builtin:str.join") => `(tactic| (k_here; (with_reducible show wpAny _ _ (call (Value.builtin "str.join") [Value.str _ _, Value.ref _]) _ _ _); (with_reducible rename CarriedAll _ (List.map _ _) => ktC); (refine Mine.join_any (by first | assumption | is_list | exact News.isList (by k_asm) (by k_mem)) ktC (fun a _ => Mine.sign_one a) (by first | omega | kt_fact) ?_; intro d' t' k' hd')))
local macro_rules | `(tactic| walk_at "binaryOp Add str str") => `(tactic| (k_here; (with_reducible show wpAny _ _ (binaryOp Operator.Add (Value.str (Str.ofString "__") _) (Value.str _ _)) _ _ _); (refine Mine.add_any 2 16 (by decide +kernel) (by omega) (by decide) ?_; intro z' t' k' hz')))
local macro_rules | `(tactic| walk_at "binaryOp Add str str") => `(tactic| (k_here; (with_reducible show wpAny _ _ (binaryOp Operator.Add (Value.str _ _) (Value.str (Str.ofString "__") _)) _ _ _); (refine Mine.add_any 18 2 (by omega) (by decide +kernel) (by decide) ?_; intro z' t' k' hz')))
local macro_rules | `(tactic| walk_at "exec For Name Call cons nil") => `(tactic| (k_here; (rename Fr _ _ _ _ => lF'); (with_unfolding_all refine' For_invVF lF' ?k1 ?k2 ?_; (case k1 => exact rfl); (case k2 => exact rfl); k_whole)))
local macro_rules | `(tactic| walk_at "pyIter ref") => `(tactic| ((with_reducible show wpAny _ _ (pyIter (Value.ref _)) (fun it s₂ => LoopAtV _ _ _ _ _ _ _ _ _ it s₂) _ _); refine Mine.stop ?_))
local macro_rules | `(tactic| walk_at "LPost") => `(tactic| (dsimp only [Mine.LPost]))
local macro_rules | `(tactic| walk_at "call builtin:list.append") => `(tactic| ((with_reducible show wpAny _ _ (call (Value.builtin _) [Value.ref _, _]) _ _ _); refine Mine.stop ?_))
local macro_rules | `(tactic| walk_at "newTuple") => `(tactic| ((with_reducible show wpAny _ _ (newTuple _) _ _ _); refine Mine.stop ?_))
local macro_rules | `(tactic| walk_at "storeName") => `(tactic| ((with_reducible show wpAny _ _ (storeName _ (Str.ofString "ways_out") _) _ _ _); refine Mine.stop ?_))
local macro_rules | `(tactic| walk_at "compareOp Eq str str") => `(tactic| ((try dsimp only); (with_reducible refine eq_str ?_)))
local macro_rules | `(tactic| walk_at "compareOp NotEq str str") => `(tactic| ((try dsimp only); (with_reducible refine ne_str ?_)))
local macro_rules | `(tactic| walk_at "eval ListComp") => `(tactic| ((with_reducible show wpAny _ _ (eval (Expr.ListComp _ [_, _] _ _) _) _ _ _); refine Mine.stop ?_))
theorem PySem.Challenge.cw_dm0104_02_holds : PySem.Challenge.rw_dm0104_02.Holds := by
  refine Mine.hd ?_
  k_with "table" => skip
  k_go0
  (all_goals try k_fold)
  k_steps
  refine Mine.go ?_
  dsimp only
  rename Fr _ _ _ _ => lF
  rename News _ _ _ _ => lN
  rename IsRange _ _ _ _ _ _ _ _ => rgX
  rename @LT.lt Nat _ _ _ ∧ @LT.lt Nat _ _ _ ∧ @LT.lt Nat _ _ _ => hZ
  with_unfolding_all refine' Mine.range_loop (Mine.Ji _ _ _ _) rfl rgX (small_one (by omega) (by omega) (by omega) (by omega)) (rangeSize_nat _ _) lF lN ⟨[], 0, [], rfl, .nil, Nat.le_refl _, List.forall_mem_nil _, Mine.three_ne hZ, List.forall_mem_nil _, rfl, rfl⟩ (fun i t m nx h tk I oI hi hJ hne F' N' => ?_) (fun m nx h tk hJ F' N' => ?_)
  · obtain ⟨us, c, tups, rfl, hus, hlen, htl, hZl, htz, hm1, hm2⟩ := hJ
    have F'' := Mine.frKnows [(Str.ofString "text", _), (Str.ofString "told", _)] (List.forall_mem_cons.mpr ⟨hm1, List.forall_mem_cons.mpr ⟨hm2, List.forall_mem_nil _⟩⟩) F'
    dsimp only [kstB] at F''
    clear F' hm1 hm2 lF lN rgX
    dsimp only
    (try k_fold)
    k_steps
    refine Mine.go ?_
    dsimp only
    rename Fr _ _ _ _ => lF
    rename News _ _ _ _ => lN
    rename IsRange _ _ _ _ _ _ _ _ => rgX
    have hIl := hne _ (List.Mem.head _)
    have lN2 := kst_newsOf lN (fun p hp => Mine.mem_rot (I := (I, oI)) hp)
    with_unfolding_all refine' Mine.range_loop (Mine.Jj _ _ _ _ i _) rfl rgX (small_one (by omega) (by omega) (by omega) (by omega)) (rangeSize_nat _ _) lF lN2 ⟨⟨us, c, tups, rfl, (by simpa [Mine.rowTo] using hus), (by omega), htl, List.forall_mem_cons.mpr ⟨fun e => hIl e.symm, hZl⟩, (fun p hp => List.forall_mem_cons.mpr ⟨hne p (List.Mem.tail _ (List.mem_append_left _ hp)), htz p hp⟩), rfl, rfl⟩, rfl⟩ (fun k t m nx h tk I2 oI2 hk hJ hne2 F' N' => ?_) (fun m nx h tk hJ F' N' => ?_)
    · obtain ⟨⟨us2, c2, tups2, rfl, hus2, hlen2, htl2, hZl2, htz2, hm1, hm2⟩, hm3⟩ := hJ
      have F'' := Mine.frKnows [(Str.ofString "text", _), (Str.ofString "told", _), (Str.ofString "i", _)] (List.forall_mem_cons.mpr ⟨hm1, List.forall_mem_cons.mpr ⟨hm2, List.forall_mem_cons.mpr ⟨hm3, List.forall_mem_nil _⟩⟩⟩) F'
      dsimp only [kstB] at F''
      clear F' hm1 hm2 hm3 lF lN lN2 rgX
      dsimp only
      (try k_fold)
      k_steps
      · refine Mine.go ?_
        (try dsimp only)
        refine Mine.newTuple_mine (by k_asm) (by k_asm) ?_ (by size_fits)
        intro l9 h9 F9 N9 hl9
        (try dsimp only)
        (try k_fold)
        k_steps
        refine Mine.go ?_
        (try dsimp only)
        rename Fr _ _ _ _ => lF
        rename News _ _ _ _ => lN
        rename ∀ p ∈ (I2, oI2) :: _, p.1 < _ => hlt
        have hl2 := hne2 _ (List.Mem.head _)
        refine Mine.append_tup lF lN (fun e => hl2 e.symm) (Nat.ne_of_gt (hlt _ (List.Mem.tail _ (List.Mem.head _)))) (fun p hp => ?_) (by omega) ?_
        · rcases List.mem_append.mp hp with hp | hp
          · exact htl2 p hp
          · exact hZl2 p hp
        · intro h9 F9 N9
          clear lF lN
          dsimp only
          (try k_fold)
          k_steps
          refine Mine.LEnd.intro2 (by assumption) N9 ?_ ⟨⟨_, _, (_, _) :: tups2, rfl, Mine.told_more (Z := []) (by assumption) hus2, ?_, ?_, hZl2, ?_, by with_unfolding_all rfl, by with_unfolding_all rfl⟩, by with_unfolding_all rfl⟩
          · exact List.forall_mem_cons.mpr ⟨hl2, List.forall_mem_cons.mpr ⟨Nat.ne_of_gt (hlt _ (List.Mem.head _)), fun p hp => hne2 p (List.Mem.tail _ hp)⟩⟩
          · rw [List.length_append, List.length_singleton]; omega
          · exact List.forall_mem_cons.mpr ⟨Nat.ne_of_gt (hlt _ (List.Mem.tail _ (List.Mem.head _))), htl2⟩
          · exact List.forall_mem_cons.mpr ⟨fun q hq => Nat.ne_of_gt (hlt _ (List.Mem.tail _ (List.Mem.tail _ (List.mem_append_right _ hq)))), htz2⟩
      · refine Mine.LEnd.intro (by assumption) (by assumption) _ (fun p hp => hp) hne2 ⟨⟨_, _, tups2, rfl, Mine.told_same (by assumption) hus2, by omega, htl2, hZl2, htz2, by with_unfolding_all rfl, by with_unfolding_all rfl⟩, by with_unfolding_all rfl⟩
    · obtain ⟨⟨us2, c2, tups2, rfl, hus2, hlen2, htl2, hZl2, htz2, hm1, hm2⟩, hm3⟩ := hJ
      clear lF lN lN2 rgX
      dsimp only
      (try k_fold)
      k_steps
      refine Mine.told_end (by assumption) (by assumption) ?_ ⟨us2, c2, tups2, rfl, hus2, ?_, htl2, hZl, fun p hp q hq => htz2 p hp q (List.Mem.tail _ hq), hm1, hm2⟩
      · refine List.forall_mem_cons.mpr ⟨hIl, fun p hp => ?_⟩
        rcases List.mem_append.mp hp with hp | hp
        · exact htz2 p hp _ (List.Mem.head _)
        · exact hne p (List.Mem.tail _ (List.mem_append_right _ hp))
      · omega
  · obtain ⟨us, c, tups, rfl, hus, hlen, htl, hZl, htz, hm1, hm2⟩ := hJ
    have F'' := Mine.frKnows0 [(Str.ofString "text", _), (Str.ofString "told", _)] (List.forall_mem_cons.mpr ⟨hm1, List.forall_mem_cons.mpr ⟨hm2, List.forall_mem_nil _⟩⟩) F'
    dsimp only [kstB] at F''
    clear F' hm1 hm2 lF lN rgX
    (try dsimp only)
    (try k_fold)
    k_steps
    refine Mine.go ?_
    rename Fr _ _ _ _ => lF
    rename News _ _ _ _ => lN
    rename _ ∧ _ ∧ AllLt _ _ => hl3
    rename _ ∧ AllLt _ _ => hl2
    rename Obj.data _ = _ => hcell
    have hc3 := Mine.allLt_mem hl3.2.2 _ (List.mem_append_right _ (List.Mem.tail _ (List.Mem.tail _ (List.Mem.head _))))
    have hc2 := Mine.allLt_mem hl2.2 _ (List.mem_append_right _ (List.Mem.tail _ (List.Mem.tail _ (List.Mem.head _))))
    have hc1 := hZl _ (List.Mem.tail _ (List.Mem.tail _ (List.Mem.head _)))
    k_dflt (refine Mine.storeC_here lF lN hcell (Nat.ne_of_gt hc3) (Nat.ne_of_gt hc2) (fun e => hc1 e.symm) (fun p hp => htz p hp _ (List.Mem.tail _ (List.Mem.tail _ (List.Mem.head _)))) rfl ?_)
    intro h9 o9 F9 N9 d9
    clear lF lN
    dsimp only at d9 ⊢
    (try k_fold)
    k_steps
    refine Mine.go ?_
    (try dsimp only)
    rename Fr _ _ _ _ => lF
    rename News _ _ _ _ => lN
    rename IsRange _ _ _ _ _ _ _ _ => rgX
    have q1 : ∀ p ∈ tups, p.1 < _ := fun p hp => Mine.allLt_mem hl2.2 p (List.mem_append_left _ hp)
    have q2 : ∀ p ∈ tups, p.1 < _ := fun p hp => Mine.allLt_mem hl3.2.2 p (List.mem_append_left _ hp)
    have hio := hl3.1
    have hl_i := hl2.1
    have hl_o := hl3.2.1
    dsimp only at hc1 hc2 hc3
    clear hl2 hl3
    with_unfolding_all refine' Mine.range_loop (Mine.Jk _ _ _ _ _ _ _) rfl rgX (small_one (by omega) (by omega) (by omega) (by omega)) (rangeSize_nat _ _) lF lN ⟨[], 0, [], 0, rfl, .nil, .nil, Nat.le_refl _, Nat.le_refl _, rfl, rfl, rfl⟩ (fun k t m nx h tk I oI hk hJ hne F' N' => ?_) (fun m nx h tk hJ F' N' => ?_)
    · obtain ⟨us2, c2, vs2, d2, rfl, hus2, hvs2, hlu, hlv, hm1, hm2, hm3⟩ := hJ
      have F'' := Mine.frKnows [(Str.ofString "text", _), (Str.ofString "told", _), (Str.ofString "ways_in", _)] (List.forall_mem_cons.mpr ⟨hm1, List.forall_mem_cons.mpr ⟨hm2, List.forall_mem_cons.mpr ⟨hm3, List.forall_mem_nil _⟩⟩⟩) F'
      dsimp only [kstB] at F''
      clear F' hm1 hm2 hm3 lF lN rgX
      have n1 := hne _ (List.Mem.head _)
      have n2 := hne _ (List.Mem.tail _ (List.Mem.head _))
      have n3 := hne _ (List.Mem.tail _ (List.Mem.tail _ (List.Mem.head _)))
      (try dsimp only at n1 n2 n3 ⊢)
      (try k_fold)
      k_steps
      · refine Mine.go ?_
        (try dsimp only)
        refine append_K (by k_asm) (by k_asm) (Upd.tail (fun e => n3 e.symm) (Upd.tail (Nat.ne_of_lt hc2) (Upd.tail (Nat.ne_of_gt hio) (Upd.head (List.forall_mem_cons.mpr ⟨Nat.ne_of_lt hl_i, fun p hp => Nat.ne_of_lt (q1 p hp)⟩))))) ?_ (by rw [List.size_toArray, PySem.sizeLine_eq]; omega)
        intro h9 F9 N9
        simp only [List.push_toArray] at N9
        (try dsimp only)
        (try k_fold)
        k_steps
        · refine Mine.go ?_
          (try dsimp only)
          refine append_K (by k_asm) (by k_asm) (Upd.tail (fun e => n2 e.symm) (Upd.tail (Nat.ne_of_lt hc3) (Upd.head (List.forall_mem_cons.mpr ⟨Nat.ne_of_lt hio, List.forall_mem_cons.mpr ⟨Nat.ne_of_lt hl_o, fun p hp => Nat.ne_of_lt (q2 p hp)⟩⟩)))) ?_ (by rw [List.size_toArray, PySem.sizeLine_eq]; omega)
          intro h9 F9 N9
          simp only [List.push_toArray] at N9
          (try dsimp only)
          (try k_fold)
          k_steps
          refine Mine.LEnd.intro (by assumption) (by assumption) _ (fun p hp => hp) (Mine.ne4 hne) ⟨_, _, _, _, rfl, Mine.win_more (by assumption) (by assumption) hus2, Mine.wout_more (by assumption) (by assumption) hvs2, by (rw [List.length_append, List.length_singleton]; omega), by (rw [List.length_append, List.length_singleton]; omega), by with_unfolding_all rfl, by with_unfolding_all rfl, by with_unfolding_all rfl⟩
        · refine Mine.LEnd.intro (by assumption) (by assumption) _ (fun p hp => hp) (Mine.ne4 hne) ⟨_, _, _, _, rfl, Mine.win_more (by assumption) (by assumption) hus2, Mine.wout_same2 (by assumption) hvs2, by (rw [List.length_append, List.length_singleton]; omega), by omega, by with_unfolding_all rfl, by with_unfolding_all rfl, by with_unfolding_all rfl⟩
      · refine Mine.go ?_
        (try dsimp only)
        refine append_K (by k_asm) (by k_asm) (Upd.tail (fun e => n2 e.symm) (Upd.tail (Nat.ne_of_lt hc3) (Upd.head (List.forall_mem_cons.mpr ⟨Nat.ne_of_lt hio, List.forall_mem_cons.mpr ⟨Nat.ne_of_lt hl_o, fun p hp => Nat.ne_of_lt (q2 p hp)⟩⟩)))) ?_ (by rw [List.size_toArray, PySem.sizeLine_eq]; omega)
        intro h9 F9 N9
        simp only [List.push_toArray] at N9
        (try dsimp only)
        (try k_fold)
        k_steps
        refine Mine.LEnd.intro (by assumption) (by assumption) _ (fun p hp => hp) (Mine.ne4 hne) ⟨_, _, _, _, rfl, Mine.win_same2 (by assumption) hus2, Mine.wout_more (by assumption) (by assumption) hvs2, by omega, by (rw [List.length_append, List.length_singleton]; omega), by with_unfolding_all rfl, by with_unfolding_all rfl, by with_unfolding_all rfl⟩
      · refine Mine.LEnd.intro (by assumption) (by assumption) _ (fun p hp => hp) (Mine.ne4 hne) ⟨_, _, _, _, rfl, Mine.win_same2 (by assumption) hus2, Mine.wout_same2 (by assumption) hvs2, by omega, by omega, by with_unfolding_all rfl, by with_unfolding_all rfl, by with_unfolding_all rfl⟩
      · refine Mine.LEnd.intro (by assumption) (by assumption) _ (fun p hp => hp) (Mine.ne4 hne) ⟨_, _, _, _, rfl, Mine.win_same1 (by assumption) hus2, Mine.wout_same1 (by assumption) hvs2, by omega, by omega, by with_unfolding_all rfl, by with_unfolding_all rfl, by with_unfolding_all rfl⟩
    · obtain ⟨us2, c2, vs2, d2, rfl, hus2, hvs2, hlu, hlv, hm1, hm2, hm3⟩ := hJ
      have F'' := Mine.frKnows0 [(Str.ofString "text", _), (Str.ofString "told", _), (Str.ofString "ways_in", _)] (List.forall_mem_cons.mpr ⟨hm1, List.forall_mem_cons.mpr ⟨hm2, List.forall_mem_cons.mpr ⟨hm3, List.forall_mem_nil _⟩⟩⟩) F'
      dsimp only [kstB] at F''
      clear F' hm1 hm2 hm3 lF lN rgX
      (try dsimp only)
      (try k_fold)
      k_steps
      refine Mine.go ?_
      k_dflt (refine Mine.listComp2 rfl (by with_unfolding_all rfl) (by decide) rfl (by decide) rfl rfl (by decide) (by k_asm) (by k_asm) (List.Mem.tail _ (List.Mem.tail _ (List.Mem.head _))) hus2 (List.Mem.tail _ (List.Mem.head _)) hvs2 (by omega) (by omega) ?_ (by intro _; rfl) (by intro _ _; rfl) ?_ ?_ ?_ ?_)
      · intro Q' hq
        k_steps
        exact hq
      · intro C oC m₂ h tk nx Q' E' hoC Fc Nc hsub hq
        k_dflt (refine kcf_cell Nc rfl (List.Mem.tail _ (hsub _ (List.Mem.head _))) d9 ?_)
        exact hq
      · intro C a ta oC m₂ b tb h tk nx Q' E' hoC hma hmb Fc Nc hq
        dsimp only
        k_steps
        exact hq _
      · intro C a ta oC m₂ b tb h tk nx Q' E' hoC hma hmb Fc Nc hq
        dsimp only
        k_steps
        refine Mine.go ?_
        refine wpAny_newObj_type ?_ (by size_fits)
        exact hq _ _ _
      · intro D h tk ys' tups' Fd Nd hDd
        dsimp only
        refine Mine.kqd_same Nd (List.Mem.tail _ (List.mem_append_right _ (List.Mem.tail _ (List.Mem.tail _ (List.Mem.tail _ (List.Mem.head _)))))) rfl rfl hus (fun p hp => List.Mem.tail _ (List.mem_append_right _ (List.Mem.tail _ (List.Mem.tail _ (List.Mem.tail _ (List.Mem.tail _ hp)))))) (List.Mem.head _) rfl rfl hDd (fun p hp => List.Mem.tail _ (List.mem_append_left _ hp)) (Mine.pDat_ok _) (Mine.pDat_ok _) (by ke_room) (congrArg (List.map Mine.pDat) (Mine.key2 _)) ?_
        (try dsimp only)
        k_steps
