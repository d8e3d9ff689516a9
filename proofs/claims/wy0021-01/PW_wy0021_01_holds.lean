import PyProof.Rows.All
import Wide.All
import OpenK.AllK
import Wide.FinOn
import PyProof.Rows.TupMore
import PySem.Challenge.RW_wy0021_01
set_option Elab.async false
set_option maxRecDepth 100000
set_option compiler.extract_closed false
section
-- head
open PySem PySem.W PyProof.Rows
set_option maxHeartbeats 8000000
namespace Mine.h0
noncomputable def tw14685398507169549952 : Nat := 0
noncomputable def tw11690648895027516738 : Nat := 0
noncomputable def tw15349995610973769477 : Nat := 0
noncomputable def tw5399416633737418813 : Nat := 0
noncomputable def tw7485729785921090478 : Nat := 0
noncomputable def tw15115227285349134899 : Nat := 0
noncomputable def tw11279733140764862496 : Nat := 0
noncomputable def tw4645312470688856400 : Nat := 0
noncomputable def tw7151018920805914906 : Nat := 0
noncomputable def tw12881190185606392260 : Nat := 0
noncomputable def tw5102168011218689200 : Nat := 0
noncomputable def tw8761390072549273962 : Nat := 0
noncomputable def tw10581528206292063721 : Nat := 0
noncomputable def tw2357534926536725478 : Nat := 0
noncomputable def tw12881734857997302462 : Nat := 0
noncomputable def tw9239799971825067582 : Nat := 0
noncomputable def tw96931988379631027 : Nat := 0
noncomputable def tw16040467147662361204 : Nat := 0
noncomputable def tw5841094869648707902 : Nat := 0
noncomputable def tw18344151476836582962 : Nat := 0
noncomputable def tw11157060882632491101 : Nat := 0
noncomputable def tw12462976143640337212 : Nat := 0
noncomputable def tw8473362043352620806 : Nat := 0
noncomputable def tw15513212075108870709 : Nat := 0
noncomputable def tw2266658384992281211 : Nat := 0
noncomputable def tw9172656934936094514 : Nat := 0
noncomputable def tw9618019783107985864 : Nat := 0
noncomputable def tw17947333004009577370 : Nat := 0
noncomputable def tw9034259171578624780 : Nat := 0
noncomputable def tw2675034133627489047 : Nat := 0
noncomputable def tw6609548281624048675 : Nat := 0
noncomputable def tw17051799515494861738 : Nat := 0
noncomputable def tw9886915732517652808 : Nat := 0
noncomputable def tw16534571563753415457 : Nat := 0
noncomputable def tw9157244393937688014 : Nat := 0
noncomputable def tw1965560808688511055 : Nat := 0
noncomputable def tw5255140520178043406 : Nat := 0
noncomputable def tw5204855116554905318 : Nat := 0
noncomputable def tw722223489960730022 : Nat := 0
noncomputable def tw12738365334965684745 : Nat := 0
noncomputable def tw1474165247601032525 : Nat := 0
noncomputable def tw892552627943440240 : Nat := 0
noncomputable def tw14935350538213254964 : Nat := 0
end Mine.h0
set_option Elab.async true in
theorem Mine.h0 : True := by
  first
  | exact (fun _ : PySem.Challenge.rw_wy0021_01.Holds => trivial) (with_decl_name% Mine.h0.hd (((by
      set_option Elab.async false in (w_on; o_law; k_head; (case hw => w_witness2))
      trace_state
      fail) : PySem.Challenge.rw_wy0021_01.Holds) :))
  | trivial
theorem Mine.h1 : True := trivial
namespace Mine.h0
open_top hd for PySem.Challenge.rw_wy0021_01
end Mine.h0
end
open PySem PySem.W PyProof.Rows PySem.Spec PySem.Calls
namespace Mine
section
-- Base
set_option maxHeartbeats 8000000
noncomputable abbrev tupObj (vs : List Value) (n : Nat) : Obj := { cls := .type "tuple", data := .seq vs.toArray n }
noncomputable def Does (w : World) (mean : ExcName → Option Value) (mg mb : Str → Option Value) (D : Nat) (f : Addr) (args : List Value) (kw : List (Str × Value)) (news : List (Addr × Obj)) (Out : Value → List (Addr × Obj) → Prop) : Prop :=
  ∀ (dp un : Nat) (gd : Option (List Code)) (cn : Str) (cs : Scope) (fa : Addr) (ccd : Value) (cl : List (Str × Addr)) (outer : List Env) (A₀ : Around) (base h₀ : Heap) (L : Addr) (m : Str → Option Value) (s : Shared) (Q E : Value → Shared → Prop),
    Below A₀ base outer h₀ → Fr h₀ L s.heap m → (h0.hd.heap_39 w.params).In h₀ → News h₀ L s.heap news → Top h0.hd.view_39 (looseW h0.hd.view_39 [Str.ofString "insort_right", Str.ofString "bisect_right", Str.ofString "insort_left", Str.ofString "bisect_left"]) mean mg mb h₀ → cs.kind = .function →
    dp + D < recursionLimit → un + 8 * D < cLine →
    (∀ r news' h' tk', Fr h₀ L h' m → News h₀ L h' news' → Out r news' → Q r { s with heap := h', toks := tk' }) →
    wpAny (model PySem.Challenge.pw_wy0021_01 w) (ktrTop dp un gd cn cs L fa ccd cl outer) (call (.ref f) args kw) Q E s
theorem Does.use {w : World} {mean : ExcName → Option Value} {mg mb : Str → Option Value} {D : Nat} {f : Addr} {args : List Value} {kw : List (Str × Value)} {news : List (Addr × Obj)} {Out : Value → List (Addr × Obj) → Prop}
    (H : Does w mean mg mb D f args kw news Out)
    {dp un : Nat} {gd : Option (List Code)} {cn : Str} {cs : Scope} {fa : Addr} {ccd : Value} {cl : List (Str × Addr)} {outer : List Env} {A₀ : Around} {base h₀ : Heap} {L : Addr} {m : Str → Option Value} {s : Shared} {Q E : Value → Shared → Prop}
    (B : Below A₀ base outer h₀) (F : Fr h₀ L s.heap m) (X : (h0.hd.heap_39 w.params).In h₀) (N : News h₀ L s.heap news) (T : Top h0.hd.view_39 (looseW h0.hd.view_39 [Str.ofString "insort_right", Str.ofString "bisect_right", Str.ofString "insort_left", Str.ofString "bisect_left"]) mean mg mb h₀) (hk : cs.kind = .function)
    (hdp : dp + D < recursionLimit) (hun : un + 8 * D < cLine)
    (hret : ∀ r news' h' tk', Fr h₀ L h' m → News h₀ L h' news' → Out r news' → Q r { s with heap := h', toks := tk' }) :
    wpAny (model PySem.Challenge.pw_wy0021_01 w) (ktrTop dp un gd cn cs L fa ccd cl outer) (call (.ref f) args kw) Q E s := H _ _ _ _ _ _ _ _ _ _ _ _ _ _ _ _ _ B F X N T hk hdp hun hret
/-- a call that waits for its contract -/
noncomputable def Held (Q : Prop) : Prop := Q
theorem Held.mk {Q : Prop} (h : Q) : Held Q := h
theorem Held.out {Q : Prop} (h : Held Q) : Q := h
theorem foldQ {α : Type} {M : Model} {A : Around} {t : Sem α} {Q : α → Shared → Prop} {E : Value → Shared → Prop} {s : Shared} (h : let q := Q; let e := E; wpAny M A t q e s) : wpAny M A t Q E s := h
theorem sub_cons {α : Type} {a : α} {l' l : List α} (h : a ∈ l) (k : ∀ p, p ∈ l' → p ∈ l) : ∀ p, p ∈ a :: l' → p ∈ l := List.forall_mem_cons.2 ⟨h, k⟩
theorem sub_nil {α : Type} {l : List α} : ∀ p, p ∈ ([] : List α) → p ∈ l := fun _ h => absurd h List.not_mem_nil
theorem sub_app {α : Type} {k l' l : List α} (h : ∀ p, p ∈ k → p ∈ l) (h' : ∀ p, p ∈ l' → p ∈ l) : ∀ p, p ∈ k ++ l' → p ∈ l := fun p hp => (List.mem_append.mp hp).elim (h p) (h' p)
theorem sub_self {α : Type} {l : List α} : ∀ p, p ∈ l → p ∈ l := fun _ h => h
theorem sub_tl {α : Type} {a : α} {l' l : List α} (h : ∀ p, p ∈ l' → p ∈ l) : ∀ p, p ∈ l' → p ∈ a :: l := fun p hp => List.mem_cons_of_mem _ (h p hp)
theorem sub_tr {α : Type} {k l' l : List α} (h : ∀ p, p ∈ l' → p ∈ l) : ∀ p, p ∈ l' → p ∈ k ++ l := fun p hp => List.mem_append_right _ (h p hp)
theorem sub_lf {α : Type} {k l : List α} : ∀ p, p ∈ k → p ∈ k ++ l := fun _ hp => List.mem_append_left _ hp
theorem News.sub {h₀ h : Heap} {L : Addr} {l l' : List (Addr × Obj)} (N : News h₀ L h l) (hs : ∀ p ∈ l', p ∈ l) : News h₀ L h l' := fun p hp => N p (hs p hp)
end
section
-- Gl2
@[elab_as_elim] theorem glet2 {α β : Sort _} {motive : α → β → Prop} (a : α) (b : β) (h : let g := motive; g a b) : motive a b := h
@[elab_as_elim] theorem glet3 {α β γ : Sort _} {motive : α → β → γ → Prop} (a : α) (b : β) (c : γ) (h : let g := motive; g a b c) : motive a b c := h
@[elab_as_elim] theorem glet4 {α β γ δ : Sort _} {motive : α → β → γ → δ → Prop} (a : α) (b : β) (c : γ) (d : δ) (h : let g := motive; g a b c d) : motive a b c d := h
theorem neC {x a : Addr} {o : Obj} {l : List (Addr × Obj)} (h : a ≠ x) (k : ∀ r ∈ l, r.1 ≠ x) : ∀ r ∈ (a, o) :: l, r.1 ≠ x := List.forall_mem_cons.2 ⟨h, k⟩
theorem neA {x : Addr} {l l' : List (Addr × Obj)} (h : ∀ r ∈ l, r.1 ≠ x) (k : ∀ r ∈ l', r.1 ≠ x) : ∀ r ∈ l ++ l', r.1 ≠ x := fun r hr => (List.mem_append.mp hr).elim (h r) (k r)
section
variable {M : Model} {A : Around} {E : Value → Shared → Prop} {env : Env} {h : Heap} {g : Array GenState} {d : Drawn} {tk : Tok} {o : OsState} {n : Nat} {pos : Pos} {Q : Value → Shared → Prop}
theorem cI {k : Int} (hq : Q (.int k tk) ⟨h, g, d, tk + 1, o⟩) : wpAny M A (eval (.Constant (.int k) n pos) env) Q E ⟨h, g, d, tk, o⟩ := wpAny_Constant_int hq
theorem cS {k : Str} (hq : Q (.str k tk) ⟨h, g, d, tk + 1, o⟩) : wpAny M A (eval (.Constant (.str k) n pos) env) Q E ⟨h, g, d, tk, o⟩ := Calls.Constant_str hq
end
theorem nameL {M : Model} {A : Around} {E : Value → Shared → Prop} {s : Shared} {h₀ : Heap} {L a : Addr} {m : Str → Option Value} {cn : Str} {cs : Scope} {ccd : Value} {cl : List (Str × Addr)} {x : Str} {pos : Pos} {v : Value} {Q : Value → Shared → Prop}
    (F : Fr h₀ L s.heap m) (hv : some v = m x) (h : Q v s) (hk : cs.kind = .function) (hx : some NameKind.local = cs.names.lookup x) (hd : (x == ("__debug__" : Str)) = false) : wpAny M A (eval (.Name x pos) (envX cn cs L a ccd cl)) Q E s := nameX_L F hv.symm h hk hx.symm hd
section
variable {M : Model} {A : Around} {E : Value → Shared → Prop} {s : Shared}
/-- calls and the like that wait for their lines -/
theorem hSl {Q : Value → Shared → Prop} {v : PySem.Expr} {a b c : Option PySem.Expr} {p : Pos} {x y : Addr} (h : Held (wpAny M A (subscriptTail v (.Slice a b c p) (.ref x) (.ref y)) Q E s)) : wpAny M A (subscriptTail v (.Slice a b c p) (.ref x) (.ref y)) Q E s := h
theorem hSl3 {Q : Value → Shared → Prop} {v c : PySem.Expr} {a b : Option PySem.Expr} {p : Pos} {x y : Addr} (h : Held (wpAny M A (subscriptTail v (.Slice a b (some c) p) (.ref x) (.ref y)) Q E s)) : wpAny M A (subscriptTail v (.Slice a b (some c) p) (.ref x) (.ref y)) Q E s := h
theorem hSt {Q : Unit → Shared → Prop} {n x : Str} {sc : Scope} {L a : Addr} {cd v : Value} (h : Held (wpAny M A (storeName (envOfC n sc L a cd) x v) Q E s)) : wpAny M A (storeName (envOfC n sc L a cd) x v) Q E s := h
theorem hWord {Q : Unit → Shared → Prop} {env : Env} {k : Int} {t : Tok} (h : Held (wpAny M A (storeName env (Str.ofString "word") (.int k t)) Q E s)) : wpAny M A (storeName env (Str.ofString "word") (.int k t)) Q E s := h
theorem hFull {Q : Unit → Shared → Prop} {env : Env} {v : Value} (h : Held (wpAny M A (storeName env (Str.ofString "full") v) Q E s)) : wpAny M A (storeName env (Str.ofString "full") v) Q E s := h
theorem hAsk {Q : Flow → Shared → Prop} {env : Env} {e : PySem.Expr} {p q : Pos} (h : Held (wpAny M A (exec (.Assign [.Name (Str.ofString "asked") p] e q) env) Q E s)) : wpAny M A (exec (.Assign [.Name (Str.ofString "asked") p] e q) env) Q E s := h
theorem hInt {Q : Value → Shared → Prop} {x : Str} {t : Tok} {kw : List (Str × Value)} (h : Held (wpAny M A (call (.type "int") [.str x t] kw) Q E s)) : wpAny M A (call (.type "int") [.str x t] kw) Q E s := h
end
end
section
-- Lp
set_option maxHeartbeats 4000000
noncomputable abbrev lst (vs : List Value) (c : Nat) : Obj := { cls := .type "list", data := .seq vs.toArray c }
/-- the end of a turn of a for -/
noncomputable def ForEnd (h₀ : Heap) (L I : Addr) (oI : Obj) (J : (Str → Option Value) → List (Addr × Obj) → Prop) (s₁ : Shared) (Q : Flow → Shared → Prop) (f : Flow) (s₂ : Shared) : Prop :=
  match f with
  | .ret v => Q (.ret v) s₂
  | .brk => Q .next s₂
  | _ => ∃ h' tk m₂ news₂, s₂ = { s₁ with heap := h', toks := tk } ∧ Fr h₀ L h' m₂ ∧ News h₀ L h' ((I, oI) :: news₂) ∧ (∀ p ∈ news₂, p.1 ≠ I) ∧ J m₂ news₂
theorem ForEnd.next {h₀ h' : Heap} {L I : Addr} {oI : Obj} {J : (Str → Option Value) → List (Addr × Obj) → Prop} {s₁ : Shared} {Q : Flow → Shared → Prop} {tk : Nat} {m₂ : Str → Option Value} (news₂ : List (Addr × Obj))
    (F : Fr h₀ L h' m₂) (N : News h₀ L h' ((I, oI) :: news₂)) (hn : ∀ p ∈ news₂, p.1 ≠ I) (hJ : J m₂ news₂) : ForEnd h₀ L I oI J s₁ Q .next { s₁ with heap := h', toks := tk } := ⟨h', tk, m₂, news₂, rfl, F, N, hn, hJ⟩
section
variable {prog : Program} {w : World} {A : Around} {E : Value → Shared → Prop} {s : Shared} {env : Env} {h₀ : Heap} {x : Str} {body : List Stmt} {Q : Flow → Shared → Prop}
theorem get_fun {h : Heap} {a : Addr} {o o' : Obj} (h1 : h.get? a = some o) (h2 : h.get? a = some o') : o = o' := by rw [h1] at h2; exact Option.some.inj h2
theorem for_list {l : Addr} {vs : List Value} {c : Nat} {m₀ : Str → Option Value} {news : List (Addr × Obj)} (J : Nat → (Str → Option Value) → List (Addr × Obj) → Prop)
    (hh : A.handled = none) (hm : (l, lst vs c) ∈ news) (F : Fr h₀ env.locals s.heap m₀) (N : News h₀ env.locals s.heap news) (h0 : J 0 m₀ news)
    (turn : ∀ (i : Nat) v m₁ news₁ h tk I oI, vs[i]? = some v → J i m₁ news₁ → (l, lst vs c) ∈ news₁ → (∀ p ∈ news₁, p.1 ≠ I) → Fr h₀ env.locals h (fun y => if y = x then some v else m₁ y) → News h₀ env.locals h ((I, oI) :: news₁) →
      wpAny (model prog w) A (execs body env) (ForEnd h₀ env.locals I oI (fun m₂ news₂ => J (i + 1) m₂ news₂ ∧ (l, lst vs c) ∈ news₂) { s with heap := h, toks := tk } Q) E { s with heap := h, toks := tk })
    (done : ∀ m₁ news₁ h tk, J vs.length m₁ news₁ → (l, lst vs c) ∈ news₁ → Fr h₀ env.locals h m₁ → News h₀ env.locals h news₁ → Q .next { s with heap := h, toks := tk }) :
    wpAny (model prog w) A (pyIter (.ref l)) (fun it s₂ => LoopAtV prog w A h₀ env x body Q E it s₂) E s := by
  have hls : s.heap.IsList l vs.toArray := News.isList N hm
  have hlt : l < s.heap.objs.size := Heap.lt_size (N _ hm).1
  have hne : l ≠ s.heap.objs.size := Nat.ne_of_lt hlt
  refine wpAny_pyIter_list hls ?_
  have W := Walks.list (prog := prog) (w := w) hh s.heap.objs.size l hne vs.toArray
  have hlen : vs.toArray.size = vs.length := by simp
  rw [hlen] at W
  refine ⟨_, _, _, vs.length, _, _, m₀, news, (fun i m n => J i m n ∧ (l, lst vs c) ∈ n), rfl, W, ?_, ?_, ?_, ⟨⟨_, Heap.get?_push_size _ rfl, rfl, rfl⟩, hls.at fun o e => Heap.get?_push_of_some _ e⟩, F.push _, (fun p hp => ⟨Heap.get?_push_of_some _ (N p hp).1, (N p hp).2⟩), ⟨h0, hm⟩, ?_, ?_⟩
  · intro hm'
    rcases List.mem_cons.mp hm' with e | hm'
    · exact absurd F.ns.lt (e ▸ Nat.lt_irrefl _)
    · exact (N _ hm).2.1 (List.mem_singleton.mp hm').symm
  · intro b hb
    rw [List.mem_singleton.mp hb]
    exact next_is_new F
  · intro p hp hI
    exact absurd (Heap.lt_size (N p hp).1) ((List.mem_singleton.mp hI) ▸ Nat.lt_irrefl _)
  · rintro i v m₁ news₁ s₁ own ⟨hh', tk', rfl⟩ hin hP ⟨hJ, hl1⟩ hoff hown hget hall hst F₁ N₁
    have hv : vs[i]? = some v := by simpa using hP
    obtain ⟨oI, hI, _⟩ := id hst.1
    have hI0 : h₀.get? s.heap.objs.size = none := next_is_new F
    have hmI : (s.heap.objs.size, oI) ∈ own := hall _ (.head _) hI0 _ hI
    have hoff' : ∀ p ∈ news₁, p.1 ≠ s.heap.objs.size := fun p hp e => hoff p hp (by simp [e])
    have N₂ : News h₀ env.locals hh' ((s.heap.objs.size, oI) :: news₁) := fun p hp => by
      rcases List.mem_cons.mp hp with rfl | hp
      · exact N₁ _ (List.mem_append_left _ hmI)
      · exact N₁ _ (List.mem_append_right _ hp)
    refine wpAny_mono (turn i v m₁ news₁ hh' tk' _ oI hv hJ hl1 hoff' F₁ N₂) (fun f s₂ p => ?_) fun _ _ e => e
    have fin : (∃ h' tk m₂ news₂, s₂ = { ({ s with heap := hh', toks := tk' } : Shared) with heap := h', toks := tk } ∧ Fr h₀ env.locals h' m₂ ∧ News h₀ env.locals h' ((s.heap.objs.size, oI) :: news₂) ∧ (∀ p ∈ news₂, p.1 ≠ s.heap.objs.size) ∧ (J (i + 1) m₂ news₂ ∧ (l, lst vs c) ∈ news₂)) →
        LoopStepU h₀ env.locals [s.heap.objs.size] own (fun m n => J (i + 1) m n ∧ (l, lst vs c) ∈ n) { s with heap := hh', toks := tk' } .next s₂ := by
      rintro ⟨h', tk, m', news', e, F', N', hn, hJ', hl'⟩
      refine ⟨rfl, h', tk, m', news', e, F', fun p hp => ?_, fun p hp hb => hn p hp (List.mem_singleton.mp hb), hJ', hl'⟩
      rcases List.mem_append.mp hp with hp | hp
      · have h1 := hown p hp
        rcases List.mem_cons.mp h1 with h1 | h1
        · have e2 := get_fun (hget p hp) (by rw [h1]; exact hI)
          have : p = (s.heap.objs.size, oI) := Prod.ext h1 e2
          rw [this]; exact N' _ (List.mem_cons_self ..)
        · have h1 := List.mem_singleton.mp h1
          have e2 := get_fun (hget p hp) (by rw [h1]; exact (N₁ _ (List.mem_append_right _ hl1)).1)
          have : p = (l, lst vs c) := Prod.ext h1 e2
          rw [this]; exact N' _ (List.mem_cons_of_mem _ hl')
      · exact N' _ (List.mem_cons_of_mem _ hp)
    cases f with
    | ret v => exact .ret p
    | brk => exact .brk p
    | next => exact .next (fin p)
    | cont => exact .cont (fin p)
  · rintro h' tk m' news' F' N' _ ⟨hJ, hl'⟩
    exact done m' news' h' tk hJ hl' F' N'
theorem for_range {r : Addr} {a₀ b₀ c₀ : Int} {t u v : Tok} {n : Nat} {m₀ : Str → Option Value} {news : List (Addr × Obj)} (J : Nat → (Str → Option Value) → List (Addr × Obj) → Prop)
    (hh : A.handled = none) (hr : IsRange s.heap r a₀ b₀ c₀ t u v) (hsmall : Builtin.Range.small a₀ b₀ c₀ = true) (hn : Builtin.Range.rangeSize a₀ b₀ c₀ = n) (F : Fr h₀ env.locals s.heap m₀) (N : News h₀ env.locals s.heap news) (h0 : J 0 m₀ news)
    (turn : ∀ (i : Nat) t m₁ news₁ h tk I oI, i < n → J i m₁ news₁ → (∀ p ∈ news₁, p.1 ≠ I) → Fr h₀ env.locals h (fun y => if y = x then some (.int (a₀ + i * c₀) t) else m₁ y) → News h₀ env.locals h ((I, oI) :: news₁) →
      wpAny (model prog w) A (execs body env) (ForEnd h₀ env.locals I oI (J (i + 1)) { s with heap := h, toks := tk } Q) E { s with heap := h, toks := tk })
    (done : ∀ m₁ news₁ h tk, J n m₁ news₁ → Fr h₀ env.locals h m₁ → News h₀ env.locals h news₁ → Q .next { s with heap := h, toks := tk }) :
    wpAny (model prog w) A (pyIter (.ref r)) (fun it s₂ => LoopAtV prog w A h₀ env x body Q E it s₂) E s := by
  refine wpAny_pyIter_range hr hsmall ?_
  refine ⟨_, _, _, n, _, _, m₀, news, J, rfl, Walks.range (prog := prog) (w := w) hh s.heap.objs.size a₀ c₀ n, ?_, ?_, ?_, (by show IsRangeIter _ _ _ _ _; rw [hn]; simpa using Heap.get?_push_size _ rfl), F.push _, (fun p hp => ⟨Heap.get?_push_of_some _ (N p hp).1, (N p hp).2⟩), h0, ?_, ?_⟩
  · intro hm'
    exact absurd F.ns.lt ((List.mem_singleton.mp hm') ▸ Nat.lt_irrefl _)
  · intro b hb
    rw [List.mem_singleton.mp hb]
    exact next_is_new F
  · intro p hp hI
    exact absurd (Heap.lt_size (N p hp).1) ((List.mem_singleton.mp hI) ▸ Nat.lt_irrefl _)
  · rintro i v m₁ news₁ s₁ own ⟨hh', tk', rfl⟩ hin ⟨t', rfl⟩ hJ hoff hown hget hall hst F₁ N₁
    obtain ⟨oI, hI⟩ : ∃ oI, hh'.get? s.heap.objs.size = some oI := ⟨_, hst⟩
    have hI0 : h₀.get? s.heap.objs.size = none := next_is_new F
    have hmI : (s.heap.objs.size, oI) ∈ own := hall _ (.head _) hI0 _ hI
    have hoff' : ∀ p ∈ news₁, p.1 ≠ s.heap.objs.size := fun p hp e => hoff p hp (by simp [e])
    have N₂ : News h₀ env.locals hh' ((s.heap.objs.size, oI) :: news₁) := fun p hp => by
      rcases List.mem_cons.mp hp with rfl | hp
      · exact N₁ _ (List.mem_append_left _ hmI)
      · exact N₁ _ (List.mem_append_right _ hp)
    refine wpAny_mono (turn i t' m₁ news₁ hh' tk' s.heap.objs.size oI hin hJ hoff' F₁ N₂) (fun f s₂ p => ?_) fun _ _ e => e
    have fin : (∃ h' tk m₂ news₂, s₂ = { ({ s with heap := hh', toks := tk' } : Shared) with heap := h', toks := tk } ∧ Fr h₀ env.locals h' m₂ ∧ News h₀ env.locals h' ((s.heap.objs.size, oI) :: news₂) ∧ (∀ p ∈ news₂, p.1 ≠ s.heap.objs.size) ∧ J (i + 1) m₂ news₂) →
        LoopStepU h₀ env.locals [s.heap.objs.size] own (J (i + 1)) { s with heap := hh', toks := tk' } .next s₂ := by
      rintro ⟨h', tk, m', news', e, F', N', hn', hJ'⟩
      refine ⟨rfl, h', tk, m', news', e, F', fun p hp => ?_, fun p hp hb => hn' p hp (List.mem_singleton.mp hb), hJ'⟩
      rcases List.mem_append.mp hp with hp | hp
      · have h1 := List.mem_singleton.mp (hown p hp)
        have e2 := get_fun (hget p hp) (by rw [h1]; exact hI)
        have : p = (s.heap.objs.size, oI) := Prod.ext h1 e2
        rw [this]; exact N' _ (List.mem_cons_self ..)
      · exact N' _ (List.mem_cons_of_mem _ hp)
    cases f with
    | ret v => exact .ret p
    | brk => exact .brk p
    | next => exact .next (fin p)
    | cont => exact .cont (fin p)
  · rintro h' tk m' news' F' N' _ hJ
    exact done m' news' h' tk hJ F' N'
end
end
-- B1
theorem rstB1 : True := by
  w_top off
  trivial
set_option maxHeartbeats 8000000
local macro_rules | `(tactic| walk_at "eval Constant int") => `(tactic| refine cI ?_)
local macro_rules | `(tactic| walk_at "eval Constant str") => `(tactic| refine cS ?_)
theorem fillIt : PySem.Challenge.rw_wy0021_01.prog = PySem.Challenge.rw_wy0021_01.prog ∧ h0.hd.heap_39 = h0.hd.heap_39 := by
  k_fill
  exact ⟨rfl, rfl⟩
theorem tup_first {prog : Program} {w : World} {A : Around} {E : Value → Shared → Prop} {s : Shared} {h₀ : Heap} {L : Addr} {news : List (Addr × Obj)} {value slice : PySem.Expr} {a : Addr} {l : List Value} {n : Nat} {u : Tok} {x : Value} {Q : Value → Shared → Prop}
    (N : News h₀ L s.heap news) (hm : (a, tupObj (x :: l) n) ∈ news) (h : Q x s)
    (hs : subscripted slice false (.ref a) (.int 0 u) = operate [.ref a, .int 0 u] (getItem (.ref a) (.int 0 u)) := by with_unfolding_all rfl) (hg : ∀ r, letTemporaryGo value (.ref a) r = pure () := by intro _; with_unfolding_all rfl) :
    wpAny (model prog w) A (subscriptTail value slice (.ref a) (.int 0 u)) Q E s :=
  kim_tup (j := 0) N hm rfl rfl (by decide) (by decide) (by simp [seqIndex?]) rfl h hs hg
theorem first_ok {w : World} {mean : ExcName → Option Value} {mg mb : Str → Option Value} {news : List (Addr × Obj)} {ad : Addr} {v : Value} {r : List Value} {n : Nat}
    (hm : (ad, tupObj (v :: r) n) ∈ news) : Does w mean mg mb 1 108 [.ref ad] [] news (fun x news' => x = v ∧ news' = news) := by
  ((unfold Does); (intro dp un gd cn cs fa ccd cl outer A₀ base h₀ L m s Q E B F X N T hk hdp hun hret); (refine wpAny_call ?_); (k_dflt (refine' code_def ?k1 ?k2 ?k3 ?k4 ?k5 ?kA ?kF ?kK ?k6 ?k7 ?k8 ?k9 ?kB ?_ ?c2 ?c3 ?c4 ?c5; (case kA => exact rfl); (case kF => exact rfl); (case kK => assumption); (case k1 => k_asm); (case k2 => k_asm); (case k3 => k_asm); (case k4 => k_asm); (case k5 => k_asm); (case k6 => k_is); (case k7 => k_is); (case k8 => ktr_room); (case k9 => first | exact hB _ (by k_in) _ _ _ _ (by k_is) | exact BindsTo.of_eq rfl | exact binds_K (by k_in) rfl (by k_is) rfl rfl rfl | (refine' kp_binds ?kx ?ke; (case kx => k_in); (case ke => exact fun _ => rfl))); (case c5 => decide); (case kB => exact locs rfl); (case c2 => exact rfl); (case c3 => exact rfl); (case c4 => exact rfl); k_whole; intro g' L' h' FG' F' N' B' X' T'; (try dsimp only); (refine wpAny_noRaise ?_); (try k_fold))))
  ((repeat' (first | (k_unfold; (try clear ze zq); (try dsimp only)) | (k_end; wrow_close) | ((fail_if_success (fail_if_success (with_reducible refine wpAny_execs_cons ?_))); ((try ((fail_if_success (fail_if_success k_fold)); (with_reducible refine foldQ ?_); intro zq ze)); (try k_gentoks); (with_reducible refine wpAny_execs_cons ?_); (try dsimp only); ((fail_if_success (fail_if_success k_fold)); (with_reducible refine foldQ ?_); intro zq ze))) | ((with_reducible show wpAny _ _ (eval (.Name _ _) _) _ _ _); (k_dflt (refine nameL (by k_asm) (by exact rfl) ?_ rfl rfl (by decide)); k_whole)) | walk1 | (dsimp only; walk1) | (leave1; (try dsimp only)))) <;> (try ((fail_if_success (fail_if_success k_fold)); (with_reducible refine foldQ ?_); intro zq ze)))
  refine tup_first (by k_asm) hm ?_
  ((repeat' (first | (k_unfold; (try clear ze zq); (try dsimp only)) | (k_end; wrow_close) | walk1 | (dsimp only; walk1) | (leave1; (try dsimp only)))) <;> (try ((fail_if_success (fail_if_success k_fold)); (with_reducible refine foldQ ?_); intro zq ze)))
  exact hret _ _ _ _ (by k_asm) (by k_asm) ⟨rfl, rfl⟩
local macro_rules | `(tactic| walk_at "call ref") => `(tactic| refine Held.out ?_)
/-- the list's items are tuples that begin with these ints -/
noncomputable def Keyed (news : List (Addr × Obj)) (vs : List Value) (ks : List Int) : Prop :=
  vs.length = ks.length ∧ ∀ (i : Nat) (v : Value) (k : Int), vs[i]? = some v → ks[i]? = some k → ∃ ad r t n, v = .ref ad ∧ (ad, tupObj (.int k t :: r) n) ∈ news
theorem kx_len {prog : Program} {w : World} {A : Around} {E : Value → Shared → Prop} {s : Shared} {h₀ : Heap} {L : Addr} {news : List (Addr × Obj)} {a : Addr} {l : List Value} {n : Nat} {Q : Value → Shared → Prop}
    (N : News h₀ L s.heap news) (hm : (a, lst l n) ∈ news) (hf : l.length < 1000) (h : ∀ t tk, Q (.int (l.length : Int) t) { s with toks := tk }) : wpAny (model prog w) A (call (.builtin "len") [.ref a]) Q E s := by
  refine len_list (items := l.toArray) (News.isList N hm) (by rw [List.size_toArray]; omega) ?_
  have := h (s.toks + 1) (s.toks + 1 + 1)
  rw [List.size_toArray]
  exact this
/-- the word of a binary search from the right -/
noncomputable def BrI (ks : List Int) (x : Int) (lo₀ hi₀ lo hi : Int) : Prop :=
  lo₀ ≤ lo ∧ lo ≤ hi ∧ hi ≤ hi₀ ∧ (∀ (i : Nat) k, ks[i]? = some k → lo₀ ≤ (i : Int) → (i : Int) < lo → k ≤ x) ∧ (∀ (i : Nat) k, ks[i]? = some k → hi ≤ (i : Int) → (i : Int) < hi₀ → x < k)
local macro_rules | `(tactic| walk_at "exec While Compare cons nil") => `(tactic| (refine Held.out ?_))
local macro_rules | `(tactic| walk_at "KswEnd") => `(tactic| (refine Held.out ?_))
/-- the word of a binary search from the left -/
noncomputable def BlI (ks : List Int) (x : Int) (lo₀ hi₀ lo hi : Int) : Prop :=
  lo₀ ≤ lo ∧ lo ≤ hi ∧ hi ≤ hi₀ ∧ (∀ (i : Nat) k, ks[i]? = some k → lo₀ ≤ (i : Int) → (i : Int) < lo → k < x) ∧ (∀ (i : Nat) k, ks[i]? = some k → hi ≤ (i : Int) → (i : Int) < hi₀ → x ≤ k)
theorem BlI.right {ks : List Int} {x lo₀ hi₀ lo hi mid k : Int} (h : BlI ks x lo₀ hi₀ lo hi) (hs : ks.Pairwise (· ≤ ·)) (_h0 : 0 ≤ lo₀) (hb : lo ≤ mid ∧ mid < hi) (hk : ks[mid.toNat]? = some k) (hx : k < x) :
    BlI ks x lo₀ hi₀ (mid + 1) hi := by
  obtain ⟨a1, a2, a3, a4, a5⟩ := h
  refine ⟨by omega, by omega, by omega, fun i k' hi' h1 h2 => ?_, a5⟩
  by_cases e : (i : Int) = mid
  · have e' : i = mid.toNat := by omega
    rw [e', hk] at hi'
    cases hi'
    omega
  · have hlt : i < mid.toNat := by omega
    obtain ⟨l1, e1⟩ := List.getElem?_eq_some_iff.mp hi'
    obtain ⟨l2, e2⟩ := List.getElem?_eq_some_iff.mp hk
    have := List.pairwise_iff_getElem.mp hs i mid.toNat l1 l2 hlt
    rw [e1, e2] at this
    omega
theorem BlI.left {ks : List Int} {x lo₀ hi₀ lo hi mid k : Int} (h : BlI ks x lo₀ hi₀ lo hi) (hs : ks.Pairwise (· ≤ ·)) (_h0 : 0 ≤ lo₀) (hb : lo ≤ mid ∧ mid < hi) (hk : ks[mid.toNat]? = some k) (hx : ¬ k < x) :
    BlI ks x lo₀ hi₀ lo mid := by
  obtain ⟨a1, a2, a3, a4, a5⟩ := h
  refine ⟨by omega, by omega, by omega, a4, fun i k' hi' h1 h2 => ?_⟩
  by_cases e : (i : Int) = mid
  · have e' : i = mid.toNat := by omega
    rw [e', hk] at hi'
    cases hi'
    omega
  · have hlt : mid.toNat < i := by omega
    obtain ⟨l1, e1⟩ := List.getElem?_eq_some_iff.mp hi'
    obtain ⟨l2, e2⟩ := List.getElem?_eq_some_iff.mp hk
    have := List.pairwise_iff_getElem.mp hs mid.toNat i l2 l1 hlt
    rw [e1, e2] at this
    omega
theorem BrI.right {ks : List Int} {x lo₀ hi₀ lo hi mid k : Int} (h : BrI ks x lo₀ hi₀ lo hi) (hs : ks.Pairwise (· ≤ ·)) (_h0 : 0 ≤ lo₀) (hb : lo ≤ mid ∧ mid < hi) (hk : ks[mid.toNat]? = some k) (hx : ¬ x < k) :
    BrI ks x lo₀ hi₀ (mid + 1) hi := by
  obtain ⟨a1, a2, a3, a4, a5⟩ := h
  refine ⟨by omega, by omega, by omega, fun i k' hi' h1 h2 => ?_, a5⟩
  by_cases e : (i : Int) = mid
  · have e' : i = mid.toNat := by omega
    rw [e', hk] at hi'
    cases hi'
    omega
  · have hlt : i < mid.toNat := by omega
    obtain ⟨l1, e1⟩ := List.getElem?_eq_some_iff.mp hi'
    obtain ⟨l2, e2⟩ := List.getElem?_eq_some_iff.mp hk
    have := List.pairwise_iff_getElem.mp hs i mid.toNat l1 l2 hlt
    rw [e1, e2] at this
    omega
theorem BrI.left {ks : List Int} {x lo₀ hi₀ lo hi mid k : Int} (h : BrI ks x lo₀ hi₀ lo hi) (hs : ks.Pairwise (· ≤ ·)) (_h0 : 0 ≤ lo₀) (hb : lo ≤ mid ∧ mid < hi) (hk : ks[mid.toNat]? = some k) (hx : x < k) :
    BrI ks x lo₀ hi₀ lo mid := by
  obtain ⟨a1, a2, a3, a4, a5⟩ := h
  refine ⟨by omega, by omega, by omega, a4, fun i k' hi' h1 h2 => ?_⟩
  by_cases e : (i : Int) = mid
  · have e' : i = mid.toNat := by omega
    rw [e', hk] at hi'
    cases hi'
    omega
  · have hlt : mid.toNat < i := by omega
    obtain ⟨l1, e1⟩ := List.getElem?_eq_some_iff.mp hi'
    obtain ⟨l2, e2⟩ := List.getElem?_eq_some_iff.mp hk
    have := List.pairwise_iff_getElem.mp hs mid.toNat i l2 l1 hlt
    rw [e1, e2] at this
    omega
theorem bindsAt {K : Frag} {f : Addr} {s : Shared} {A : Args} {binds : List (Str × Value)} {oc0 : Value} {od0 : Option Addr} {fd0 : FuncData} {osl0 : Array (Option Value)}
    (h0 : K.lookup f = some ⟨oc0, od0, .func fd0, osl0⟩) (h : BindsTo s fd0 A binds) : ∀ (fd : FuncData) (oc : Value) (od : Option Addr) (osl : Array (Option Value)), K.lookup f = some ⟨oc, od, .func fd, osl⟩ → BindsTo s fd A binds := by
  intro fd oc od osl e
  rw [h0] at e
  cases e
  exact h
theorem bisr_k {w : World} {mean : ExcName → Option Value} {mg mb : Str → Option Value} {news : List (Addr × Obj)} {a : Addr} {vs : List Value} {ks : List Int} {c : Nat} {x : Int} {t : Tok} {args : List Value} {kw : List (Str × Value)} {t0 : Tok} {b : Int}
    (hm : (a, lst vs c) ∈ news) (hK : Keyed news vs ks) (hs : ks.Pairwise (· ≤ ·)) (hlen : vs.length < 1000) (hb0 : 0 ≤ b) (hb1 : b ≤ vs.length)
    (hB : ∀ s : Shared, (h0.hd.heap_39 w.params).In s.heap → ∀ (fd : FuncData) (oc : Value) (od : Option Addr) (osl : Array (Option Value)), (h0.hd.heap_39 w.params).lookup 76 = some ⟨oc, od, .func fd, osl⟩ → BindsTo s fd ⟨args, kw⟩ [(Str.ofString "a", .ref a), (Str.ofString "x", .int x t), (Str.ofString "lo", .int b t0), (Str.ofString "hi", .none), (Str.ofString "key", .ref 108)]) :
    Does w mean mg mb 2 76 args kw news (fun v news' => news' = news ∧ ∃ r t', v = .int r t' ∧ BrI ks x b vs.length r r) := by
  ((unfold Does); (intro dp un gd cn cs fa ccd cl outer A₀ base h₀ L m s Q E B F X N T hk hdp hun hret); (refine wpAny_call ?_); (k_dflt (refine' code_def ?k1 ?k2 ?k3 ?k4 ?k5 ?kA ?kF ?kK ?k6 ?k7 ?k8 ?k9 ?kB ?_ ?c2 ?c3 ?c4 ?c5; (case kA => exact rfl); (case kF => exact rfl); (case kK => assumption); (case k1 => k_asm); (case k2 => k_asm); (case k3 => k_asm); (case k4 => k_asm); (case k5 => k_asm); (case k6 => k_is); (case k7 => k_is); (case k8 => ktr_room); (case k9 => first | exact hB _ (by k_in) _ _ _ _ (by k_is) | exact BindsTo.of_eq rfl | exact binds_K (by k_in) rfl (by k_is) rfl rfl rfl | (refine' kp_binds ?kx ?ke; (case kx => k_in); (case ke => exact fun _ => rfl))); (case c5 => decide); (case kB => exact locs rfl); (case c2 => exact rfl); (case c3 => exact rfl); (case c4 => exact rfl); k_whole; intro g' L' h' FG' F' N' B' X' T'; (try dsimp only); (refine wpAny_noRaise ?_); (try k_fold))))
  ((repeat' (first | (k_unfold; (try clear ze zq); (try dsimp only)) | (k_end; wrow_close) | ((fail_if_success (fail_if_success (with_reducible refine wpAny_execs_cons ?_))); ((try ((fail_if_success (fail_if_success k_fold)); (with_reducible refine foldQ ?_); intro zq ze)); (try k_gentoks); (with_reducible refine wpAny_execs_cons ?_); (try dsimp only); ((fail_if_success (fail_if_success k_fold)); (with_reducible refine foldQ ?_); intro zq ze))) | ((with_reducible show wpAny _ _ (eval (.Name _ _) _) _ _ _); (k_dflt (refine nameL (by k_asm) (by exact rfl) ?_ rfl rfl (by decide)); k_whole)) | ((k_here; (with_reducible show wpAny _ _ (call (Value.builtin _) [Value.ref _]) _ _ _); k_dflt (refine' kx_len ?N ?m ?f ?_; (case N => k_asm); (case m => assumption); (case f => omega); k_whole); intro _ _)) | walk1 | (dsimp only; walk1) | (leave1; (try dsimp only)))) <;> (try ((fail_if_success (fail_if_success k_fold)); (with_reducible refine foldQ ?_); intro zq ze)))
  refine Held.mk ?_
  with_unfolding_all
    refine' ksw_while (σ := Int × Tok × Int × Tok) (fun _ => news) (fun q => [(Str.ofString "lo", .int q.1 q.2.1), (Str.ofString "hi", .int q.2.2.1 q.2.2.2)]) (fun _ => True) [Str.ofString "mid"] (fun q => BrI ks x b vs.length q.1 q.2.2.1) (fun q => (q.2.2.1 - q.1).toNat) ⟨b, _, vs.length, _⟩ (by k_asm) (by k_asm) trivial ?ps ?P ?turn ?hE
  case hE => exact PassesOwn.never
  case ps => kst_all
  case P => exact ⟨Int.le_refl _, by dsimp only; omega, Int.le_refl _, fun i k _ h1 h2 => absurd h2 (by dsimp only at *; omega), fun i k _ h1 h2 => absurd h2 (by dsimp only at *; omega)⟩
  case turn =>
    intro q0 u h9 tk9 _ hP F9 N9
    try ((fail_if_success (fail_if_success k_fold)); (with_reducible refine foldQ ?_); intro zq ze)
    obtain ⟨lo, tlo, hi, thi⟩ := q0
    dsimp only [kstB] at hP F9
    ((repeat' (first | (k_unfold; (try clear ze zq); (try dsimp only)) | (k_end; wrow_close) | ((fail_if_success (fail_if_success (with_reducible refine wpAny_execs_cons ?_))); ((try ((fail_if_success (fail_if_success k_fold)); (with_reducible refine foldQ ?_); intro zq ze)); (try k_gentoks); (with_reducible refine wpAny_execs_cons ?_); (try dsimp only); ((fail_if_success (fail_if_success k_fold)); (with_reducible refine foldQ ?_); intro zq ze))) | ((with_reducible show wpAny _ _ (eval (.Name _ _) _) _ _ _); (k_dflt (refine nameL (by k_asm) (by exact rfl) ?_ rfl rfl (by decide)); k_whole)) | walk1 | (dsimp only; walk1) | (leave1; (try dsimp only)))) <;> (try ((fail_if_success (fail_if_success k_fold)); (with_reducible refine foldQ ?_); intro zq ze)))
    · have hb : lo ≤ (lo + hi).fdiv 2 ∧ (lo + hi).fdiv 2 < hi := by
        rw [Int.fdiv_eq_ediv_of_nonneg _ (by decide)]
        omega
      have h0 := hP.1
      have h1 := hP.2.2.1
      have hlt : ((lo + hi).fdiv 2).toNat < vs.length := by omega
      obtain ⟨v, hv⟩ : ∃ v, vs[((lo + hi).fdiv 2).toNat]? = some v := ⟨_, List.getElem?_eq_getElem hlt⟩
      obtain ⟨k, hk9⟩ : ∃ k, ks[((lo + hi).fdiv 2).toNat]? = some k := ⟨_, List.getElem?_eq_getElem (hK.1 ▸ hlt)⟩
      obtain ⟨ad, r, t', n, rfl, hmem⟩ := hK.2 _ _ _ hv hk9
      refine kim_list (by k_asm) hm rfl rfl (by omega) (by omega) hv ?_
      ((repeat' (first | (k_unfold; (try clear ze zq); (try dsimp only)) | (k_end; wrow_close) | walk1 | (dsimp only; walk1) | (leave1; (try dsimp only)))) <;> (try ((fail_if_success (fail_if_success k_fold)); (with_reducible refine foldQ ?_); intro zq ze)))
      have hC := first_ok (w := w) (mean := mean) (mg := mg) (mb := mb) hmem
      ((refine Held.mk ?_); (refine' Does.use hC ?k1 ?k2 ?k3 ?k4 ?k5 ?kK ?kd ?ku ?_); ((case k1 => k_asm)); ((case k2 => k_asm)); ((case k3 => k_asm)); ((case k4 => k_asm)); ((case k5 => k_asm)); ((case kK => first | exact rfl | assumption)); ((case kd => ktr_room)); ((case ku => ktr_units)); (clear hC); (intro r9 news9 h9 tk9 F9 N9 ho9); ((try dsimp only at ho9)))
      obtain ⟨e1, e2⟩ := ho9
      subst e1 e2
      ((repeat' (first | (k_unfold; (try clear ze zq); (try dsimp only)) | (k_end; wrow_close) | ((fail_if_success (fail_if_success (with_reducible refine wpAny_execs_cons ?_))); ((try ((fail_if_success (fail_if_success k_fold)); (with_reducible refine foldQ ?_); intro zq ze)); (try k_gentoks); (with_reducible refine wpAny_execs_cons ?_); (try dsimp only); ((fail_if_success (fail_if_success k_fold)); (with_reducible refine foldQ ?_); intro zq ze))) | ((with_reducible show wpAny _ _ (eval (.Name _ _) _) _ _ _); (k_dflt (refine nameL (by k_asm) (by exact rfl) ?_ rfl rfl (by decide)); k_whole)) | walk1 | (dsimp only; walk1) | (leave1; (try dsimp only)))) <;> (try ((fail_if_success (fail_if_success k_fold)); (with_reducible refine foldQ ?_); intro zq ze)))
      · (refine Held.mk ?_; refine ksw_end (_, _, _, _) (by k_asm) (by k_asm) (fun p hp => hp) trivial (by kst_all) (by ksw_same) ?_ ?_ <;> dsimp only)
        · exact hP.left hs (by omega) hb hk9 (by assumption)
        · omega
      · (refine Held.mk ?_; refine ksw_end (_, _, _, _) (by k_asm) (by k_asm) (fun p hp => hp) trivial (by kst_all) (by ksw_same) ?_ ?_ <;> dsimp only)
        · exact hP.right hs (by omega) hb hk9 (by assumption)
        · omega
    · have e : lo = hi := by have := hP.2.1; omega
      subst e
      exact hret _ _ _ _ (by k_asm) (by k_asm) ⟨rfl, lo, _, rfl, hP⟩
theorem bisr_2 {w : World} {mean : ExcName → Option Value} {mg mb : Str → Option Value} {news : List (Addr × Obj)} {a : Addr} {vs : List Value} {ks : List Int} {c : Nat} {x : Int} {t : Tok}
    (hm : (a, lst vs c) ∈ news) (hK : Keyed news vs ks) (hs : ks.Pairwise (· ≤ ·)) (hlen : vs.length < 1000) :
    Does w mean mg mb 2 76 [.ref a, .int x t] [(Str.ofString "key", .ref 108)] news (fun v news' => news' = news ∧ ∃ r t', v = .int r t' ∧ BrI ks x 0 vs.length r r) :=
  bisr_k hm hK hs hlen (Int.le_refl _) (Int.natCast_nonneg _) (fun s X => by (refine bindsAt (by k_is) ?_; first | exact BindsTo.of_eq rfl | exact binds_K (by k_in) rfl (by k_is) rfl rfl rfl | (refine' kp_binds ?kx ?ke; (case kx => k_in); (case ke => exact fun _ => rfl))))
theorem bisr_1 {w : World} {mean : ExcName → Option Value} {mg mb : Str → Option Value} {news : List (Addr × Obj)} {a : Addr} {vs : List Value} {ks : List Int} {c : Nat} {x : Int} {t : Tok} {t0 : Tok}
    (hm : (a, lst vs c) ∈ news) (hK : Keyed news vs ks) (hs : ks.Pairwise (· ≤ ·)) (hlen : vs.length < 1000) :
    Does w mean mg mb 2 76 [.ref a, .int x t, .int 0 t0, .none] [(Str.ofString "key", .ref 108)] news (fun v news' => news' = news ∧ ∃ r t', v = .int r t' ∧ BrI ks x 0 vs.length r r) :=
  bisr_k hm hK hs hlen (Int.le_refl _) (Int.natCast_nonneg _) (fun s X => by (refine bindsAt (by k_is) ?_; first | exact BindsTo.of_eq rfl | exact binds_K (by k_in) rfl (by k_is) rfl rfl rfl | (refine' kp_binds ?kx ?ke; (case kx => k_in); (case ke => exact fun _ => rfl))))
theorem bisr_3 {w : World} {mean : ExcName → Option Value} {mg mb : Str → Option Value} {news : List (Addr × Obj)} {a : Addr} {vs : List Value} {ks : List Int} {c : Nat} {x : Int} {t : Tok} {t0 : Tok} {b : Int}
    (hm : (a, lst vs c) ∈ news) (hK : Keyed news vs ks) (hs : ks.Pairwise (· ≤ ·)) (hlen : vs.length < 1000) (hb0 : 0 ≤ b) (hb1 : b ≤ vs.length) :
    Does w mean mg mb 2 76 [.ref a, .int x t, .int b t0] [(Str.ofString "key", .ref 108)] news (fun v news' => news' = news ∧ ∃ r t', v = .int r t' ∧ BrI ks x b vs.length r r) :=
  bisr_k hm hK hs hlen hb0 hb1 (fun s X => by (refine bindsAt (by k_is) ?_; first | exact BindsTo.of_eq rfl | exact binds_K (by k_in) rfl (by k_is) rfl rfl rfl | (refine' kp_binds ?kx ?ke; (case kx => k_in); (case ke => exact fun _ => rfl))))
theorem bisr_0 {w : World} {mean : ExcName → Option Value} {mg mb : Str → Option Value} {news : List (Addr × Obj)} {a : Addr} {vs : List Value} {ks : List Int} {c : Nat} {x : Int} {t : Tok} {t0 : Tok}
    (hm : (a, lst vs c) ∈ news) (hK : IntsAre vs ks) (hs : ks.Pairwise (· ≤ ·)) (hlen : vs.length < 1000) :
    Does w mean mg mb 2 76 [.ref a, .int x t, .int 0 t0, .none] [] news (fun v news' => news' = news ∧ ∃ r t', v = .int r t' ∧ BrI ks x 0 vs.length r r) := by
  ((unfold Does); (intro dp un gd cn cs fa ccd cl outer A₀ base h₀ L m s Q E B F X N T hk hdp hun hret); (refine wpAny_call ?_); (k_dflt (refine' code_def ?k1 ?k2 ?k3 ?k4 ?k5 ?kA ?kF ?kK ?k6 ?k7 ?k8 ?k9 ?kB ?_ ?c2 ?c3 ?c4 ?c5; (case kA => exact rfl); (case kF => exact rfl); (case kK => assumption); (case k1 => k_asm); (case k2 => k_asm); (case k3 => k_asm); (case k4 => k_asm); (case k5 => k_asm); (case k6 => k_is); (case k7 => k_is); (case k8 => ktr_room); (case k9 => first | exact hB _ (by k_in) _ _ _ _ (by k_is) | exact BindsTo.of_eq rfl | exact binds_K (by k_in) rfl (by k_is) rfl rfl rfl | (refine' kp_binds ?kx ?ke; (case kx => k_in); (case ke => exact fun _ => rfl))); (case c5 => decide); (case kB => exact locs rfl); (case c2 => exact rfl); (case c3 => exact rfl); (case c4 => exact rfl); k_whole; intro g' L' h' FG' F' N' B' X' T'; (try dsimp only); (refine wpAny_noRaise ?_); (try k_fold))))
  ((repeat' (first | (k_unfold; (try clear ze zq); (try dsimp only)) | (k_end; wrow_close) | ((fail_if_success (fail_if_success (with_reducible refine wpAny_execs_cons ?_))); ((try ((fail_if_success (fail_if_success k_fold)); (with_reducible refine foldQ ?_); intro zq ze)); (try k_gentoks); (with_reducible refine wpAny_execs_cons ?_); (try dsimp only); ((fail_if_success (fail_if_success k_fold)); (with_reducible refine foldQ ?_); intro zq ze))) | ((with_reducible show wpAny _ _ (eval (.Name _ _) _) _ _ _); (k_dflt (refine nameL (by k_asm) (by exact rfl) ?_ rfl rfl (by decide)); k_whole)) | ((k_here; (with_reducible show wpAny _ _ (call (Value.builtin _) [Value.ref _]) _ _ _); k_dflt (refine' kx_len ?N ?m ?f ?_; (case N => k_asm); (case m => assumption); (case f => omega); k_whole); intro _ _)) | walk1 | (dsimp only; walk1) | (leave1; (try dsimp only)))) <;> (try ((fail_if_success (fail_if_success k_fold)); (with_reducible refine foldQ ?_); intro zq ze)))
  refine Held.mk ?_
  with_unfolding_all
    refine' ksw_while (σ := Int × Tok × Int × Tok) (fun _ => news) (fun q => [(Str.ofString "lo", .int q.1 q.2.1), (Str.ofString "hi", .int q.2.2.1 q.2.2.2)]) (fun _ => True) [Str.ofString "mid"] (fun q => BrI ks x 0 vs.length q.1 q.2.2.1) (fun q => (q.2.2.1 - q.1).toNat) ⟨0, _, vs.length, _⟩ (by k_asm) (by k_asm) trivial ?ps ?P ?turn ?hE
  case hE => exact PassesOwn.never
  case ps => kst_all
  case P => exact ⟨Int.le_refl _, by dsimp only; omega, Int.le_refl _, fun i k _ h1 h2 => absurd h2 (by dsimp only at *; omega), fun i k _ h1 h2 => absurd h2 (by dsimp only at *; omega)⟩
  case turn =>
    intro q0 u h9 tk9 _ hP F9 N9
    try ((fail_if_success (fail_if_success k_fold)); (with_reducible refine foldQ ?_); intro zq ze)
    obtain ⟨lo, tlo, hi, thi⟩ := q0
    dsimp only [kstB] at hP F9
    ((repeat' (first | (k_unfold; (try clear ze zq); (try dsimp only)) | (k_end; wrow_close) | ((fail_if_success (fail_if_success (with_reducible refine wpAny_execs_cons ?_))); ((try ((fail_if_success (fail_if_success k_fold)); (with_reducible refine foldQ ?_); intro zq ze)); (try k_gentoks); (with_reducible refine wpAny_execs_cons ?_); (try dsimp only); ((fail_if_success (fail_if_success k_fold)); (with_reducible refine foldQ ?_); intro zq ze))) | ((with_reducible show wpAny _ _ (eval (.Name _ _) _) _ _ _); (k_dflt (refine nameL (by k_asm) (by exact rfl) ?_ rfl rfl (by decide)); k_whole)) | walk1 | (dsimp only; walk1) | (leave1; (try dsimp only)))) <;> (try ((fail_if_success (fail_if_success k_fold)); (with_reducible refine foldQ ?_); intro zq ze)))
    · have hb : lo ≤ (lo + hi).fdiv 2 ∧ (lo + hi).fdiv 2 < hi := by
        rw [Int.fdiv_eq_ediv_of_nonneg _ (by decide)]
        omega
      have h0 := hP.1
      have h1 := hP.2.2.1
      have hlt : ((lo + hi).fdiv 2).toNat < vs.length := by omega
      obtain ⟨v, hv⟩ : ∃ v, vs[((lo + hi).fdiv 2).toNat]? = some v := ⟨_, List.getElem?_eq_getElem hlt⟩
      obtain ⟨k, hk9⟩ : ∃ k, ks[((lo + hi).fdiv 2).toNat]? = some k := ⟨_, List.getElem?_eq_getElem (hK.length ▸ hlt)⟩
      obtain ⟨t', e'⟩ := hK.get _ _ hk9
      rw [e'] at hv
      cases hv
      refine kim_list (by k_asm) hm rfl rfl (by omega) (by omega) e' ?_
      ((repeat' (first | (k_unfold; (try clear ze zq); (try dsimp only)) | (k_end; wrow_close) | ((fail_if_success (fail_if_success (with_reducible refine wpAny_execs_cons ?_))); ((try ((fail_if_success (fail_if_success k_fold)); (with_reducible refine foldQ ?_); intro zq ze)); (try k_gentoks); (with_reducible refine wpAny_execs_cons ?_); (try dsimp only); ((fail_if_success (fail_if_success k_fold)); (with_reducible refine foldQ ?_); intro zq ze))) | ((with_reducible show wpAny _ _ (eval (.Name _ _) _) _ _ _); (k_dflt (refine nameL (by k_asm) (by exact rfl) ?_ rfl rfl (by decide)); k_whole)) | walk1 | (dsimp only; walk1) | (leave1; (try dsimp only)))) <;> (try ((fail_if_success (fail_if_success k_fold)); (with_reducible refine foldQ ?_); intro zq ze)))
      · (refine Held.mk ?_; refine ksw_end (_, _, _, _) (by k_asm) (by k_asm) (fun p hp => hp) trivial (by kst_all) (by ksw_same) ?_ ?_ <;> dsimp only)
        · exact hP.left hs (by omega) hb hk9 (by assumption)
        · omega
      · (refine Held.mk ?_; refine ksw_end (_, _, _, _) (by k_asm) (by k_asm) (fun p hp => hp) trivial (by kst_all) (by ksw_same) ?_ ?_ <;> dsimp only)
        · exact hP.right hs (by omega) hb hk9 (by assumption)
        · omega
    · have e : lo = hi := by have := hP.2.1; omega
      subst e
      exact hret _ _ _ _ (by k_asm) (by k_asm) ⟨rfl, lo, _, rfl, hP⟩
theorem bisl_k {w : World} {mean : ExcName → Option Value} {mg mb : Str → Option Value} {news : List (Addr × Obj)} {a : Addr} {vs : List Value} {ks : List Int} {c : Nat} {x : Int} {t : Tok} {args : List Value} {kw : List (Str × Value)} {t0 : Tok} {b : Int}
    (hm : (a, lst vs c) ∈ news) (hK : Keyed news vs ks) (hs : ks.Pairwise (· ≤ ·)) (hlen : vs.length < 1000) (hb0 : 0 ≤ b) (hb1 : b ≤ vs.length)
    (hB : ∀ s : Shared, (h0.hd.heap_39 w.params).In s.heap → ∀ (fd : FuncData) (oc : Value) (od : Option Addr) (osl : Array (Option Value)), (h0.hd.heap_39 w.params).lookup 94 = some ⟨oc, od, .func fd, osl⟩ → BindsTo s fd ⟨args, kw⟩ [(Str.ofString "a", .ref a), (Str.ofString "x", .int x t), (Str.ofString "lo", .int b t0), (Str.ofString "hi", .none), (Str.ofString "key", .ref 108)]) :
    Does w mean mg mb 2 94 args kw news (fun v news' => news' = news ∧ ∃ r t', v = .int r t' ∧ BlI ks x b vs.length r r) := by
  ((unfold Does); (intro dp un gd cn cs fa ccd cl outer A₀ base h₀ L m s Q E B F X N T hk hdp hun hret); (refine wpAny_call ?_); (k_dflt (refine' code_def ?k1 ?k2 ?k3 ?k4 ?k5 ?kA ?kF ?kK ?k6 ?k7 ?k8 ?k9 ?kB ?_ ?c2 ?c3 ?c4 ?c5; (case kA => exact rfl); (case kF => exact rfl); (case kK => assumption); (case k1 => k_asm); (case k2 => k_asm); (case k3 => k_asm); (case k4 => k_asm); (case k5 => k_asm); (case k6 => k_is); (case k7 => k_is); (case k8 => ktr_room); (case k9 => first | exact hB _ (by k_in) _ _ _ _ (by k_is) | exact BindsTo.of_eq rfl | exact binds_K (by k_in) rfl (by k_is) rfl rfl rfl | (refine' kp_binds ?kx ?ke; (case kx => k_in); (case ke => exact fun _ => rfl))); (case c5 => decide); (case kB => exact locs rfl); (case c2 => exact rfl); (case c3 => exact rfl); (case c4 => exact rfl); k_whole; intro g' L' h' FG' F' N' B' X' T'; (try dsimp only); (refine wpAny_noRaise ?_); (try k_fold))))
  ((repeat' (first | (k_unfold; (try clear ze zq); (try dsimp only)) | (k_end; wrow_close) | ((fail_if_success (fail_if_success (with_reducible refine wpAny_execs_cons ?_))); ((try ((fail_if_success (fail_if_success k_fold)); (with_reducible refine foldQ ?_); intro zq ze)); (try k_gentoks); (with_reducible refine wpAny_execs_cons ?_); (try dsimp only); ((fail_if_success (fail_if_success k_fold)); (with_reducible refine foldQ ?_); intro zq ze))) | ((with_reducible show wpAny _ _ (eval (.Name _ _) _) _ _ _); (k_dflt (refine nameL (by k_asm) (by exact rfl) ?_ rfl rfl (by decide)); k_whole)) | ((k_here; (with_reducible show wpAny _ _ (call (Value.builtin _) [Value.ref _]) _ _ _); k_dflt (refine' kx_len ?N ?m ?f ?_; (case N => k_asm); (case m => assumption); (case f => omega); k_whole); intro _ _)) | walk1 | (dsimp only; walk1) | (leave1; (try dsimp only)))) <;> (try ((fail_if_success (fail_if_success k_fold)); (with_reducible refine foldQ ?_); intro zq ze)))
  refine Held.mk ?_
  with_unfolding_all
    refine' ksw_while (σ := Int × Tok × Int × Tok) (fun _ => news) (fun q => [(Str.ofString "lo", .int q.1 q.2.1), (Str.ofString "hi", .int q.2.2.1 q.2.2.2)]) (fun _ => True) [Str.ofString "mid"] (fun q => BlI ks x b vs.length q.1 q.2.2.1) (fun q => (q.2.2.1 - q.1).toNat) ⟨b, _, vs.length, _⟩ (by k_asm) (by k_asm) trivial ?ps ?P ?turn ?hE
  case hE => exact PassesOwn.never
  case ps => kst_all
  case P => exact ⟨Int.le_refl _, by dsimp only; omega, Int.le_refl _, fun i k _ h1 h2 => absurd h2 (by dsimp only at *; omega), fun i k _ h1 h2 => absurd h2 (by dsimp only at *; omega)⟩
  case turn =>
    intro q0 u h9 tk9 _ hP F9 N9
    try ((fail_if_success (fail_if_success k_fold)); (with_reducible refine foldQ ?_); intro zq ze)
    obtain ⟨lo, tlo, hi, thi⟩ := q0
    dsimp only [kstB] at hP F9
    ((repeat' (first | (k_unfold; (try clear ze zq); (try dsimp only)) | (k_end; wrow_close) | ((fail_if_success (fail_if_success (with_reducible refine wpAny_execs_cons ?_))); ((try ((fail_if_success (fail_if_success k_fold)); (with_reducible refine foldQ ?_); intro zq ze)); (try k_gentoks); (with_reducible refine wpAny_execs_cons ?_); (try dsimp only); ((fail_if_success (fail_if_success k_fold)); (with_reducible refine foldQ ?_); intro zq ze))) | ((with_reducible show wpAny _ _ (eval (.Name _ _) _) _ _ _); (k_dflt (refine nameL (by k_asm) (by exact rfl) ?_ rfl rfl (by decide)); k_whole)) | walk1 | (dsimp only; walk1) | (leave1; (try dsimp only)))) <;> (try ((fail_if_success (fail_if_success k_fold)); (with_reducible refine foldQ ?_); intro zq ze)))
    · have hb : lo ≤ (lo + hi).fdiv 2 ∧ (lo + hi).fdiv 2 < hi := by
        rw [Int.fdiv_eq_ediv_of_nonneg _ (by decide)]
        omega
      have h0 := hP.1
      have h1 := hP.2.2.1
      have hlt : ((lo + hi).fdiv 2).toNat < vs.length := by omega
      obtain ⟨v, hv⟩ : ∃ v, vs[((lo + hi).fdiv 2).toNat]? = some v := ⟨_, List.getElem?_eq_getElem hlt⟩
      obtain ⟨k, hk9⟩ : ∃ k, ks[((lo + hi).fdiv 2).toNat]? = some k := ⟨_, List.getElem?_eq_getElem (hK.1 ▸ hlt)⟩
      obtain ⟨ad, r, t', n, rfl, hmem⟩ := hK.2 _ _ _ hv hk9
      refine kim_list (by k_asm) hm rfl rfl (by omega) (by omega) hv ?_
      ((repeat' (first | (k_unfold; (try clear ze zq); (try dsimp only)) | (k_end; wrow_close) | walk1 | (dsimp only; walk1) | (leave1; (try dsimp only)))) <;> (try ((fail_if_success (fail_if_success k_fold)); (with_reducible refine foldQ ?_); intro zq ze)))
      have hC := first_ok (w := w) (mean := mean) (mg := mg) (mb := mb) hmem
      ((refine Held.mk ?_); (refine' Does.use hC ?k1 ?k2 ?k3 ?k4 ?k5 ?kK ?kd ?ku ?_); ((case k1 => k_asm)); ((case k2 => k_asm)); ((case k3 => k_asm)); ((case k4 => k_asm)); ((case k5 => k_asm)); ((case kK => first | exact rfl | assumption)); ((case kd => ktr_room)); ((case ku => ktr_units)); (clear hC); (intro r9 news9 h9 tk9 F9 N9 ho9); ((try dsimp only at ho9)))
      obtain ⟨e1, e2⟩ := ho9
      subst e1 e2
      ((repeat' (first | (k_unfold; (try clear ze zq); (try dsimp only)) | (k_end; wrow_close) | ((fail_if_success (fail_if_success (with_reducible refine wpAny_execs_cons ?_))); ((try ((fail_if_success (fail_if_success k_fold)); (with_reducible refine foldQ ?_); intro zq ze)); (try k_gentoks); (with_reducible refine wpAny_execs_cons ?_); (try dsimp only); ((fail_if_success (fail_if_success k_fold)); (with_reducible refine foldQ ?_); intro zq ze))) | ((with_reducible show wpAny _ _ (eval (.Name _ _) _) _ _ _); (k_dflt (refine nameL (by k_asm) (by exact rfl) ?_ rfl rfl (by decide)); k_whole)) | walk1 | (dsimp only; walk1) | (leave1; (try dsimp only)))) <;> (try ((fail_if_success (fail_if_success k_fold)); (with_reducible refine foldQ ?_); intro zq ze)))
      · (refine Held.mk ?_; refine ksw_end (_, _, _, _) (by k_asm) (by k_asm) (fun p hp => hp) trivial (by kst_all) (by ksw_same) ?_ ?_ <;> dsimp only)
        · exact hP.right hs (by omega) hb hk9 (by assumption)
        · omega
      · (refine Held.mk ?_; refine ksw_end (_, _, _, _) (by k_asm) (by k_asm) (fun p hp => hp) trivial (by kst_all) (by ksw_same) ?_ ?_ <;> dsimp only)
        · exact hP.left hs (by omega) hb hk9 (by assumption)
        · omega
    · have e : lo = hi := by have := hP.2.1; omega
      subst e
      exact hret _ _ _ _ (by k_asm) (by k_asm) ⟨rfl, lo, _, rfl, hP⟩
theorem bisl_2 {w : World} {mean : ExcName → Option Value} {mg mb : Str → Option Value} {news : List (Addr × Obj)} {a : Addr} {vs : List Value} {ks : List Int} {c : Nat} {x : Int} {t : Tok}
    (hm : (a, lst vs c) ∈ news) (hK : Keyed news vs ks) (hs : ks.Pairwise (· ≤ ·)) (hlen : vs.length < 1000) :
    Does w mean mg mb 2 94 [.ref a, .int x t] [(Str.ofString "key", .ref 108)] news (fun v news' => news' = news ∧ ∃ r t', v = .int r t' ∧ BlI ks x 0 vs.length r r) :=
  bisl_k hm hK hs hlen (Int.le_refl _) (Int.natCast_nonneg _) (fun s X => by (refine bindsAt (by k_is) ?_; first | exact BindsTo.of_eq rfl | exact binds_K (by k_in) rfl (by k_is) rfl rfl rfl | (refine' kp_binds ?kx ?ke; (case kx => k_in); (case ke => exact fun _ => rfl))))
theorem bisl_1 {w : World} {mean : ExcName → Option Value} {mg mb : Str → Option Value} {news : List (Addr × Obj)} {a : Addr} {vs : List Value} {ks : List Int} {c : Nat} {x : Int} {t : Tok} {t0 : Tok}
    (hm : (a, lst vs c) ∈ news) (hK : Keyed news vs ks) (hs : ks.Pairwise (· ≤ ·)) (hlen : vs.length < 1000) :
    Does w mean mg mb 2 94 [.ref a, .int x t, .int 0 t0, .none] [(Str.ofString "key", .ref 108)] news (fun v news' => news' = news ∧ ∃ r t', v = .int r t' ∧ BlI ks x 0 vs.length r r) :=
  bisl_k hm hK hs hlen (Int.le_refl _) (Int.natCast_nonneg _) (fun s X => by (refine bindsAt (by k_is) ?_; first | exact BindsTo.of_eq rfl | exact binds_K (by k_in) rfl (by k_is) rfl rfl rfl | (refine' kp_binds ?kx ?ke; (case kx => k_in); (case ke => exact fun _ => rfl))))
theorem bisl_4 {w : World} {mean : ExcName → Option Value} {mg mb : Str → Option Value} {news : List (Addr × Obj)} {a : Addr} {vs : List Value} {ks : List Int} {c : Nat} {x : Int} {t : Tok} {t0 t1 : Tok} {b : Int}
    (hm : (a, lst vs c) ∈ news) (hK : Keyed news vs ks) (hs : ks.Pairwise (· ≤ ·)) (hlen : vs.length < 1000) (hb0 : 0 ≤ b) (hb1 : b ≤ vs.length) :
    Does w mean mg mb 2 94 [.ref a, .int x t, .int 0 t0, .int b t1] [(Str.ofString "key", .ref 108)] news (fun v news' => news' = news ∧ ∃ r t', v = .int r t' ∧ BlI ks x 0 b r r) := by
  ((unfold Does); (intro dp un gd cn cs fa ccd cl outer A₀ base h₀ L m s Q E B F X N T hk hdp hun hret); (refine wpAny_call ?_); (k_dflt (refine' code_def ?k1 ?k2 ?k3 ?k4 ?k5 ?kA ?kF ?kK ?k6 ?k7 ?k8 ?k9 ?kB ?_ ?c2 ?c3 ?c4 ?c5; (case kA => exact rfl); (case kF => exact rfl); (case kK => assumption); (case k1 => k_asm); (case k2 => k_asm); (case k3 => k_asm); (case k4 => k_asm); (case k5 => k_asm); (case k6 => k_is); (case k7 => k_is); (case k8 => ktr_room); (case k9 => first | exact hB _ (by k_in) _ _ _ _ (by k_is) | exact BindsTo.of_eq rfl | exact binds_K (by k_in) rfl (by k_is) rfl rfl rfl | (refine' kp_binds ?kx ?ke; (case kx => k_in); (case ke => exact fun _ => rfl))); (case c5 => decide); (case kB => exact locs rfl); (case c2 => exact rfl); (case c3 => exact rfl); (case c4 => exact rfl); k_whole; intro g' L' h' FG' F' N' B' X' T'; (try dsimp only); (refine wpAny_noRaise ?_); (try k_fold))))
  ((repeat' (first | (k_unfold; (try clear ze zq); (try dsimp only)) | (k_end; wrow_close) | ((fail_if_success (fail_if_success (with_reducible refine wpAny_execs_cons ?_))); ((try ((fail_if_success (fail_if_success k_fold)); (with_reducible refine foldQ ?_); intro zq ze)); (try k_gentoks); (with_reducible refine wpAny_execs_cons ?_); (try dsimp only); ((fail_if_success (fail_if_success k_fold)); (with_reducible refine foldQ ?_); intro zq ze))) | ((with_reducible show wpAny _ _ (eval (.Name _ _) _) _ _ _); (k_dflt (refine nameL (by k_asm) (by exact rfl) ?_ rfl rfl (by decide)); k_whole)) | walk1 | (dsimp only; walk1) | (leave1; (try dsimp only)))) <;> (try ((fail_if_success (fail_if_success k_fold)); (with_reducible refine foldQ ?_); intro zq ze)))
  refine Held.mk ?_
  with_unfolding_all
    refine' ksw_while (σ := Int × Tok × Int × Tok) (fun _ => news) (fun q => [(Str.ofString "lo", .int q.1 q.2.1), (Str.ofString "hi", .int q.2.2.1 q.2.2.2)]) (fun _ => True) [Str.ofString "mid"] (fun q => BlI ks x 0 b q.1 q.2.2.1) (fun q => (q.2.2.1 - q.1).toNat) ⟨0, _, b, _⟩ (by k_asm) (by k_asm) trivial ?ps ?P ?turn ?hE
  case hE => exact PassesOwn.never
  case ps => kst_all
  case P => exact ⟨Int.le_refl _, by dsimp only; omega, Int.le_refl _, fun i k _ h1 h2 => absurd h2 (by dsimp only at *; omega), fun i k _ h1 h2 => absurd h2 (by dsimp only at *; omega)⟩
  case turn =>
    intro q0 u h9 tk9 _ hP F9 N9
    try ((fail_if_success (fail_if_success k_fold)); (with_reducible refine foldQ ?_); intro zq ze)
    obtain ⟨lo, tlo, hi, thi⟩ := q0
    dsimp only [kstB] at hP F9
    ((repeat' (first | (k_unfold; (try clear ze zq); (try dsimp only)) | (k_end; wrow_close) | ((fail_if_success (fail_if_success (with_reducible refine wpAny_execs_cons ?_))); ((try ((fail_if_success (fail_if_success k_fold)); (with_reducible refine foldQ ?_); intro zq ze)); (try k_gentoks); (with_reducible refine wpAny_execs_cons ?_); (try dsimp only); ((fail_if_success (fail_if_success k_fold)); (with_reducible refine foldQ ?_); intro zq ze))) | ((with_reducible show wpAny _ _ (eval (.Name _ _) _) _ _ _); (k_dflt (refine nameL (by k_asm) (by exact rfl) ?_ rfl rfl (by decide)); k_whole)) | walk1 | (dsimp only; walk1) | (leave1; (try dsimp only)))) <;> (try ((fail_if_success (fail_if_success k_fold)); (with_reducible refine foldQ ?_); intro zq ze)))
    · have hb : lo ≤ (lo + hi).fdiv 2 ∧ (lo + hi).fdiv 2 < hi := by
        rw [Int.fdiv_eq_ediv_of_nonneg _ (by decide)]
        omega
      have h0 := hP.1
      have h1 := hP.2.2.1
      have hlt : ((lo + hi).fdiv 2).toNat < vs.length := by omega
      obtain ⟨v, hv⟩ : ∃ v, vs[((lo + hi).fdiv 2).toNat]? = some v := ⟨_, List.getElem?_eq_getElem hlt⟩
      obtain ⟨k, hk9⟩ : ∃ k, ks[((lo + hi).fdiv 2).toNat]? = some k := ⟨_, List.getElem?_eq_getElem (hK.1 ▸ hlt)⟩
      obtain ⟨ad, r, t', n, rfl, hmem⟩ := hK.2 _ _ _ hv hk9
      refine kim_list (by k_asm) hm rfl rfl (by omega) (by omega) hv ?_
      ((repeat' (first | (k_unfold; (try clear ze zq); (try dsimp only)) | (k_end; wrow_close) | walk1 | (dsimp only; walk1) | (leave1; (try dsimp only)))) <;> (try ((fail_if_success (fail_if_success k_fold)); (with_reducible refine foldQ ?_); intro zq ze)))
      have hC := first_ok (w := w) (mean := mean) (mg := mg) (mb := mb) hmem
      ((refine Held.mk ?_); (refine' Does.use hC ?k1 ?k2 ?k3 ?k4 ?k5 ?kK ?kd ?ku ?_); ((case k1 => k_asm)); ((case k2 => k_asm)); ((case k3 => k_asm)); ((case k4 => k_asm)); ((case k5 => k_asm)); ((case kK => first | exact rfl | assumption)); ((case kd => ktr_room)); ((case ku => ktr_units)); (clear hC); (intro r9 news9 h9 tk9 F9 N9 ho9); ((try dsimp only at ho9)))
      obtain ⟨e1, e2⟩ := ho9
      subst e1 e2
      ((repeat' (first | (k_unfold; (try clear ze zq); (try dsimp only)) | (k_end; wrow_close) | ((fail_if_success (fail_if_success (with_reducible refine wpAny_execs_cons ?_))); ((try ((fail_if_success (fail_if_success k_fold)); (with_reducible refine foldQ ?_); intro zq ze)); (try k_gentoks); (with_reducible refine wpAny_execs_cons ?_); (try dsimp only); ((fail_if_success (fail_if_success k_fold)); (with_reducible refine foldQ ?_); intro zq ze))) | ((with_reducible show wpAny _ _ (eval (.Name _ _) _) _ _ _); (k_dflt (refine nameL (by k_asm) (by exact rfl) ?_ rfl rfl (by decide)); k_whole)) | walk1 | (dsimp only; walk1) | (leave1; (try dsimp only)))) <;> (try ((fail_if_success (fail_if_success k_fold)); (with_reducible refine foldQ ?_); intro zq ze)))
      · (refine Held.mk ?_; refine ksw_end (_, _, _, _) (by k_asm) (by k_asm) (fun p hp => hp) trivial (by kst_all) (by ksw_same) ?_ ?_ <;> dsimp only)
        · exact hP.right hs (by omega) hb hk9 (by assumption)
        · omega
      · (refine Held.mk ?_; refine ksw_end (_, _, _, _) (by k_asm) (by k_asm) (fun p hp => hp) trivial (by kst_all) (by ksw_same) ?_ ?_ <;> dsimp only)
        · exact hP.left hs (by omega) hb hk9 (by assumption)
        · omega
    · have e : lo = hi := by have := hP.2.1; omega
      subst e
      exact hret _ _ _ _ (by k_asm) (by k_asm) ⟨rfl, lo, _, rfl, hP⟩
theorem bisl_0 {w : World} {mean : ExcName → Option Value} {mg mb : Str → Option Value} {news : List (Addr × Obj)} {a : Addr} {vs : List Value} {ks : List Int} {c : Nat} {x : Int} {t : Tok}
    (hm : (a, lst vs c) ∈ news) (hK : IntsAre vs ks) (hs : ks.Pairwise (· ≤ ·)) (hlen : vs.length < 1000) :
    Does w mean mg mb 2 94 [.ref a, .int x t] [] news (fun v news' => news' = news ∧ ∃ r t', v = .int r t' ∧ BlI ks x 0 vs.length r r) := by
  ((unfold Does); (intro dp un gd cn cs fa ccd cl outer A₀ base h₀ L m s Q E B F X N T hk hdp hun hret); (refine wpAny_call ?_); (k_dflt (refine' code_def ?k1 ?k2 ?k3 ?k4 ?k5 ?kA ?kF ?kK ?k6 ?k7 ?k8 ?k9 ?kB ?_ ?c2 ?c3 ?c4 ?c5; (case kA => exact rfl); (case kF => exact rfl); (case kK => assumption); (case k1 => k_asm); (case k2 => k_asm); (case k3 => k_asm); (case k4 => k_asm); (case k5 => k_asm); (case k6 => k_is); (case k7 => k_is); (case k8 => ktr_room); (case k9 => first | exact hB _ (by k_in) _ _ _ _ (by k_is) | exact BindsTo.of_eq rfl | exact binds_K (by k_in) rfl (by k_is) rfl rfl rfl | (refine' kp_binds ?kx ?ke; (case kx => k_in); (case ke => exact fun _ => rfl))); (case c5 => decide); (case kB => exact locs rfl); (case c2 => exact rfl); (case c3 => exact rfl); (case c4 => exact rfl); k_whole; intro g' L' h' FG' F' N' B' X' T'; (try dsimp only); (refine wpAny_noRaise ?_); (try k_fold))))
  ((repeat' (first | (k_unfold; (try clear ze zq); (try dsimp only)) | (k_end; wrow_close) | ((fail_if_success (fail_if_success (with_reducible refine wpAny_execs_cons ?_))); ((try ((fail_if_success (fail_if_success k_fold)); (with_reducible refine foldQ ?_); intro zq ze)); (try k_gentoks); (with_reducible refine wpAny_execs_cons ?_); (try dsimp only); ((fail_if_success (fail_if_success k_fold)); (with_reducible refine foldQ ?_); intro zq ze))) | ((with_reducible show wpAny _ _ (eval (.Name _ _) _) _ _ _); (k_dflt (refine nameL (by k_asm) (by exact rfl) ?_ rfl rfl (by decide)); k_whole)) | ((k_here; (with_reducible show wpAny _ _ (call (Value.builtin _) [Value.ref _]) _ _ _); k_dflt (refine' kx_len ?N ?m ?f ?_; (case N => k_asm); (case m => assumption); (case f => omega); k_whole); intro _ _)) | walk1 | (dsimp only; walk1) | (leave1; (try dsimp only)))) <;> (try ((fail_if_success (fail_if_success k_fold)); (with_reducible refine foldQ ?_); intro zq ze)))
  refine Held.mk ?_
  with_unfolding_all
    refine' ksw_while (σ := Int × Tok × Int × Tok) (fun _ => news) (fun q => [(Str.ofString "lo", .int q.1 q.2.1), (Str.ofString "hi", .int q.2.2.1 q.2.2.2)]) (fun _ => True) [Str.ofString "mid"] (fun q => BlI ks x 0 vs.length q.1 q.2.2.1) (fun q => (q.2.2.1 - q.1).toNat) ⟨0, _, vs.length, _⟩ (by k_asm) (by k_asm) trivial ?ps ?P ?turn ?hE
  case hE => exact PassesOwn.never
  case ps => kst_all
  case P => exact ⟨Int.le_refl _, by dsimp only; omega, Int.le_refl _, fun i k _ h1 h2 => absurd h2 (by dsimp only at *; omega), fun i k _ h1 h2 => absurd h2 (by dsimp only at *; omega)⟩
  case turn =>
    intro q0 u h9 tk9 _ hP F9 N9
    try ((fail_if_success (fail_if_success k_fold)); (with_reducible refine foldQ ?_); intro zq ze)
    obtain ⟨lo, tlo, hi, thi⟩ := q0
    dsimp only [kstB] at hP F9
    ((repeat' (first | (k_unfold; (try clear ze zq); (try dsimp only)) | (k_end; wrow_close) | ((fail_if_success (fail_if_success (with_reducible refine wpAny_execs_cons ?_))); ((try ((fail_if_success (fail_if_success k_fold)); (with_reducible refine foldQ ?_); intro zq ze)); (try k_gentoks); (with_reducible refine wpAny_execs_cons ?_); (try dsimp only); ((fail_if_success (fail_if_success k_fold)); (with_reducible refine foldQ ?_); intro zq ze))) | ((with_reducible show wpAny _ _ (eval (.Name _ _) _) _ _ _); (k_dflt (refine nameL (by k_asm) (by exact rfl) ?_ rfl rfl (by decide)); k_whole)) | walk1 | (dsimp only; walk1) | (leave1; (try dsimp only)))) <;> (try ((fail_if_success (fail_if_success k_fold)); (with_reducible refine foldQ ?_); intro zq ze)))
    · have hb : lo ≤ (lo + hi).fdiv 2 ∧ (lo + hi).fdiv 2 < hi := by
        rw [Int.fdiv_eq_ediv_of_nonneg _ (by decide)]
        omega
      have h0 := hP.1
      have h1 := hP.2.2.1
      have hlt : ((lo + hi).fdiv 2).toNat < vs.length := by omega
      obtain ⟨v, hv⟩ : ∃ v, vs[((lo + hi).fdiv 2).toNat]? = some v := ⟨_, List.getElem?_eq_getElem hlt⟩
      obtain ⟨k, hk9⟩ : ∃ k, ks[((lo + hi).fdiv 2).toNat]? = some k := ⟨_, List.getElem?_eq_getElem (hK.length ▸ hlt)⟩
      obtain ⟨t', e'⟩ := hK.get _ _ hk9
      rw [e'] at hv
      cases hv
      refine kim_list (by k_asm) hm rfl rfl (by omega) (by omega) e' ?_
      ((repeat' (first | (k_unfold; (try clear ze zq); (try dsimp only)) | (k_end; wrow_close) | ((fail_if_success (fail_if_success (with_reducible refine wpAny_execs_cons ?_))); ((try ((fail_if_success (fail_if_success k_fold)); (with_reducible refine foldQ ?_); intro zq ze)); (try k_gentoks); (with_reducible refine wpAny_execs_cons ?_); (try dsimp only); ((fail_if_success (fail_if_success k_fold)); (with_reducible refine foldQ ?_); intro zq ze))) | ((with_reducible show wpAny _ _ (eval (.Name _ _) _) _ _ _); (k_dflt (refine nameL (by k_asm) (by exact rfl) ?_ rfl rfl (by decide)); k_whole)) | walk1 | (dsimp only; walk1) | (leave1; (try dsimp only)))) <;> (try ((fail_if_success (fail_if_success k_fold)); (with_reducible refine foldQ ?_); intro zq ze)))
      · (refine Held.mk ?_; refine ksw_end (_, _, _, _) (by k_asm) (by k_asm) (fun p hp => hp) trivial (by kst_all) (by ksw_same) ?_ ?_ <;> dsimp only)
        · exact hP.right hs (by omega) hb hk9 (by assumption)
        · omega
      · (refine Held.mk ?_; refine ksw_end (_, _, _, _) (by k_asm) (by k_asm) (fun p hp => hp) trivial (by kst_all) (by ksw_same) ?_ ?_ <;> dsimp only)
        · exact hP.left hs (by omega) hb hk9 (by assumption)
        · omega
    · have e : lo = hi := by have := hP.2.1; omega
      subst e
      exact hret _ _ _ _ (by k_asm) (by k_asm) ⟨rfl, lo, _, rfl, hP⟩
section
-- B2
theorem rstB2 : True := by
  w_top off
  trivial
set_option maxHeartbeats 8000000
/-- behind all that are not greater -/
noncomputable def insR {ι : Type} (key : ι → Int) (y : ι) : List ι → List ι
  | [] => [y]
  | z :: r => if key y < key z then y :: z :: r else z :: insR key y r
/-- ahead of all that are not smaller -/
noncomputable def insL {ι : Type} (key : ι → Int) (y : ι) : List ι → List ι
  | [] => [y]
  | z :: r => if key z < key y then z :: insL key y r else y :: z :: r
theorem insR_at {ι : Type} (key : ι → Int) (y : ι) : ∀ (l : List ι) (i : Nat), i ≤ l.length → (∀ (j : Nat) k, (l.map key)[j]? = some k → j < i → k ≤ key y) → (∀ (j : Nat) k, (l.map key)[j]? = some k → i ≤ j → key y < k) →
    l.take i ++ y :: l.drop i = insR key y l
  | [], i, h, _, _ => by
    have : i = 0 := by simpa using h
    subst this
    rfl
  | z :: r, 0, _, _, h2 => by
    have := h2 0 (key z) rfl (Nat.le_refl _)
    simp [insR, this]
  | z :: r, i + 1, h, h1, h2 => by
    have a := h1 0 (key z) rfl (Nat.succ_pos _)
    have ih := insR_at key y r i (by simpa using h) (fun j k e hj => h1 (j + 1) k (by simpa using e) (by lia)) (fun j k e hj => h2 (j + 1) k (by simpa using e) (by lia))
    rw [insR, if_neg (by lia), ← ih]
    rfl
theorem insL_at {ι : Type} (key : ι → Int) (y : ι) : ∀ (l : List ι) (i : Nat), i ≤ l.length → (∀ (j : Nat) k, (l.map key)[j]? = some k → j < i → k < key y) → (∀ (j : Nat) k, (l.map key)[j]? = some k → i ≤ j → key y ≤ k) →
    l.take i ++ y :: l.drop i = insL key y l
  | [], i, h, _, _ => by
    have : i = 0 := by simpa using h
    subst this
    rfl
  | z :: r, 0, _, _, h2 => by
    have := h2 0 (key z) rfl (Nat.le_refl _)
    simp only [List.take_zero, List.drop_zero, List.nil_append, insL]
    rw [if_neg (by lia)]
  | z :: r, i + 1, h, h1, h2 => by
    have a := h1 0 (key z) rfl (Nat.succ_pos _)
    have ih := insL_at key y r i (by simpa using h) (fun j k e hj => h1 (j + 1) k (by simpa using e) (by omega)) (fun j k e hj => h2 (j + 1) k (by simpa using e) (by omega))
    rw [insL, if_pos (by omega), ← ih]
    rfl
theorem Keyed.mono {news news' : List (Addr × Obj)} {vs : List Value} {ks : List Int} (h : Keyed news vs ks) (hs : ∀ p ∈ news, p ∈ news') : Keyed news' vs ks :=
  ⟨h.1, fun i v k a b => let ⟨ad, r, t, n, e, m⟩ := h.2 i v k a b; ⟨ad, r, t, n, e, hs _ m⟩⟩
theorem kl_ins_at (l : List Value) (i : Nat) (h : i ≤ l.length) (y : Value) : kl_ins l (i : Int) y = l.take i ++ y :: l.drop i := by
  unfold kl_ins
  have e : (if (i : Int) < 0 then ((i : Int) + (l.length : Int)).toNat else min (i : Int).toNat l.length) = i := by
    rw [if_neg (by lia), Int.toNat_natCast]
    lia
  rw [e]
theorem fits_nat {i : Nat} (h : i < 1000) : Builtin.List.listFitsIndex (i : Int) = true := by
  simp only [Builtin.List.listFitsIndex, Bool.and_eq_true, decide_eq_true_eq]
  omega
theorem insr_key {w : World} {mean : ExcName → Option Value} {mg mb : Str → Option Value} {rest : List (Addr × Obj)} {ι : Type} {val : ι → Value} {key : ι → Int} {l : List ι} {y : ι} {a ad : Addr} {c n : Nat} {t : Tok} {r : List Value}
    (hK : Keyed rest (l.map val) (l.map key)) (hs : (l.map key).Pairwise (· ≤ ·)) (hlen : l.length < 900) (hne : ∀ p ∈ rest, p.1 ≠ a) (hy : val y = .ref ad) (hmy : (ad, tupObj (.int (key y) t :: r) n) ∈ rest) :
    Does w mean mg mb 3 67 [.ref a, .ref ad] [(Str.ofString "key", .ref 108)] ((a, lst (l.map val) c) :: rest) (fun v news' => v = .none ∧ news' = (a, lst ((insR key y l).map val) (c + 1)) :: rest) := by
  ((unfold Does); (intro dp un gd cn cs fa ccd cl outer A₀ base h₀ L m s Q E B F X N T hk hdp hun hret); (refine wpAny_call ?_); (k_dflt (refine' code_def ?k1 ?k2 ?k3 ?k4 ?k5 ?kA ?kF ?kK ?k6 ?k7 ?k8 ?k9 ?kB ?_ ?c2 ?c3 ?c4 ?c5; (case kA => exact rfl); (case kF => exact rfl); (case kK => assumption); (case k1 => k_asm); (case k2 => k_asm); (case k3 => k_asm); (case k4 => k_asm); (case k5 => k_asm); (case k6 => k_is); (case k7 => k_is); (case k8 => ktr_room); (case k9 => first | exact BindsTo.of_eq rfl | exact binds_K (by k_in) rfl (by k_is) rfl rfl rfl | (refine' kp_binds ?kx ?ke; (case kx => k_in); (case ke => exact fun _ => rfl))); (case c5 => decide); (case kB => exact locs rfl); (case c2 => exact rfl); (case c3 => exact rfl); (case c4 => exact rfl); k_whole; intro g' L' h' FG' F' N' B' X' T'; (try dsimp only); (refine wpAny_noRaise ?_); (try k_fold))))
  ((repeat' (first | (k_unfold; (try clear ze zq); (try dsimp only)) | (k_end; wrow_close) | ((fail_if_success (fail_if_success (with_reducible refine wpAny_execs_cons ?_))); ((try ((fail_if_success (fail_if_success k_fold)); (with_reducible refine foldQ ?_); intro zq ze)); (try k_gentoks); (with_reducible refine wpAny_execs_cons ?_); (try dsimp only); ((fail_if_success (fail_if_success k_fold)); (with_reducible refine foldQ ?_); intro zq ze))) | ((with_reducible show wpAny _ _ (eval (.Name _ _) _) _ _ _); (k_dflt (refine nameL (by k_asm) (by exact rfl) ?_ rfl rfl (by decide)); k_whole)) | walk1 | (dsimp only; walk1) | (leave1; (try dsimp only)))) <;> (try ((fail_if_success (fail_if_success k_fold)); (with_reducible refine foldQ ?_); intro zq ze)))
  have hC := first_ok (w := w) (mean := mean) (mg := mg) (mb := mb) (news := (a, lst (l.map val) c) :: rest) (List.mem_cons_of_mem _ hmy)
  ((refine Held.mk ?_); (first | refine' Does.use hC ?k1 ?k2 ?k3 ?k4 ?k5 ?kK ?kd ?ku ?_ | refine' Does.use (hC _) ?k1 ?k2 ?k3 ?k4 ?k5 ?kK ?kd ?ku ?_); ((case k1 => k_asm)); ((case k2 => k_asm)); ((case k3 => k_asm)); ((case k4 => k_asm)); ((case k5 => k_asm)); ((case kK => first | exact rfl | assumption)); ((case kd => ktr_room)); ((case ku => ktr_units)); (clear hC); (intro r9 news9 h9 tk9 F9 N9 ho9); ((try dsimp only at ho9)))
  obtain ⟨e1, e2⟩ := ho9
  subst e1 e2
  ((repeat' (first | (k_unfold; (try clear ze zq); (try dsimp only)) | (k_end; wrow_close) | ((with_reducible show wpAny _ _ (eval (.Name _ _) _) _ _ _); (k_dflt (refine nameL (by k_asm) (by exact rfl) ?_ rfl rfl (by decide)); k_whole)) | walk1 | (dsimp only; walk1) | (leave1; (try dsimp only)))) <;> (try ((fail_if_success (fail_if_success k_fold)); (with_reducible refine foldQ ?_); intro zq ze)))
  have hC := fun t0 => bisr_1 (w := w) (mean := mean) (mg := mg) (mb := mb) (news := (a, lst (l.map val) c) :: rest) (x := key y) (t := t) (t0 := t0) (List.mem_cons_self ..) (hK.mono fun p hp => List.mem_cons_of_mem _ hp) hs (by simp; (solve_by_elim (maxDepth := 5) [Nat.lt_of_lt_of_le, Nat.lt_of_le_of_lt, Nat.le_of_lt, Nat.le_trans, Nat.lt_trans, Nat.lt_succ_of_lt, Nat.lt_succ_of_le, Nat.le_succ_of_le, Nat.succ_le_of_lt, Nat.le_refl, Nat.sub_lt, Nat.sub_le, Nat.le_add_right, Nat.le_add_left, Nat.zero_le, Nat.zero_lt_succ, Nat.pos_of_ne_zero, Nat.le_of_lt_succ, Nat.ne_of_lt, Nat.ne_of_gt]))
  ((refine Held.mk ?_); (first | refine' Does.use hC ?k1 ?k2 ?k3 ?k4 ?k5 ?kK ?kd ?ku ?_ | refine' Does.use (hC _) ?k1 ?k2 ?k3 ?k4 ?k5 ?kK ?kd ?ku ?_); ((case k1 => k_asm)); ((case k2 => k_asm)); ((case k3 => k_asm)); ((case k4 => k_asm)); ((case k5 => k_asm)); ((case kK => first | exact rfl | assumption)); ((case kd => ktr_room)); ((case ku => ktr_units)); (clear hC); (intro r9 news9 h9 tk9 F9 N9 ho9); ((try dsimp only at ho9)))
  obtain ⟨e1, i, t', e2, b1, b2, b3, b4, b5⟩ := ho9
  subst e1 e2
  obtain ⟨i, rfl⟩ := Int.eq_ofNat_of_zero_le b1
  simp only [List.length_map] at b3 b5
  ((repeat' (first | (k_unfold; (try clear ze zq); (try dsimp only)) | (k_end; wrow_close) | ((fail_if_success (fail_if_success (with_reducible refine wpAny_execs_cons ?_))); ((try ((fail_if_success (fail_if_success k_fold)); (with_reducible refine foldQ ?_); intro zq ze)); (try k_gentoks); (with_reducible refine wpAny_execs_cons ?_); (try dsimp only); ((fail_if_success (fail_if_success k_fold)); (with_reducible refine foldQ ?_); intro zq ze))) | ((with_reducible show wpAny _ _ (eval (.Name _ _) _) _ _ _); (k_dflt (refine nameL (by k_asm) (by exact rfl) ?_ rfl rfl (by decide)); k_whole)) | walk1 | (dsimp only; walk1) | (leave1; (try dsimp only)))) <;> (try ((fail_if_success (fail_if_success k_fold)); (with_reducible refine foldQ ?_); intro zq ze)))
  refine kl_insert (by k_asm) (by k_asm) (fits_nat (by lia)) rfl (Upd.head hne) (by simp [sizeLine]; (solve_by_elim (maxDepth := 5) [Nat.lt_of_lt_of_le, Nat.lt_of_le_of_lt, Nat.le_of_lt, Nat.le_trans, Nat.lt_trans, Nat.lt_succ_of_lt, Nat.lt_succ_of_le, Nat.le_succ_of_le, Nat.succ_le_of_lt, Nat.le_refl, Nat.sub_lt, Nat.sub_le, Nat.le_add_right, Nat.le_add_left, Nat.zero_le, Nat.zero_lt_succ, Nat.pos_of_ne_zero, Nat.le_of_lt_succ, Nat.ne_of_lt, Nat.ne_of_gt])) ?_
  intro h8 F8 N8
  rw [List.toList_toArray, kl_ins_at _ _ (by simp; lia), ← hy, ← List.map_take, ← List.map_drop, ← List.map_cons, ← List.map_append,
    insR_at key y l i (by omega) (fun j k e h => b4 j k e (by (solve_by_elim (maxDepth := 5) [Nat.lt_of_lt_of_le, Nat.lt_of_le_of_lt, Nat.le_of_lt, Nat.le_trans, Nat.lt_trans, Nat.lt_succ_of_lt, Nat.lt_succ_of_le, Nat.le_succ_of_le, Nat.succ_le_of_lt, Nat.le_refl, Nat.sub_lt, Nat.sub_le, Nat.le_add_right, Nat.le_add_left, Nat.zero_le, Nat.zero_lt_succ, Nat.pos_of_ne_zero, Nat.le_of_lt_succ, Nat.ne_of_lt, Nat.ne_of_gt])) (by lia)) (fun j k e h => b5 j k e (by lia) (by
      have := (List.getElem?_eq_some_iff.mp e).1
      rw [List.length_map] at this
      lia))] at N8
  ((repeat' (first | (k_unfold; (try clear ze zq); (try dsimp only)) | (k_end; wrow_close) | walk1 | (dsimp only; walk1) | (leave1; (try dsimp only)))) <;> (try ((fail_if_success (fail_if_success k_fold)); (with_reducible refine foldQ ?_); intro zq ze)))
  exact hret _ _ _ _ (by k_asm) (by k_asm) ⟨rfl, rfl⟩
theorem insl_key {w : World} {mean : ExcName → Option Value} {mg mb : Str → Option Value} {rest : List (Addr × Obj)} {ι : Type} {val : ι → Value} {key : ι → Int} {l : List ι} {y : ι} {a ad : Addr} {c n : Nat} {t : Tok} {r : List Value}
    (hK : Keyed rest (l.map val) (l.map key)) (hs : (l.map key).Pairwise (· ≤ ·)) (hlen : l.length < 900) (hne : ∀ p ∈ rest, p.1 ≠ a) (hy : val y = .ref ad) (hmy : (ad, tupObj (.int (key y) t :: r) n) ∈ rest) :
    Does w mean mg mb 3 85 [.ref a, .ref ad] [(Str.ofString "key", .ref 108)] ((a, lst (l.map val) c) :: rest) (fun v news' => v = .none ∧ news' = (a, lst ((insL key y l).map val) (c + 1)) :: rest) := by
  ((unfold Does); (intro dp un gd cn cs fa ccd cl outer A₀ base h₀ L m s Q E B F X N T hk hdp hun hret); (refine wpAny_call ?_); (k_dflt (refine' code_def ?k1 ?k2 ?k3 ?k4 ?k5 ?kA ?kF ?kK ?k6 ?k7 ?k8 ?k9 ?kB ?_ ?c2 ?c3 ?c4 ?c5; (case kA => exact rfl); (case kF => exact rfl); (case kK => assumption); (case k1 => k_asm); (case k2 => k_asm); (case k3 => k_asm); (case k4 => k_asm); (case k5 => k_asm); (case k6 => k_is); (case k7 => k_is); (case k8 => ktr_room); (case k9 => first | exact BindsTo.of_eq rfl | exact binds_K (by k_in) rfl (by k_is) rfl rfl rfl | (refine' kp_binds ?kx ?ke; (case kx => k_in); (case ke => exact fun _ => rfl))); (case c5 => decide); (case kB => exact locs rfl); (case c2 => exact rfl); (case c3 => exact rfl); (case c4 => exact rfl); k_whole; intro g' L' h' FG' F' N' B' X' T'; (try dsimp only); (refine wpAny_noRaise ?_); (try k_fold))))
  ((repeat' (first | (k_unfold; (try clear ze zq); (try dsimp only)) | (k_end; wrow_close) | ((fail_if_success (fail_if_success (with_reducible refine wpAny_execs_cons ?_))); ((try ((fail_if_success (fail_if_success k_fold)); (with_reducible refine foldQ ?_); intro zq ze)); (try k_gentoks); (with_reducible refine wpAny_execs_cons ?_); (try dsimp only); ((fail_if_success (fail_if_success k_fold)); (with_reducible refine foldQ ?_); intro zq ze))) | ((with_reducible show wpAny _ _ (eval (.Name _ _) _) _ _ _); (k_dflt (refine nameL (by k_asm) (by exact rfl) ?_ rfl rfl (by decide)); k_whole)) | walk1 | (dsimp only; walk1) | (leave1; (try dsimp only)))) <;> (try ((fail_if_success (fail_if_success k_fold)); (with_reducible refine foldQ ?_); intro zq ze)))
  have hC := first_ok (w := w) (mean := mean) (mg := mg) (mb := mb) (news := (a, lst (l.map val) c) :: rest) (List.mem_cons_of_mem _ hmy)
  ((refine Held.mk ?_); (first | refine' Does.use hC ?k1 ?k2 ?k3 ?k4 ?k5 ?kK ?kd ?ku ?_ | refine' Does.use (hC _) ?k1 ?k2 ?k3 ?k4 ?k5 ?kK ?kd ?ku ?_); ((case k1 => k_asm)); ((case k2 => k_asm)); ((case k3 => k_asm)); ((case k4 => k_asm)); ((case k5 => k_asm)); ((case kK => first | exact rfl | assumption)); ((case kd => ktr_room)); ((case ku => ktr_units)); (clear hC); (intro r9 news9 h9 tk9 F9 N9 ho9); ((try dsimp only at ho9)))
  obtain ⟨e1, e2⟩ := ho9
  subst e1 e2
  ((repeat' (first | (k_unfold; (try clear ze zq); (try dsimp only)) | (k_end; wrow_close) | ((with_reducible show wpAny _ _ (eval (.Name _ _) _) _ _ _); (k_dflt (refine nameL (by k_asm) (by exact rfl) ?_ rfl rfl (by decide)); k_whole)) | walk1 | (dsimp only; walk1) | (leave1; (try dsimp only)))) <;> (try ((fail_if_success (fail_if_success k_fold)); (with_reducible refine foldQ ?_); intro zq ze)))
  have hC := fun t0 => bisl_1 (w := w) (mean := mean) (mg := mg) (mb := mb) (news := (a, lst (l.map val) c) :: rest) (x := key y) (t := t) (t0 := t0) (List.mem_cons_self ..) (hK.mono fun p hp => List.mem_cons_of_mem _ hp) hs (by simp; (solve_by_elim (maxDepth := 5) [Nat.lt_of_lt_of_le, Nat.lt_of_le_of_lt, Nat.le_of_lt, Nat.le_trans, Nat.lt_trans, Nat.lt_succ_of_lt, Nat.lt_succ_of_le, Nat.le_succ_of_le, Nat.succ_le_of_lt, Nat.le_refl, Nat.sub_lt, Nat.sub_le, Nat.le_add_right, Nat.le_add_left, Nat.zero_le, Nat.zero_lt_succ, Nat.pos_of_ne_zero, Nat.le_of_lt_succ, Nat.ne_of_lt, Nat.ne_of_gt]))
  ((refine Held.mk ?_); (first | refine' Does.use hC ?k1 ?k2 ?k3 ?k4 ?k5 ?kK ?kd ?ku ?_ | refine' Does.use (hC _) ?k1 ?k2 ?k3 ?k4 ?k5 ?kK ?kd ?ku ?_); ((case k1 => k_asm)); ((case k2 => k_asm)); ((case k3 => k_asm)); ((case k4 => k_asm)); ((case k5 => k_asm)); ((case kK => first | exact rfl | assumption)); ((case kd => ktr_room)); ((case ku => ktr_units)); (clear hC); (intro r9 news9 h9 tk9 F9 N9 ho9); ((try dsimp only at ho9)))
  obtain ⟨e1, i, t', e2, b1, b2, b3, b4, b5⟩ := ho9
  subst e1 e2
  obtain ⟨i, rfl⟩ := Int.eq_ofNat_of_zero_le b1
  simp only [List.length_map] at b3 b5
  ((repeat' (first | (k_unfold; (try clear ze zq); (try dsimp only)) | (k_end; wrow_close) | ((fail_if_success (fail_if_success (with_reducible refine wpAny_execs_cons ?_))); ((try ((fail_if_success (fail_if_success k_fold)); (with_reducible refine foldQ ?_); intro zq ze)); (try k_gentoks); (with_reducible refine wpAny_execs_cons ?_); (try dsimp only); ((fail_if_success (fail_if_success k_fold)); (with_reducible refine foldQ ?_); intro zq ze))) | ((with_reducible show wpAny _ _ (eval (.Name _ _) _) _ _ _); (k_dflt (refine nameL (by k_asm) (by exact rfl) ?_ rfl rfl (by decide)); k_whole)) | walk1 | (dsimp only; walk1) | (leave1; (try dsimp only)))) <;> (try ((fail_if_success (fail_if_success k_fold)); (with_reducible refine foldQ ?_); intro zq ze)))
  refine kl_insert (by k_asm) (by k_asm) (fits_nat (by omega)) rfl (Upd.head hne) (by simp [sizeLine]; (solve_by_elim (maxDepth := 5) [Nat.lt_of_lt_of_le, Nat.lt_of_le_of_lt, Nat.le_of_lt, Nat.le_trans, Nat.lt_trans, Nat.lt_succ_of_lt, Nat.lt_succ_of_le, Nat.le_succ_of_le, Nat.succ_le_of_lt, Nat.le_refl, Nat.sub_lt, Nat.sub_le, Nat.le_add_right, Nat.le_add_left, Nat.zero_le, Nat.zero_lt_succ, Nat.pos_of_ne_zero, Nat.le_of_lt_succ, Nat.ne_of_lt, Nat.ne_of_gt])) ?_
  intro h8 F8 N8
  rw [List.toList_toArray, kl_ins_at _ _ (by simp; omega), ← hy, ← List.map_take, ← List.map_drop, ← List.map_cons, ← List.map_append,
    insL_at key y l i (by omega) (fun j k e h => b4 j k e (by (solve_by_elim (maxDepth := 5) [Nat.lt_of_lt_of_le, Nat.lt_of_le_of_lt, Nat.le_of_lt, Nat.le_trans, Nat.lt_trans, Nat.lt_succ_of_lt, Nat.lt_succ_of_le, Nat.le_succ_of_le, Nat.succ_le_of_lt, Nat.le_refl, Nat.sub_lt, Nat.sub_le, Nat.le_add_right, Nat.le_add_left, Nat.zero_le, Nat.zero_lt_succ, Nat.pos_of_ne_zero, Nat.le_of_lt_succ, Nat.ne_of_lt, Nat.ne_of_gt])) (by omega)) (fun j k e h => b5 j k e (by omega) (by
      have := (List.getElem?_eq_some_iff.mp e).1
      rw [List.length_map] at this
      omega))] at N8
  ((repeat' (first | (k_unfold; (try clear ze zq); (try dsimp only)) | (k_end; wrow_close) | walk1 | (dsimp only; walk1) | (leave1; (try dsimp only)))) <;> (try ((fail_if_success (fail_if_success k_fold)); (with_reducible refine foldQ ?_); intro zq ze)))
  exact hret _ _ _ _ (by k_asm) (by k_asm) ⟨rfl, rfl⟩
theorem intsAre_of (l : List Int) (vs : List Value) (h : IntsAre vs l) : vs.length = l.length := h.length
theorem insr_int {w : World} {mean : ExcName → Option Value} {mg mb : Str → Option Value} {rest : List (Addr × Obj)} {vs : List Value} {l : List Int} {y : Int} {a : Addr} {c : Nat} {t : Tok}
    (hK : IntsAre vs l) (hs : l.Pairwise (· ≤ ·)) (hlen : l.length < 900) (hne : ∀ p ∈ rest, p.1 ≠ a) :
    Does w mean mg mb 3 67 [.ref a, .int y t] [] ((a, lst vs c) :: rest) (fun v news' => v = .none ∧ ∃ vs', IntsAre vs' (insR id y l) ∧ news' = (a, lst vs' (c + 1)) :: rest) := by
  have hl := hK.length
  ((unfold Does); (intro dp un gd cn cs fa ccd cl outer A₀ base h₀ L m s Q E B F X N T hk hdp hun hret); (refine wpAny_call ?_); (k_dflt (refine' code_def ?k1 ?k2 ?k3 ?k4 ?k5 ?kA ?kF ?kK ?k6 ?k7 ?k8 ?k9 ?kB ?_ ?c2 ?c3 ?c4 ?c5; (case kA => exact rfl); (case kF => exact rfl); (case kK => assumption); (case k1 => k_asm); (case k2 => k_asm); (case k3 => k_asm); (case k4 => k_asm); (case k5 => k_asm); (case k6 => k_is); (case k7 => k_is); (case k8 => ktr_room); (case k9 => first | exact BindsTo.of_eq rfl | exact binds_K (by k_in) rfl (by k_is) rfl rfl rfl | (refine' kp_binds ?kx ?ke; (case kx => k_in); (case ke => exact fun _ => rfl))); (case c5 => decide); (case kB => exact locs rfl); (case c2 => exact rfl); (case c3 => exact rfl); (case c4 => exact rfl); k_whole; intro g' L' h' FG' F' N' B' X' T'; (try dsimp only); (refine wpAny_noRaise ?_); (try k_fold))))
  ((repeat' (first | (k_unfold; (try clear ze zq); (try dsimp only)) | (k_end; wrow_close) | ((fail_if_success (fail_if_success (with_reducible refine wpAny_execs_cons ?_))); ((try ((fail_if_success (fail_if_success k_fold)); (with_reducible refine foldQ ?_); intro zq ze)); (try k_gentoks); (with_reducible refine wpAny_execs_cons ?_); (try dsimp only); ((fail_if_success (fail_if_success k_fold)); (with_reducible refine foldQ ?_); intro zq ze))) | ((with_reducible show wpAny _ _ (eval (.Name _ _) _) _ _ _); (k_dflt (refine nameL (by k_asm) (by exact rfl) ?_ rfl rfl (by decide)); k_whole)) | walk1 | (dsimp only; walk1) | (leave1; (try dsimp only)))) <;> (try ((fail_if_success (fail_if_success k_fold)); (with_reducible refine foldQ ?_); intro zq ze)))
  have hC := fun t0 => bisr_0 (w := w) (mean := mean) (mg := mg) (mb := mb) (news := (a, lst vs c) :: rest) (x := y) (t := t) (t0 := t0) (List.mem_cons_self ..) hK hs (by lia)
  ((refine Held.mk ?_); (first | refine' Does.use hC ?k1 ?k2 ?k3 ?k4 ?k5 ?kK ?kd ?ku ?_ | refine' Does.use (hC _) ?k1 ?k2 ?k3 ?k4 ?k5 ?kK ?kd ?ku ?_); ((case k1 => k_asm)); ((case k2 => k_asm)); ((case k3 => k_asm)); ((case k4 => k_asm)); ((case k5 => k_asm)); ((case kK => first | exact rfl | assumption)); ((case kd => ktr_room)); ((case ku => ktr_units)); (clear hC); (intro r9 news9 h9 tk9 F9 N9 ho9); ((try dsimp only at ho9)))
  obtain ⟨e1, i, t', e2, b1, b2, b3, b4, b5⟩ := ho9
  subst e1 e2
  obtain ⟨i, rfl⟩ := Int.eq_ofNat_of_zero_le b1
  ((repeat' (first | (k_unfold; (try clear ze zq); (try dsimp only)) | (k_end; wrow_close) | ((fail_if_success (fail_if_success (with_reducible refine wpAny_execs_cons ?_))); ((try ((fail_if_success (fail_if_success k_fold)); (with_reducible refine foldQ ?_); intro zq ze)); (try k_gentoks); (with_reducible refine wpAny_execs_cons ?_); (try dsimp only); ((fail_if_success (fail_if_success k_fold)); (with_reducible refine foldQ ?_); intro zq ze))) | ((with_reducible show wpAny _ _ (eval (.Name _ _) _) _ _ _); (k_dflt (refine nameL (by k_asm) (by exact rfl) ?_ rfl rfl (by decide)); k_whole)) | walk1 | (dsimp only; walk1) | (leave1; (try dsimp only)))) <;> (try ((fail_if_success (fail_if_success k_fold)); (with_reducible refine foldQ ?_); intro zq ze)))
  refine kl_insert (by k_asm) (by k_asm) (fits_nat (by lia)) rfl (Upd.head hne) (by simp [sizeLine]; lia) ?_
  intro h8 F8 N8
  rw [List.toList_toArray, kl_ins_at _ _ (by lia)] at N8
  have hi := insR_at id y l i (by lia) (fun j k e h => b4 j k (by simpa using e) (by (solve_by_elim (maxDepth := 5) [Nat.lt_of_lt_of_le, Nat.lt_of_le_of_lt, Nat.le_of_lt, Nat.le_trans, Nat.lt_trans, Nat.lt_succ_of_lt, Nat.lt_succ_of_le, Nat.le_succ_of_le, Nat.succ_le_of_lt, Nat.le_refl, Nat.sub_lt, Nat.sub_le, Nat.le_add_right, Nat.le_add_left, Nat.zero_le, Nat.zero_lt_succ, Nat.pos_of_ne_zero, Nat.le_of_lt_succ, Nat.ne_of_lt, Nat.ne_of_gt])) (by lia)) (fun j k e h => b5 j k (by simpa using e) (by lia) (by
      have := (List.getElem?_eq_some_iff.mp e).1
      rw [List.length_map] at this
      lia))
  ((repeat' (first | (k_unfold; (try clear ze zq); (try dsimp only)) | (k_end; wrow_close) | walk1 | (dsimp only; walk1) | (leave1; (try dsimp only)))) <;> (try ((fail_if_success (fail_if_success k_fold)); (with_reducible refine foldQ ?_); intro zq ze)))
  refine hret _ _ _ _ (by k_asm) (by k_asm) ⟨rfl, _, ?_, rfl⟩
  rw [← hi]
  exact (hK.take i).append (.cons _ _ (hK.drop i))
end
section
-- B3
theorem rstB3 : True := by
  w_top off
  trivial
set_option maxHeartbeats 8000000
theorem has_in {l : List Int} {x i : Int} {n : Nat} (hn : n = l.length) (hs : l.Pairwise (· ≤ ·)) (b1 : 0 ≤ i) (b4 : ∀ (j : Nat) (k : Int), l[j]? = some k → 0 ≤ (j : Int) → (j : Int) < i → k < x)
    (b5 : ∀ (j : Nat) (k : Int), l[j]? = some k → i ≤ (j : Int) → (j : Int) < (n : Int) → x ≤ k) (h : i < (n : Int)) : (l.getD i.toNat 0 == x) = decide (x ∈ l) := by
  subst hn
  have hlt : i.toNat < l.length := by omega
  have e : l[i.toNat]? = some l[i.toNat] := List.getElem?_eq_getElem hlt
  have e2 : l.getD i.toNat 0 = l[i.toNat] := by rw [List.getD_eq_getElem?_getD, e]; rfl
  rw [e2, Bool.eq_iff_iff, beq_iff_eq, decide_eq_true_iff]
  constructor
  · intro h1
    rw [← h1]
    exact List.getElem_mem _
  · intro h1
    obtain ⟨j, hj, e3⟩ := List.getElem_of_mem h1
    have h2 : l[j]? = some x := by rw [List.getElem?_eq_getElem hj, e3]
    have h3 := b5 i.toNat _ e (by lia) (by lia)
    by_cases h4 : (j : Int) < i
    · have := b4 j x h2 (by (solve_by_elim (maxDepth := 5) [Nat.lt_of_lt_of_le, Nat.lt_of_le_of_lt, Nat.le_of_lt, Nat.le_trans, Nat.lt_trans, Nat.lt_succ_of_lt, Nat.lt_succ_of_le, Nat.le_succ_of_le, Nat.succ_le_of_lt, Nat.le_refl, Nat.sub_lt, Nat.sub_le, Nat.le_add_right, Nat.le_add_left, Nat.zero_le, Nat.zero_lt_succ, Nat.pos_of_ne_zero, Nat.le_of_lt_succ, Nat.ne_of_lt, Nat.ne_of_gt])) h4
      lia
    · have h5 : i.toNat ≤ j := by lia
      rcases Nat.lt_or_eq_of_le h5 with h6 | h6
      · have := List.pairwise_iff_getElem.mp hs i.toNat j hlt hj h6
        lia
      · have : l[i.toNat] = l[j] := by congr
        lia
theorem has_out {l : List Int} {x i : Int} {n : Nat} (hn : n = l.length) (b4 : ∀ (j : Nat) (k : Int), l[j]? = some k → 0 ≤ (j : Int) → (j : Int) < i → k < x) (h : ¬ i < (n : Int)) : decide (i < (n : Int)) = decide (x ∈ l) := by
  subst hn
  rw [decide_eq_false h, eq_comm, decide_eq_false_iff_not]
  intro h1
  obtain ⟨j, hj, e3⟩ := List.getElem_of_mem h1
  have h2 : l[j]? = some x := by rw [List.getElem?_eq_getElem hj, e3]
  have := b4 j x h2 (by (solve_by_elim (maxDepth := 5) [Nat.lt_of_lt_of_le, Nat.lt_of_le_of_lt, Nat.le_of_lt, Nat.le_trans, Nat.lt_trans, Nat.lt_succ_of_lt, Nat.lt_succ_of_le, Nat.le_succ_of_le, Nat.succ_le_of_lt, Nat.le_refl, Nat.sub_lt, Nat.sub_le, Nat.le_add_right, Nat.le_add_left, Nat.zero_le, Nat.zero_lt_succ, Nat.pos_of_ne_zero, Nat.le_of_lt_succ, Nat.ne_of_lt, Nat.ne_of_gt])) (by omega)
  lia
theorem has_ok {w : World} {mean : ExcName → Option Value} {mg mb : Str → Option Value} {news : List (Addr × Obj)} {a : Addr} {vs : List Value} {l : List Int} {c : Nat} {x : Int} {t : Tok}
    (hm : (a, lst vs c) ∈ news) (hK : IntsAre vs l) (hs : l.Pairwise (· ≤ ·)) (hlen : vs.length < 900) :
    Does w mean mg mb 3 136 [.ref a, .int x t] [] news (fun v news' => v = .bool (decide (x ∈ l)) ∧ news' = news) := by
  (((unfold Does); (intro dp un gd cn cs fa ccd cl outer A₀ base h₀ L m s Q E B F X N T hk hdp hun hret); (refine wpAny_call ?_); (k_dflt (refine' code_def ?k1 ?k2 ?k3 ?k4 ?k5 ?kA ?kF ?kK ?k6 ?k7 ?k8 ?k9 ?kB ?_ ?c2 ?c3 ?c4 ?c5; (case kA => exact rfl); (case kF => exact rfl); (case kK => assumption); (case k1 => k_asm); (case k2 => k_asm); (case k3 => k_asm); (case k4 => k_asm); (case k5 => k_asm); (case k6 => k_is); (case k7 => k_is); (case k8 => ktr_room); (case k9 => first | exact BindsTo.of_eq rfl | exact binds_K (by k_in) rfl (by k_is) rfl rfl rfl | (refine' kp_binds ?kx ?ke; (case kx => k_in); (case ke => exact fun _ => rfl))); (case c5 => decide); (case kB => exact locs rfl); (case c2 => exact rfl); (case c3 => exact rfl); (case c4 => exact rfl); k_whole; intro g' L' h' FG' F' N' B' X' T'; (try dsimp only)))); (refine wpAny_noRaise ?_); (try k_fold))
  ((repeat' (first | (k_unfold; (try clear ze zq); (try dsimp only)) | (k_end; wrow_close) | ((fail_if_success (fail_if_success (with_reducible refine wpAny_execs_cons ?_))); ((try ((fail_if_success (fail_if_success k_fold)); (with_reducible refine foldQ ?_); intro zq ze)); (try k_gentoks); (with_reducible refine wpAny_execs_cons ?_); (try dsimp only); ((fail_if_success (fail_if_success k_fold)); (with_reducible refine foldQ ?_); intro zq ze))) | ((with_reducible show wpAny _ _ (eval (.Name _ _) _) _ _ _); (k_dflt (refine nameL (by k_asm) (by exact rfl) ?_ rfl rfl (by decide)); k_whole)) | walk1 | (dsimp only; walk1) | (leave1; (try dsimp only)))) <;> (try ((fail_if_success (fail_if_success k_fold)); (with_reducible refine foldQ ?_); intro zq ze)))
  have hC := bisl_0 (w := w) (mean := mean) (mg := mg) (mb := mb) (x := x) (t := t) hm hK hs (by (solve_by_elim (maxDepth := 5) [Nat.lt_of_lt_of_le, Nat.lt_of_le_of_lt, Nat.le_of_lt, Nat.le_trans, Nat.lt_trans, Nat.lt_succ_of_lt, Nat.lt_succ_of_le, Nat.le_succ_of_le, Nat.succ_le_of_lt, Nat.le_refl, Nat.sub_lt, Nat.sub_le, Nat.le_add_right, Nat.le_add_left, Nat.zero_le, Nat.zero_lt_succ, Nat.pos_of_ne_zero, Nat.le_of_lt_succ, Nat.ne_of_lt, Nat.ne_of_gt]))
  ((refine Held.mk ?_); (first | refine' Does.use hC ?k1 ?k2 ?k3 ?k4 ?k5 ?kK ?kd ?ku ?_ | refine' Does.use (hC _) ?k1 ?k2 ?k3 ?k4 ?k5 ?kK ?kd ?ku ?_); ((case k1 => k_asm)); ((case k2 => k_asm)); ((case k3 => k_asm)); ((case k4 => k_asm)); ((case k5 => k_asm)); ((case kK => first | exact rfl | assumption)); ((case kd => ktr_room)); ((case ku => ktr_units)); (clear hC); (intro r9 news9 h9 tk9 F9 N9 ho9); ((try dsimp only at ho9)))
  obtain ⟨e1, i, t', e2, b1, b2, b3, b4, b5⟩ := ho9
  subst e1 e2
  ((repeat' (first | (k_unfold; (try clear ze zq); (try dsimp only)) | (k_end; wrow_close) | ((fail_if_success (fail_if_success (with_reducible refine wpAny_execs_cons ?_))); ((try ((fail_if_success (fail_if_success k_fold)); (with_reducible refine foldQ ?_); intro zq ze)); (try k_gentoks); (with_reducible refine wpAny_execs_cons ?_); (try dsimp only); ((fail_if_success (fail_if_success k_fold)); (with_reducible refine foldQ ?_); intro zq ze))) | ((with_reducible show wpAny _ _ (eval (.Name _ _) _) _ _ _); (k_dflt (refine nameL (by k_asm) (by exact rfl) ?_ rfl rfl (by decide)); k_whole)) | ((with_reducible show wpAny _ _ (call (.builtin "len") [.ref _]) _ _ _); (k_dflt (refine kx_len (by k_asm) (by first | assumption | k_mem) (by omega) ?_); intro _ _)) | walk1 | (dsimp only; walk1) | (leave1; (try dsimp only)))) <;> (try ((fail_if_success (fail_if_success k_fold)); (with_reducible refine foldQ ?_); intro zq ze)))
  · rw [has_in hK.length hs b1 b4 b5 (by assumption)]
    exact hret _ _ _ _ (by k_asm) (by k_asm) ⟨rfl, rfl⟩
  · rw [has_out hK.length b4 (by assumption)]
    exact hret _ _ _ _ (by k_asm) (by k_asm) ⟨rfl, rfl⟩
/-- what _build_localename makes of a pair -/
noncomputable def joinS : Option Str → Option Str → Str
  | a, none => a.getD (Str.ofString "C")
  | a, some b => a.getD (Str.ofString "C") ++ Str.ofString "." ++ b
noncomputable def OptV : Option Str → Value → Prop
  | none, v => v = .none
  | some x, v => ∃ t, v = .str x t
theorem bl_pair {w : World} {mean : ExcName → Option Value} {mg mb : Str → Option Value} {news : List (Addr × Obj)} {a : Addr} {u v : Value} {x y : Option Str} {n : Nat}
    (hm : (a, tupObj [u, v] n) ∈ news) (hu : OptV x u) (hv : OptV y v) (hx : (x.getD (Str.ofString "C")).length + (y.getD (Str.ofString "C")).length < 1000) :
    Does w mean mg mb 3 101 [.ref a] [] news (fun r news' => (∃ t, r = .str (joinS x y) t) ∧ news' = news) := by
  have hC : (Str.ofString "C").length = 1 := by decide
  have hdot : (Str.ofString ".").length = 1 := by decide
  have hsz : sizeLine = 2 ^ 24 := by decide
  cases x with
  | none =>
    cases hu
    cases y with
    | none =>
      cases hv
      simp only [Option.getD_some, Option.getD_none] at hx
      (((unfold Does); (intro dp un gd cn cs fa ccd cl outer A₀ base h₀ L m s Q E B F X N T hk hdp hun hret); (refine wpAny_call ?_); (k_dflt (refine' code_def ?k1 ?k2 ?k3 ?k4 ?k5 ?kA ?kF ?kK ?k6 ?k7 ?k8 ?k9 ?kB ?_ ?c2 ?c3 ?c4 ?c5; (case kA => exact rfl); (case kF => exact rfl); (case kK => assumption); (case k1 => k_asm); (case k2 => k_asm); (case k3 => k_asm); (case k4 => k_asm); (case k5 => k_asm); (case k6 => k_is); (case k7 => k_is); (case k8 => ktr_room); (case k9 => first | exact BindsTo.of_eq rfl | exact binds_K (by k_in) rfl (by k_is) rfl rfl rfl | (refine' kp_binds ?kx ?ke; (case kx => k_in); (case ke => exact fun _ => rfl))); (case c5 => decide); (case kB => exact locs rfl); (case c2 => exact rfl); (case c3 => exact rfl); (case c4 => exact rfl); k_whole; intro g' L' h' FG' F' N' B' X' T'; (try dsimp only)))); (refine wpAny_noRaise ?_); (try k_fold))
      ((repeat' (first | (k_unfold; (try clear ze zq); (try dsimp only)) | (k_end; wrow_close) | ((fail_if_success (fail_if_success (with_reducible refine wpAny_execs_cons ?_))); ((try ((fail_if_success (fail_if_success k_fold)); (with_reducible refine foldQ ?_); intro zq ze)); (try k_gentoks); (with_reducible refine wpAny_execs_cons ?_); (try dsimp only); ((fail_if_success (fail_if_success k_fold)); (with_reducible refine foldQ ?_); intro zq ze))) | ((with_reducible show wpAny _ _ (eval (.Name _ _) _) _ _ _); (k_dflt (refine nameL (by k_asm) (by exact rfl) ?_ rfl rfl (by decide)); k_whole)) | walk1 | (dsimp only; walk1) | (leave1; (try dsimp only)))) <;> (try ((fail_if_success (fail_if_success k_fold)); (with_reducible refine foldQ ?_); intro zq ze)))
      exact hret _ _ _ _ (by k_asm) (by k_asm) ⟨⟨_, rfl⟩, rfl⟩
    | some y =>
      obtain ⟨t, rfl⟩ := hv
      simp only [Option.getD_some, Option.getD_none] at hx
      have hx2 : (Str.ofString "C").length + y.length + 1 ≤ sizeLine := by (solve_by_elim (maxDepth := 5) [Nat.lt_of_lt_of_le, Nat.lt_of_le_of_lt, Nat.le_of_lt, Nat.le_trans, Nat.lt_trans, Nat.lt_succ_of_lt, Nat.lt_succ_of_le, Nat.le_succ_of_le, Nat.succ_le_of_lt, Nat.le_refl, Nat.sub_lt, Nat.sub_le, Nat.le_add_right, Nat.le_add_left, Nat.zero_le, Nat.zero_lt_succ, Nat.pos_of_ne_zero, Nat.le_of_lt_succ, Nat.ne_of_lt, Nat.ne_of_gt])
      have hx3 : (Str.ofString "C").length + (Str.ofString ".").length ≤ sizeLine := by decide
      (((unfold Does); (intro dp un gd cn cs fa ccd cl outer A₀ base h₀ L m s Q E B F X N T hk hdp hun hret); (refine wpAny_call ?_); (k_dflt (refine' code_def ?k1 ?k2 ?k3 ?k4 ?k5 ?kA ?kF ?kK ?k6 ?k7 ?k8 ?k9 ?kB ?_ ?c2 ?c3 ?c4 ?c5; (case kA => exact rfl); (case kF => exact rfl); (case kK => assumption); (case k1 => k_asm); (case k2 => k_asm); (case k3 => k_asm); (case k4 => k_asm); (case k5 => k_asm); (case k6 => k_is); (case k7 => k_is); (case k8 => ktr_room); (case k9 => first | exact BindsTo.of_eq rfl | exact binds_K (by k_in) rfl (by k_is) rfl rfl rfl | (refine' kp_binds ?kx ?ke; (case kx => k_in); (case ke => exact fun _ => rfl))); (case c5 => decide); (case kB => exact locs rfl); (case c2 => exact rfl); (case c3 => exact rfl); (case c4 => exact rfl); k_whole; intro g' L' h' FG' F' N' B' X' T'; (try dsimp only)))); (refine wpAny_noRaise ?_); (try k_fold))
      ((repeat' (first | (k_unfold; (try clear ze zq); (try dsimp only)) | (k_end; wrow_close) | ((fail_if_success (fail_if_success (with_reducible refine wpAny_execs_cons ?_))); ((try ((fail_if_success (fail_if_success k_fold)); (with_reducible refine foldQ ?_); intro zq ze)); (try k_gentoks); (with_reducible refine wpAny_execs_cons ?_); (try dsimp only); ((fail_if_success (fail_if_success k_fold)); (with_reducible refine foldQ ?_); intro zq ze))) | ((with_reducible show wpAny _ _ (eval (.Name _ _) _) _ _ _); (k_dflt (refine nameL (by k_asm) (by exact rfl) ?_ rfl rfl (by decide)); k_whole)) | walk1 | (dsimp only; walk1) | (leave1; (try dsimp only)))) <;> (try ((fail_if_success (fail_if_success k_fold)); (with_reducible refine foldQ ?_); intro zq ze)))
      exact hret _ _ _ _ (by k_asm) (by k_asm) ⟨⟨_, rfl⟩, rfl⟩
  | some x =>
    obtain ⟨t, rfl⟩ := hu
    cases y with
    | none =>
      cases hv
      simp only [Option.getD_some, Option.getD_none] at hx
      (((unfold Does); (intro dp un gd cn cs fa ccd cl outer A₀ base h₀ L m s Q E B F X N T hk hdp hun hret); (refine wpAny_call ?_); (k_dflt (refine' code_def ?k1 ?k2 ?k3 ?k4 ?k5 ?kA ?kF ?kK ?k6 ?k7 ?k8 ?k9 ?kB ?_ ?c2 ?c3 ?c4 ?c5; (case kA => exact rfl); (case kF => exact rfl); (case kK => assumption); (case k1 => k_asm); (case k2 => k_asm); (case k3 => k_asm); (case k4 => k_asm); (case k5 => k_asm); (case k6 => k_is); (case k7 => k_is); (case k8 => ktr_room); (case k9 => first | exact BindsTo.of_eq rfl | exact binds_K (by k_in) rfl (by k_is) rfl rfl rfl | (refine' kp_binds ?kx ?ke; (case kx => k_in); (case ke => exact fun _ => rfl))); (case c5 => decide); (case kB => exact locs rfl); (case c2 => exact rfl); (case c3 => exact rfl); (case c4 => exact rfl); k_whole; intro g' L' h' FG' F' N' B' X' T'; (try dsimp only)))); (refine wpAny_noRaise ?_); (try k_fold))
      ((repeat' (first | (k_unfold; (try clear ze zq); (try dsimp only)) | (k_end; wrow_close) | ((fail_if_success (fail_if_success (with_reducible refine wpAny_execs_cons ?_))); ((try ((fail_if_success (fail_if_success k_fold)); (with_reducible refine foldQ ?_); intro zq ze)); (try k_gentoks); (with_reducible refine wpAny_execs_cons ?_); (try dsimp only); ((fail_if_success (fail_if_success k_fold)); (with_reducible refine foldQ ?_); intro zq ze))) | ((with_reducible show wpAny _ _ (eval (.Name _ _) _) _ _ _); (k_dflt (refine nameL (by k_asm) (by exact rfl) ?_ rfl rfl (by decide)); k_whole)) | walk1 | (dsimp only; walk1) | (leave1; (try dsimp only)))) <;> (try ((fail_if_success (fail_if_success k_fold)); (with_reducible refine foldQ ?_); intro zq ze)))
      exact hret _ _ _ _ (by k_asm) (by k_asm) ⟨⟨_, rfl⟩, rfl⟩
    | some y =>
      obtain ⟨t', rfl⟩ := hv
      simp only [Option.getD_some, Option.getD_none] at hx
      have hx2 : x.length + y.length + 1 ≤ sizeLine := by (solve_by_elim (maxDepth := 5) [Nat.lt_of_lt_of_le, Nat.lt_of_le_of_lt, Nat.le_of_lt, Nat.le_trans, Nat.lt_trans, Nat.lt_succ_of_lt, Nat.lt_succ_of_le, Nat.le_succ_of_le, Nat.succ_le_of_lt, Nat.le_refl, Nat.sub_lt, Nat.sub_le, Nat.le_add_right, Nat.le_add_left, Nat.zero_le, Nat.zero_lt_succ, Nat.pos_of_ne_zero, Nat.le_of_lt_succ, Nat.ne_of_lt, Nat.ne_of_gt])
      (((unfold Does); (intro dp un gd cn cs fa ccd cl outer A₀ base h₀ L m s Q E B F X N T hk hdp hun hret); (refine wpAny_call ?_); (k_dflt (refine' code_def ?k1 ?k2 ?k3 ?k4 ?k5 ?kA ?kF ?kK ?k6 ?k7 ?k8 ?k9 ?kB ?_ ?c2 ?c3 ?c4 ?c5; (case kA => exact rfl); (case kF => exact rfl); (case kK => assumption); (case k1 => k_asm); (case k2 => k_asm); (case k3 => k_asm); (case k4 => k_asm); (case k5 => k_asm); (case k6 => k_is); (case k7 => k_is); (case k8 => ktr_room); (case k9 => first | exact BindsTo.of_eq rfl | exact binds_K (by k_in) rfl (by k_is) rfl rfl rfl | (refine' kp_binds ?kx ?ke; (case kx => k_in); (case ke => exact fun _ => rfl))); (case c5 => decide); (case kB => exact locs rfl); (case c2 => exact rfl); (case c3 => exact rfl); (case c4 => exact rfl); k_whole; intro g' L' h' FG' F' N' B' X' T'; (try dsimp only)))); (refine wpAny_noRaise ?_); (try k_fold))
      ((repeat' (first | (k_unfold; (try clear ze zq); (try dsimp only)) | (k_end; wrow_close) | ((fail_if_success (fail_if_success (with_reducible refine wpAny_execs_cons ?_))); ((try ((fail_if_success (fail_if_success k_fold)); (with_reducible refine foldQ ?_); intro zq ze)); (try k_gentoks); (with_reducible refine wpAny_execs_cons ?_); (try dsimp only); ((fail_if_success (fail_if_success k_fold)); (with_reducible refine foldQ ?_); intro zq ze))) | ((with_reducible show wpAny _ _ (eval (.Name _ _) _) _ _ _); (k_dflt (refine nameL (by k_asm) (by exact rfl) ?_ rfl rfl (by decide)); k_whole)) | walk1 | (dsimp only; walk1) | (leave1; (try dsimp only)))) <;> (try ((fail_if_success (fail_if_success k_fold)); (with_reducible refine foldQ ?_); intro zq ze)))
      exact hret _ _ _ _ (by k_asm) (by k_asm) ⟨⟨_, rfl⟩, rfl⟩
end
section
-- Cp
theorem rstCp : True := by
  w_top off
  trivial
set_option maxHeartbeats 4000000
noncomputable def NsIs (o : Obj) (m : Str → Option Value) : Prop := ∃ es ep, o.data = .dict es ep ∧ StrKeys es ∧ ∀ name, nsFind es name = m name
theorem NsIs.ns {h : Heap} {a : Addr} {o : Obj} {m : Str → Option Value} (x : NsIs o m) (e : h.get? a = some o) : h.Ns a m := let ⟨es, ep, r⟩ := x; ⟨o, es, ep, e, r⟩
theorem ns_obj {h : Heap} {a : Addr} {m : Str → Option Value} (x : h.Ns a m) : ∃ o, h.get? a = some o ∧ NsIs o m := let ⟨o, es, ep, e, r⟩ := x; ⟨o, e, es, ep, r⟩
/-- what the block of a comprehension keeps for itself -/
structure Priv (prog : Program) (w : World) (A : Around) (h₀ : Heap) (L : Addr) (cenv : Env) (x : Str) (PA : List Addr) (Has : Option Value → List (Addr × Obj) → Prop) : Prop where
  adr : ∀ v pl, Has v pl → pl.map (·.1) = PA
  locals : cenv.locals ∈ PA
  ns : ∀ v pl, Has v pl → ∃ o m, (cenv.locals, o) ∈ pl ∧ NsIs o m
  store : ∀ (v₀ : Option Value) (v : Value) (px : Pos) (s : Shared) (m : Str → Option Value) (pl rest : List (Addr × Obj)) (Q : Unit → Shared → Prop) (E : Value → Shared → Prop),
    Has v₀ pl → Fr h₀ L s.heap m → News h₀ L s.heap (pl ++ rest) → (∀ p ∈ rest, p.1 ∉ PA) →
    (∀ h' tk' pl', Has (some v) pl' → Fr h₀ L h' m → News h₀ L h' (pl' ++ rest) → (∀ b o, b ∉ PA → s.heap.get? b = some o → h'.get? b = some o) → Q () { s with heap := h', toks := tk' }) →
    wpAny (model prog w) A (assign (.Name x px) cenv v) Q E s
theorem Fr.samebut {h₀ h h' : Heap} {L a : Addr} {m : Str → Option Value} {o : Obj} {news : List (Addr × Obj)} (F : Fr h₀ L h m) (N : News h₀ L h news) (hm : (a, o) ∈ news) (hs : Heap.SameBut a h h') : Fr h₀ L h' m :=
  F.change hs (N _ hm).2.1 (N _ hm).2.2
section
variable {prog : Program} {w : World} {A : Around} {h₀ : Heap} {L : Addr} {cenv : Env} {x : Str}
inductive HasL (C : Addr) (x : Str) (v : Option Value) (pl : List (Addr × Obj)) : Prop
  | mk (o : Obj) (m : Str → Option Value) (e : pl = [(C, o)]) (h1 : NsIs o m) (h2 : ∀ u, v = some u → m x = some u) : HasL C x v pl
theorem priv_local (hx : cenv.kindOf x = some .local) (hp : (cenv.scope.kind == .class || (cenv.scope.kind == .module && cenv.locals != cenv.globals)) = false) : Priv prog w A h₀ L cenv x [cenv.locals] (HasL cenv.locals x) where
  adr := by rintro v pl ⟨o, m, rfl, _⟩; rfl
  locals := List.mem_singleton.mpr rfl
  ns := by rintro v pl ⟨o, m, rfl, h, _⟩; exact ⟨o, m, List.mem_singleton.mpr rfl, h⟩
  store := by
    rintro v₀ v px s m pl rest Q E ⟨o, mm, rfl, hn, _⟩ F N hr h
    have hC := N (cenv.locals, o) (List.mem_cons_self ..)
    refine wpAny_assign_Name (wpAny_storeName_local hx (hn.ns hC.1) (fun h' hn' hs' => ?_) hp)
    obtain ⟨o', ho', hn''⟩ := ns_obj hn'
    refine h h' _ [(cenv.locals, o')] ⟨o', _, rfl, hn'', fun u e => by simp [e]⟩ (F.change hs' hC.2.1 hC.2.2) (fun p hp' => ?_) (fun b o hb e => (hs'.2 b (fun q => hb (by simp [q]))).trans e)
    rcases List.mem_cons.mp hp' with rfl | hp'
    · exact ⟨ho', hC.2⟩
    · have hne : p.1 ≠ cenv.locals := fun q => hr p hp' (by simp [q])
      exact ⟨(hs'.2 p.1 hne).trans (N p (List.mem_cons_of_mem _ hp')).1, (N p (List.mem_cons_of_mem _ hp')).2⟩
inductive HasC (C Cx : Addr) (v : Option Value) (pl : List (Addr × Obj)) : Prop
  | mk (o : Obj) (m : Str → Option Value) (oc : Obj) (e : pl = [(Cx, oc), (C, o)]) (h1 : NsIs o m) (h2 : oc.data = .cell v) : HasC C Cx v pl
theorem priv_cell {Cx : Addr} (hk : cenv.scope.kind = .function) (hx : cenv.kindOf x = some .cell) (hc : cenv.cells.lookup x = some Cx) (hne : Cx ≠ cenv.locals) : Priv prog w A h₀ L cenv x [Cx, cenv.locals] (HasC cenv.locals Cx) where
  adr := by rintro v pl ⟨o, m, oc, rfl, _⟩; rfl
  locals := by simp
  ns := by rintro v pl ⟨o, m, oc, rfl, h, _⟩; exact ⟨o, m, by simp, h⟩
  store := by
    rintro v₀ v px s m pl rest Q E ⟨o, mm, oc, rfl, hn, hd⟩ F N hr h
    have hX := N (Cx, oc) (List.mem_cons_self ..)
    have hC := N (cenv.locals, o) (by simp)
    refine wpAny_assign_Name (wpAny_storeName_cell hk hx hc ⟨oc, hX.1, hd⟩ (fun h' hc' hs' => ?_))
    obtain ⟨o', ho', hd'⟩ := hc'
    refine h h' _ [(Cx, o'), (cenv.locals, o)] ⟨o, mm, o', rfl, hn, hd'⟩ (F.change hs' hX.2.1 hX.2.2) (fun p hp' => ?_) (fun b o hb e => (hs'.2 b (fun q => hb (by simp [q]))).trans e)
    rcases List.mem_cons.mp hp' with rfl | hp'
    · exact ⟨ho', hX.2⟩
    · rcases List.mem_cons.mp hp' with rfl | hp'
      · exact ⟨(hs'.2 _ hne.symm).trans hC.1, hC.2⟩
      · have hne : p.1 ≠ Cx := fun q => hr p hp' (by simp [q])
        have := N p (by simp only [List.cons_append, List.nil_append, List.mem_cons]; exact .inr (.inr hp'))
        exact ⟨(hs'.2 p.1 hne).trans this.1, this.2⟩
end
/-- the end of a turn of a comprehension: what it has made besides -/
inductive CompEnd (h₀ : Heap) (L : Addr) (m : Str → Option Value) (led extra news : List (Addr × Obj)) (Jn : List (Addr × Obj) → Prop) (s₁ s₂ : Shared) : Prop
  | mk (h' : Heap) (tk : Nat) (extra' : List (Addr × Obj)) (e : s₂ = { s₁ with heap := h', toks := tk }) (a1 : Fr h₀ L h' m) (a2 : News h₀ L h' (led ++ (extra' ++ news))) (a3 : ∀ p ∈ extra', p ∈ extra ∨ ∀ q ∈ led ++ (extra ++ news), q.1 < p.1) (a4 : Jn extra') : CompEnd h₀ L m led extra news Jn s₁ s₂
inductive CmpI (h₀ : Heap) (L D : Addr) (m : Str → Option Value) (n : Nat) (wr PA : List Addr) (St : Nat → Heap → Prop) (Has : Option Value → List (Addr × Obj) → Prop) (J : Nat → List Value → List (Addr × Obj) → Prop) (news : List (Addr × Obj)) (s : Shared) (k : Nat) (s' : Shared) : Prop
  | mk (h' : Heap) (tk : Nat) (ys : List Value) (c : Nat) (extra pl : List (Addr × Obj)) (v : Option Value) (i : Nat) (e : s' = { s with heap := h', toks := tk }) (a1 : St i h') (a2 : Fr h₀ L h' m) (a3 : Has v pl) (a4 : News h₀ L h' (pl ++ (D, lst ys c) :: (extra ++ news)))
    (a5 : ∀ p ∈ extra ++ news, p.1 ∉ wr ∧ p.1 ∉ PA ∧ p.1 ≠ D) (a6 : J i ys extra) (a7 : i ≤ n) (a8 : ys.length ≤ i) (a9 : k = n + 1 - i) : CmpI h₀ L D m n wr PA St Has J news s k s'
inductive CmpF (h₀ : Heap) (L D : Addr) (m : Str → Option Value) (wr PA : List Addr) (Hs : Heap → Prop) (pl ll : List (Addr × Obj)) (news : List (Addr × Obj)) (Jn : List (Addr × Obj) → Prop) (s s' : Shared) : Prop
  | mk (h' : Heap) (tk : Nat) (extra : List (Addr × Obj)) (e : s' = { s with heap := h', toks := tk }) (a1 : Hs h') (a2 : Fr h₀ L h' m) (a4 : News h₀ L h' (pl ++ (ll ++ (extra ++ news))))
    (a5 : ∀ p ∈ extra ++ news, p.1 ∉ wr ∧ p.1 ∉ PA ∧ p.1 ≠ D) (a6 : Jn extra) : CmpF h₀ L D m wr PA Hs pl ll news Jn s s'
section
variable {prog : Program} {w : World} {A : Around} {R : Result → Shared → Prop} {s : Shared} {h₀ : Heap} {L : Addr}
theorem comp_loop {elt iter : Expr} {x : Str} {px : Pos} {ifs : List Expr} {scope : Scope} {pos : Pos} {I D : Addr} {fp wr : List Addr} {n c₀ : Nat} {P : Nat → Value → Prop} {St : Nat → Heap → Prop}
    {cenv : Env} {m : Str → Option Value} {PA : List Addr} {Has : Option Value → List (Addr × Obj) → Prop} {pl : List (Addr × Obj)} {news : List (Addr × Obj)}
    (W : Walks prog w A I fp wr n P St) (V : Priv prog w A h₀ L cenv x PA Has) (J : Nat → List Value → List (Addr × Obj) → Prop)
    (hlive : ∀ i h, St i h → ∀ b ∈ wr, ∃ o, h.get? b = some o)
    (hLf : L ∉ fp) (hwr : ∀ b ∈ wr, h₀.get? b = none) (hDf : D ∉ fp) (hPf : ∀ b ∈ PA, b ∉ fp) (hDP : D ∉ PA)
    (hst : St 0 s.heap) (F : Fr h₀ L s.heap m) (hp : Has none pl) (N : News h₀ L s.heap (pl ++ (D, lst [] c₀) :: news)) (hoff : ∀ p ∈ news, p.1 ∉ wr ∧ p.1 ∉ PA ∧ p.1 ≠ D) (h0 : J 0 [] [])
    (turn : ∀ (i : Nat) v ys c extra pl own h tk, i < n → P i v → J i ys extra → Has (some v) pl → (∀ b ∈ wr, ∃ o, (b, o) ∈ own) → (∀ p ∈ extra ++ news, p.1 ∉ wr ∧ p.1 ∉ PA ∧ p.1 ≠ D) → Fr h₀ L h m → News h₀ L h ((own ++ pl ++ [(D, lst ys c)]) ++ (extra ++ news)) →
      wpAny (model prog w) A (forIn ifs true fun c r => if r = true then do let ok ← isTrue c cenv (eval c cenv); pure (ForInStep.yield ok) else pure (ForInStep.yield r))
        (fun ok s₃ => if ok = true then wpAny (model prog w) A (eval elt cenv) (fun y s₄ => CompEnd h₀ L m (own ++ pl ++ [(D, lst ys c)]) extra news (J (i + 1) (ys ++ [y])) { s with heap := h, toks := tk } s₄) (notedBy (model prog w) A cenv fun e s' => R (.error e) s') s₃
          else CompEnd h₀ L m (own ++ pl ++ [(D, lst ys c)]) extra news (J (i + 1) ys) { s with heap := h, toks := tk } s₃)
        (notedBy (model prog w) A cenv fun e s' => R (.error e) s') { s with heap := h, toks := tk })
    (done : ∀ h' tk ys c extra pl v, Has v pl → J n ys extra → Fr h₀ L h' m → News h₀ L h' (pl ++ (D, lst ys c) :: (extra ++ news)) → (∀ p ∈ extra ++ news, p.1 ∉ wr ∧ p.1 ∉ PA ∧ p.1 ≠ D) → R (.ok .next) { s with heap := h', toks := tk })
    (hsz : n ≤ sizeLine) :
    codeAny (model prog w) A (.compLoop (.ListComp elt [⟨.Name x px, iter, ifs, 0⟩] scope pos) 0 (.ref I) (.ref D) cenv) R s := by
  have hLw : L ∉ wr := fun h => hLf (W.sub _ h)
  have hDw : D ∉ wr := fun h => hDf (W.sub _ h)
  have hPw : ∀ b ∈ PA, b ∉ wr := fun b hb h => hPf b hb (W.sub _ h)
  have old : ∀ b o, h₀.get? b = some o → b ∉ wr := fun b o e hb => by rw [hwr b hb] at e; cases e
  refine codeAny_compLoop_tests
    (CmpI h₀ L D m n wr PA St Has J news s) ?_ (n + 1)
    ⟨s.heap, s.toks, [], c₀, [], pl, none, 0, rfl, hst, F, hp, N, hoff, h0, Nat.zero_le _, Nat.le_refl _, rfl⟩
  rintro k s' ⟨H, tk, ys, c, extra, pl, v₀, i, rfl, hst', F', hp', N', hoff', hJ, hi, hys, rfl⟩
  have hpa := V.adr _ _ hp'
  by_cases hlt : i < n
  · refine W.item i _ _ _ hlt hst' fun v h₁ tk₁ hP hst₁ hk₁ => ?_
    have F₁ : Fr h₀ L h₁ m := ⟨F'.ns.at' fun o e => hk₁ _ o hLw e, fun b o e => hk₁ b o (old b o e) (F'.keep b o e), F'.above⟩
    have offAll : ∀ p ∈ pl ++ (D, lst ys c) :: (extra ++ news), p.1 ∉ wr := fun p hp => by
      rcases List.mem_append.mp hp with hp | hp
      · exact hPw _ (hpa ▸ List.mem_map_of_mem hp)
      · rcases List.mem_cons.mp hp with rfl | hp
        · exact hDw
        · exact (hoff' p hp).1
    have N₁ : News h₀ L h₁ (pl ++ (D, lst ys c) :: (extra ++ news)) := fun p hp => ⟨hk₁ _ _ (offAll p hp) (N' p hp).1, (N' p hp).2⟩
    refine V.store v₀ v px _ m pl _ _ _ hp' F₁ N₁ (fun p hp => ?_) fun h₂ tk₂ pl₂ hp₂ F₂ N₂ hk₂ => ?_
    · rcases List.mem_cons.mp hp with rfl | hp
      · exact hDP
      · exact (hoff' p hp).2.1
    have hst₂ : St (i + 1) h₂ := W.frame _ _ _ hst₁ fun b hb o e => hk₂ b o (fun q => hPf b q hb) e
    have Nown : News h₀ L h₂ (ownOf h₀ fp h₂) := news_ownOf hLf
    have hpa₂ := V.adr _ _ hp₂
    have Nall : News h₀ L h₂ ((ownOf h₀ fp h₂ ++ pl₂ ++ [(D, lst ys c)]) ++ (extra ++ news)) := fun p hp => by
      simp only [List.append_assoc, List.cons_append, List.nil_append] at hp
      rcases List.mem_append.mp hp with hp | hp
      · exact Nown p hp
      · exact N₂ p hp
    have hown : ∀ b ∈ wr, ∃ o, (b, o) ∈ ownOf h₀ fp h₂ := fun b hb => by
      obtain ⟨o, ho⟩ := hlive _ _ hst₂ b hb
      exact ⟨o, mem_ownOf (W.sub _ hb) (hwr b hb) ho⟩
    have fin : ∀ (s₃ : Shared) (Jn : List (Addr × Obj) → Prop), CompEnd h₀ L m (ownOf h₀ fp h₂ ++ pl₂ ++ [(D, lst ys c)]) extra news Jn { s with heap := h₂, toks := tk₂ } s₃ →
        CmpF h₀ L D m wr PA (St (i + 1)) pl₂ [(D, lst ys c)] news Jn s s₃ := by
      rintro s₃ Jn ⟨h₃, tk₃, extra', rfl, F₃, N₃, hx₃, hJ₃⟩
      refine ⟨h₃, tk₃, extra', rfl, ?_, F₃, fun p hp => N₃ p ?_, fun p hp => ?_, hJ₃⟩
      · refine W.frame _ _ _ hst₂ fun b hb o e => ?_
        cases hn : h₀.get? b with
        | some o₀ =>
          have : o₀ = o := get_fun (F₂.keep b o₀ hn) e
          exact this ▸ F₃.keep b o₀ hn
        | none => exact (N₃ _ (by simp only [List.append_assoc]; exact List.mem_append_left _ (mem_ownOf hb hn e))).1
      · simp only [List.append_assoc, List.cons_append, List.nil_append]
        exact List.mem_append_right _ hp
      · rcases List.mem_append.mp hp with hp | hp
        · rcases hx₃ p hp with h1 | h1
          · exact hoff' p (List.mem_append_left _ h1)
          · refine ⟨fun hb => ?_, fun hb => ?_, fun hb => ?_⟩
            · obtain ⟨o, ho⟩ := hown _ hb
              exact absurd (h1 (p.1, o) (by simp only [List.append_assoc]; exact List.mem_append_left _ ho)) (Nat.lt_irrefl _)
            · rw [← hpa₂] at hb
              obtain ⟨q, hq, e⟩ := List.mem_map.mp hb
              have := h1 q (by simp only [List.append_assoc]; exact List.mem_append_right _ (List.mem_append_left _ hq))
              rw [e] at this
              exact absurd this (Nat.lt_irrefl _)
            · have := h1 (D, lst ys c) (by simp)
              rw [hb] at this
              exact absurd this (Nat.lt_irrefl _)
        · exact hoff' p (List.mem_append_right _ hp)
    refine wpAny_mono (turn i v ys c extra pl₂ (ownOf h₀ fp h₂) h₂ tk₂ hlt hP hJ hp₂ hown hoff' F₂ Nall) (fun ok s₃ h₃ => ?_) fun _ _ e => e
    cases ok with
    | false =>
      simp only [Bool.false_eq_true, if_false] at h₃ ⊢
      obtain ⟨h₃', tk₃, extra', rfl, hst₃, F₃, N₃, hoff₃, hJ₃⟩ := fin s₃ _ h₃
      exact ⟨n + 1 - (i + 1), by omega, h₃', tk₃, ys, c, extra', pl₂, some v, i + 1, rfl, hst₃, F₃, hp₂, N₃, hoff₃, hJ₃, hlt, Nat.le_succ_of_le hys, rfl⟩
    | true =>
      simp only [if_true] at h₃ ⊢
      refine wpAny_mono h₃ (fun y s₄ h₄ => ?_) fun _ _ e => e
      obtain ⟨h₄', tk₄, extra', rfl, hst₄, F₄, N₄, hoff₄, hJ₄⟩ := fin s₄ _ h₄
      have hmD : (D, lst ys c) ∈ pl₂ ++ (D, lst ys c) :: (extra' ++ news) := List.mem_append_right _ (List.mem_cons_self ..)
      refine wpAny_list_append_plain (items := ys.toArray) (hsz := by rw [List.size_toArray]; lia) ⟨c, (N₄ _ hmD).1⟩ fun h₅ hl₅ hs₅ => ?_
      obtain ⟨c₅, hl₅⟩ := hl₅
      refine ⟨n + 1 - (i + 1), by omega, h₅, tk₄, ys ++ [y], c₅, extra', pl₂, some v, i + 1, rfl, W.frame _ _ _ hst₄ fun b hb o e => (hs₅.2 b (fun q => hDf (q ▸ hb))).trans e, Fr.samebut F₄ N₄ hmD hs₅, hp₂, fun p hp => ?_, hoff₄, hJ₄, hlt, by rw [List.length_append, List.length_singleton]; lia, rfl⟩
      rcases List.mem_append.mp hp with hp | hp
      · have := N₄ p (List.mem_append_left _ hp)
        exact ⟨(hs₅.2 _ (fun q => hDP (by rw [← hpa₂, ← q]; exact List.mem_map_of_mem hp))).trans this.1, this.2⟩
      · rcases List.mem_cons.mp hp with rfl | hp
        · refine ⟨?_, (N₄ _ hmD).2⟩
          rw [hl₅]; simp
        · have := N₄ p (List.mem_append_right _ (List.mem_cons_of_mem _ hp))
          exact ⟨(hs₅.2 _ (hoff₄ p hp).2.2).trans this.1, this.2⟩
  · have hin : i = n := by lia
    subst hin
    refine W.done _ _ _ hst' fun h₁ tk₁ hk₁ => ?_
    refine done h₁ tk₁ ys c extra pl v₀ hp' hJ ⟨F'.ns.at' fun o e => hk₁ _ o hLw e, fun b o e => hk₁ b o (old b o e) (F'.keep b o e), F'.above⟩ (fun p hp => ⟨hk₁ _ _ ?_ (N' p hp).1, (N' p hp).2⟩) hoff'
    rcases List.mem_append.mp hp with hp | hp
    · exact hPw _ (hpa ▸ List.mem_map_of_mem hp)
    · rcases List.mem_cons.mp hp with rfl | hp
      · exact hDw
      · exact (hoff' p hp).1
/-- what comes behind a comprehension: it is handed on, or stored at once -/
noncomputable def Tail (prog : Program) (w : World) (A : Around) (E : Value → Shared → Prop) (h₀ : Heap) (L : Addr) (use : Option (Value → Sem Unit)) (up : Addr → (Str → Option Value) → Str → Option Value) (Qc : Value → Shared → Prop) (Q : Addr → Shared → Prop) : Prop :=
  ∀ (C D : Addr) (s' : Shared) (mm m : Str → Option Value), s'.heap.Ns C mm → C ≠ L → h₀.get? C = none → Fr h₀ L s'.heap m →
    (∀ h'' tk'', Fr h₀ L h'' (up D m) → (∀ b o, b ≠ L → b ≠ C → s'.heap.get? b = some o → h''.get? b = some o) → Q D { s' with heap := h'', toks := tk'' }) →
    compPost (model prog w) A E use Qc (.ref D) C (.ok .next) s'
theorem tail_none {E : Value → Shared → Prop} {Q : Value → Shared → Prop} : Tail prog w A E h₀ L none (fun _ m => m) Q (fun D => Q (.ref D)) := by
  intro C D s' mm m hns hCL hC₀ F k
  exact ⟨mm, hns, fun h'' hs'' => k h'' s'.toks (F.change hs'' hCL hC₀) fun b o _ hb e => (hs''.2 b hb).trans e⟩
theorem tail_some {E : Value → Shared → Prop} {Q : Flow → Shared → Prop} {env : Env} {y : Str} {py : Pos} (hL : env.locals = L) (hy : env.kindOf y = some .local) (hp : (env.scope.kind == .class || (env.scope.kind == .module && env.locals != env.globals)) = false) :
    Tail prog w A E h₀ L (some (assign (.Name y py) env)) (fun D m z => if z = y then some (.ref D) else m z) (fun _ s' => Q .next s') (fun _ s' => Q .next s') := by
  intro C D s' mm m hns hCL hC₀ F k
  subst hL
  show wpAny _ A (assign (.Name y py) env (.ref D)) _ _ _
  refine wpAny_assign_Name (wpAny_storeName_local hy F.ns (fun h₂ hn₂ hs₂ => ?_) hp)
  have hL₀ : h₀.get? env.locals = none := Heap.get?_none_of_le F.above
  have F₂ : Fr h₀ env.locals h₂ (fun z => if z = y then some (.ref D) else m z) := ⟨hn₂, fun b o e => hs₂.extBut b o (fun q => by rw [q, hL₀] at e; cases e) (F.keep b o e), F.above⟩
  refine ⟨mm, hns.sameBut hs₂ hCL, fun h'' hs'' => k h'' _ (F₂.change hs'' hCL hC₀) fun b o hbL hbC e => (hs''.2 b hbC).trans ((hs₂.2 b hbL).trans e)⟩
theorem comp_tail {elt iter : Expr} {x : Str} {px : Pos} {ifs : List Expr} {scope : Scope} {pos : Pos} {I D : Addr} {fp wr : List Addr} {n c₀ : Nat} {P : Nat → Value → Prop} {St : Nat → Heap → Prop}
    {cenv : Env} {m : Str → Option Value} {PA : List Addr} {Has : Option Value → List (Addr × Obj) → Prop} {pl : List (Addr × Obj)} {news : List (Addr × Obj)} {E : Value → Shared → Prop} {Qc : Value → Shared → Prop} {Q : Addr → Shared → Prop} {use : Option (Value → Sem Unit)} {up : Addr → (Str → Option Value) → Str → Option Value}
    (TL : Tail prog w A E h₀ L use up Qc Q) (W : Walks prog w A I fp wr n P St) (V : Priv prog w A h₀ L cenv x PA Has) (J : Nat → List Value → List (Addr × Obj) → Prop)
    (hlive : ∀ i h, St i h → ∀ b ∈ wr, ∃ o, h.get? b = some o)
    (hLf : L ∉ fp) (hwr : ∀ b ∈ wr, h₀.get? b = none) (hDf : D ∉ fp) (hPf : ∀ b ∈ PA, b ∉ fp) (hDP : D ∉ PA)
    (hst : St 0 s.heap) (F : Fr h₀ L s.heap m) (hp : Has none pl) (N : News h₀ L s.heap (pl ++ (D, lst [] c₀) :: news)) (hoff : ∀ p ∈ news, p.1 ∉ wr ∧ p.1 ∉ PA ∧ p.1 ≠ D) (h0 : J 0 [] [])
    (turn : ∀ (i : Nat) v ys c extra pl own h tk (E' : Value → Shared → Prop), i < n → P i v → J i ys extra → Has (some v) pl → (∀ b ∈ wr, ∃ o, (b, o) ∈ own) → (∀ p ∈ extra ++ news, p.1 ∉ wr ∧ p.1 ∉ PA ∧ p.1 ≠ D) → Fr h₀ L h m → News h₀ L h ((own ++ pl ++ [(D, lst ys c)]) ++ (extra ++ news)) →
      wpAny (model prog w) A (forIn ifs true fun c r => if r = true then do let ok ← isTrue c cenv (eval c cenv); pure (ForInStep.yield ok) else pure (ForInStep.yield r))
        (fun ok s₃ => if ok = true then wpAny (model prog w) A (eval elt cenv) (fun y s₄ => CompEnd h₀ L m (own ++ pl ++ [(D, lst ys c)]) extra news (J (i + 1) (ys ++ [y])) { s with heap := h, toks := tk } s₄) E' s₃
          else CompEnd h₀ L m (own ++ pl ++ [(D, lst ys c)]) extra news (J (i + 1) ys) { s with heap := h, toks := tk } s₃)
        E' { s with heap := h, toks := tk })
    (done : ∀ h' tk ys c extra, J n ys extra → Fr h₀ L h' (up D m) → News h₀ L h' ((D, lst ys c) :: (extra ++ news)) → (∀ p ∈ extra ++ news, p.1 ≠ D) → Q D { s with heap := h', toks := tk })
    (hsz : n ≤ sizeLine) :
    codeAny (model prog w) A (.compStart (.ListComp elt [⟨.Name x px, iter, ifs, 0⟩] scope pos) 0 (.ref I) (.ref D) cenv) (compPost (model prog w) A E use Qc (.ref D) cenv.locals) s := by
  have loop := comp_loop (R := compPost (model prog w) A E use Qc (.ref D) cenv.locals) (elt := elt) (iter := iter) (px := px) (ifs := ifs) (scope := scope) (pos := pos) W V J hlive hLf hwr hDf hPf hDP hst F hp N hoff h0
    (fun i v ys c extra pl own h tk => turn i v ys c extra pl own h tk _) (fun h' tk ys c extra pl v hv hJ F' N' hoff' => by
      obtain ⟨o, mm, hmo, hns⟩ := V.ns _ _ hv
      have hC := N' _ (List.mem_append_left _ hmo)
      have hpa := V.adr _ _ hv
      refine TL cenv.locals D _ mm m (hns.ns hC.1) hC.2.1 hC.2.2 F' fun h'' tk'' F'' hk'' => ?_
      refine done h'' tk'' ys c extra hJ F'' (fun p hp => ?_) (fun p hp => (hoff' p hp).2.2)
      have := N' p (List.mem_append_right _ hp)
      refine ⟨hk'' _ _ this.2.1 (fun q => ?_) this.1, this.2⟩
      rcases List.mem_cons.mp hp with rfl | hp
      · exact hDP (by have e : D = cenv.locals := q
                      rw [e]; exact V.locals)
      · exact (hoff' p hp).2.1 (q ▸ V.locals)) hsz
  exact codeAny_compStart_list loop (W.self 0 _ _ _ hst loop)
/-- where the iterator stands -/
inductive CompAt (prog : Program) (w : World) (A : Around) (h₀ : Heap) (L : Addr) (Env' : Addr → Env) (Has : Addr → Option Value → List (Addr × Obj) → Prop) (ifs : List Expr) (elt : Expr) (up : Addr → (Str → Option Value) → Str → Option Value) (Q : Addr → Shared → Prop) (it : Value) (s₂ : Shared) : Prop
  | mk (I : Addr) (fp wr : List Addr) (n : Nat) (P : Nat → Value → Prop) (St : Nat → Heap → Prop) (m : Str → Option Value) (news : List (Addr × Obj)) (J : Nat → List Value → List (Addr × Obj) → Prop) (a0 : it = .ref I) (a1 : Walks prog w A I fp wr n P St) (a2 : n ≤ sizeLine) (a3 : (∀ i h, St i h → ∀ b ∈ wr, ∃ o, h.get? b = some o)) (a4 : L ∉ fp) (a5 : (∀ b ∈ wr, h₀.get? b = none)) (a6 : (∀ b ∈ fp, b < s₂.heap.objs.size)) (a7 : St 0 s₂.heap) (a8 : Fr h₀ L s₂.heap m) (a9 : News h₀ L s₂.heap news) (a10 : (∀ p ∈ news, p.1 ∉ wr)) (a11 : J 0 [] []) (a12 : (∀ (C D : Addr) (i : Nat) v ys c extra pl own h tk (E' : Value → Shared → Prop), i < n → P i v → J i ys extra → Has C (some v) pl → (∀ b ∈ wr, ∃ o, (b, o) ∈ own) → Fr h₀ L h m → News h₀ L h ((own ++ pl ++ [(D, lst ys c)]) ++ (extra ++ news)) →
      wpAny (model prog w) A (forIn ifs true fun c r => if r = true then do let ok ← isTrue c (Env' C) (eval c (Env' C)); pure (ForInStep.yield ok) else pure (ForInStep.yield r))
        (fun ok s₃ => if ok = true then wpAny (model prog w) A (eval elt (Env' C)) (fun y s₄ => CompEnd h₀ L m (own ++ pl ++ [(D, lst ys c)]) extra news (J (i + 1) (ys ++ [y])) { s₂ with heap := h, toks := tk } s₄) E' s₃
          else CompEnd h₀ L m (own ++ pl ++ [(D, lst ys c)]) extra news (J (i + 1) ys) { s₂ with heap := h, toks := tk } s₃)
        E' { s₂ with heap := h, toks := tk })) (a13 : ∀ D h' tk ys c extra, J n ys extra → Fr h₀ L h' (up D m) → News h₀ L h' ((D, lst ys c) :: (extra ++ news)) → (∀ p ∈ news, p.1 < D) → (∀ p ∈ extra ++ news, p.1 ≠ D) → Q D { s₂ with heap := h', toks := tk }) : CompAt prog w A h₀ L Env' Has ifs elt up Q it s₂
end
section
variable {prog : Program} {w : World} {A : Around} {E : Value → Shared → Prop} {Q : Value → Shared → Prop} {s : Shared} {env : Env} {h₀ : Heap} {L : Addr}
theorem comp_plainG {elt iter : Expr} {x : Str} {px : Pos} {ifs : List Expr} {scope : Scope} {cl : List (Str × Addr)} {pos cp : Pos} {up : Addr → (Str → Option Value) → Str → Option Value} {Qc : Value → Shared → Prop} {Q : Addr → Shared → Prop} {use : Option (Value → Sem Unit)} (TL : Tail prog w A E h₀ L use up Qc Q)
    (hclos : closureFor scope env = pure cl) (hcell : ∀ y ∈ scope.names, y.2 ≠ .cell) (hkind : scope.kind = .function)
    (hnames : ∀ y ∈ scope.names, y.2 = .local → scope.names.lookup y.1 = some .local) (hx : scope.names.lookup x = some .local)
    (h : wpAny (model prog w) A (eval iter env) (fun xv s₁ => wpAny (model prog w) A (pyIter xv) (fun it s₂ => CompAt prog w A h₀ L (fun C => compEnvC scope cl C env) (fun C => HasL C x) ifs elt up Q it s₂) E s₁) E s)
    (hs : ∀ x, foldedSetIterable iter env x = pure x := by intro _; rfl) :
    wpAny (model prog w) A (comprehension (.ListComp elt [⟨.Name x px, iter, ifs, 0⟩] scope pos) scope env cp (newList []) false (eval iter env) use) Qc E s := by
  refine wpAny_comprehension_free rfl hs hclos hkind hnames (wpAny_mono h (fun xv s₁ h₁ => wpAny_mono h₁ (fun it s₂ h₂ => ?_) fun _ _ e => e) fun _ _ e => e)
  obtain ⟨I, fp, wr, n, P, St, m, news, J, rfl, W, hsz, hlive, hLf, hwr, hfp, hst, F, N, hoff, h0, turn, done⟩ := h₂
  refine wpAny_newObj_type (wpAny_newFunctionEnv hcell (by intro y hy; simp at hy) (fun h₁ hns₁ hsb₁ => ?_) hkind)
  dsimp only at hns₁ hsb₁ ⊢
  generalize hH2 : s₂.heap.push { cls := .type "list", dict := none, data := .seq ([] : List Value).toArray } = H2 at hns₁ hsb₁ ⊢
  have hC : H2.objs.size = s₂.heap.objs.size + 1 := by rw [← hH2, Heap.size_push]
  have below : ∀ b, b < s₂.heap.objs.size → b ≠ H2.objs.size ∧ b ≠ s₂.heap.objs.size := fun b hb => ⟨by rw [hC]; exact Nat.ne_of_lt (Nat.lt_succ_of_lt hb), Nat.ne_of_lt hb⟩
  have old : ∀ b o, s₂.heap.get? b = some o → h₁.get? b = some o := fun b o e => hsb₁.extBut b o (below b (Heap.lt_size e)).1 (Heap.get?_push_of_some _ (hH2 ▸ Heap.get?_push_of_some _ e))
  have hacc : h₁.get? s₂.heap.objs.size = some (lst [] 0) := hsb₁.extBut _ _ (by rw [hC]; exact Nat.ne_of_lt (Nat.lt_succ_self _)) (Heap.get?_push_of_some _ (hH2 ▸ Heap.get?_push_size _ rfl))
  obtain ⟨oC, hoC, hnC⟩ := ns_obj hns₁
  have hLs : L < s₂.heap.objs.size := F.ns.lt
  have fresh : ∀ a, s₂.heap.objs.size ≤ a → h₀.get? a = none := fun a ha => by
    cases e : h₀.get? a with
    | none => rfl
    | some o' => exact absurd (Heap.lt_size (F.keep a o' e)) (Nat.not_lt.mpr ha)
  refine comp_tail TL (L := L) (h₀ := h₀) (m := m) (cenv := compEnvC scope cl H2.objs.size env) (news := news) (c₀ := 0) W (priv_local (x := x) (lookup_relabel_local hx) (by simp [compEnvC, relabel, hkind])) J hlive hLf hwr
    (fun hm => Nat.lt_irrefl _ (hfp _ hm)) (fun b hb hm => ?_) (fun hm => ?_) (W.frame _ _ _ hst fun b _ o e => old b o e) ⟨F.ns.at' fun o e => old L o e, fun b o e => old b o (F.keep b o e), F.above⟩
    ⟨oC, _, rfl, hnC, fun u e => by cases e⟩ (fun p hp => ?_) (fun p hp => ?_) h0 ?_ ?_ hsz
  · have := hfp _ hm
    rw [List.mem_singleton.mp hb] at this
    have h2 : H2.objs.size < s₂.heap.objs.size := this
    lia
  · have e : s₂.heap.objs.size = H2.objs.size := List.mem_singleton.mp hm
    lia
  · rcases List.mem_cons.mp hp with rfl | hp
    · exact ⟨hoC, Nat.ne_of_gt (by show L < H2.objs.size; rw [hC]; exact Nat.lt_succ_of_lt hLs), fresh _ (by show _ ≤ H2.objs.size; rw [hC]; exact Nat.le_succ _)⟩
    · rcases List.mem_cons.mp hp with rfl | hp
      · exact ⟨hacc, Nat.ne_of_gt hLs, fresh _ (Nat.le_refl _)⟩
      · exact ⟨old _ _ (N p hp).1, (N p hp).2⟩
  · have := Heap.lt_size (N p hp).1
    refine ⟨hoff p hp, fun hm => ?_, Nat.ne_of_lt this⟩
    exact (below _ this).1 (List.mem_singleton.mp hm)
  · intro i v ys c extra pl own h tk E' hi hP hJ hv hown _ F' N'
    exact turn H2.objs.size s₂.heap.objs.size i v ys c extra pl own h tk E' hi hP hJ hv hown F' N'
  · intro h' tk ys c extra hJ F' N' hne
    exact done _ h' tk ys c extra hJ F' N' (fun p hp => Heap.lt_size (N p hp).1) hne
theorem comp_cellG {elt iter : Expr} {x : Str} {px : Pos} {ifs : List Expr} {scope : Scope} {cl : List (Str × Addr)} {pos cp : Pos} {up : Addr → (Str → Option Value) → Str → Option Value} {Qc : Value → Shared → Prop} {Q : Addr → Shared → Prop} {use : Option (Value → Sem Unit)} (TL : Tail prog w A E h₀ L use up Qc Q)
    (hclos : closureFor scope env = pure cl) (hcf : ∀ n acc, cellsFrom n scope.names acc = (x, n) :: acc) (hpc : ∀ h, pushCells h scope.names = h.push { cls := .type "cell", data := .cell none }) (hkind : scope.kind = .function)
    (hnames : ∀ y ∈ scope.names, y.2 = .local → scope.names.lookup y.1 = some .local) (hx : (relabel scope env).names.lookup x = some .cell)
    (h : wpAny (model prog w) A (eval iter env) (fun xv s₁ => wpAny (model prog w) A (pyIter xv) (fun it s₂ => CompAt prog w A h₀ L (fun C => compEnvC scope ((x, C + 1) :: cl) C env) (fun C => HasC C (C + 1)) ifs elt up Q it s₂) E s₁) E s)
    (hs : ∀ x, foldedSetIterable iter env x = pure x := by intro _; rfl) :
    wpAny (model prog w) A (comprehension (.ListComp elt [⟨.Name x px, iter, ifs, 0⟩] scope pos) scope env cp (newList []) false (eval iter env) use) Qc E s := by
  refine wpAny_comprehension_free rfl hs hclos hkind hnames (wpAny_mono h (fun xv s₁ h₁ => wpAny_mono h₁ (fun it s₂ h₂ => ?_) fun _ _ e => e) fun _ _ e => e)
  obtain ⟨I, fp, wr, n, P, St, m, news, J, rfl, W, hsz, hlive, hLf, hwr, hfp, hst, F, N, hoff, h0, turn, done⟩ := h₂
  refine wpAny_newObj_type ?_
  simp only [newFunctionEnv, Option.isSome_some, if_true]
  refine wpAny_bind (wpAny_alloc ?_)
  refine wpAny_bind (wpAny_layCells _ (fun name kind cells => by cases hkc : kind == NameKind.cell <;> simp [hkc]) _ _ _ _ ?_)
  refine wpAny_bind ?_
  rw [List.forIn_nil]
  refine wpAny_pure (wpAny_pure ?_)
  rw [hcf, hpc]
  dsimp only
  generalize hH1 : s₂.heap.push { cls := .type "list", dict := none, data := .seq ([] : List Value).toArray } = H1
  have hD : H1.objs.size = s₂.heap.objs.size + 1 := by rw [← hH1, Heap.size_push]
  generalize hH2 : H1.push { cls := .type "dict", dict := none, data := .dict #[] } = H2
  have hC : H2.objs.size = H1.objs.size + 1 := by rw [← hH2, Heap.size_push]
  generalize hH3 : H2.push { cls := .type "cell", dict := none, data := .cell none } = H3
  have old : ∀ b o, s₂.heap.get? b = some o → H3.get? b = some o := fun b o e => hH3 ▸ Heap.get?_push_of_some _ (hH2 ▸ Heap.get?_push_of_some _ (hH1 ▸ Heap.get?_push_of_some _ e))
  have hacc : H3.get? s₂.heap.objs.size = some (lst [] 0) := hH3 ▸ Heap.get?_push_of_some _ (hH2 ▸ Heap.get?_push_of_some _ (hH1 ▸ Heap.get?_push_size _ rfl))
  have hoC : H3.get? H1.objs.size = some { cls := .type "dict", data := .dict #[] } := hH3 ▸ Heap.get?_push_of_some _ (hH2 ▸ Heap.get?_push_size _ rfl)
  have hoX : H3.get? (H1.objs.size + 1) = some { cls := .type "cell", data := .cell none } := by rw [← hC]; exact hH3 ▸ Heap.get?_push_size _ rfl
  have hnC : NsIs ({ cls := .type "dict", data := .dict #[] } : Obj) (fun _ => none) := ⟨#[], 0, rfl, fun _ he => by simp at he, fun _ => rfl⟩
  have hLs : L < s₂.heap.objs.size := F.ns.lt
  have fresh : ∀ a, s₂.heap.objs.size ≤ a → h₀.get? a = none := fun a ha => by
    cases e : h₀.get? a with
    | none => rfl
    | some o' => exact absurd (Heap.lt_size (F.keep a o' e)) (Nat.not_lt.mpr ha)
  rw [hC]
  have key : ∀ s₄ : Shared, s₄ = { s₂ with heap := H3 } → codeAny (model prog w) A (.compStart (.ListComp elt [⟨.Name x px, iter, ifs, 0⟩] scope pos) 0 (.ref I) (.ref s₂.heap.objs.size) (compEnvC scope ((x, H1.objs.size + 1) :: cl) H1.objs.size env))
      (compPost (model prog w) A E use Qc (.ref s₂.heap.objs.size) H1.objs.size) s₄ := by
    rintro s₄ rfl
    refine comp_tail TL (L := L) (h₀ := h₀) (m := m) (cenv := compEnvC scope ((x, H1.objs.size + 1) :: cl) H1.objs.size env) (news := news) (c₀ := 0) W
      (priv_cell (x := x) (Cx := H1.objs.size + 1) (by simp [compEnvC, relabel, hkind]) hx (by simp [compEnvC]) (Nat.succ_ne_self _)) J hlive hLf hwr
      (fun hm => Nat.lt_irrefl _ (hfp _ hm)) (fun b hb hm => ?_) (fun hm => ?_) (W.frame _ _ _ hst fun b _ o e => old b o e) ⟨F.ns.at' fun o e => old L o e, fun b o e => old b o (F.keep b o e), F.above⟩
      ⟨_, _, { cls := .type "cell", data := .cell none }, rfl, hnC, rfl⟩ (fun p hp => ?_) (fun p hp => ?_) h0 ?_ ?_ hsz
    · have h1 : b < s₂.heap.objs.size := hfp _ hm
      rcases List.mem_cons.mp hb with e | hb
      · have e : b = H1.objs.size + 1 := e
        rw [e] at h1
        have h2 : @LT.lt Nat _ (H1.objs.size + 1) s₂.heap.objs.size := h1
        lia
      · have e : b = H1.objs.size := List.mem_singleton.mp hb
        rw [e] at h1
        have h2 : @LT.lt Nat _ (H1.objs.size) s₂.heap.objs.size := h1
        lia
    · rcases List.mem_cons.mp hm with e | hb
      · have e : s₂.heap.objs.size = H1.objs.size + 1 := e
        lia
      · have e : s₂.heap.objs.size = H1.objs.size := List.mem_singleton.mp hb
        lia
    · rcases List.mem_cons.mp hp with rfl | hp
      · exact ⟨hoX, Nat.ne_of_gt (by show L < H1.objs.size + 1; rw [hD]; exact Nat.lt_succ_of_lt (Nat.lt_succ_of_lt hLs)), fresh _ (by show _ ≤ H1.objs.size + 1; lia)⟩
      · rcases List.mem_cons.mp hp with rfl | hp
        · exact ⟨hoC, Nat.ne_of_gt (by show L < H1.objs.size; rw [hD]; exact Nat.lt_succ_of_lt hLs), fresh _ (by show _ ≤ H1.objs.size; lia)⟩
        · rcases List.mem_cons.mp hp with rfl | hp
          · exact ⟨hacc, Nat.ne_of_gt hLs, fresh _ (Nat.le_refl _)⟩
          · exact ⟨old _ _ (N p hp).1, (N p hp).2⟩
    · have := Heap.lt_size (N p hp).1
      refine ⟨hoff p hp, fun hm => ?_, Nat.ne_of_lt this⟩
      rcases List.mem_cons.mp hm with e | hb
      · have e : p.1 = H1.objs.size + 1 := e
        rw [e] at this
        have h2 : @LT.lt Nat _ (H1.objs.size + 1) s₂.heap.objs.size := this
        omega
      · have e : p.1 = H1.objs.size := List.mem_singleton.mp hb
        rw [e] at this
        have h2 : @LT.lt Nat _ (H1.objs.size) s₂.heap.objs.size := this
        omega
    · intro i v ys c extra pl own h tk E' hi hP hJ hv hown _ F' N'
      exact turn H1.objs.size s₂.heap.objs.size i v ys c extra pl own h tk E' hi hP hJ hv hown F' N'
    · intro h' tk ys c extra hJ F' N' hne
      exact done _ h' tk ys c extra hJ F' N' (fun p hp => Heap.lt_size (N p hp).1) hne
  exact key _ rfl
theorem comp_plain {elt iter : Expr} {x : Str} {px : Pos} {ifs : List Expr} {scope : Scope} {cl : List (Str × Addr)} {pos : Pos}
    (hclos : closureFor scope env = pure cl) (hcell : ∀ y ∈ scope.names, y.2 ≠ .cell) (hkind : scope.kind = .function)
    (hnames : ∀ y ∈ scope.names, y.2 = .local → scope.names.lookup y.1 = some .local) (hx : scope.names.lookup x = some .local)
    (h : wpAny (model prog w) A (eval iter env) (fun xv s₁ => wpAny (model prog w) A (pyIter xv) (fun it s₂ => CompAt prog w A h₀ L (fun C => compEnvC scope cl C env) (fun C => HasL C x) ifs elt (fun _ m => m) (fun D => Q (.ref D)) it s₂) E s₁) E s)
    (hs : ∀ x, foldedSetIterable iter env x = pure x := by intro _; rfl) :
    wpAny (model prog w) A (eval (.ListComp elt [⟨.Name x px, iter, ifs, 0⟩] scope pos) env) Q E s := by
  rw [eval_ListComp]
  exact comp_plainG tail_none hclos hcell hkind hnames hx h hs
theorem comp_plainA {elt iter : Expr} {x : Str} {px : Pos} {ifs : List Expr} {scope : Scope} {cl : List (Str × Addr)} {pos spos py : Pos} {y : Str} {Q : Flow → Shared → Prop} (hsw : swapsWith (.ListComp elt [⟨.Name x px, iter, ifs, 0⟩] scope pos) (some (.Name y py)) spos.line env = pure true) (hL : env.locals = L) (hy : env.kindOf y = some .local) (hp : (env.scope.kind == .class || (env.scope.kind == .module && env.locals != env.globals)) = false)
    (hclos : closureFor scope env = pure cl) (hcell : ∀ y ∈ scope.names, y.2 ≠ .cell) (hkind : scope.kind = .function)
    (hnames : ∀ y ∈ scope.names, y.2 = .local → scope.names.lookup y.1 = some .local) (hx : scope.names.lookup x = some .local)
    (h : wpAny (model prog w) A (eval iter env) (fun xv s₁ => wpAny (model prog w) A (pyIter xv) (fun it s₂ => CompAt prog w A h₀ L (fun C => compEnvC scope cl C env) (fun C => HasL C x) ifs elt (fun D m z => if z = y then some (.ref D) else m z) (fun _ s' => Q .next s') it s₂) E s₁) E s)
    (hs : ∀ x, foldedSetIterable iter env x = pure x := by intro _; rfl) :
    wpAny (model prog w) A (exec (.Assign [.Name y py] (.ListComp elt [⟨.Name x px, iter, ifs, 0⟩] scope pos) spos) env) Q E s := by
  rw [exec_Assign_Name_used _ _ _ _ hsw]
  refine wpAny_bind (wpAny_standAt (wpAny_bind ?_))
  show wpAny _ A (do let _ ← comprehension (.ListComp elt [⟨.Name x px, iter, ifs, 0⟩] scope pos) scope env _ (newList []) false (eval iter env) (some (assign (.Name y py) env))) _ _ s
  exact wpAny_bind (wpAny_mono (comp_plainG (tail_some hL hy hp (Q := Q)) hclos hcell hkind hnames hx h hs) (fun _ s' hq => wpAny_pure (wpAny_pure hq)) fun _ _ e => e)
theorem comp_cell {elt iter : Expr} {x : Str} {px : Pos} {ifs : List Expr} {scope : Scope} {cl : List (Str × Addr)} {pos : Pos}
    (hclos : closureFor scope env = pure cl) (hcf : ∀ n acc, cellsFrom n scope.names acc = (x, n) :: acc) (hpc : ∀ h, pushCells h scope.names = h.push { cls := .type "cell", data := .cell none }) (hkind : scope.kind = .function)
    (hnames : ∀ y ∈ scope.names, y.2 = .local → scope.names.lookup y.1 = some .local) (hx : (relabel scope env).names.lookup x = some .cell)
    (h : wpAny (model prog w) A (eval iter env) (fun xv s₁ => wpAny (model prog w) A (pyIter xv) (fun it s₂ => CompAt prog w A h₀ L (fun C => compEnvC scope ((x, C + 1) :: cl) C env) (fun C => HasC C (C + 1)) ifs elt (fun _ m => m) (fun D => Q (.ref D)) it s₂) E s₁) E s)
    (hs : ∀ x, foldedSetIterable iter env x = pure x := by intro _; rfl) :
    wpAny (model prog w) A (eval (.ListComp elt [⟨.Name x px, iter, ifs, 0⟩] scope pos) env) Q E s := by
  rw [eval_ListComp]
  exact comp_cellG tail_none hclos hcf hpc hkind hnames hx h hs
theorem comp_cellA {elt iter : Expr} {x : Str} {px : Pos} {ifs : List Expr} {scope : Scope} {cl : List (Str × Addr)} {pos spos py : Pos} {y : Str} {Q : Flow → Shared → Prop} (hsw : swapsWith (.ListComp elt [⟨.Name x px, iter, ifs, 0⟩] scope pos) (some (.Name y py)) spos.line env = pure true) (hL : env.locals = L) (hy : env.kindOf y = some .local) (hp : (env.scope.kind == .class || (env.scope.kind == .module && env.locals != env.globals)) = false)
    (hclos : closureFor scope env = pure cl) (hcf : ∀ n acc, cellsFrom n scope.names acc = (x, n) :: acc) (hpc : ∀ h, pushCells h scope.names = h.push { cls := .type "cell", data := .cell none }) (hkind : scope.kind = .function)
    (hnames : ∀ y ∈ scope.names, y.2 = .local → scope.names.lookup y.1 = some .local) (hx : (relabel scope env).names.lookup x = some .cell)
    (h : wpAny (model prog w) A (eval iter env) (fun xv s₁ => wpAny (model prog w) A (pyIter xv) (fun it s₂ => CompAt prog w A h₀ L (fun C => compEnvC scope ((x, C + 1) :: cl) C env) (fun C => HasC C (C + 1)) ifs elt (fun D m z => if z = y then some (.ref D) else m z) (fun _ s' => Q .next s') it s₂) E s₁) E s)
    (hs : ∀ x, foldedSetIterable iter env x = pure x := by intro _; rfl) :
    wpAny (model prog w) A (exec (.Assign [.Name y py] (.ListComp elt [⟨.Name x px, iter, ifs, 0⟩] scope pos) spos) env) Q E s := by
  rw [exec_Assign_Name_used _ _ _ _ hsw]
  refine wpAny_bind (wpAny_standAt (wpAny_bind ?_))
  show wpAny _ A (do let _ ← comprehension (.ListComp elt [⟨.Name x px, iter, ifs, 0⟩] scope pos) scope env _ (newList []) false (eval iter env) (some (assign (.Name y py) env))) _ _ s
  exact wpAny_bind (wpAny_mono (comp_cellG (tail_some hL hy hp (Q := Q)) hclos hcf hpc hkind hnames hx h hs) (fun _ s' hq => wpAny_pure (wpAny_pure hq)) fun _ _ e => e)
/-- the iterator of a list of the ledger -/
theorem compAt_list {l : Addr} {vs : List Value} {c : Nat} {m : Str → Option Value} {news : List (Addr × Obj)} {up : Addr → (Str → Option Value) → Str → Option Value} {Q : Addr → Shared → Prop} {Env' : Addr → Env} {Has : Addr → Option Value → List (Addr × Obj) → Prop} {ifs : List Expr} {elt : Expr} (J : Nat → List Value → List (Addr × Obj) → Prop)
    (hh : A.handled = none) (hm : (l, lst vs c) ∈ news) (hsz : vs.length ≤ sizeLine) (F : Fr h₀ L s.heap m) (N : News h₀ L s.heap news) (h0 : J 0 [] [])
    (turn : ∀ (C D I : Addr) (oI : Obj) (i : Nat) v ys c extra pl own h tk (E' : Value → Shared → Prop), vs[i]? = some v → J i ys extra → Has C (some v) pl → (I, oI) ∈ own → Fr h₀ L h m → News h₀ L h ((own ++ pl ++ [(D, lst ys c)]) ++ (extra ++ news)) →
      wpAny (model prog w) A (forIn ifs true fun c r => if r = true then do let ok ← isTrue c (Env' C) (eval c (Env' C)); pure (ForInStep.yield ok) else pure (ForInStep.yield r))
        (fun ok s₃ => if ok = true then wpAny (model prog w) A (eval elt (Env' C)) (fun y s₄ => CompEnd h₀ L m (own ++ pl ++ [(D, lst ys c)]) extra news (J (i + 1) (ys ++ [y])) { s with heap := h, toks := tk } s₄) E' s₃
          else CompEnd h₀ L m (own ++ pl ++ [(D, lst ys c)]) extra news (J (i + 1) ys) { s with heap := h, toks := tk } s₃)
        E' { s with heap := h, toks := tk })
    (done : ∀ D h' tk ys c extra, J vs.length ys extra → Fr h₀ L h' (up D m) → News h₀ L h' ((D, lst ys c) :: (extra ++ news)) → (∀ p ∈ news, p.1 < D) → (∀ p ∈ extra ++ news, p.1 ≠ D) → Q D { s with heap := h', toks := tk }) :
    wpAny (model prog w) A (pyIter (.ref l)) (fun it s₂ => CompAt prog w A h₀ L Env' Has ifs elt up Q it s₂) E s := by
  have hls : s.heap.IsList l vs.toArray := News.isList N hm
  have hlt : l < s.heap.objs.size := Heap.lt_size (N _ hm).1
  refine wpAny_pyIter_list hls ?_
  have W := Walks.list (prog := prog) (w := w) hh s.heap.objs.size l (Nat.ne_of_lt hlt) vs.toArray
  have hlen : vs.toArray.size = vs.length := by simp
  rw [hlen] at W
  refine ⟨_, _, _, vs.length, _, _, m, news, J, rfl, W, hsz, ?_, ?_, ?_, ?_, ⟨⟨_, Heap.get?_push_size _ rfl, rfl, rfl⟩, hls.at fun o e => Heap.get?_push_of_some _ e⟩, F.push _, (fun p hp => ⟨Heap.get?_push_of_some _ (N p hp).1, (N p hp).2⟩), ?_, h0, ?_, ?_⟩
  · rintro i h ⟨⟨o, ho, _⟩, _⟩ b hb
    rw [List.mem_singleton.mp hb]
    exact ⟨o, ho⟩
  · intro hm'
    rcases List.mem_cons.mp hm' with e | hm'
    · exact absurd F.ns.lt (e ▸ Nat.lt_irrefl _)
    · exact (N _ hm).2.1 (List.mem_singleton.mp hm').symm
  · intro b hb
    rw [List.mem_singleton.mp hb]
    exact next_is_new F
  · intro b hb
    rw [Heap.size_push]
    rcases List.mem_cons.mp hb with rfl | hb
    · exact Nat.lt_succ_self _
    · rw [List.mem_singleton.mp hb]
      exact Nat.lt_succ_of_lt hlt
  · intro p hp hI
    exact absurd (Heap.lt_size (N p hp).1) ((List.mem_singleton.mp hI) ▸ Nat.lt_irrefl _)
  · intro C D i v ys c extra pl own h tk E' hi hP hJ hv hown F' N'
    obtain ⟨oI, hoI⟩ := hown _ (List.mem_singleton.mpr rfl)
    exact turn C D _ oI i v ys c extra pl own h tk E' (by simpa using hP) hJ hv hoI F' N'
  · intro D h' tk ys c extra hJ F' N' hlt' hne
    exact done D h' tk ys c extra hJ F' N' hlt' hne
theorem compAt_range {r : Addr} {a₀ b₀ c₀ : Int} {t u v : Tok} {n : Nat} {m : Str → Option Value} {news : List (Addr × Obj)} {up : Addr → (Str → Option Value) → Str → Option Value} {Q : Addr → Shared → Prop} {Env' : Addr → Env} {Has : Addr → Option Value → List (Addr × Obj) → Prop} {ifs : List Expr} {elt : Expr} (J : Nat → List Value → List (Addr × Obj) → Prop)
    (hh : A.handled = none) (hr : IsRange s.heap r a₀ b₀ c₀ t u v) (hsmall : Builtin.Range.small a₀ b₀ c₀ = true) (hn : Builtin.Range.rangeSize a₀ b₀ c₀ = n) (hsz : n ≤ sizeLine) (F : Fr h₀ L s.heap m) (N : News h₀ L s.heap news) (h0 : J 0 [] [])
    (turn : ∀ (C D I : Addr) (oI : Obj) (i : Nat) t' ys c extra pl own h tk (E' : Value → Shared → Prop), i < n → J i ys extra → Has C (some (.int (a₀ + i * c₀) t')) pl → (I, oI) ∈ own → Fr h₀ L h m → News h₀ L h ((own ++ pl ++ [(D, lst ys c)]) ++ (extra ++ news)) →
      wpAny (model prog w) A (forIn ifs true fun c r => if r = true then do let ok ← isTrue c (Env' C) (eval c (Env' C)); pure (ForInStep.yield ok) else pure (ForInStep.yield r))
        (fun ok s₃ => if ok = true then wpAny (model prog w) A (eval elt (Env' C)) (fun y s₄ => CompEnd h₀ L m (own ++ pl ++ [(D, lst ys c)]) extra news (J (i + 1) (ys ++ [y])) { s with heap := h, toks := tk } s₄) E' s₃
          else CompEnd h₀ L m (own ++ pl ++ [(D, lst ys c)]) extra news (J (i + 1) ys) { s with heap := h, toks := tk } s₃)
        E' { s with heap := h, toks := tk })
    (done : ∀ D h' tk ys c extra, J n ys extra → Fr h₀ L h' (up D m) → News h₀ L h' ((D, lst ys c) :: (extra ++ news)) → (∀ p ∈ news, p.1 < D) → (∀ p ∈ extra ++ news, p.1 ≠ D) → Q D { s with heap := h', toks := tk }) :
    wpAny (model prog w) A (pyIter (.ref r)) (fun it s₂ => CompAt prog w A h₀ L Env' Has ifs elt up Q it s₂) E s := by
  refine wpAny_pyIter_range hr hsmall ?_
  refine ⟨_, _, _, n, _, _, m, news, J, rfl, Walks.range (prog := prog) (w := w) hh s.heap.objs.size a₀ c₀ n, hsz, ?_, ?_, ?_, ?_, (by show IsRangeIter _ _ _ _ _; rw [hn]; simpa using Heap.get?_push_size _ rfl), F.push _, (fun p hp => ⟨Heap.get?_push_of_some _ (N p hp).1, (N p hp).2⟩), ?_, h0, ?_, ?_⟩
  · intro i h hst b hb
    rw [List.mem_singleton.mp hb]
    exact ⟨_, hst⟩
  · intro hm'
    exact absurd F.ns.lt ((List.mem_singleton.mp hm') ▸ Nat.lt_irrefl _)
  · intro b hb
    rw [List.mem_singleton.mp hb]
    exact next_is_new F
  · intro b hb
    rw [Heap.size_push, List.mem_singleton.mp hb]
    exact Nat.lt_succ_self _
  · intro p hp hI
    exact absurd (Heap.lt_size (N p hp).1) ((List.mem_singleton.mp hI) ▸ Nat.lt_irrefl _)
  · rintro C D i v ys c extra pl own h tk E' hi ⟨t', rfl⟩ hJ hv hown F' N'
    obtain ⟨oI, hoI⟩ := hown _ (List.mem_singleton.mpr rfl)
    exact turn C D _ oI i t' ys c extra pl own h tk E' hi hJ hv hoI F' N'
  · intro D h' tk ys c extra hJ F' N' hlt' hne
    exact done D h' tk ys c extra hJ F' N' hlt' hne
end
end
section
-- Ls
set_option maxHeartbeats 4000000
/-- the end of a turn, the state by letters -/
noncomputable def ForS {σ : Type} (h₀ : Heap) (L I : Addr) (oI : Obj) (Led : σ → List (Addr × Obj)) (ps : σ → List (Str × Value)) (x : Str) (stored : List Str) (m₀ : Str → Option Value) (P : σ → Prop) (s₁ : Shared) (Q : Flow → Shared → Prop) (f : Flow) (s₂ : Shared) : Prop :=
  match f with
  | .ret v => Q (.ret v) s₂
  | .brk => Q .next s₂
  | _ => ∃ c' h' tk m', s₂ = { s₁ with heap := h', toks := tk } ∧ Fr h₀ L h' m' ∧ News h₀ L h' ((I, oI) :: Led c') ∧ (∀ p ∈ Led c', p.1 ≠ I) ∧ (∀ p ∈ ps c', m' p.1 = some p.2) ∧ (∀ z, z ≠ x → (∀ p ∈ ps c', z ≠ p.1) → stored.contains z = false → m' z = m₀ z) ∧ P c'
theorem ForS.next {σ : Type} {h₀ h' : Heap} {L I : Addr} {oI : Obj} {Led : σ → List (Addr × Obj)} {ps : σ → List (Str × Value)} {x : Str} {stored : List Str} {m₀ : Str → Option Value} {P : σ → Prop} {s₁ : Shared} {Q : Flow → Shared → Prop} {tk : Nat} {m' : Str → Option Value} (c' : σ)
    (F : Fr h₀ L h' m') (N : News h₀ L h' ((I, oI) :: Led c')) (hn : ∀ p ∈ Led c', p.1 ≠ I) (hk : ∀ p ∈ ps c', m' p.1 = some p.2) (hr : ∀ z, z ≠ x → (∀ p ∈ ps c', z ≠ p.1) → stored.contains z = false → m' z = m₀ z) (hP : P c') :
    ForS h₀ L I oI Led ps x stored m₀ P s₁ Q .next { s₁ with heap := h', toks := tk } := ⟨c', h', tk, m', rfl, F, N, hn, hk, hr, hP⟩
section
variable {prog : Program} {w : World} {A : Around} {E : Value → Shared → Prop} {s : Shared} {env : Env} {h₀ : Heap} {x : Str} {body : List Stmt} {Q : Flow → Shared → Prop} {σ : Type}
theorem for_listS {l : Addr} {vs : List Value} {c : Nat} {m₀ : Str → Option Value} (Led : σ → List (Addr × Obj)) (ps : σ → List (Str × Value)) (stored : List Str) (P : Nat → σ → Prop) (c₀ : σ)
    (hh : A.handled = none) (hm : ∀ q, (l, lst vs c) ∈ Led q) (F : Fr h₀ env.locals s.heap m₀) (N : News h₀ env.locals s.heap (Led c₀)) (hk : ∀ p ∈ ps c₀, m₀ p.1 = some p.2) (h0 : P 0 c₀)
    (turn : ∀ (i : Nat) v q (u : Str → Option Value) h tk I oI, vs[i]? = some v → P i q → (∀ p ∈ Led q, p.1 ≠ I) → Fr h₀ env.locals h (fun y => if y = x then some v else kstB (fun z => if stored.contains z then u z else m₀ z) (ps q) y) → News h₀ env.locals h ((I, oI) :: Led q) →
      wpAny (model prog w) A (execs body env) (ForS h₀ env.locals I oI Led ps x stored m₀ (P (i + 1)) { s with heap := h, toks := tk } Q) E { s with heap := h, toks := tk })
    (done : ∀ q (u : Str → Option Value) h tk, P vs.length q → Fr h₀ env.locals h (fun y => if y = x then u y else kstB (fun z => if stored.contains z then u z else m₀ z) (ps q) y) → News h₀ env.locals h (Led q) → Q .next { s with heap := h, toks := tk }) :
    wpAny (model prog w) A (pyIter (.ref l)) (fun it s₂ => LoopAtV prog w A h₀ env x body Q E it s₂) E s := by
  refine for_list (fun i m n => ∃ q, n = Led q ∧ (∀ p ∈ ps q, m p.1 = some p.2) ∧ (∀ z, z ≠ x → (∀ p ∈ ps q, z ≠ p.1) → stored.contains z = false → m z = m₀ z) ∧ P i q) hh (hm c₀) F N ⟨c₀, rfl, hk, fun _ _ _ _ => rfl, h0⟩ ?_ ?_
  · rintro i v m₁ news₁ h tk I oI hv ⟨q, rfl, h1, h2, hP⟩ _ hoff F₁ N₁
    refine wpAny_mono (turn i v q m₁ h tk I oI hv hP hoff (kst_fr h1 h2 F₁) N₁) (fun f s₂ p => ?_) fun _ _ e => e
    cases f with
    | ret v => exact p
    | brk => exact p
    | next => obtain ⟨c', h', tk', m', e, F', N', hn, hk', hr, hP'⟩ := p; exact ⟨h', tk', m', Led c', e, F', N', hn, ⟨c', rfl, hk', hr, hP'⟩, hm c'⟩
    | cont => obtain ⟨c', h', tk', m', e, F', N', hn, hk', hr, hP'⟩ := p; exact ⟨h', tk', m', Led c', e, F', N', hn, ⟨c', rfl, hk', hr, hP'⟩, hm c'⟩
  · rintro m₁ news₁ h tk ⟨q, rfl, h1, h2, hP⟩ _ F₁ N₁
    exact done q m₁ h tk hP (kst_frOut h1 h2 F₁) N₁
theorem for_rangeS {r : Addr} {a₀ b₀ k₀ : Int} {t u v : Tok} {n : Nat} {m₀ : Str → Option Value} (Led : σ → List (Addr × Obj)) (ps : σ → List (Str × Value)) (stored : List Str) (P : Nat → σ → Prop) (c₀ : σ)
    (hh : A.handled = none) (hr : IsRange s.heap r a₀ b₀ k₀ t u v) (hsmall : Builtin.Range.small a₀ b₀ k₀ = true) (hn : Builtin.Range.rangeSize a₀ b₀ k₀ = n) (F : Fr h₀ env.locals s.heap m₀) (N : News h₀ env.locals s.heap (Led c₀)) (hk : ∀ p ∈ ps c₀, m₀ p.1 = some p.2) (h0 : P 0 c₀)
    (turn : ∀ (i : Nat) t' q (u : Str → Option Value) h tk I oI, i < n → P i q → (∀ p ∈ Led q, p.1 ≠ I) → Fr h₀ env.locals h (fun y => if y = x then some (.int (a₀ + i * k₀) t') else kstB (fun z => if stored.contains z then u z else m₀ z) (ps q) y) → News h₀ env.locals h ((I, oI) :: Led q) →
      wpAny (model prog w) A (execs body env) (ForS h₀ env.locals I oI Led ps x stored m₀ (P (i + 1)) { s with heap := h, toks := tk } Q) E { s with heap := h, toks := tk })
    (done : ∀ q (u : Str → Option Value) h tk, P n q → Fr h₀ env.locals h (fun y => if y = x then u y else kstB (fun z => if stored.contains z then u z else m₀ z) (ps q) y) → News h₀ env.locals h (Led q) → Q .next { s with heap := h, toks := tk }) :
    wpAny (model prog w) A (pyIter (.ref r)) (fun it s₂ => LoopAtV prog w A h₀ env x body Q E it s₂) E s := by
  refine for_range (fun i m n => ∃ q, n = Led q ∧ (∀ p ∈ ps q, m p.1 = some p.2) ∧ (∀ z, z ≠ x → (∀ p ∈ ps q, z ≠ p.1) → stored.contains z = false → m z = m₀ z) ∧ P i q) hh hr hsmall hn F N ⟨c₀, rfl, hk, fun _ _ _ _ => rfl, h0⟩ ?_ ?_
  · rintro i t' m₁ news₁ h tk I oI hi ⟨q, rfl, h1, h2, hP⟩ hoff F₁ N₁
    refine wpAny_mono (turn i t' q m₁ h tk I oI hi hP hoff (kst_fr h1 h2 F₁) N₁) (fun f s₂ p => ?_) fun _ _ e => e
    cases f with
    | ret v => exact p
    | brk => exact p
    | next => obtain ⟨c', h', tk', m', e, F', N', hn, hk', hr, hP'⟩ := p; exact ⟨h', tk', m', Led c', e, F', N', hn, ⟨c', rfl, hk', hr, hP'⟩⟩
    | cont => obtain ⟨c', h', tk', m', e, F', N', hn, hk', hr, hP'⟩ := p; exact ⟨h', tk', m', Led c', e, F', N', hn, ⟨c', rfl, hk', hr, hP'⟩⟩
  · rintro m₁ news₁ h tk ⟨q, rfl, h1, h2, hP⟩ F₁ N₁
    exact done q m₁ h tk hP (kst_frOut h1 h2 F₁) N₁
end
end
section
-- Pl
set_option maxHeartbeats 8000000
section
variable {M : Model} {A : Around} {E : Value → Shared → Prop} {s : Shared} {h₀ : Heap} {L C c : Addr} {news : List (Addr × Obj)} {scope : Scope} {cl : List (Str × Addr)} {env : Env} {x : Str} {pos : Pos} {v : Value} {o : Obj} {Q : Value → Shared → Prop} {m : Str → Option Value}
/-- the name of a comprehension's target, read in its block -/
theorem comp_local (N : News h₀ L s.heap news) (hm : (C, o) ∈ news) (hn : NsIs o m) (hv : ∀ u, some v = some u → m x = some u) (h : Q v s)
    (hk : (compEnvC scope cl C env).scope.kind = .function) (hx : (compEnvC scope cl C env).kindOf x = some .local) (hb : (x == ("__debug__" : Str)) = false := by decide) :
    wpAny M A (eval (.Name x pos) (compEnvC scope cl C env)) Q E s := wpAny_Name (wpAny_loadName_local hk hx (hn.ns (N.get hm)) (hv v rfl) h) hb
end
section
variable {prog : Program} {w : World} {A : Around} {E : Value → Shared → Prop} {s : Shared} {h₀ : Heap} {L : Addr} {news : List (Addr × Obj)}
theorem tup_item {value slice : PySem.Expr} {a : Addr} {l : List Value} {n : Nat} {k : Int} {u : Tok} {x : Value} {Q : Value → Shared → Prop}
    (N : News h₀ L s.heap news) (hm : (a, tupObj l n) ∈ news) (h0 : 0 ≤ k) (hk : k < 1000) (hx : l[k.toNat]? = some x) (h : Q x s)
    (hs : subscripted slice false (.ref a) (.int k u) = operate [.ref a, .int k u] (getItem (.ref a) (.int k u)) := by with_unfolding_all rfl) :
    wpAny (model prog w) A (subscriptTail value slice (.ref a) (.int k u)) Q E s :=
  item_tupleT (News.isTup N hm) (by lia) (by (solve_by_elim (maxDepth := 4) [Int.lt_of_lt_of_le, Int.lt_of_le_of_lt, Int.le_of_lt, Int.le_trans, Int.lt_trans, Int.le_refl, Int.not_lt.mp, Int.not_le.mp, Int.le_antisymm, Nat.le_antisymm, Nat.not_lt.mp, Nat.not_le.mp, Nat.le_of_lt, Nat.lt_of_le_of_ne, Nat.lt_of_not_le, Nat.le_of_not_lt, Int.ofNat_nonneg, Int.lt_of_not_ge, Eq.symm, Int.le_of_eq, Nat.le_of_eq])) (j := k.toNat) (by
    have hl := (List.getElem?_eq_some_iff.mp hx).1
    have h1 : ¬ k < 0 := by lia
    have h2 : (decide (0 ≤ k) && decide (k < (l.length : Int))) = true := by simp only [Bool.and_eq_true, decide_eq_true_eq]; lia
    unfold seqIndex?
    simp only [h1, if_false, h2, if_true]) hx h hs
end
/-- a place's tuple -/
structure Plc where
  ad : Nat → Addr
  wad : Nat → Addr
  lev : Nat → Int
  t0 : Nat → Tok
  t1 : Nat → Tok
  t2 : Nat → Tok
  wv : Nat → List Value
  wl : Nat → List Int
  wc : Nat → Nat
noncomputable abbrev Plc.v (p : Plc) (k : Nat) : Value := .ref (p.ad k)
noncomputable abbrev Plc.o (p : Plc) (k : Nat) : Obj := tupObj [.int (p.lev k) (p.t0 k), .int ((k / 3 : Nat) : Int) (p.t1 k), .int ((k % 3 : Nat) : Int) (p.t2 k), .ref (p.wad k)] 0
noncomputable def Plc.dat (p : Plc) (k : Nat) : PyData := .tuple [.int (p.lev k), .int ((k / 3 : Nat) : Int), .int ((k % 3 : Nat) : Int), .list ((p.wl k).map .int)]
noncomputable def Plc.In (p : Plc) (ks : List Nat) (news : List (Addr × Obj)) : Prop := ∀ k ∈ ks, k < 9 ∧ (p.ad k, p.o k) ∈ news ∧ (p.wad k, lst (p.wv k) (p.wc k)) ∈ news ∧ IntsAre (p.wv k) (p.wl k)
theorem Plc.In.mono {p : Plc} {ks : List Nat} {news news' : List (Addr × Obj)} (h : p.In ks news) (hs : ∀ q ∈ news, q ∈ news') : p.In ks news' := fun k hk => ⟨(h k hk).1, hs _ (h k hk).2.1, hs _ (h k hk).2.2.1, (h k hk).2.2.2⟩
theorem Plc.In.sub {p : Plc} {ks ks' : List Nat} {news : List (Addr × Obj)} (h : p.In ks news) (hs : ∀ k ∈ ks', k ∈ ks) : p.In ks' news := fun k hk => h k (hs k hk)
section
variable {h₀ h : Heap} {L : Addr} {news : List (Addr × Obj)} {p : Plc}
theorem Plc.reads {k : Nat} (hk : p.In [k] news) (N : News h₀ L h news) : ∃ as, Reads h (p.v k) (p.dat k) as := by
  obtain ⟨_, h1, h2, h3⟩ := hk k (List.mem_singleton.mpr rfl)
  exact ⟨_, reads_tuple_at (N.get h1) rfl rfl (.cons (.int _ _) (.cons (.int _ _) (.cons (.int _ _) (.cons (reads_of_ints (News.isList N h2) h3) .nil))))⟩
theorem Plc.readsAll : ∀ {ks : List Nat}, p.In ks news → News h₀ L h news → ∃ as, ReadsAll h (ks.map p.v) (ks.map p.dat) as
  | [], _, _ => ⟨_, .nil⟩
  | k :: r, hk, N => by
    obtain ⟨as, h1⟩ := Plc.reads (hk.sub (fun x hx => by rw [List.mem_singleton.mp hx]; exact List.mem_cons_self ..)) N
    obtain ⟨bs, h2⟩ := Plc.readsAll (ks := r) (hk.sub (fun x hx => List.mem_cons_of_mem _ hx)) N
    exact ⟨_, .cons h1 h2⟩
theorem Plc.readsL {ks : List Nat} {a : Addr} {c : Nat} (hk : p.In ks news) (hm : (a, lst (ks.map p.v) c) ∈ news) (N : News h₀ L h news) : ∃ as, Reads h (.ref a) (.list (ks.map p.dat)) as := by
  obtain ⟨as, h1⟩ := Plc.readsAll hk N
  exact ⟨_, reads_list_at (N.get hm) rfl rfl h1⟩
theorem canLay_dat (p : Plc) (k : Nat) : PyData.canLay0 (p.dat k) = true := by
  simp [Plc.dat, PyData.canLay0, PyData.canLayAll0, canLayAll0_ints]
theorem depth_dat (p : Plc) (k : Nat) : PyData.depth (p.dat k) ≤ 3 := by
  have := W.depthAll_ints (p.wl k)
  simp only [Plc.dat, PyData.depth, PyData.depthAll]
  lia
theorem canLay_dats (p : Plc) : ∀ ks : List Nat, PyData.canLayAll0 (ks.map p.dat) = true
  | [] => by simp [PyData.canLayAll0]
  | k :: r => by simp [PyData.canLayAll0, canLay_dat, canLay_dats p r]
theorem depth_dats (p : Plc) : ∀ ks : List Nat, PyData.depthAll (ks.map p.dat) ≤ 3
  | [] => by simp [PyData.depthAll]
  | k :: r => by
    have h1 := depth_dat p k
    have h2 := depth_dats p r
    simp only [List.map_cons, PyData.depthAll]
    lia
theorem shaped_dats (p : Plc) (ks : List Nat) : SeqAt.shaped (.list (ks.map p.dat)) = true := by
  have h1 := depth_dats p ks
  have h2 : PyData.depth (.list (ks.map p.dat)) ≤ 64 := by simp only [PyData.depth]; lia
  show (PyData.canLay0 (.list (ks.map p.dat)) && decide (PyData.depth (.list (ks.map p.dat)) ≤ 64)) = true
  rw [Bool.and_eq_true]
  exact ⟨by simp only [PyData.canLay0]; exact canLay_dats p ks, decide_eq_true h2⟩
theorem eqv_dat (p : Plc) (k j : Nat) : PyData.eqv (p.dat k) (p.dat j) = decide (k = j) := by
  simp only [Plc.dat, PyData.eqv, PyData.eqvAll, ked_eqvAll]
  by_cases h : k = j
  · subst h; simp
  · have : ¬ (k / 3 = j / 3 ∧ k % 3 = j % 3) := fun ⟨h1, h2⟩ => h (by lia)
    by_cases h1 : k / 3 = j / 3
    · have h2 : k % 3 ≠ j % 3 := fun h2 => this ⟨h1, h2⟩
      have h3 : ((k % 3 : Nat) : Int) ≠ ((j % 3 : Nat) : Int) := fun e => h2 (by lia)
      simp [h, h3]
      try lia
    · have h3 : ((k / 3 : Nat) : Int) ≠ ((j / 3 : Nat) : Int) := fun e => h1 (by lia)
      simp [h, h3]
      try lia
theorem eqv_dats (p : Plc) : ∀ ks js : List Nat, PyData.eqvAll (ks.map p.dat) (js.map p.dat) = decide (ks = js)
  | [], [] => by simp [PyData.eqvAll]
  | [], _ :: _ => by simp [PyData.eqvAll]
  | _ :: _, [] => by simp [PyData.eqvAll]
  | k :: r, j :: t => by
    simp only [List.map_cons, PyData.eqvAll, eqv_dat, eqv_dats p r t]
    by_cases h : k = j <;> by_cases h' : r = t <;> simp [h, h']
variable {prog : Program} {w : World} {A : Around} {E : Value → Shared → Prop} {s : Shared}
theorem ne_plcs {a b : Addr} {ks js : List Nat} {c d : Nat} {Q : Value → Shared → Prop} (N : News h₀ L s.heap news) (hm : (a, lst (ks.map p.v) c) ∈ news) (hm' : (b, lst (js.map p.v) d) ∈ news) (hk : p.In ks news) (hj : p.In js news)
    (hu : A.units + 64 < cLine) (h : Q (.bool (!decide (ks = js))) s) : wpAny (model prog w) A (compareOp .NotEq (.ref a) (.ref b)) Q E s := by
  obtain ⟨as, h1⟩ := Plc.readsL hk hm N
  obtain ⟨bs, h2⟩ := Plc.readsL hj hm' N
  refine ne_dataH h1 h2 (shaped_dats p ks) (shaped_dats p js) hu ?_
  simp only [PyData.eqv, eqv_dats]
  exact h
end
theorem filter_step {ι : Type} {ks : List ι} {i : Nat} {k : ι} (h : ks[i]? = some k) (f : ι → Bool) : (ks.take (i + 1)).filter f = (ks.take i).filter f ++ (if f k = true then [k] else []) := by
  rw [List.take_add_one, h, List.filter_append]
  congr 1
  by_cases hf : f k = true <;> simp [hf]
inductive MapAt (ks : List Nat) (p : Plc) (i : Nat) (v : Value) : Prop
  | mk (k : Nat) (h1 : ks[i]? = some k) (h2 : k ∈ ks) (e : v = p.v k) : MapAt ks p i v
theorem map_at {ks : List Nat} {p : Plc} {i : Nat} {v : Value} (h : (ks.map p.v)[i]? = some v) : MapAt ks p i v := by
  rw [List.getElem?_map] at h
  cases e : ks[i]? with
  | none => rw [e] at h; cases h
  | some k => rw [e] at h; exact ⟨k, e, List.mem_of_getElem? e, (Option.some.inj h).symm⟩
theorem mem_up {ι : Type} {q : ι} {l l' : List ι} (h : q ∈ l) (hs : ∀ x ∈ l, x ∈ l') : q ∈ l' := hs q h
theorem filt_end {ι κ : Type} {ks : List ι} {g : ι → κ} {f : ι → Bool} : ((ks.take (ks.map g).length).filter f) = ks.filter f := by
  rw [List.length_map, List.take_length]
theorem qs_snoc {qs : List (Addr × Nat)} {q : Addr × Nat} {G : Nat → List Value} {i : Nat} (hi : qs.length = i) :
    (qs ++ [q]).zipIdx.map (fun q => (q.1.1, lst (G q.2) q.1.2)) = qs.zipIdx.map (fun q => (q.1.1, lst (G q.2) q.1.2)) ++ [(q.1, lst (G i) q.2)] := by
  rw [List.zipIdx_append, List.map_append]
  simp [hi]
theorem filt_yes {ι κ : Type} {ks : List ι} {i : Nat} {k : ι} {f : ι → Bool} {g : ι → κ} (h : ks[i]? = some k) (hf : f k = true) : ((ks.take i).filter f).map g ++ [g k] = ((ks.take (i + 1)).filter f).map g := by
  rw [filter_step h, if_pos hf, List.map_append]
  rfl
theorem filt_no {ι κ : Type} {ks : List ι} {i : Nat} {k : ι} {f : ι → Bool} {g : ι → κ} (h : ks[i]? = some k) (hf : f k = false) : ((ks.take i).filter f).map g = ((ks.take (i + 1)).filter f).map g := by
  rw [filter_step h, hf]
  simp
theorem sub_new {ι : Type} {led extra news : List ι} {x : ι} : ∀ p ∈ led ++ ((extra ++ [x]) ++ news), p ∈ x :: ([] ++ (led ++ (extra ++ news))) := by
  intro p hp
  simp only [List.mem_append, List.mem_cons, List.not_mem_nil, or_false, false_or] at hp ⊢
  rcases hp with h | (h | h) | h <;> simp [h]
/-- the end of a turn that made nothing -/
theorem CompEnd.none {h₀ h' : Heap} {L : Addr} {m : Str → Option Value} {led news : List (Addr × Obj)} {Jn : List (Addr × Obj) → Prop} {s₁ : Shared} {tk : Nat}
    (F : Fr h₀ L h' m) (N : News h₀ L h' (led ++ ([] ++ news))) (hJ : Jn []) : CompEnd h₀ L m led [] news Jn s₁ { s₁ with heap := h', toks := tk } :=
  ⟨h', tk, [], rfl, F, N, fun _ h => absurd h (List.not_mem_nil), hJ⟩
/-- the end of a turn that made one list -/
theorem CompEnd.one {h₀ h' : Heap} {L D : Addr} {m : Str → Option Value} {led extra news : List (Addr × Obj)} {Jn : List (Addr × Obj) → Prop} {s₁ : Shared} {tk : Nat} {o : Obj}
    (F : Fr h₀ L h' m) (N : News h₀ L h' ((D, o) :: ([] ++ (led ++ (extra ++ news))))) (hlt : ∀ p ∈ led ++ (extra ++ news), p.1 < D) (hJ : Jn (extra ++ [(D, o)])) : CompEnd h₀ L m led extra news Jn s₁ { s₁ with heap := h', toks := tk } :=
  ⟨h', tk, extra ++ [(D, o)], rfl, F, fun p hp => N p (sub_new p hp), fun p hp => by
    rcases List.mem_append.mp hp with hp | hp
    · exact .inl hp
    · obtain rfl := List.mem_singleton.mp hp
      exact .inr hlt, hJ⟩
inductive ThreeOf {α β : Type} (qs : List (α × β)) : Prop
  | mk (a0 : α) (c0 : β) (a1 : α) (c1 : β) (a2 : α) (c2 : β) (e : qs = [(a0, c0), (a1, c1), (a2, c2)]) : ThreeOf qs
theorem three_of {α β : Type} : ∀ {qs : List (α × β)}, qs.length = 3 → ThreeOf qs
  | [(a0, c0), (a1, c1), (a2, c2)], _ => ⟨_, _, _, _, _, _, rfl⟩
/-- the ledger with another object at an address, which now leads -/
noncomputable def Chg (news : List (Addr × Obj)) (D : Addr) (o : Obj) : List (Addr × Obj) := (D, o) :: news.filter (fun p => decide (p.1 ≠ D))
theorem Chg.self {news : List (Addr × Obj)} {D : Addr} {o : Obj} : (D, o) ∈ Chg news D o := List.mem_cons_self ..
theorem Chg.old {news : List (Addr × Obj)} {D x : Addr} {o o' : Obj} (h : (x, o') ∈ news) (hne : x ≠ D) : (x, o') ∈ Chg news D o := List.mem_cons_of_mem _ (List.mem_filter.mpr ⟨h, decide_eq_true hne⟩)
theorem Chg.oldp {news : List (Addr × Obj)} {D : Addr} {o : Obj} {q : Addr × Obj} (h : q ∈ news) (hne : q.1 ≠ D) : q ∈ Chg news D o := Chg.old (x := q.1) (o' := q.2) h hne
theorem Chg.ne {news : List (Addr × Obj)} {D : Addr} : ∀ p ∈ news.filter (fun p => decide (p.1 ≠ D)), p.1 ≠ D := fun p hp => of_decide_eq_true (List.mem_filter.mp hp).2
theorem focus {h₀ h : Heap} {L D : Addr} {news : List (Addr × Obj)} {o : Obj} (N : News h₀ L h news) (hm : (D, o) ∈ news) : News h₀ L h (Chg news D o) := fun p hp => by
  rcases List.mem_cons.mp hp with rfl | hp
  · exact N _ hm
  · exact N p (List.mem_filter.mp hp).1
theorem last_snoc : ∀ (l : List Value) (y : Value), kl_last (l ++ [y]) = some (l, y)
  | [], _ => rfl
  | x :: r, y => by
    show (match kl_last (r ++ [y]) with | some (p, y) => some (x :: p, y) | none => some ([], x)) = _
    rw [last_snoc r y]
section
variable {prog : Program} {w : World} {A : Around} {E : Value → Shared → Prop} {s : Shared} {h₀ : Heap} {L D : Addr} {m : Str → Option Value} {news : List (Addr × Obj)} {n : Nat} {vs : List Value} {y : Value} {Q : Value → Shared → Prop}
theorem pop_end (F : Fr h₀ L s.heap m) (N : News h₀ L s.heap news) (hm : (D, lst (vs ++ [y]) n) ∈ news) (hz : vs.length < 1000)
    (h : ∀ h', Fr h₀ L h' m → News h₀ L h' (Chg news D (lst vs (n + 1))) → Q y { s with heap := h' }) : wpAny (model prog w) A (call (.builtin "list.pop") [.ref D]) Q E s :=
  kl_pop F (focus N hm) (by rw [List.toList_toArray]; exact last_snoc vs y) (Upd.head Chg.ne) (by rw [List.toList_toArray, List.length_append, List.length_singleton]; simp only [sizeLine]; (solve_by_elim (maxDepth := 5) [Nat.lt_of_lt_of_le, Nat.lt_of_le_of_lt, Nat.le_of_lt, Nat.le_trans, Nat.lt_trans, Nat.lt_succ_of_lt, Nat.lt_succ_of_le, Nat.le_succ_of_le, Nat.succ_le_of_lt, Nat.le_refl, Nat.sub_lt, Nat.sub_le, Nat.le_add_right, Nat.le_add_left, Nat.zero_le, Nat.zero_lt_succ, Nat.pos_of_ne_zero, Nat.le_of_lt_succ, Nat.ne_of_lt, Nat.ne_of_gt])) h
theorem pop_first {u : Tok} (F : Fr h₀ L s.heap m) (N : News h₀ L s.heap news) (hm : (D, lst (y :: vs) n) ∈ news) (hz : vs.length < 1000)
    (h : ∀ h', Fr h₀ L h' m → News h₀ L h' (Chg news D (lst vs (n + 1))) → Q y { s with heap := h' }) : wpAny (model prog w) A (call (.builtin "list.pop") [.ref D, .int 0 u]) Q E s :=
  kl_popAt (p := []) (q := vs) (k := 0) F (focus N hm) (by decide) (by
    have h1 : ¬ (0 : Int) < 0 := by decide
    have h2 : (decide (0 ≤ (0 : Int)) && decide ((0 : Int) < ((vs.length + 1 : Nat) : Int))) = true := by simp only [Bool.and_eq_true, decide_eq_true_eq]; lia
    unfold seqIndex?
    simp only [List.size_toArray, List.length_cons, h1, if_false, h2, if_true]
    rfl) rfl (Upd.head Chg.ne) (by rw [List.toList_toArray, List.length_cons]; simp only [sizeLine]; (solve_by_elim (maxDepth := 5) [Nat.lt_of_lt_of_le, Nat.lt_of_le_of_lt, Nat.le_of_lt, Nat.le_trans, Nat.lt_trans, Nat.lt_succ_of_lt, Nat.lt_succ_of_le, Nat.le_succ_of_le, Nat.succ_le_of_lt, Nat.le_refl, Nat.sub_lt, Nat.sub_le, Nat.le_add_right, Nat.le_add_left, Nat.zero_le, Nat.zero_lt_succ, Nat.pos_of_ne_zero, Nat.le_of_lt_succ, Nat.ne_of_lt, Nat.ne_of_gt])) h
theorem app_end (F : Fr h₀ L s.heap m) (N : News h₀ L s.heap news) (hm : (D, lst vs n) ∈ news) (hz : vs.length < 1000)
    (h : ∀ h' k, Fr h₀ L h' m → News h₀ L h' (Chg news D (lst (vs ++ [y]) k)) → Q .none { s with heap := h' }) : wpAny (model prog w) A (call (.builtin "list.append") [.ref D, y]) Q E s := by
  have hl := (focus N hm) _ (List.mem_cons_self ..)
  refine append_K F (focus N hm) (Upd.head Chg.ne) (fun h' F' N' => h h' (n + 1) F' (by rw [List.push_toArray] at N'; exact N')) (by simp [sizeLine]; (solve_by_elim (maxDepth := 5) [Nat.lt_of_lt_of_le, Nat.lt_of_le_of_lt, Nat.le_of_lt, Nat.le_trans, Nat.lt_trans, Nat.lt_succ_of_lt, Nat.lt_succ_of_le, Nat.le_succ_of_le, Nat.succ_le_of_lt, Nat.le_refl, Nat.sub_lt, Nat.sub_le, Nat.le_add_right, Nat.le_add_left, Nat.zero_le, Nat.zero_lt_succ, Nat.pos_of_ne_zero, Nat.le_of_lt_succ, Nat.ne_of_lt, Nat.ne_of_gt]))
end
theorem zip_mem {qs : List (Addr × Nat)} {q : Addr × Nat} {G : Nat → List Value} {j : Nat} (h : qs[j]? = some q) :
    (q.1, lst (G j) q.2) ∈ qs.zipIdx.map (fun q => (q.1.1, lst (G q.2) q.1.2)) := by
  refine List.mem_map.mpr ⟨(q, j), ?_, rfl⟩
  exact List.mem_zipIdx_iff_getElem?.mpr h
end
section
-- Ch
/-- the state of the asking: each row's queue, each column's tray, and who asks -/
structure CSt where
  q : Nat → List Nat
  t : Nat → List Nat
  as : List Nat
noncomputable def put (f : Nat → List Nat) (i : Nat) (l : List Nat) : Nat → List Nat := fun j => if j = i then l else f j
/-- one turn: row i, the last of those that ask -/
noncomputable def stepC (lev : Nat → Int) (S : CSt) (as : List Nat) (i : Nat) : CSt :=
  match S.q i with
  | [] => { S with as := as }
  | k :: r =>
    match insR lev k (S.t (k % 3)) with
    | [x, y] => { q := put S.q i r, t := put S.t (k % 3) [y], as := as ++ [x / 3] }
    | l => { q := put S.q i r, t := put S.t (k % 3) l, as := as }
noncomputable def loopC (lev : Nat → Int) : Nat → CSt → CSt
  | 0, S => S
  | n + 1, S => match S.as.getLast? with
    | none => S
    | some i => loopC lev n (stepC lev S S.as.dropLast i)
noncomputable def startC (ks : List Nat) : CSt := { q := fun j => ks.filter (fun k => k / 3 = j), t := fun _ => [], as := [0, 1, 2] }
noncomputable def muC (S : CSt) : Nat := 2 * ((S.q 0).length + (S.q 1).length + (S.q 2).length) + S.as.length
noncomputable def outC (S : CSt) : List Nat := [S.t 0, S.t 1, S.t 2].filterMap List.head?
noncomputable def chosenF (lev : Nat → Int) (ks : List Nat) : List Nat := outC (loopC lev 22 (startC ks))
theorem loopC_nil {lev : Nat → Int} {S : CSt} (h : S.as = []) : ∀ n, loopC lev n S = S
  | 0 => rfl
  | n + 1 => by unfold loopC; rw [h]; rfl
theorem loopC_snoc {lev : Nat → Int} {S : CSt} {as : List Nat} {i n : Nat} (h : S.as = as ++ [i]) : loopC lev (n + 1) S = loopC lev n (stepC lev S as i) := by
  conv => lhs; unfold loopC
  rw [h, List.getLast?_concat, List.dropLast_concat]
/-- what holds of the state all along -/
structure GoodC (ks : List Nat) (S : CSt) : Prop where
  q : ∀ j, j < 3 → ∀ k ∈ S.q j, k ∈ ks ∧ k / 3 = j
  t : ∀ j, j < 3 → ∀ k ∈ S.t j, k ∈ ks ∧ k % 3 = j
  one : ∀ j, j < 3 → (S.t j).length ≤ 1
  as : ∀ i ∈ S.as, i < 3
  sz : ∀ j, j < 3 → (S.q j).length ≤ 9
  ln : S.as.length ≤ 30
/-- the addresses of the asking's lists -/
structure Adr where
  ak : Addr
  tr : Addr
  D : Addr
  t : Nat → Addr
  q : Nat → Addr
structure Adr.Ok (A : Adr) (base : List (Addr × Obj)) : Prop where
  b : ∀ r ∈ base, ∀ j, j < 3 → r.1 ≠ A.q j ∧ r.1 ≠ A.t j ∧ r.1 ≠ A.ak
  qq : ∀ i j, i < 3 → j < 3 → i ≠ j → A.q i ≠ A.q j
  tt : ∀ i j, i < 3 → j < 3 → i ≠ j → A.t i ≠ A.t j
  qt : ∀ i j, i < 3 → j < 3 → A.q i ≠ A.t j
  qa : ∀ i, i < 3 → A.q i ≠ A.ak ∧ A.q i ≠ A.tr ∧ A.q i ≠ A.D
  ta : ∀ i, i < 3 → A.t i ≠ A.ak ∧ A.t i ≠ A.tr ∧ A.t i ≠ A.D
  a2 : A.tr ≠ A.ak ∧ A.D ≠ A.ak
structure CS where
  S : CSt
  avs : List Value
  cq : Nat → Nat
  ct : Nat → Nat
  ca : Nat
noncomputable def LedC (A : Adr) (p : Plc) (c d : Nat) (base : List (Addr × Obj)) (σ : CS) : List (Addr × Obj) :=
  (A.ak, lst σ.avs σ.ca) :: (A.tr, lst [.ref (A.t 0), .ref (A.t 1), .ref (A.t 2)] d) :: (A.t 2, lst ((σ.S.t 2).map p.v) (σ.ct 2)) :: (A.t 1, lst ((σ.S.t 1).map p.v) (σ.ct 1)) :: (A.t 0, lst ((σ.S.t 0).map p.v) (σ.ct 0)) ::
    (A.D, lst [.ref (A.q 0), .ref (A.q 1), .ref (A.q 2)] c) :: (A.q 0, lst ((σ.S.q 0).map p.v) (σ.cq 0)) :: (A.q 1, lst ((σ.S.q 1).map p.v) (σ.cq 1)) :: (A.q 2, lst ((σ.S.q 2).map p.v) (σ.cq 2)) :: base
section
variable {A : Adr} {p : Plc} {c d : Nat} {base : List (Addr × Obj)} {σ : CS}
theorem LedC.cases {r : Addr × Obj} (h : r ∈ LedC A p c d base σ) : r = (A.ak, lst σ.avs σ.ca) ∨ r = (A.tr, lst [.ref (A.t 0), .ref (A.t 1), .ref (A.t 2)] d) ∨ (∃ j, j < 3 ∧ r = (A.t j, lst ((σ.S.t j).map p.v) (σ.ct j))) ∨ r = (A.D, lst [.ref (A.q 0), .ref (A.q 1), .ref (A.q 2)] c) ∨ (∃ j, j < 3 ∧ r = (A.q j, lst ((σ.S.q j).map p.v) (σ.cq j))) ∨ r ∈ base := by
  simp only [LedC, List.mem_cons] at h
  rcases h with h | h | h | h | h | h | h | h | h | h
  · exact .inl h
  · exact .inr (.inl h)
  · exact .inr (.inr (.inl ⟨2, by decide, h⟩))
  · exact .inr (.inr (.inl ⟨1, by decide, h⟩))
  · exact .inr (.inr (.inl ⟨0, by decide, h⟩))
  · exact .inr (.inr (.inr (.inl h)))
  · exact .inr (.inr (.inr (.inr (.inl ⟨0, by decide, h⟩))))
  · exact .inr (.inr (.inr (.inr (.inl ⟨1, by decide, h⟩))))
  · exact .inr (.inr (.inr (.inr (.inl ⟨2, by decide, h⟩))))
  · exact .inr (.inr (.inr (.inr (.inr h))))
theorem LedC.ak : (A.ak, lst σ.avs σ.ca) ∈ LedC A p c d base σ := List.mem_cons_self ..
theorem LedC.tr : (A.tr, lst [.ref (A.t 0), .ref (A.t 1), .ref (A.t 2)] d) ∈ LedC A p c d base σ := .tail _ (.head _)
theorem LedC.D : (A.D, lst [.ref (A.q 0), .ref (A.q 1), .ref (A.q 2)] c) ∈ LedC A p c d base σ := .tail _ (.tail _ (.tail _ (.tail _ (.tail _ (.head _)))))
theorem three_cases {j : Nat} (h : j < 3) : j = 0 ∨ j = 1 ∨ j = 2 := by lia
theorem LedC.t {j : Nat} (h : j < 3) : (A.t j, lst ((σ.S.t j).map p.v) (σ.ct j)) ∈ LedC A p c d base σ := by
  rcases three_cases h with rfl | rfl | rfl
  · exact .tail _ (.tail _ (.tail _ (.tail _ (.head _))))
  · exact .tail _ (.tail _ (.tail _ (.head _)))
  · exact .tail _ (.tail _ (.head _))
theorem LedC.q {j : Nat} (h : j < 3) : (A.q j, lst ((σ.S.q j).map p.v) (σ.cq j)) ∈ LedC A p c d base σ := by
  rcases three_cases h with rfl | rfl | rfl
  · exact .tail _ (.tail _ (.tail _ (.tail _ (.tail _ (.tail _ (.head _))))))
  · exact .tail _ (.tail _ (.tail _ (.tail _ (.tail _ (.tail _ (.tail _ (.head _)))))))
  · exact .tail _ (.tail _ (.tail _ (.tail _ (.tail _ (.tail _ (.tail _ (.tail _ (.head _))))))))
theorem LedC.tl {r : Addr × Obj} (h : r ∈ base) : r ∈ LedC A p c d base σ := .tail _ (.tail _ (.tail _ (.tail _ (.tail _ (.tail _ (.tail _ (.tail _ (.tail _ (h)))))))))
/-- all but who asks and row i's queue -/
noncomputable def rest1 (A : Adr) (i : Nat) (l : List (Addr × Obj)) : List (Addr × Obj) := l.filter (fun r => decide (r.1 ≠ A.ak ∧ r.1 ≠ A.q i))
theorem rest1_in {i : Nat} {l : List (Addr × Obj)} {r : Addr × Obj} (h : r ∈ l) (h1 : r.1 ≠ A.ak) (h2 : r.1 ≠ A.q i) : r ∈ rest1 A i l := List.mem_filter.mpr ⟨h, decide_eq_true ⟨h1, h2⟩⟩
theorem rest1_ne {i : Nat} {l : List (Addr × Obj)} : ∀ r ∈ rest1 A i l, r.1 ≠ A.ak ∧ r.1 ≠ A.q i := fun r h => of_decide_eq_true (List.mem_filter.mp h).2
noncomputable def rest2 (A : Adr) (j : Nat) (l : List (Addr × Obj)) : List (Addr × Obj) := l.filter (fun r => decide (r.1 ≠ A.t j))
theorem rest2_in {j : Nat} {l : List (Addr × Obj)} {r : Addr × Obj} (h : r ∈ l) (h1 : r.1 ≠ A.t j) : r ∈ rest2 A j l := List.mem_filter.mpr ⟨h, decide_eq_true h1⟩
theorem rest2_ne {j : Nat} {l : List (Addr × Obj)} : ∀ r ∈ rest2 A j l, r.1 ≠ A.t j := fun r h => of_decide_eq_true (List.mem_filter.mp h).2
theorem rest2_sub {j : Nat} {l : List (Addr × Obj)} : ∀ r ∈ rest2 A j l, r ∈ l := fun r h => (List.mem_filter.mp h).1
variable {h₀ h : Heap} {L : Addr}
theorem open1 {i : Nat} (hi : i < 3) (N : News h₀ L h (LedC A p c d base σ)) : News h₀ L h ((A.ak, lst σ.avs σ.ca) :: (A.q i, lst ((σ.S.q i).map p.v) (σ.cq i)) :: rest1 A i (LedC A p c d base σ)) := fun r hr => by
  rcases List.mem_cons.mp hr with rfl | hr
  · exact N _ LedC.ak
  · rcases List.mem_cons.mp hr with rfl | hr
    · exact N _ (LedC.q hi)
    · exact N r (List.mem_filter.mp hr).1
theorem open2 {j : Nat} {x y : Addr × Obj} {o : Obj} {l : List (Addr × Obj)} (hm : (A.t j, o) ∈ l) (N : News h₀ L h (x :: y :: l)) : News h₀ L h ((A.t j, o) :: x :: y :: rest2 A j l) := fun r hr => by
  rcases List.mem_cons.mp hr with rfl | hr
  · exact N _ (List.mem_cons_of_mem _ (List.mem_cons_of_mem _ hm))
  · rcases List.mem_cons.mp hr with rfl | hr
    · exact N _ (List.mem_cons_self ..)
    · rcases List.mem_cons.mp hr with rfl | hr
      · exact N _ (List.mem_cons_of_mem _ (List.mem_cons_self ..))
      · exact N r (List.mem_cons_of_mem _ (List.mem_cons_of_mem _ (rest2_sub r hr)))
theorem back1 {i : Nat} {avs' : List Value} {ca' : Nat} {as' : List Nat} (hi : i < 3) (O : A.Ok base) : ∀ r ∈ LedC A p c d base ⟨{ σ.S with as := as' }, avs', σ.cq, σ.ct, ca'⟩, r ∈ (A.ak, lst avs' ca') :: (A.q i, lst ((σ.S.q i).map p.v) (σ.cq i)) :: rest1 A i (LedC A p c d base σ) := by
  intro r hr
  have old : ∀ {r : Addr × Obj}, r ∈ LedC A p c d base σ → r.1 ≠ A.ak → r.1 ≠ A.q i → r ∈ (A.ak, lst avs' ca') :: (A.q i, lst ((σ.S.q i).map p.v) (σ.cq i)) :: rest1 A i (LedC A p c d base σ) := fun h1 h2 h3 => List.mem_cons_of_mem _ (List.mem_cons_of_mem _ (rest1_in h1 h2 h3))
  rcases LedC.cases hr with rfl | rfl | ⟨j, hj, rfl⟩ | rfl | ⟨j, hj, rfl⟩ | hb
  · exact List.mem_cons_self ..
  · exact old LedC.tr O.a2.1 (O.qa i hi).2.1.symm
  · exact old (LedC.t hj) (O.ta j hj).1 (O.qt i j hi hj).symm
  · exact old LedC.D O.a2.2 (O.qa i hi).2.2.symm
  · by_cases e : j = i
    · subst e; exact List.mem_cons_of_mem _ (List.mem_cons_self ..)
    · exact old (LedC.q hj) (O.qa j hj).1 (O.qq j i hj hi e)
  · exact old (LedC.tl hb) (O.b r hb i hi).2.2 (O.b r hb i hi).1
noncomputable def updN (f : Nat → Nat) (i v : Nat) : Nat → Nat := fun j => if j = i then v else f j
theorem back2 {i j : Nat} {avs' : List Value} {ca' x y : Nat} {as' rq rt : List Nat} (hi : i < 3) (hj : j < 3) (O : A.Ok base) : ∀ r ∈ LedC A p c d base ⟨⟨put σ.S.q i rq, put σ.S.t j rt, as'⟩, avs', updN σ.cq i x, updN σ.ct j y, ca'⟩, r ∈ (A.t j, lst (rt.map p.v) y) :: (A.ak, lst avs' ca') :: (A.q i, lst (rq.map p.v) x) :: rest2 A j (rest1 A i (LedC A p c d base σ)) := by
  intro r hr
  have old : ∀ {r : Addr × Obj}, r ∈ LedC A p c d base σ → r.1 ≠ A.ak → r.1 ≠ A.q i → r.1 ≠ A.t j → r ∈ (A.t j, lst (rt.map p.v) y) :: (A.ak, lst avs' ca') :: (A.q i, lst (rq.map p.v) x) :: rest2 A j (rest1 A i (LedC A p c d base σ)) := fun h1 h2 h3 h4 => List.mem_cons_of_mem _ (List.mem_cons_of_mem _ (List.mem_cons_of_mem _ (rest2_in (rest1_in h1 h2 h3) h4)))
  rcases LedC.cases hr with rfl | rfl | ⟨k, hk, rfl⟩ | rfl | ⟨k, hk, rfl⟩ | hb
  · exact List.mem_cons_of_mem _ (List.mem_cons_self ..)
  · exact old LedC.tr O.a2.1 (O.qa i hi).2.1.symm (O.ta j hj).2.1.symm
  · by_cases e : k = j
    · subst e
      have e1 : put σ.S.t k rt k = rt := if_pos rfl
      have e2 : updN σ.ct k y k = y := if_pos rfl
      dsimp only
      rw [e1, e2]
      exact List.mem_cons_self ..
    · have e1 : put σ.S.t j rt k = σ.S.t k := if_neg e
      have e2 : updN σ.ct j y k = σ.ct k := if_neg e
      dsimp only
      rw [e1, e2]
      exact old (LedC.t hk) (O.ta k hk).1 (O.qt i k hi hk).symm (O.tt k j hk hj e)
  · exact old LedC.D O.a2.2 (O.qa i hi).2.2.symm (O.ta j hj).2.2.symm
  · by_cases e : k = i
    · subst e
      have e1 : put σ.S.q k rq k = rq := if_pos rfl
      have e2 : updN σ.cq k x k = x := if_pos rfl
      dsimp only
      rw [e1, e2]
      exact List.mem_cons_of_mem _ (List.mem_cons_of_mem _ (List.mem_cons_self ..))
    · have e1 : put σ.S.q i rq k = σ.S.q k := if_neg e
      have e2 : updN σ.cq i x k = σ.cq k := if_neg e
      dsimp only
      rw [e1, e2]
      exact old (LedC.q hk) (O.qa k hk).1 (O.qq k i hk hi e) (O.qt k j hk hj)
  · exact old (LedC.tl hb) (O.b r hb i hi).2.2 (O.b r hb i hi).1 (O.b r hb j hj).2.1
end
theorem ints_snoc : ∀ {l : List Int} {i : Int} {vs : List Value}, IntsAre vs (l ++ [i]) → ∃ us t, vs = us ++ [.int i t] ∧ IntsAre us l
  | [], i, vs, h => by
    cases h with
    | cons k t r => cases r; exact ⟨[], t, rfl, .nil⟩
  | x :: l, i, vs, h => by
    cases h with
    | cons k t r =>
      obtain ⟨us, t', e, h'⟩ := ints_snoc r
      exact ⟨_ :: us, t', by rw [e]; rfl, .cons _ _ h'⟩
theorem insR_len {ι : Type} (key : ι → Int) (y : ι) : ∀ l : List ι, (insR key y l).length = l.length + 1
  | [] => rfl
  | z :: r => by
    unfold insR
    split
    · rfl
    · rw [List.length_cons, insR_len key y r, List.length_cons]
theorem insR_mem {ι : Type} (key : ι → Int) (y x : ι) : ∀ l : List ι, x ∈ insR key y l ↔ x = y ∨ x ∈ l
  | [] => by simp [insR]
  | z :: r => by
    unfold insR
    split
    · simp
    · rw [List.mem_cons, insR_mem key y x r, List.mem_cons]
      constructor
      · rintro (h | h | h) <;> simp [h]
      · rintro (h | h | h) <;> simp [h]
theorem put_self {f : Nat → List Nat} {i : Nat} {l : List Nat} : put f i l i = l := if_pos rfl
theorem put_other {f : Nat → List Nat} {i j : Nat} {l : List Nat} (h : j ≠ i) : put f i l j = f j := if_neg h
theorem muC_put {S : CSt} {i k : Nat} {r as : List Nat} {t : Nat → List Nat} (hi : i < 3) (hq : S.q i = k :: r) : muC ⟨put S.q i r, t, as⟩ + 2 + S.as.length = muC S + as.length := by
  rcases three_cases hi with rfl | rfl | rfl
  · simp only [muC, put_self, put_other (show (1 : Nat) ≠ 0 by decide), put_other (show (2 : Nat) ≠ 0 by decide), hq, List.length_cons]; lia
  · simp only [muC, put_self, put_other (show (0 : Nat) ≠ 1 by decide), put_other (show (2 : Nat) ≠ 1 by decide), hq, List.length_cons]; lia
  · simp only [muC, put_self, put_other (show (0 : Nat) ≠ 2 by decide), put_other (show (1 : Nat) ≠ 2 by decide), hq, List.length_cons]; lia
theorem good_start {ks : List Nat} (h9 : ks.length ≤ 9) : GoodC ks (startC ks) where
  q := fun j _ k hk => by
    have := List.mem_filter.mp hk
    exact ⟨this.1, of_decide_eq_true this.2⟩
  t := fun j _ k hk => absurd hk (List.not_mem_nil)
  one := fun j _ => Nat.zero_le _
  as := by intro i hi; simp only [startC, List.mem_cons, List.not_mem_nil, or_false] at hi; lia
  sz := fun j _ => Nat.le_trans (List.length_filter_le ..) h9
  ln := by simp [startC]
theorem good_nil {ks : List Nat} {S : CSt} {as : List Nat} {i : Nat} (G : GoodC ks S) (has : S.as = as ++ [i]) : GoodC ks { S with as := as } where
  q := G.q
  t := G.t
  one := G.one
  as := fun j hj => G.as j (by rw [has]; exact List.mem_append_left _ hj)
  sz := G.sz
  ln := by have := G.ln; rw [has, List.length_append, List.length_singleton] at this; show as.length ≤ 30; (solve_by_elim (maxDepth := 5) [Nat.lt_of_lt_of_le, Nat.lt_of_le_of_lt, Nat.le_of_lt, Nat.le_trans, Nat.lt_trans, Nat.lt_succ_of_lt, Nat.lt_succ_of_le, Nat.le_succ_of_le, Nat.succ_le_of_lt, Nat.le_refl, Nat.sub_lt, Nat.sub_le, Nat.le_add_right, Nat.le_add_left, Nat.zero_le, Nat.zero_lt_succ, Nat.pos_of_ne_zero, Nat.le_of_lt_succ, Nat.ne_of_lt, Nat.ne_of_gt])
theorem good_put {ks : List Nat} {S : CSt} {as as' rq rt : List Nat} {i k : Nat} (G : GoodC ks S) (_hi : i < 3) (has : S.as = as ++ [i]) (hq : S.q i = k :: rq)
    (hrt : ∀ x ∈ rt, x ∈ ks ∧ x % 3 = k % 3) (h1 : rt.length ≤ 1) (ha : as' = as ∨ ∃ x, x < 3 ∧ as' = as ++ [x]) : GoodC ks ⟨put S.q i rq, put S.t (k % 3) rt, as'⟩ where
  q := fun j hj x (hx : x ∈ put S.q i rq j) => by
    by_cases e : j = i
    · subst e
      rw [show (put S.q j rq j) = rq from put_self] at hx
      exact G.q j hj x (by rw [hq]; exact List.mem_cons_of_mem _ hx)
    · rw [show (put S.q i rq j) = S.q j from put_other e] at hx
      exact G.q j hj x hx
  t := fun j hj x (hx : x ∈ put S.t (k % 3) rt j) => by
    by_cases e : j = k % 3
    · subst e
      rw [show (put S.t (k % 3) rt (k % 3)) = rt from put_self] at hx
      exact hrt x hx
    · rw [show (put S.t (k % 3) rt j) = S.t j from put_other e] at hx
      exact G.t j hj x hx
  one := fun j hj => by
    show (put S.t (k % 3) rt j).length ≤ 1
    by_cases e : j = k % 3
    · subst e
      rw [show (put S.t (k % 3) rt (k % 3)) = rt from put_self]
      exact h1
    · rw [show (put S.t (k % 3) rt j) = S.t j from put_other e]
      exact G.one j hj
  as := fun x hx => by
    rcases ha with rfl | ⟨y, hy, rfl⟩
    · exact G.as x (by rw [has]; exact List.mem_append_left _ hx)
    · rcases List.mem_append.mp hx with hx | hx
      · exact G.as x (by rw [has]; exact List.mem_append_left _ hx)
      · rw [List.mem_singleton.mp hx]; exact hy
  sz := fun j hj => by
    show (put S.q i rq j).length ≤ 9
    by_cases e : j = i
    · subst e
      rw [show (put S.q j rq j) = rq from put_self]
      have := G.sz j hj
      rw [hq, List.length_cons] at this
      (solve_by_elim (maxDepth := 5) [Nat.lt_of_lt_of_le, Nat.lt_of_le_of_lt, Nat.le_of_lt, Nat.le_trans, Nat.lt_trans, Nat.lt_succ_of_lt, Nat.lt_succ_of_le, Nat.le_succ_of_le, Nat.succ_le_of_lt, Nat.le_refl, Nat.sub_lt, Nat.sub_le, Nat.le_add_right, Nat.le_add_left, Nat.zero_le, Nat.zero_lt_succ, Nat.pos_of_ne_zero, Nat.le_of_lt_succ, Nat.ne_of_lt, Nat.ne_of_gt])
    · rw [show (put S.q i rq j) = S.q j from put_other e]
      exact G.sz j hj
  ln := by
    have := G.ln
    rw [has, List.length_append, List.length_singleton] at this
    rcases ha with rfl | ⟨y, hy, rfl⟩
    · show as'.length ≤ 30; (solve_by_elim (maxDepth := 5) [Nat.lt_of_lt_of_le, Nat.lt_of_le_of_lt, Nat.le_of_lt, Nat.le_trans, Nat.lt_trans, Nat.lt_succ_of_lt, Nat.lt_succ_of_le, Nat.le_succ_of_le, Nat.succ_le_of_lt, Nat.le_refl, Nat.sub_lt, Nat.sub_le, Nat.le_add_right, Nat.le_add_left, Nat.zero_le, Nat.zero_lt_succ, Nat.pos_of_ne_zero, Nat.le_of_lt_succ, Nat.ne_of_lt, Nat.ne_of_gt])
    · show (as ++ [y]).length ≤ 30; rw [List.length_append, List.length_singleton]; omega
/-- what the run from here on comes to -/
noncomputable def RunC (lev : Nat → Int) (ks : List Nat) (S : CSt) : Prop := ∃ n, muC S ≤ n ∧ loopC lev n S = loopC lev 22 (startC ks)
theorem run_start {lev : Nat → Int} {ks : List Nat} (h9 : ks.length ≤ 9) : RunC lev ks (startC ks) := by
  refine ⟨22, ?_, rfl⟩
  have : ((startC ks).q 0).length + ((startC ks).q 1).length + ((startC ks).q 2).length ≤ ks.length := by
    show (ks.filter _).length + (ks.filter _).length + (ks.filter _).length ≤ _
    clear h9
    induction ks with
    | nil => simp
    | cons k r ih =>
      simp only [List.filter_cons]
      by_cases h0 : k / 3 = 0
      · simp [h0]; simp at ih; lia
      · by_cases h1 : k / 3 = 1
        · simp [h1]; simp at ih; lia
        · by_cases h2 : k / 3 = 2
          · simp [h2]; simp at ih; lia
          · simp [h0, h1, h2]; simp at ih; omega
  simp only [muC]
  have h3 : (startC ks).as.length = 3 := rfl
  lia
theorem run_end {lev : Nat → Int} {ks : List Nat} {S : CSt} (h : RunC lev ks S) (hn : S.as = []) : outC S = chosenF lev ks := by
  obtain ⟨n, _, e⟩ := h
  rw [loopC_nil hn] at e
  rw [e]
  rfl
theorem run_step {lev : Nat → Int} {ks : List Nat} {S S' : CSt} {as : List Nat} {i : Nat} (h : RunC lev ks S) (has : S.as = as ++ [i]) (hs : stepC lev S as i = S') (hmu : muC S' < muC S) : RunC lev ks S' := by
  obtain ⟨n, hn, e⟩ := h
  obtain ⟨n, rfl⟩ : ∃ m, n = m + 1 := ⟨n - 1, by lia⟩
  rw [loopC_snoc has, hs] at e
  exact ⟨n, by lia, e⟩
section
variable {prog : Program} {w : World} {A : Around} {E : Value → Shared → Prop} {s : Shared} {h₀ : Heap} {L : Addr} {news : List (Addr × Obj)}
/-- a list of ints beside the empty one -/
theorem ne_ints_nil {a b : Addr} {vs : List Value} {ns : List Int} {c d : Nat} {Q : Value → Shared → Prop} (N : News h₀ L s.heap news) (hm : (a, lst vs c) ∈ news) (hm' : (b, lst [] d) ∈ news) (hi : IntsAre vs ns)
    (hu : A.units + 64 < cLine) (h : Q (.bool (!decide (ns = []))) s) : wpAny (model prog w) A (compareOp .NotEq (.ref a) (.ref b)) Q E s :=
  ke_ne_ints (News.isList N hm) (News.isList N hm') hi .nil hu h
theorem list_item {value slice : PySem.Expr} {a : Addr} {l : List Value} {n : Nat} {k : Int} {u : Tok} {x : Value} {Q : Value → Shared → Prop}
    (N : News h₀ L s.heap news) (hm : (a, lst l n) ∈ news) (h0 : 0 ≤ k) (hk : k < 1000) (hx : l[k.toNat]? = some x) (h : Q x s)
    (hs : subscripted slice false (.ref a) (.int k u) = operate [.ref a, .int k u] (getItem (.ref a) (.int k u)) := by with_unfolding_all rfl) (hg : ∀ r, letTemporaryGo value (.ref a) r = pure () := by intro _; with_unfolding_all rfl) :
    wpAny (model prog w) A (subscriptTail value slice (.ref a) (.int k u)) Q E s := kim_list N hm rfl rfl h0 (by (solve_by_elim (maxDepth := 4) [Int.lt_of_lt_of_le, Int.lt_of_le_of_lt, Int.le_of_lt, Int.le_trans, Int.lt_trans, Int.le_refl, Int.not_lt.mp, Int.not_le.mp, Int.le_antisymm, Nat.le_antisymm, Nat.not_lt.mp, Nat.not_le.mp, Nat.le_of_lt, Nat.lt_of_le_of_ne, Nat.lt_of_not_le, Nat.le_of_not_lt, Int.ofNat_nonneg, Int.lt_of_not_ge, Eq.symm, Int.le_of_eq, Nat.le_of_eq])) hx h hs hg
end
theorem at_three {α : Type} {f : Nat → α} {j : Nat} (h : j < 3) : [f 0, f 1, f 2][((j : Nat) : Int).toNat]? = some (f j) := by
  rcases three_cases h with rfl | rfl | rfl <;> rfl
theorem chg_keep {h₀ h : Heap} {L D : Addr} {l l' : List (Addr × Obj)} {o : Obj} (N : News h₀ L h (Chg l D o)) (hs : ∀ r ∈ l', r ∈ l ∧ r.1 ≠ D) : News h₀ L h ((D, o) :: l') := fun r hr => by
  rcases List.mem_cons.mp hr with rfl | hr
  · exact N _ Chg.self
  · exact N r (Chg.oldp (hs r hr).1 (hs r hr).2)
theorem step_nil {lev : Nat → Int} {S : CSt} {as : List Nat} {i : Nat} (hq : S.q i = []) : stepC lev S as i = { S with as := as } := by
  unfold stepC; rw [hq]
theorem step_one {lev : Nat → Int} {S : CSt} {as rq : List Nat} {i k x : Nat} (hq : S.q i = k :: rq) (h : insR lev k (S.t (k % 3)) = [x]) : stepC lev S as i = ⟨put S.q i rq, put S.t (k % 3) [x], as⟩ := by
  unfold stepC; rw [hq]; dsimp only; rw [h]
theorem step_two {lev : Nat → Int} {S : CSt} {as rq : List Nat} {i k u v : Nat} (hq : S.q i = k :: rq) (h : insR lev k (S.t (k % 3)) = [u, v]) : stepC lev S as i = ⟨put S.q i rq, put S.t (k % 3) [v], as ++ [u / 3]⟩ := by
  unfold stepC; rw [hq]; dsimp only; rw [h]
theorem keyed_plc {p : Plc} {js : List Nat} {news : List (Addr × Obj)} (h : p.In js news) : Keyed news (js.map p.v) (js.map p.lev) := by
  refine ⟨by simp, fun i v k hv hk => ?_⟩
  obtain ⟨j, hj, hm, rfl⟩ := map_at hv
  rw [List.getElem?_map, hj] at hk
  obtain rfl := Option.some.inj hk
  exact ⟨_, _, _, _, rfl, (h j hm).2.1⟩
theorem sorted_short {l : List Int} (h : l.length ≤ 1) : l.Pairwise (· ≤ ·) := by
  match l, h with
  | [], _ => exact .nil
  | [x], _ => exact List.pairwise_singleton ..
theorem short_cases {l : List Nat} (h : l.length ≤ 1) : l = [] ∨ ∃ x, l = [x] := by
  match l, h with
  | [], _ => exact .inl rfl
  | [x], _ => exact .inr ⟨x, rfl⟩
theorem insR_two {lev : Nat → Int} {k x : Nat} : ∃ u v, insR lev k [x] = [u, v] ∧ (u = k ∨ u = x) ∧ (v = k ∨ v = x) := by
  unfold insR
  split
  · exact ⟨_, _, rfl, .inl rfl, .inr rfl⟩
  · exact ⟨_, _, rfl, .inr rfl, .inl rfl⟩
theorem at_three_inv {f : Nat → Value} {i : Nat} {v : Value} (h : [f 0, f 1, f 2][i]? = some v) : i < 3 ∧ v = f i := by
  match i, h with
  | 0, h => exact ⟨by decide, (Option.some.inj h).symm⟩
  | 1, h => exact ⟨by decide, (Option.some.inj h).symm⟩
  | 2, h => exact ⟨by decide, (Option.some.inj h).symm⟩
theorem head_yes {t : Nat → List Nat} {p : Plc} {i k : Nat} {r : List Nat} (hi : i < 3) (h : t i = k :: r) : ((([t 0, t 1, t 2].take i).filterMap List.head?).map p.v) ++ [p.v k] = (([t 0, t 1, t 2].take (i + 1)).filterMap List.head?).map p.v := by
  have e : [t 0, t 1, t 2][i]? = some (t i) := by rcases three_cases hi with rfl | rfl | rfl <;> rfl
  rw [List.take_add_one, e, List.filterMap_append, List.map_append, h]
  rfl
theorem head_no {t : Nat → List Nat} {p : Plc} {i : Nat} (hi : i < 3) (h : t i = []) : ((([t 0, t 1, t 2].take i).filterMap List.head?).map p.v) = (([t 0, t 1, t 2].take (i + 1)).filterMap List.head?).map p.v := by
  have e : [t 0, t 1, t 2][i]? = some (t i) := by rcases three_cases hi with rfl | rfl | rfl <;> rfl
  rw [List.take_add_one, e, List.filterMap_append, List.map_append, h]
  simp
theorem back3 {α : Type} {x y z r : α} {l : List α} (h : r ∈ x :: y :: z :: l) : r ∈ x :: z :: y :: l := by
  simp only [List.mem_cons] at h ⊢
  rcases h with h | h | h | h <;> simp [h]
theorem back4 {α : Type} {x y z r : α} {l : List α} (h : r ∈ x :: y :: z :: l) : r ∈ y :: x :: z :: l := by
  simp only [List.mem_cons] at h ⊢
  rcases h with h | h | h | h <;> simp [h]
open PySem PySem.W PyProof.Rows
theorem ok_of {A : Adr} {C a : Addr} {oc oa : Obj} {news : List (Addr × Obj)} {P4 P6 : Prop}
    (h1 : A.q 0 < A.q 1 ∧ A.q 0 < A.q 2) (h2 : A.q 1 < A.q 2)
    (h3 : (C < A.q 0 ∧ a < A.q 0 ∧ ∀ r, r ∈ news → r.1 < A.q 0) ∧ (C < A.q 1 ∧ a < A.q 1 ∧ ∀ r, r ∈ news → r.1 < A.q 1) ∧ C < A.q 2 ∧ a < A.q 2 ∧ ∀ r, r ∈ news → r.1 < A.q 2)
    (h4 : A.q 0 ≠ A.D ∧ A.q 1 ≠ A.D ∧ A.q 2 ≠ A.D ∧ C ≠ A.D ∧ a ≠ A.D ∧ ∀ r, r ∈ news → r.1 ≠ A.D)
    {P1 P2 P3 : Prop}
    (l1 : A.D < A.t 0 ∧ A.q 0 < A.t 0 ∧ A.q 1 < A.t 0 ∧ A.q 2 < A.t 0 ∧ C < A.t 0 ∧ a < A.t 0 ∧ P1)
    (l2 : A.t 0 < A.t 1 ∧ A.D < A.t 1 ∧ A.q 0 < A.t 1 ∧ A.q 1 < A.t 1 ∧ A.q 2 < A.t 1 ∧ C < A.t 1 ∧ a < A.t 1 ∧ P2)
    (l3 : A.t 1 < A.t 2 ∧ A.t 0 < A.t 2 ∧ A.D < A.t 2 ∧ A.q 0 < A.t 2 ∧ A.q 1 < A.t 2 ∧ A.q 2 < A.t 2 ∧ C < A.t 2 ∧ a < A.t 2 ∧ P3)
    (l4 : A.t 2 < A.tr ∧ A.t 1 < A.tr ∧ A.t 0 < A.tr ∧ A.D < A.tr ∧ A.q 0 < A.tr ∧ A.q 1 < A.tr ∧ A.q 2 < A.tr ∧ C < A.tr ∧ a < A.tr ∧ P4)
    (l6 : A.tr < A.ak ∧ A.t 2 < A.ak ∧ A.t 1 < A.ak ∧ A.t 0 < A.ak ∧ A.D < A.ak ∧ A.q 0 < A.ak ∧ A.q 1 < A.ak ∧ A.q 2 < A.ak ∧ C < A.ak ∧ a < A.ak ∧ P6)
    (z0 : ∀ r ∈ news, r.1 < A.t 0) (z1 : ∀ r ∈ news, r.1 < A.t 1) (z2 : ∀ r ∈ news, r.1 < A.t 2) (z3 : ∀ r ∈ news, r.1 < A.ak) : A.Ok ((C, oc) :: (a, oa) :: news) := by
  have lt : ∀ {x y : Addr}, x < y → x ≠ y := fun h e => Nat.lt_irrefl _ (e ▸ h)
  refine ⟨fun r hr j hj => ?_, fun i j hi hj e => ?_, fun i j hi hj e => ?_, fun i j hi hj => ?_, fun i hi => ?_, fun i hi => ?_, ⟨lt l6.1, lt l6.2.2.2.2.1⟩⟩
  · rcases List.mem_cons.mp hr with rfl | hr
    · rcases three_cases hj with rfl | rfl | rfl
      · exact ⟨lt h3.1.1, lt l1.2.2.2.2.1, lt l6.2.2.2.2.2.2.2.2.1⟩
      · exact ⟨lt h3.2.1.1, lt l2.2.2.2.2.2.1, lt l6.2.2.2.2.2.2.2.2.1⟩
      · exact ⟨lt h3.2.2.1, lt l3.2.2.2.2.2.2.1, lt l6.2.2.2.2.2.2.2.2.1⟩
    · rcases List.mem_cons.mp hr with rfl | hr
      · rcases three_cases hj with rfl | rfl | rfl
        · exact ⟨lt h3.1.2.1, lt l1.2.2.2.2.2.1, lt l6.2.2.2.2.2.2.2.2.2.1⟩
        · exact ⟨lt h3.2.1.2.1, lt l2.2.2.2.2.2.2.1, lt l6.2.2.2.2.2.2.2.2.2.1⟩
        · exact ⟨lt h3.2.2.2.1, lt l3.2.2.2.2.2.2.2.1, lt l6.2.2.2.2.2.2.2.2.2.1⟩
      · rcases three_cases hj with rfl | rfl | rfl
        · exact ⟨lt (h3.1.2.2 r hr), lt (z0 r hr), lt (z3 r hr)⟩
        · exact ⟨lt (h3.2.1.2.2 r hr), lt (z1 r hr), lt (z3 r hr)⟩
        · exact ⟨lt (h3.2.2.2.2 r hr), lt (z2 r hr), lt (z3 r hr)⟩
  · rcases three_cases hi with rfl | rfl | rfl <;> rcases three_cases hj with rfl | rfl | rfl <;> first | exact absurd rfl e | exact lt h1.1 | exact lt h1.2 | exact lt h2 | exact (lt h1.1).symm | exact (lt h1.2).symm | exact (lt h2).symm
  · rcases three_cases hi with rfl | rfl | rfl <;> rcases three_cases hj with rfl | rfl | rfl <;> first | exact absurd rfl e | exact lt l2.1 | exact lt l3.1 | exact lt l3.2.1 | exact (lt l2.1).symm | exact (lt l3.1).symm | exact (lt l3.2.1).symm
  · rcases three_cases hi with rfl | rfl | rfl <;> rcases three_cases hj with rfl | rfl | rfl
    · exact lt l1.2.1
    · exact lt l2.2.2.1
    · exact lt l3.2.2.2.1
    · exact lt l1.2.2.1
    · exact lt l2.2.2.2.1
    · exact lt l3.2.2.2.2.1
    · exact lt l1.2.2.2.1
    · exact lt l2.2.2.2.2.1
    · exact lt l3.2.2.2.2.2.1
  · rcases three_cases hi with rfl | rfl | rfl
    · exact ⟨lt l6.2.2.2.2.2.1, lt l4.2.2.2.2.1, h4.1⟩
    · exact ⟨lt l6.2.2.2.2.2.2.1, lt l4.2.2.2.2.2.1, h4.2.1⟩
    · exact ⟨lt l6.2.2.2.2.2.2.2.1, lt l4.2.2.2.2.2.2.1, h4.2.2.1⟩
  · rcases three_cases hi with rfl | rfl | rfl
    · exact ⟨lt l6.2.2.2.1, lt l4.2.2.1, (lt l1.1).symm⟩
    · exact ⟨lt l6.2.2.1, lt l4.2.1, (lt l2.2.1).symm⟩
    · exact ⟨lt l6.2.1, lt l4.1, (lt l3.2.2.1).symm⟩
end
section
-- Srt
open PySem PySem.W PyProof.Rows
namespace Srt
/-- the sort's tree, each question answered by the ranks -/
noncomputable def Sp {α : Type} (f : Nat → Int) (N : Nat) : KasT α → (α → Prop) → Prop
  | .ret a, P => P a
  | .ask i j k, P => i < N ∧ j < N ∧ Sp f N (k (decide (f i < f j))) P
theorem Sp.bind {α β : Type} {f : Nat → Int} {N : Nat} {g : α → KasT β} {P : β → Prop} : ∀ {t : KasT α}, Sp f N t (fun a => Sp f N (g a) P) → Sp f N (t.bind g) P
  | .ret _, h => h
  | .ask _ _ _, h => ⟨h.1, h.2.1, Sp.bind h.2.2⟩
theorem Sp.mono {α : Type} {f : Nat → Int} {N : Nat} {P P' : α → Prop} (hp : ∀ a, P a → P' a) : ∀ {t : KasT α}, Sp f N t P → Sp f N t P'
  | .ret a, h => hp a h
  | .ask _ _ _, h => ⟨h.1, h.2.1, Sp.mono hp h.2.2⟩
theorem Sp.wp {α : Type} {f : Nat → Int} {N : Nat} {cmp : Nat → Nat → (Bool → Shared → Prop) → Shared → Prop} {s : Shared} (hc : ∀ i j C, i < N → j < N → C (decide (f i < f j)) s → cmp i j C s) {Q : α → Shared → Prop} :
    ∀ {t : KasT α} {P : α → Prop}, Sp f N t P → (∀ a, P a → Q a s) → t.kasWp cmp Q s
  | .ret a, _, h, hq => hq a h
  | .ask i j k, _, h, hq => hc i j _ h.1 h.2.1 (Sp.wp hc h.2.2 hq)
noncomputable def bef (f : Nat → Int) (i j : Nat) : Prop := f i < f j ∨ (f i = f j ∧ i < j)
noncomputable abbrev at_ (p : Array Nat) (i : Nat) : Nat := p.getD i 0
theorem at_def (p : Array Nat) (i : Nat) : at_ p i = p[i]?.getD 0 := by rw [at_, Array.getD_eq_getD_getElem?]
theorem at_rev {p : Array Nat} {i j : Nat} (hj : j ≤ p.size) (k : Nat) : at_ (kas_rev p i j) k = if i ≤ k ∧ k < j then at_ p (i + j - 1 - k) else at_ p k := by
  rw [at_def, kas_rev, getElem?_mirror_all hj]
  split <;> rw [at_def]
theorem at_bubble {p : Array Nat} {src d : Nat} (hs : src < p.size) (hd : d ≤ src) (k : Nat) : at_ (bubble p src d) k = if k = src - d then at_ p src else if src - d < k ∧ k ≤ src then at_ p (k - 1) else at_ p k := by
  rw [at_def, getElem?_bubble hs d hd]
  by_cases h1 : k = src - d
  · simp only [h1, if_true]; exact (at_def _ _).symm
  · simp only [h1, if_false]
    split <;> exact (at_def _ _).symm
structure Inv (f : Nat → Int) (N n : Nat) (p : Array Nat) : Prop where
  perm : p.Perm (List.toArray (List.range N))
  sz : p.size = N
  le : n ≤ N
  pos : 1 ≤ n
  id : ∀ i, n ≤ i → i < N → at_ p i = i
  lo : ∀ i, i < n → at_ p i < n
  ord : ∀ i j, i < j → j < n → bef f (at_ p i) (at_ p j)
theorem inv_ext {f : Nat → Int} {N n : Nat} {p : Array Nat} (I : Inv f N n p) (hn : n < N) (h : ¬ f (at_ p n) < f (at_ p (n - 1))) : Inv f N (n + 1) p where
  perm := I.perm
  sz := I.sz
  le := hn
  pos := Nat.le_add_left ..
  id := fun i h1 h2 => I.id i (by (solve_by_elim (maxDepth := 5) [Nat.lt_of_lt_of_le, Nat.lt_of_le_of_lt, Nat.le_of_lt, Nat.le_trans, Nat.lt_trans, Nat.lt_succ_of_lt, Nat.lt_succ_of_le, Nat.le_succ_of_le, Nat.succ_le_of_lt, Nat.le_refl, Nat.sub_lt, Nat.sub_le, Nat.le_add_right, Nat.le_add_left, Nat.zero_le, Nat.zero_lt_succ, Nat.pos_of_ne_zero, Nat.le_of_lt_succ, Nat.ne_of_lt, Nat.ne_of_gt])) h2
  lo := fun i hi => by
    by_cases e : i = n
    · rw [e, I.id n (Nat.le_refl _) hn]; lia
    · have := I.lo i (by lia); (solve_by_elim (maxDepth := 4) [Nat.sub_lt_of_lt, Nat.lt_of_lt_of_le, Nat.lt_of_le_of_lt, Nat.le_of_succ_le_succ, Nat.lt_of_succ_lt_succ, Nat.succ_le_succ, Nat.add_le_add_right, Nat.add_lt_add_right, Nat.add_le_add_left, Nat.add_lt_add_left, Nat.sub_le_sub_right, Nat.lt_of_succ_lt, Nat.lt_sub_of_add_lt, Nat.add_lt_of_lt_sub, Nat.le_sub_of_add_le, Nat.add_le_of_le_sub, Nat.lt_add_of_pos_right, Nat.lt_succ_self, Nat.le_succ, Nat.le_of_lt_succ, Nat.lt_of_le_of_ne, Ne.symm, Nat.lt_irrefl, Nat.not_lt_of_le, Nat.not_le_of_lt, absurd])
  ord := fun i j hij hj => by
    by_cases e : j = n
    · subst e
      have e1 := I.id j (Nat.le_refl _) hn
      have e2 := I.lo i (by omega)
      by_cases e3 : i = j - 1
      · subst e3
        rw [e1] at h ⊢
        unfold bef
        rcases (show f (at_ p (j - 1)) < f j ∨ f j ≤ f (at_ p (j - 1)) by omega) with h4 | h4
        · exact .inl h4
        · exact .inr ⟨by omega, e2⟩
      · have h5 := I.ord i (j - 1) (by lia) (by omega)
        unfold bef at h5 ⊢
        rw [e1] at h ⊢
        rcases h5 with h5 | h5
        · exact .inl (by omega)
        · rcases (show f (at_ p i) < f j ∨ f j ≤ f (at_ p i) by omega) with h4 | h4
          · exact .inl h4
          · exact .inr ⟨by omega, e2⟩
    · exact I.ord i j hij (by lia)
theorem asc_sp {f : Nat → Int} {N : Nat} {p : Array Nat} (hlt : ∀ i, i < N → at_ p i < N) : ∀ (fu n : Nat), 1 ≤ n → n + fu ≤ N → Sp f N (kas_asc p fu n) (fun m => n ≤ m ∧ m ≤ n + fu ∧ (∀ i, n ≤ i → i < m → ¬ f (at_ p i) < f (at_ p (i - 1))) ∧ (m < n + fu → f (at_ p m) < f (at_ p (m - 1)))) := by
  intro z
  induction z with
  | zero =>
    intro n _ _
    exact ⟨Nat.le_refl _, Nat.le_refl _, fun i h1 h2 => by omega, fun h => by (solve_by_elim (maxDepth := 4) [Nat.sub_lt_of_lt, Nat.lt_of_lt_of_le, Nat.lt_of_le_of_lt, Nat.le_of_succ_le_succ, Nat.lt_of_succ_lt_succ, Nat.succ_le_succ, Nat.add_le_add_right, Nat.add_lt_add_right, Nat.add_le_add_left, Nat.add_lt_add_left, Nat.sub_le_sub_right, Nat.lt_of_succ_lt, Nat.lt_sub_of_add_lt, Nat.add_lt_of_lt_sub, Nat.le_sub_of_add_le, Nat.add_le_of_le_sub, Nat.lt_add_of_pos_right, Nat.lt_succ_self, Nat.le_succ, Nat.le_of_lt_succ, Nat.lt_of_le_of_ne, Ne.symm, Nat.lt_irrefl, Nat.not_lt_of_le, Nat.not_le_of_lt, absurd])⟩
  | succ fu ih =>
    intro n h1 h2
    refine ⟨hlt n (by lia), hlt (n - 1) (by omega), ?_⟩
    by_cases h : f (at_ p n) < f (at_ p (n - 1))
    · simp only [h, decide_true, if_true]
      exact ⟨Nat.le_refl _, by lia, fun i h3 h4 => by omega, fun _ => h⟩
    · simp only [h, decide_false, Bool.false_eq_true, if_false]
      refine Sp.mono (fun m hm => ⟨by omega, by omega, fun i h3 h4 => ?_, fun h5 => hm.2.2.2 (by omega)⟩) (ih (n + 1) (by (solve_by_elim (maxDepth := 4) [Nat.sub_lt_of_lt, Nat.lt_of_lt_of_le, Nat.lt_of_le_of_lt, Nat.le_of_succ_le_succ, Nat.lt_of_succ_lt_succ, Nat.succ_le_succ, Nat.add_le_add_right, Nat.add_lt_add_right, Nat.add_le_add_left, Nat.add_lt_add_left, Nat.sub_le_sub_right, Nat.lt_of_succ_lt, Nat.lt_sub_of_add_lt, Nat.add_lt_of_lt_sub, Nat.le_sub_of_add_le, Nat.add_le_of_le_sub, Nat.lt_add_of_pos_right, Nat.lt_succ_self, Nat.le_succ, Nat.le_of_lt_succ, Nat.lt_of_le_of_ne, Ne.symm, Nat.lt_irrefl, Nat.not_lt_of_le, Nat.not_le_of_lt, absurd])) (by lia))
      by_cases e : i = n
      · rw [e]; exact h
      · exact hm.2.2.1 i (by lia) h4
theorem inv_asc {f : Nat → Int} {N n : Nat} {p : Array Nat} (I : Inv f N n p) : ∀ (d : Nat), n + d ≤ N → (∀ i, n ≤ i → i < n + d → ¬ f (at_ p i) < f (at_ p (i - 1))) → Inv f N (n + d) p := by
  intro z
  induction z with
  | zero =>
    intro _ _
    exact I
  | succ d ih =>
    intro h1 h2
    have J := ih (by (solve_by_elim (maxDepth := 5) [Nat.lt_of_lt_of_le, Nat.lt_of_le_of_lt, Nat.le_of_lt, Nat.le_trans, Nat.lt_trans, Nat.lt_succ_of_lt, Nat.lt_succ_of_le, Nat.le_succ_of_le, Nat.succ_le_of_lt, Nat.le_refl, Nat.sub_lt, Nat.sub_le, Nat.le_add_right, Nat.le_add_left, Nat.zero_le, Nat.zero_lt_succ, Nat.pos_of_ne_zero, Nat.le_of_lt_succ, Nat.ne_of_lt, Nat.ne_of_gt])) fun i h3 h4 => h2 i h3 (by (solve_by_elim (maxDepth := 4) [Nat.sub_lt_of_lt, Nat.lt_of_lt_of_le, Nat.lt_of_le_of_lt, Nat.le_of_succ_le_succ, Nat.lt_of_succ_lt_succ, Nat.succ_le_succ, Nat.add_le_add_right, Nat.add_lt_add_right, Nat.add_le_add_left, Nat.add_lt_add_left, Nat.sub_le_sub_right, Nat.lt_of_succ_lt, Nat.lt_sub_of_add_lt, Nat.add_lt_of_lt_sub, Nat.le_sub_of_add_le, Nat.add_le_of_le_sub, Nat.lt_add_of_pos_right, Nat.lt_succ_self, Nat.le_succ, Nat.le_of_lt_succ, Nat.lt_of_le_of_ne, Ne.symm, Nat.lt_irrefl, Nat.not_lt_of_le, Nat.not_le_of_lt, absurd]))
    exact inv_ext (n := n + d) J (by (solve_by_elim (maxDepth := 4) [Nat.sub_lt_of_lt, Nat.lt_of_lt_of_le, Nat.lt_of_le_of_lt, Nat.le_of_succ_le_succ, Nat.lt_of_succ_lt_succ, Nat.succ_le_succ, Nat.add_le_add_right, Nat.add_lt_add_right, Nat.add_le_add_left, Nat.add_lt_add_left, Nat.sub_le_sub_right, Nat.lt_of_succ_lt, Nat.lt_sub_of_add_lt, Nat.add_lt_of_lt_sub, Nat.le_sub_of_add_le, Nat.add_le_of_le_sub, Nat.lt_add_of_pos_right, Nat.lt_succ_self, Nat.le_succ, Nat.le_of_lt_succ, Nat.lt_of_le_of_ne, Ne.symm, Nat.lt_irrefl, Nat.not_lt_of_le, Nat.not_le_of_lt, absurd])) (h2 (n + d) (by lia) (by lia))
theorem Inv.all {f : Nat → Int} {N n : Nat} {p : Array Nat} (I : Inv f N n p) : ∀ i, i < N → at_ p i < N := fun i hi => by
  have := I.le
  by_cases h : i < n
  · have := I.lo i h; (solve_by_elim (maxDepth := 4) [Nat.sub_lt_of_lt, Nat.lt_of_lt_of_le, Nat.lt_of_le_of_lt, Nat.le_of_succ_le_succ, Nat.lt_of_succ_lt_succ, Nat.succ_le_succ, Nat.add_le_add_right, Nat.add_lt_add_right, Nat.add_le_add_left, Nat.add_lt_add_left, Nat.sub_le_sub_right, Nat.lt_of_succ_lt, Nat.lt_sub_of_add_lt, Nat.add_lt_of_lt_sub, Nat.le_sub_of_add_le, Nat.add_le_of_le_sub, Nat.lt_add_of_pos_right, Nat.lt_succ_self, Nat.le_succ, Nat.le_of_lt_succ, Nat.lt_of_le_of_ne, Ne.symm, Nat.lt_irrefl, Nat.not_lt_of_le, Nat.not_le_of_lt, absurd])
  · rw [I.id i (by (solve_by_elim (maxDepth := 4) [Int.lt_of_lt_of_le, Int.lt_of_le_of_lt, Int.le_of_lt, Int.le_trans, Int.lt_trans, Int.le_refl, Int.not_lt.mp, Int.not_le.mp, Int.le_antisymm, Nat.le_antisymm, Nat.not_lt.mp, Nat.not_le.mp, Nat.le_of_lt, Nat.lt_of_le_of_ne, Nat.lt_of_not_le, Nat.le_of_not_lt, Int.ofNat_nonneg, Int.lt_of_not_ge, Eq.symm, Int.le_of_eq, Nat.le_of_eq])) hi]; exact hi
/-- the part that goes down, its last like ones still as they came -/
structure InvD (f : Nat → Int) (N n q : Nat) (p : Array Nat) : Prop where
  perm : p.Perm (List.toArray (List.range N))
  sz : p.size = N
  le : n ≤ N
  pos : q + 1 ≤ n
  id : ∀ i, n ≤ i → i < N → at_ p i = i
  lo : ∀ i, i < n → at_ p i < n
  a : ∀ i j, i < j → j < n - (q + 1) → bef f (at_ p j) (at_ p i)
  b : ∀ i j, i < n - (q + 1) → n - (q + 1) ≤ j → j < n → f (at_ p j) < f (at_ p i)
  c : ∀ i j, n - (q + 1) ≤ i → i < j → j < n → f (at_ p i) = f (at_ p j) ∧ at_ p i < at_ p j
theorem InvD.all {f : Nat → Int} {N n q : Nat} {p : Array Nat} (I : InvD f N n q p) : ∀ i, i < N → at_ p i < N := fun i hi => by
  have := I.le
  by_cases h : i < n
  · have := I.lo i h; (solve_by_elim (maxDepth := 4) [Nat.sub_lt_of_lt, Nat.lt_of_lt_of_le, Nat.lt_of_le_of_lt, Nat.le_of_succ_le_succ, Nat.lt_of_succ_lt_succ, Nat.succ_le_succ, Nat.add_le_add_right, Nat.add_lt_add_right, Nat.add_le_add_left, Nat.add_lt_add_left, Nat.sub_le_sub_right, Nat.lt_of_succ_lt, Nat.lt_sub_of_add_lt, Nat.add_lt_of_lt_sub, Nat.le_sub_of_add_le, Nat.add_le_of_le_sub, Nat.lt_add_of_pos_right, Nat.lt_succ_self, Nat.le_succ, Nat.le_of_lt_succ, Nat.lt_of_le_of_ne, Ne.symm, Nat.lt_irrefl, Nat.not_lt_of_le, Nat.not_le_of_lt, absurd])
  · rw [I.id i (by (solve_by_elim (maxDepth := 4) [Int.lt_of_lt_of_le, Int.lt_of_le_of_lt, Int.le_of_lt, Int.le_trans, Int.lt_trans, Int.le_refl, Int.not_lt.mp, Int.not_le.mp, Int.le_antisymm, Nat.le_antisymm, Nat.not_lt.mp, Nat.not_le.mp, Nat.le_of_lt, Nat.lt_of_le_of_ne, Nat.lt_of_not_le, Nat.le_of_not_lt, Int.ofNat_nonneg, Int.lt_of_not_ge, Eq.symm, Int.le_of_eq, Nat.le_of_eq])) hi]; exact hi
/-- all of it goes down -/
structure InvT (f : Nat → Int) (N n : Nat) (p : Array Nat) : Prop where
  perm : p.Perm (List.toArray (List.range N))
  sz : p.size = N
  le : n ≤ N
  pos : 1 ≤ n
  id : ∀ i, n ≤ i → i < N → at_ p i = i
  lo : ∀ i, i < n → at_ p i < n
  a : ∀ i j, i < j → j < n → bef f (at_ p j) (at_ p i)
theorem rev_perm {p q : Array Nat} {i j : Nat} (h : p.Perm q) : (kas_rev p i j).Perm q := (mirror_perm _ _ _ _).trans h
theorem rev_sz {p : Array Nat} {i j : Nat} : (kas_rev p i j).size = p.size := mirror_size _ _ _ _
theorem InvD.turn {f : Nat → Int} {N n q : Nat} {p : Array Nat} (I : InvD f N n q p) : InvT f N n (kas_rev p (n - (q + 1)) n) := by
  have hle : n ≤ p.size := by rw [I.sz]; exact I.le
  have hpos := I.pos
  refine ⟨rev_perm I.perm, by rw [rev_sz, I.sz], I.le, by lia, fun i h1 h2 => ?_, fun i hi => ?_, fun i j hij hj => ?_⟩
  · rw [at_rev hle, if_neg (by lia)]; exact I.id i h1 h2
  · rw [at_rev hle]
    split
    · exact I.lo _ (by omega)
    · exact I.lo _ hi
  · have ei := at_rev (i := n - (q + 1)) hle i
    have ej := at_rev (i := n - (q + 1)) hle j
    rw [ei, ej]
    by_cases h1 : n - (q + 1) ≤ i
    · rw [if_pos (show n - (q + 1) ≤ j ∧ j < n from ⟨by lia, hj⟩), if_pos (show n - (q + 1) ≤ i ∧ i < n from ⟨h1, by (solve_by_elim (maxDepth := 5) [Nat.lt_of_lt_of_le, Nat.lt_of_le_of_lt, Nat.le_of_lt, Nat.le_trans, Nat.lt_trans, Nat.lt_succ_of_lt, Nat.lt_succ_of_le, Nat.le_succ_of_le, Nat.succ_le_of_lt, Nat.le_refl, Nat.sub_lt, Nat.sub_le, Nat.le_add_right, Nat.le_add_left, Nat.zero_le, Nat.zero_lt_succ, Nat.pos_of_ne_zero, Nat.le_of_lt_succ, Nat.ne_of_lt, Nat.ne_of_gt])⟩)]
      have := I.c (n - (q + 1) + n - 1 - j) (n - (q + 1) + n - 1 - i) (by omega) (by omega) (by omega)
      exact .inr this
    · rw [if_neg (show ¬ (n - (q + 1) ≤ i ∧ i < n) by lia)]
      by_cases h2 : n - (q + 1) ≤ j
      · rw [if_pos (show n - (q + 1) ≤ j ∧ j < n from ⟨h2, hj⟩)]
        exact .inl (I.b _ _ (by lia) (by omega) (by omega))
      · rw [if_neg (show ¬ (n - (q + 1) ≤ j ∧ j < n) by lia)]
        exact I.a i j hij (by lia)
theorem InvD.flat {f : Nat → Int} {N n : Nat} {p : Array Nat} (I : InvD f N n 0 p) : InvT f N n p := by
  have hpos := I.pos
  refine ⟨I.perm, I.sz, I.le, by omega, I.id, I.lo, fun i j hij hj => ?_⟩
  by_cases h : j < n - 1
  · exact I.a i j hij h
  · exact .inl (I.b i j (by omega) (by (solve_by_elim (maxDepth := 4) [Int.lt_of_lt_of_le, Int.lt_of_le_of_lt, Int.le_of_lt, Int.le_trans, Int.lt_trans, Int.le_refl, Int.not_lt.mp, Int.not_le.mp, Int.le_antisymm, Nat.le_antisymm, Nat.not_lt.mp, Nat.not_le.mp, Nat.le_of_lt, Nat.lt_of_le_of_ne, Nat.lt_of_not_le, Nat.le_of_not_lt, Int.ofNat_nonneg, Int.lt_of_not_ge, Eq.symm, Int.le_of_eq, Nat.le_of_eq])) hj)
theorem bef_trans {f : Nat → Int} {i j k : Nat} (h1 : bef f i j) (h2 : bef f j k) : bef f i k := by
  unfold bef at *
  rcases h1 with h1 | ⟨h1, h1'⟩ <;> rcases h2 with h2 | ⟨h2, h2'⟩
  · exact .inl (by lia)
  · exact .inl (by lia)
  · exact .inl (by lia)
  · exact .inr ⟨by lia, by (solve_by_elim (maxDepth := 5) [Nat.lt_of_lt_of_le, Nat.lt_of_le_of_lt, Nat.le_of_lt, Nat.le_trans, Nat.lt_trans, Nat.lt_succ_of_lt, Nat.lt_succ_of_le, Nat.le_succ_of_le, Nat.succ_le_of_lt, Nat.le_refl, Nat.sub_lt, Nat.sub_le, Nat.le_add_right, Nat.le_add_left, Nat.zero_le, Nat.zero_lt_succ, Nat.pos_of_ne_zero, Nat.le_of_lt_succ, Nat.ne_of_lt, Nat.ne_of_gt])⟩
theorem InvT.next {f : Nat → Int} {N n : Nat} {p : Array Nat} (I : InvT f N n p) (hn : n < N) (h : f (at_ p n) < f (at_ p (n - 1))) : InvD f N (n + 1) 0 p := by
  have hpos := I.pos
  refine ⟨I.perm, I.sz, hn, by (solve_by_elim (maxDepth := 4) [Nat.sub_lt_of_lt, Nat.lt_of_lt_of_le, Nat.lt_of_le_of_lt, Nat.le_of_succ_le_succ, Nat.lt_of_succ_lt_succ, Nat.succ_le_succ, Nat.add_le_add_right, Nat.add_lt_add_right, Nat.add_le_add_left, Nat.add_lt_add_left, Nat.sub_le_sub_right, Nat.lt_of_succ_lt, Nat.lt_sub_of_add_lt, Nat.add_lt_of_lt_sub, Nat.le_sub_of_add_le, Nat.add_le_of_le_sub, Nat.lt_add_of_pos_right, Nat.lt_succ_self, Nat.le_succ, Nat.le_of_lt_succ, Nat.lt_of_le_of_ne, Ne.symm, Nat.lt_irrefl, Nat.not_lt_of_le, Nat.not_le_of_lt, absurd]), fun i h1 h2 => I.id i (by (solve_by_elim (maxDepth := 5) [Nat.lt_of_lt_of_le, Nat.lt_of_le_of_lt, Nat.le_of_lt, Nat.le_trans, Nat.lt_trans, Nat.lt_succ_of_lt, Nat.lt_succ_of_le, Nat.le_succ_of_le, Nat.succ_le_of_lt, Nat.le_refl, Nat.sub_lt, Nat.sub_le, Nat.le_add_right, Nat.le_add_left, Nat.zero_le, Nat.zero_lt_succ, Nat.pos_of_ne_zero, Nat.le_of_lt_succ, Nat.ne_of_lt, Nat.ne_of_gt])) h2, fun i hi => ?_, fun i j hij hj => I.a i j hij (by (solve_by_elim (maxDepth := 4) [Nat.sub_lt_of_lt, Nat.lt_of_lt_of_le, Nat.lt_of_le_of_lt, Nat.le_of_succ_le_succ, Nat.lt_of_succ_lt_succ, Nat.succ_le_succ, Nat.add_le_add_right, Nat.add_lt_add_right, Nat.add_le_add_left, Nat.add_lt_add_left, Nat.sub_le_sub_right, Nat.lt_of_succ_lt, Nat.lt_sub_of_add_lt, Nat.add_lt_of_lt_sub, Nat.le_sub_of_add_le, Nat.add_le_of_le_sub, Nat.lt_add_of_pos_right, Nat.lt_succ_self, Nat.le_succ, Nat.le_of_lt_succ, Nat.lt_of_le_of_ne, Ne.symm, Nat.lt_irrefl, Nat.not_lt_of_le, Nat.not_le_of_lt, absurd])), fun i j h1 h2 h3 => ?_, fun i j h1 h2 h3 => by lia⟩
  · by_cases e : i = n
    · rw [e, I.id n (Nat.le_refl _) hn]; omega
    · have := I.lo i (by omega); (solve_by_elim (maxDepth := 4) [Nat.sub_lt_of_lt, Nat.lt_of_lt_of_le, Nat.lt_of_le_of_lt, Nat.le_of_succ_le_succ, Nat.lt_of_succ_lt_succ, Nat.succ_le_succ, Nat.add_le_add_right, Nat.add_lt_add_right, Nat.add_le_add_left, Nat.add_lt_add_left, Nat.sub_le_sub_right, Nat.lt_of_succ_lt, Nat.lt_sub_of_add_lt, Nat.add_lt_of_lt_sub, Nat.le_sub_of_add_le, Nat.add_le_of_le_sub, Nat.lt_add_of_pos_right, Nat.lt_succ_self, Nat.le_succ, Nat.le_of_lt_succ, Nat.lt_of_le_of_ne, Ne.symm, Nat.lt_irrefl, Nat.not_lt_of_le, Nat.not_le_of_lt, absurd])
  · have e : j = n := by lia
    subst e
    by_cases e2 : i = j - 1
    · rw [e2]; exact h
    · have := I.a i (j - 1) (by lia) (by omega)
      unfold bef at this
      omega
theorem InvT.up {f : Nat → Int} {N n : Nat} {p : Array Nat} (I : InvT f N n p) : Inv f N n (kas_rev p 0 n) := by
  have hle : n ≤ p.size := by rw [I.sz]; exact I.le
  refine ⟨rev_perm I.perm, by rw [rev_sz, I.sz], I.le, I.pos, fun i h1 h2 => ?_, fun i hi => ?_, fun i j hij hj => ?_⟩
  · rw [at_rev hle, if_neg (by lia)]; exact I.id i h1 h2
  · rw [at_rev hle, if_pos (by lia)]; exact I.lo _ (by omega)
  · rw [at_rev hle i, at_rev hle j, if_pos (by lia), if_pos (by lia)]
    exact I.a _ _ (by omega) (by omega)
theorem desc_sp {f : Nat → Int} {N : Nat} : ∀ (fu : Nat) (p : Array Nat) (n q : Nat), InvD f N n q p → n + fu = N → Sp f N (kas_desc fu p n q) (fun r => InvD f N r.2.1 r.2.2 r.1) := by
  intro z
  induction z with
  | zero =>
    intro p n q I _
    exact I
  | succ fu ih =>
    intro p n q I hN
    have hpos := I.pos
    have hall := I.all
    refine ⟨hall n (by lia), hall (n - 1) (by omega), ?_⟩
    by_cases h : f (at_ p n) < f (at_ p (n - 1))
    · simp only [h, decide_true, if_true]
      have hlast : ∀ i, n - (q + 1) ≤ i → i < n → f (at_ p i) = f (at_ p (n - 1)) := fun i h1 h2 => by
        by_cases e : i = n - 1
        · rw [e]
        · exact (I.c i (n - 1) h1 (by lia) (by lia)).1
      by_cases hq : q > 0
      · rw [if_pos hq]
        have T := I.turn
        refine ih _ (n + 1) 0 (T.next (by lia) ?_) (by lia)
        have hle : n ≤ p.size := by rw [I.sz]; exact I.le
        rw [at_rev hle n, at_rev hle (n - 1), if_neg (by lia), if_pos (by lia), hlast (n - (q + 1) + n - 1 - (n - 1)) (by omega) (by omega)]
        exact h
      · rw [if_neg hq]
        obtain rfl : q = 0 := by lia
        exact ih p (n + 1) 0 (I.flat.next (by lia) h) (by lia)
    · simp only [h, decide_false, Bool.false_eq_true, if_false]
      refine ⟨hall (n - 1) (by omega), hall n (by omega), ?_⟩
      by_cases h2 : f (at_ p (n - 1)) < f (at_ p n)
      · simp only [h2, decide_true, if_true]
        exact I
      · simp only [h2, decide_false, Bool.false_eq_true, if_false]
        have e : f (at_ p n) = f (at_ p (n - 1)) := by omega
        have e1 := I.id n (Nat.le_refl _) (by omega)
        refine ih p (n + 1) (q + 1) ⟨I.perm, I.sz, by lia, by lia, fun i h3 h4 => I.id i (by (solve_by_elim (maxDepth := 5) [Nat.lt_of_lt_of_le, Nat.lt_of_le_of_lt, Nat.le_of_lt, Nat.le_trans, Nat.lt_trans, Nat.lt_succ_of_lt, Nat.lt_succ_of_le, Nat.le_succ_of_le, Nat.succ_le_of_lt, Nat.le_refl, Nat.sub_lt, Nat.sub_le, Nat.le_add_right, Nat.le_add_left, Nat.zero_le, Nat.zero_lt_succ, Nat.pos_of_ne_zero, Nat.le_of_lt_succ, Nat.ne_of_lt, Nat.ne_of_gt])) h4, fun i hi => ?_, fun i j h3 h4 => I.a i j h3 (by lia), fun i j h3 h4 h5 => ?_, fun i j h3 h4 h5 => ?_⟩ (by omega)
        · by_cases e2 : i = n
          · rw [e2, e1]; lia
          · have := I.lo i (by lia); (solve_by_elim (maxDepth := 4) [Nat.sub_lt_of_lt, Nat.lt_of_lt_of_le, Nat.lt_of_le_of_lt, Nat.le_of_succ_le_succ, Nat.lt_of_succ_lt_succ, Nat.succ_le_succ, Nat.add_le_add_right, Nat.add_lt_add_right, Nat.add_le_add_left, Nat.add_lt_add_left, Nat.sub_le_sub_right, Nat.lt_of_succ_lt, Nat.lt_sub_of_add_lt, Nat.add_lt_of_lt_sub, Nat.le_sub_of_add_le, Nat.add_le_of_le_sub, Nat.lt_add_of_pos_right, Nat.lt_succ_self, Nat.le_succ, Nat.le_of_lt_succ, Nat.lt_of_le_of_ne, Ne.symm, Nat.lt_irrefl, Nat.not_lt_of_le, Nat.not_le_of_lt, absurd])
        · by_cases e2 : j = n
          · rw [e2, e]; exact I.b i (n - 1) (by lia) (by lia) (by lia)
          · exact I.b i j (by lia) (by lia) (by lia)
        · by_cases e2 : j = n
          · subst e2
            refine ⟨?_, by rw [e1]; exact I.lo i h4⟩
            rw [e]
            by_cases e3 : i = j - 1
            · rw [e3]
            · exact (I.c i (j - 1) (by lia) (by lia) (by lia)).1
          · exact I.c i j (by lia) h4 (by omega)
theorem tail3_sp {f : Nat → Int} {N n : Nat} {p : Array Nat} (I : InvT f N n p) : Sp f N (kas_tail3 n N p) (fun r => Inv f N r.1 r.2) := by
  have J := I.up
  have hle := J.le
  refine Sp.bind (Sp.mono (fun m hm => ?_) (asc_sp J.all (N - n) n J.pos (by lia)))
  show Inv f N m (kas_rev p 0 n)
  have := inv_asc J (m - n) (by omega) (fun i h1 h2 => hm.2.2.1 i h1 (by omega))
  rwa [show n + (m - n) = m by omega] at this
theorem descPart_sp {f : Nat → Int} {N n : Nat} {p : Array Nat} (I : InvD f N (n + 1) 0 p) : Sp f N (kas_descPart n N p) (fun r => Inv f N r.1 r.2) := by
  have hle := I.le
  refine Sp.bind (Sp.mono (fun r hr => ?_) (desc_sp (N - (n + 1)) p (n + 1) 0 I (by omega)))
  obtain ⟨p', n', q'⟩ := r
  dsimp only at hr ⊢
  by_cases hq : q' > 0
  · rw [if_pos hq]; exact tail3_sp hr.turn
  · rw [if_neg hq]
    obtain rfl : q' = 0 := by lia
    exact tail3_sp hr.flat
theorem at_range {N i : Nat} (hi : i < N) : at_ (List.toArray (List.range N)) i = i := by
  rw [at_def]; simp [hi]
theorem inv_one {f : Nat → Int} {N : Nat} (hN : 1 ≤ N) : Inv f N 1 (List.toArray (List.range N)) where
  perm := Array.Perm.refl _
  sz := by simp
  le := hN
  pos := Nat.le_refl _
  id := fun i _ h2 => at_range h2
  lo := fun i hi => by rw [at_range (by (solve_by_elim (maxDepth := 4) [Nat.sub_lt_of_lt, Nat.lt_of_lt_of_le, Nat.lt_of_le_of_lt, Nat.le_of_succ_le_succ, Nat.lt_of_succ_lt_succ, Nat.succ_le_succ, Nat.add_le_add_right, Nat.add_lt_add_right, Nat.add_le_add_left, Nat.add_lt_add_left, Nat.sub_le_sub_right, Nat.lt_of_succ_lt, Nat.lt_sub_of_add_lt, Nat.add_lt_of_lt_sub, Nat.le_sub_of_add_le, Nat.add_le_of_le_sub, Nat.lt_add_of_pos_right, Nat.lt_succ_self, Nat.le_succ, Nat.le_of_lt_succ, Nat.lt_of_le_of_ne, Ne.symm, Nat.lt_irrefl, Nat.not_lt_of_le, Nat.not_le_of_lt, absurd]))]; exact hi
  ord := fun i j hij hj => by omega
theorem count_sp {f : Nat → Int} {N : Nat} (hN : 1 ≤ N) : Sp f N (kas_count N (List.toArray (List.range N))) (fun r => Inv f N r.1 r.2) := by
  have J := inv_one (f := f) hN
  refine Sp.bind (Sp.mono (fun n hm => ?_) (asc_sp J.all (N - 1) 1 (Nat.le_refl _) (by omega)))
  have K : Inv f N n (List.toArray (List.range N)) := by
    have := inv_asc J (n - 1) (by omega) (fun i h1 h2 => hm.2.2.1 i h1 (by omega))
    rwa [show 1 + (n - 1) = n by omega] at this
  by_cases h1 : n = N
  · have : (n == N) = true := by simp [h1]
    rw [this, if_pos rfl]
    exact K
  · have : (n == N) = false := by simp [h1]
    rw [this, if_neg (by simp)]
    have hstrict := hm.2.2.2 (by omega)
    have T : InvT f N 1 (List.toArray (List.range N)) := ⟨J.perm, J.sz, J.le, J.pos, J.id, J.lo, fun i j hij hj => by omega⟩
    by_cases h2 : n > 1
    · rw [if_pos h2]
      refine ⟨K.all 0 (by (solve_by_elim (maxDepth := 4) [Nat.sub_lt_of_lt, Nat.lt_of_lt_of_le, Nat.lt_of_le_of_lt, Nat.le_of_succ_le_succ, Nat.lt_of_succ_lt_succ, Nat.succ_le_succ, Nat.add_le_add_right, Nat.add_lt_add_right, Nat.add_le_add_left, Nat.add_lt_add_left, Nat.sub_le_sub_right, Nat.lt_of_succ_lt, Nat.lt_sub_of_add_lt, Nat.add_lt_of_lt_sub, Nat.le_sub_of_add_le, Nat.add_le_of_le_sub, Nat.lt_add_of_pos_right, Nat.lt_succ_self, Nat.le_succ, Nat.le_of_lt_succ, Nat.lt_of_le_of_ne, Ne.symm, Nat.lt_irrefl, Nat.not_lt_of_le, Nat.not_le_of_lt, absurd])), K.all (n - 1) (by omega), ?_⟩
      by_cases h3 : f (at_ (List.toArray (List.range N)) 0) < f (at_ (List.toArray (List.range N)) (n - 1))
      · simp only [h3, decide_true, if_true]
        exact K
      · simp only [h3, decide_false, Bool.false_eq_true, if_false]
        have hle : n ≤ (List.toArray (List.range N)).size := by rw [K.sz]; exact K.le
        have R : InvT f N n (kas_rev (List.toArray (List.range N)) 0 n) := by
          refine ⟨rev_perm K.perm, by rw [rev_sz, K.sz], K.le, by omega, fun i h4 h5 => ?_, fun i hi => ?_, fun i j hij hj => ?_⟩
          · rw [at_rev hle, if_neg (by lia)]; exact K.id i h4 h5
          · rw [at_rev hle, if_pos (by lia)]; exact K.lo _ (by omega)
          · rw [at_rev hle i, at_rev hle j, if_pos (by lia), if_pos (by lia)]
            exact K.ord _ _ (by omega) (by omega)
        refine descPart_sp (R.next (by omega) ?_)
        rw [at_rev hle n, at_rev hle (n - 1), if_neg (by lia), if_pos (by omega)]
        have e : 0 + n - 1 - (n - 1) = 0 := by lia
        rw [e]
        omega
    · rw [if_neg h2]
      obtain rfl : n = 1 := by omega
      exact descPart_sp (T.next (by lia) hstrict)
theorem place_sp {f : Nat → Int} {N k : Nat} {p : Array Nat} (I : Inv f N k p) (hk : k < N) : ∀ (fu l r : Nat), l ≤ r → r ≤ k → r - l ≤ fu → (∀ i, i < l → ¬ f (at_ p k) < f (at_ p i)) → (∀ i, r ≤ i → i < k → f (at_ p k) < f (at_ p i)) →
    Sp f N (kas_place p k fu l r) (fun l => l ≤ k ∧ (∀ i, i < l → ¬ f (at_ p k) < f (at_ p i)) ∧ (∀ i, l ≤ i → i < k → f (at_ p k) < f (at_ p i))) := by
  intro z
  induction z with
  | zero =>
    intro l r h1 h2 h3 h4 h5
    exact ⟨by lia, h4, fun i h6 h7 => h5 i (by lia) h7⟩
  | succ fu ih =>
    intro l r h1 h2 h3 h4 h5
    have mono : ∀ i j, i ≤ j → j < k → f (at_ p i) ≤ f (at_ p j) := fun i j h6 h7 => by
      by_cases e : i = j
      · rw [e]; lia
      · have := I.ord i j (by lia) h7
        unfold bef at this
        omega
    unfold kas_place
    by_cases h6 : l ≥ r
    · rw [if_pos h6]
      exact ⟨by lia, h4, fun i h7 h8 => h5 i (by lia) h8⟩
    · rw [if_neg h6]
      refine ⟨I.all k hk, I.all _ (by lia), ?_⟩
      by_cases h7 : f (at_ p k) < f (at_ p ((l + r) / 2))
      · simp only [h7, decide_true, if_true]
        refine ih l ((l + r) / 2) (by lia) (by lia) (by omega) h4 fun i h8 h9 => ?_
        have := mono ((l + r) / 2) i h8 h9
        omega
      · simp only [h7, decide_false, Bool.false_eq_true, if_false]
        refine ih ((l + r) / 2 + 1) r (by lia) h2 (by omega) (fun i h8 => ?_) h5
        have := mono i ((l + r) / 2) (by (solve_by_elim (maxDepth := 4) [Nat.sub_lt_of_lt, Nat.lt_of_lt_of_le, Nat.lt_of_le_of_lt, Nat.le_of_succ_le_succ, Nat.lt_of_succ_lt_succ, Nat.succ_le_succ, Nat.add_le_add_right, Nat.add_lt_add_right, Nat.add_le_add_left, Nat.add_lt_add_left, Nat.sub_le_sub_right, Nat.lt_of_succ_lt, Nat.lt_sub_of_add_lt, Nat.add_lt_of_lt_sub, Nat.le_sub_of_add_le, Nat.add_le_of_le_sub, Nat.lt_add_of_pos_right, Nat.lt_succ_self, Nat.le_succ, Nat.le_of_lt_succ, Nat.lt_of_le_of_ne, Ne.symm, Nat.lt_irrefl, Nat.not_lt_of_le, Nat.not_le_of_lt, absurd])) (by lia)
        omega
theorem bin_sp {f : Nat → Int} {N : Nat} : ∀ (fu k : Nat) (p : Array Nat), Inv f N k p → k + fu = N → Sp f N (kas_bin fu p k) (Inv f N N) := by
  intro z
  induction z with
  | zero =>
    intro k p I h
    obtain rfl : k = N := by omega
    exact I
  | succ fu ih =>
    intro k p I h
    refine Sp.bind (Sp.mono (fun l hl => ?_) (place_sp I (by lia) k 0 k (by lia) (Nat.le_refl _) (by (solve_by_elim (maxDepth := 4) [Nat.sub_lt_of_lt, Nat.lt_of_lt_of_le, Nat.lt_of_le_of_lt, Nat.le_of_succ_le_succ, Nat.lt_of_succ_lt_succ, Nat.succ_le_succ, Nat.add_le_add_right, Nat.add_lt_add_right, Nat.add_le_add_left, Nat.add_lt_add_left, Nat.sub_le_sub_right, Nat.lt_of_succ_lt, Nat.lt_sub_of_add_lt, Nat.add_lt_of_lt_sub, Nat.le_sub_of_add_le, Nat.add_le_of_le_sub, Nat.lt_add_of_pos_right, Nat.lt_succ_self, Nat.le_succ, Nat.le_of_lt_succ, Nat.lt_of_le_of_ne, Ne.symm, Nat.lt_irrefl, Nat.not_lt_of_le, Nat.not_le_of_lt, absurd])) (fun i hi => by lia) (fun i h1 h2 => by omega)))
    obtain ⟨h1, h2, h3⟩ := hl
    have hs : k < p.size := by rw [I.sz]; lia
    have ek := I.id k (Nat.le_refl _) (by lia)
    refine ih (k + 1) _ ⟨(bubble_perm _ _ _).trans I.perm, by rw [bubble_size, I.sz], by lia, by lia, fun i h4 h5 => ?_, fun i hi => ?_, fun i j hij hj => ?_⟩ (by lia)
    · rw [at_bubble hs (by (solve_by_elim (maxDepth := 4) [Nat.sub_lt_of_lt, Nat.lt_of_lt_of_le, Nat.lt_of_le_of_lt, Nat.le_of_succ_le_succ, Nat.lt_of_succ_lt_succ, Nat.succ_le_succ, Nat.add_le_add_right, Nat.add_lt_add_right, Nat.add_le_add_left, Nat.add_lt_add_left, Nat.sub_le_sub_right, Nat.lt_of_succ_lt, Nat.lt_sub_of_add_lt, Nat.add_lt_of_lt_sub, Nat.le_sub_of_add_le, Nat.add_le_of_le_sub, Nat.lt_add_of_pos_right, Nat.lt_succ_self, Nat.le_succ, Nat.le_of_lt_succ, Nat.lt_of_le_of_ne, Ne.symm, Nat.lt_irrefl, Nat.not_lt_of_le, Nat.not_le_of_lt, absurd])), if_neg (by omega), if_neg (by lia)]; exact I.id i (by (solve_by_elim (maxDepth := 5) [Nat.lt_of_lt_of_le, Nat.lt_of_le_of_lt, Nat.le_of_lt, Nat.le_trans, Nat.lt_trans, Nat.lt_succ_of_lt, Nat.lt_succ_of_le, Nat.le_succ_of_le, Nat.succ_le_of_lt, Nat.le_refl, Nat.sub_lt, Nat.sub_le, Nat.le_add_right, Nat.le_add_left, Nat.zero_le, Nat.zero_lt_succ, Nat.pos_of_ne_zero, Nat.le_of_lt_succ, Nat.ne_of_lt, Nat.ne_of_gt])) h5
    · rw [at_bubble hs (by (solve_by_elim (maxDepth := 4) [Nat.sub_lt_of_lt, Nat.lt_of_lt_of_le, Nat.lt_of_le_of_lt, Nat.le_of_succ_le_succ, Nat.lt_of_succ_lt_succ, Nat.succ_le_succ, Nat.add_le_add_right, Nat.add_lt_add_right, Nat.add_le_add_left, Nat.add_lt_add_left, Nat.sub_le_sub_right, Nat.lt_of_succ_lt, Nat.lt_sub_of_add_lt, Nat.add_lt_of_lt_sub, Nat.le_sub_of_add_le, Nat.add_le_of_le_sub, Nat.lt_add_of_pos_right, Nat.lt_succ_self, Nat.le_succ, Nat.le_of_lt_succ, Nat.lt_of_le_of_ne, Ne.symm, Nat.lt_irrefl, Nat.not_lt_of_le, Nat.not_le_of_lt, absurd]))]
      by_cases e1 : i = k - (k - l)
      · rw [if_pos e1, ek]; lia
      · rw [if_neg e1]
        by_cases e2 : k - (k - l) < i ∧ i ≤ k
        · rw [if_pos e2]
          have := I.lo (i - 1) (by lia); (solve_by_elim (maxDepth := 4) [Nat.sub_lt_of_lt, Nat.lt_of_lt_of_le, Nat.lt_of_le_of_lt, Nat.le_of_succ_le_succ, Nat.lt_of_succ_lt_succ, Nat.succ_le_succ, Nat.add_le_add_right, Nat.add_lt_add_right, Nat.add_le_add_left, Nat.add_lt_add_left, Nat.sub_le_sub_right, Nat.lt_of_succ_lt, Nat.lt_sub_of_add_lt, Nat.add_lt_of_lt_sub, Nat.le_sub_of_add_le, Nat.add_le_of_le_sub, Nat.lt_add_of_pos_right, Nat.lt_succ_self, Nat.le_succ, Nat.le_of_lt_succ, Nat.lt_of_le_of_ne, Ne.symm, Nat.lt_irrefl, Nat.not_lt_of_le, Nat.not_le_of_lt, absurd])
        · rw [if_neg e2]
          have := I.lo i (by lia); (solve_by_elim (maxDepth := 4) [Nat.sub_lt_of_lt, Nat.lt_of_lt_of_le, Nat.lt_of_le_of_lt, Nat.le_of_succ_le_succ, Nat.lt_of_succ_lt_succ, Nat.succ_le_succ, Nat.add_le_add_right, Nat.add_lt_add_right, Nat.add_le_add_left, Nat.add_lt_add_left, Nat.sub_le_sub_right, Nat.lt_of_succ_lt, Nat.lt_sub_of_add_lt, Nat.add_lt_of_lt_sub, Nat.le_sub_of_add_le, Nat.add_le_of_le_sub, Nat.lt_add_of_pos_right, Nat.lt_succ_self, Nat.le_succ, Nat.le_of_lt_succ, Nat.lt_of_le_of_ne, Ne.symm, Nat.lt_irrefl, Nat.not_lt_of_le, Nat.not_le_of_lt, absurd])
    · rw [at_bubble hs (by (solve_by_elim (maxDepth := 4) [Nat.sub_lt_of_lt, Nat.lt_of_lt_of_le, Nat.lt_of_le_of_lt, Nat.le_of_succ_le_succ, Nat.lt_of_succ_lt_succ, Nat.succ_le_succ, Nat.add_le_add_right, Nat.add_lt_add_right, Nat.add_le_add_left, Nat.add_lt_add_left, Nat.sub_le_sub_right, Nat.lt_of_succ_lt, Nat.lt_sub_of_add_lt, Nat.add_lt_of_lt_sub, Nat.le_sub_of_add_le, Nat.add_le_of_le_sub, Nat.lt_add_of_pos_right, Nat.lt_succ_self, Nat.le_succ, Nat.le_of_lt_succ, Nat.lt_of_le_of_ne, Ne.symm, Nat.lt_irrefl, Nat.not_lt_of_le, Nat.not_le_of_lt, absurd])) i, at_bubble hs (by (solve_by_elim (maxDepth := 4) [Nat.sub_lt_of_lt, Nat.lt_of_lt_of_le, Nat.lt_of_le_of_lt, Nat.le_of_succ_le_succ, Nat.lt_of_succ_lt_succ, Nat.succ_le_succ, Nat.add_le_add_right, Nat.add_lt_add_right, Nat.add_le_add_left, Nat.add_lt_add_left, Nat.sub_le_sub_right, Nat.lt_of_succ_lt, Nat.lt_sub_of_add_lt, Nat.add_lt_of_lt_sub, Nat.le_sub_of_add_le, Nat.add_le_of_le_sub, Nat.lt_add_of_pos_right, Nat.lt_succ_self, Nat.le_succ, Nat.le_of_lt_succ, Nat.lt_of_le_of_ne, Ne.symm, Nat.lt_irrefl, Nat.not_lt_of_le, Nat.not_le_of_lt, absurd])) j]
      have hkl : k - (k - l) = l := by lia
      rw [hkl]
      by_cases e1 : i = l
      · rw [if_pos e1, if_neg (by lia), if_pos (by lia)]
        exact .inl (h3 (j - 1) (by lia) (by lia))
      · rw [if_neg e1]
        by_cases e2 : j = l
        · rw [if_pos e2, if_neg (by lia)]
          have h4 := h2 i (by lia)
          rcases (show f (at_ p i) < f (at_ p k) ∨ f (at_ p k) ≤ f (at_ p i) by omega) with h5 | h5
          · exact .inl h5
          · exact .inr ⟨by omega, by rw [ek]; exact I.lo i (by (solve_by_elim (maxDepth := 5) [Nat.lt_of_lt_of_le, Nat.lt_of_le_of_lt, Nat.le_of_lt, Nat.le_trans, Nat.lt_trans, Nat.lt_succ_of_lt, Nat.lt_succ_of_le, Nat.le_succ_of_le, Nat.succ_le_of_lt, Nat.le_refl, Nat.sub_lt, Nat.sub_le, Nat.le_add_right, Nat.le_add_left, Nat.zero_le, Nat.zero_lt_succ, Nat.pos_of_ne_zero, Nat.le_of_lt_succ, Nat.ne_of_lt, Nat.ne_of_gt]))⟩
        · rw [if_neg e2]
          by_cases e3 : l < i
          · rw [if_pos ⟨e3, by lia⟩, if_pos ⟨by (solve_by_elim (maxDepth := 5) [Nat.lt_of_lt_of_le, Nat.lt_of_le_of_lt, Nat.le_of_lt, Nat.le_trans, Nat.lt_trans, Nat.lt_succ_of_lt, Nat.lt_succ_of_le, Nat.le_succ_of_le, Nat.succ_le_of_lt, Nat.le_refl, Nat.sub_lt, Nat.sub_le, Nat.le_add_right, Nat.le_add_left, Nat.zero_le, Nat.zero_lt_succ, Nat.pos_of_ne_zero, Nat.le_of_lt_succ, Nat.ne_of_lt, Nat.ne_of_gt]), by (solve_by_elim (maxDepth := 4) [Nat.sub_lt_of_lt, Nat.lt_of_lt_of_le, Nat.lt_of_le_of_lt, Nat.le_of_succ_le_succ, Nat.lt_of_succ_lt_succ, Nat.succ_le_succ, Nat.add_le_add_right, Nat.add_lt_add_right, Nat.add_le_add_left, Nat.add_lt_add_left, Nat.sub_le_sub_right, Nat.lt_of_succ_lt, Nat.lt_sub_of_add_lt, Nat.add_lt_of_lt_sub, Nat.le_sub_of_add_le, Nat.add_le_of_le_sub, Nat.lt_add_of_pos_right, Nat.lt_succ_self, Nat.le_succ, Nat.le_of_lt_succ, Nat.lt_of_le_of_ne, Ne.symm, Nat.lt_irrefl, Nat.not_lt_of_le, Nat.not_le_of_lt, absurd])⟩]
            exact I.ord _ _ (by omega) (by omega)
          · rw [if_neg (by lia)]
            by_cases e4 : l < j
            · rw [if_pos ⟨e4, by (solve_by_elim (maxDepth := 4) [Nat.sub_lt_of_lt, Nat.lt_of_lt_of_le, Nat.lt_of_le_of_lt, Nat.le_of_succ_le_succ, Nat.lt_of_succ_lt_succ, Nat.succ_le_succ, Nat.add_le_add_right, Nat.add_lt_add_right, Nat.add_le_add_left, Nat.add_lt_add_left, Nat.sub_le_sub_right, Nat.lt_of_succ_lt, Nat.lt_sub_of_add_lt, Nat.add_lt_of_lt_sub, Nat.le_sub_of_add_le, Nat.add_le_of_le_sub, Nat.lt_add_of_pos_right, Nat.lt_succ_self, Nat.le_succ, Nat.le_of_lt_succ, Nat.lt_of_le_of_ne, Ne.symm, Nat.lt_irrefl, Nat.not_lt_of_le, Nat.not_le_of_lt, absurd])⟩]
              exact I.ord _ _ (by lia) (by omega)
            · rw [if_neg (by lia)]
              exact I.ord _ _ hij (by lia)
/-- the sort keeps like ones as they came -/
theorem sort_sp {f : Nat → Int} {N : Nat} (hN : 1 ≤ N) : Sp f N (kas_sort N) (Inv f N N) := by
  refine Sp.bind (Sp.mono (fun r hr => ?_) (count_sp hN))
  obtain ⟨n, p⟩ := r
  dsimp only at hr ⊢
  have h1 := hr.pos
  have h2 := hr.le
  have e : max n 1 = n := by lia
  by_cases h : n < N
  · rw [if_pos h, e]
    exact bin_sp (N - n) n p hr (by lia)
  · rw [if_neg h]
    obtain rfl : n = N := by lia
    exact hr
theorem Inv.list {f : Nat → Int} {N : Nat} {p : Array Nat} (I : Inv f N N p) : p.toList.Perm (List.range N) ∧ p.toList.Pairwise (bef f) := by
  refine ⟨by have := Array.perm_iff_toList_perm.mp I.perm; simpa using this, ?_⟩
  rw [List.pairwise_iff_getElem]
  intro i j hi hj hij
  have hi' : i < p.size := by simpa using hi
  have hj' : j < p.size := by simpa using hj
  have := I.ord i j hij (by rw [← I.sz]; exact hj')
  rw [at_, at_, Array.getD, Array.getD, dif_pos hi', dif_pos hj'] at this
  simpa using this
end Srt
end
section
-- Shs
set_option maxHeartbeats 2000000
section
variable {prog : Program} {w : World} {A : Around} {E : Value → Shared → Prop} {s : Shared} {h₀ : Heap} {L a : Addr} {m : Str → Option Value} {news : List (Addr × Obj)} {vs : List Value}
theorem short_arr (κ : SortKind) {vs : List Value} : (arrOf (SortSt.mk' κ ((List.toArray vs).zip vs.toArray) #[] 7 none)).map (·.2) = vs.toArray := by
  show ((List.toArray vs).zip vs.toArray).map (·.2) = vs.toArray
  apply Array.toList_inj.mp
  simp [List.map_snd_zip]
theorem list_sort_short {n : Nat} {P : PySem.Fin → Shared → Prop} (F : Fr h₀ L s.heap m) (N : News h₀ L s.heap news) (ho : s.heap.get? a = some (seqObj "list" vs.toArray n)) (haL : a ≠ L) (ha0 : h₀.get? a = none) (hna : ∀ p ∈ news, p.1 ≠ a)
    (h1 : vs.length ≤ 1) (h : ∀ c h', Fr h₀ L h' m → News h₀ L h' ((a, lst vs c) :: news) → P (.done (.ret .none)) { s with heap := h' }) :
    wpAny (model prog w) A (Builtin.«list.sort» ⟨[.ref a], []⟩) P E s := by
  have s1 := Heap.SameBut.update s.heap a (Obj.mapSeq fun _ => (#[] : Array Value))
  obtain ⟨e1, ho1⟩ : ∃ e1, (s.heap.update a (Obj.mapSeq fun _ => (#[] : Array Value))).get? a = some (seqObj "list" #[] e1) := ⟨_, get?_update_seq ho fun _ => #[]⟩
  have F3 : Fr h₀ L (((s.heap.update a (Obj.mapSeq fun _ => (#[] : Array Value))).push (seqObj "tuple" vs.toArray 0)).push (seqObj "list" #[] 0)) m := ((kas_fr F s1 haL ha0).push _).push _
  have N3 : News h₀ L (((s.heap.update a (Obj.mapSeq fun _ => (#[] : Array Value))).push (seqObj "tuple" vs.toArray 0)).push (seqObj "list" #[] 0)) news :=
    (kas_news N s1 hna).grown fun b x e => Heap.get?_push_of_some _ (Heap.get?_push_of_some _ e)
  have ha3 := Heap.get?_push_of_some (seqObj "list" #[] 0) (Heap.get?_push_of_some (seqObj "tuple" vs.toArray 0) ho1)
  rw [list_sort_plain]
  refine wpAny_bind (listItems_at ho rfl ?_)
  refine wpAny_bind (listUpdate_at ho rfl ?_ (by rw [List.size_toArray, sizeLine_eq]; omega) (Nat.zero_le _))
  refine wpAny_bind (seqEpoch_at ho1 rfl ?_)
  refine wpAny_bind (wpAny_newTuple ?_ (by show vs.length ≤ _; rw [sizeLine_eq]; omega))
  refine wpAny_bind (wpAny_newList ?_ (Nat.zero_le _))
  refine wpAny_holding ?_
  show wpAny (model prog w) A _ P E { s with heap := ((s.heap.update a (Obj.mapSeq fun _ => (#[] : Array Value))).push (seqObj "tuple" vs.toArray 0)).push (seqObj "list" #[] 0) }
  dsimp only
  have hn2 : vs.toArray.size < 2 := by rw [List.size_toArray]; omega
  rw [if_pos hn2, if_pos hn2]
  refine wpAny_bind (wpAny_pure ?_)
  refine wpAny_bind (wpAny_pure ?_)
  dsimp only
  rw [short_arr]
  have s2 := Heap.SameBut.update (((s.heap.update a (Obj.mapSeq fun _ => (#[] : Array Value))).push (seqObj "tuple" vs.toArray 0)).push (seqObj "list" #[] 0)) a (Obj.mapSeq fun _ => vs.toArray)
  obtain ⟨c2, hc2⟩ : ∃ c2, ((((s.heap.update a (Obj.mapSeq fun _ => (#[] : Array Value))).push (seqObj "tuple" vs.toArray 0)).push (seqObj "list" #[] 0)).update a (Obj.mapSeq fun _ => vs.toArray)).get? a = some (seqObj "list" vs.toArray c2) := ⟨_, get?_update_seq ha3 fun _ => vs.toArray⟩
  refine wpAny_bind (seqEpoch_at ha3 rfl ?_)
  refine wpAny_bind (listUpdate_at ha3 rfl ?_ (Nat.zero_le _) (by rw [List.size_toArray, sizeLine_eq]; omega))
  simp only [bne_self_eq_false, Bool.false_eq_true, if_false]
  refine wpAny_pure (h c2 _ (kas_fr F3 s2 haL ha0) ?_)
  intro p hp
  rcases List.mem_cons.mp hp with rfl | hp
  · exact ⟨hc2, haL, ha0⟩
  · exact ⟨(s2.2 _ (hna p hp)).trans (N3 p hp).1, (N3 p hp).2⟩
theorem sorted_short_ {l : Addr} {Q : Value → Shared → Prop} (F : Fr h₀ L s.heap m) (N : News h₀ L s.heap news) (hl : s.heap.IsList l vs.toArray) (h1 : vs.length ≤ 1)
    (h : ∀ D c h', Fr h₀ L h' m → News h₀ L h' ((D, lst vs c) :: news) → (∀ q ∈ news, q.1 < D) → Q (.ref D) { s with heap := h' }) :
    wpAny (model prog w) A (call (.builtin "sorted") [.ref l]) Q E s := by
  refine Calls.call_function_entry kind_sorted plain_sorted entry_sorted (args_sorted1 _) ?_
  unfold Builtin.«sorted»
  refine wpAny_bind (m := checkCount "sorted" 1 1 _) (wpAny_pure ?_)
  refine wpAny_bind (collect_list hl ?_ (by rw [sizeLine_eq]; omega))
  refine wpAny_bind (wpAny_newList ?_ (by rw [sizeLine_eq]; omega))
  have hsz : ((s.heap.push (seqObj "list" #[] 0)).update s.heap.objs.size (Obj.mapSeq (· ++ vs.toArray))).objs.size = s.heap.objs.size + 1 := by
    rw [Heap.size_update, size_push']
  have hoL : (((s.heap.push (seqObj "list" #[] 0)).update s.heap.objs.size (Obj.mapSeq (· ++ vs.toArray))).push (seqObj "list" vs.toArray 0)).get? (s.heap.objs.size + 1) = some (seqObj "list" vs.toArray 0) := by
    rw [← hsz]; exact Heap.get?_push_size _ rfl
  have keep : ∀ b o, s.heap.get? b = some o → (((s.heap.push (seqObj "list" #[] 0)).update s.heap.objs.size (Obj.mapSeq (· ++ vs.toArray))).push (seqObj "list" vs.toArray 0)).get? b = some o := fun b o q => by
    have hlt : b < s.heap.objs.size := Heap.lt_size q
    rw [Heap.get?_push_ne _ _ _ (by rw [hsz]; exact Nat.ne_of_lt (Nat.lt_succ_of_lt hlt)), Heap.get?_update_ne _ _ _ _ (Nat.ne_of_lt hlt), Heap.get?_push_ne _ _ _ (Nat.ne_of_lt hlt)]
    exact q
  have hL : L < s.heap.objs.size := F.ns.lt
  show wpAny _ _ _ _ _ { s with heap := ((s.heap.push (seqObj "list" #[] 0)).update s.heap.objs.size (Obj.mapSeq (· ++ vs.toArray))).push (seqObj "list" vs.toArray 0) }
  rw [hsz]
  refine wpAny_bind (wpAny_holding (wpAny_call_entry slot_list_sort ⟨_, hoL, rfl⟩ entry_list_sort ?body (args_list_sort _)))
  case body =>
    refine list_sort_short (s := { s with heap := ((s.heap.push (seqObj "list" #[] 0)).update s.heap.objs.size (Obj.mapSeq (· ++ vs.toArray))).push (seqObj "list" vs.toArray 0) })
      (F.kept keep) (N.grown keep) hoL (Nat.ne_of_gt (Nat.lt_succ_of_lt hL)) (Heap.get?_none_of_le (Nat.le_trans F.above (Nat.le_succ_of_le (Nat.le_of_lt hL))))
      (fun p hp => Nat.ne_of_lt (Nat.lt_succ_of_lt (Heap.lt_size (N p hp).1))) h1 fun c h' F' N' => ?_
    exact ⟨_, rfl, wpAny_pure ⟨_, rfl, h _ c h' F' N' fun q hq => Nat.lt_succ_of_lt (Heap.lt_size (N q hq).1)⟩⟩
end
end
section
-- Srl
set_option maxHeartbeats 2000000
/-- the order of nums, one behind the other -/
noncomputable def lexLt : List Int → List Int → Bool
  | x :: r, y :: t => if x = y then lexLt r t else decide (x < y)
  | _, _ => false
section
variable {prog : Program} {w : World} {A : Around} {s : Shared} {b : Bool} {Q : Bool → Shared → Prop}
theorem eqBool_self {E : Value → Shared → Prop} {a : Addr} (h : Q true s) : wpAny (model prog w) A (eqBool (.ref a) (.ref a)) Q E s := by
  unfold eqBool
  refine wpAny_holding ?_
  have : (Value.ref a == Value.ref a) = true := by simp
  rw [if_pos this]
  exact wpAny_bind (wpAny_rule (wpAny_pure h))
theorem katLex_tail : ∀ (tl : List Addr) {i : Nat}, Q false s → KatLex prog w A b false Q ((tl.map Value.ref).zip (tl.map Value.ref)) i s
  | [], _, h => kat_nil h
  | a :: r, i, h => by
    refine kat_cons (eqBool_self ?_)
    exact kat_yes (katLex_tail r h)
theorem katLex_ints {xs ys : List Value} {ns ms : List Int} {tl tl' : List Addr} {i : Nat} (hx : IntsAre xs ns) (hy : IntsAre ys ms) (hl : ns.length = ms.length) (ht : ns = ms → tl = tl') (h : Q (lexLt ns ms) s) :
    KatLex prog w A b false Q ((xs ++ tl.map Value.ref).zip (ys ++ tl'.map Value.ref)) i s := by
  induction hx generalizing ys ms i with
  | nil =>
    cases hy with
    | nil =>
      rw [← ht rfl]
      exact katLex_tail tl h
    | cons => cases hl
  | cons x t hr ih =>
    cases hy with
    | nil => cases hl
    | cons y u hq =>
      refine kat_cons (wpAny_eqBool_int ?_)
      by_cases e : x = y
      · subst e
        have e1 : (x == x) = true := by simp
        rw [e1]
        unfold lexLt at h
        rw [if_pos rfl] at h
        exact kat_yes (ih hq (Nat.succ.inj hl) (fun e => ht (by rw [e])) h)
      · have e1 : (x == y) = false := by simp [e]
        rw [e1]
        unfold lexLt at h
        rw [if_neg e] at h
        refine kat_no ?_
        cases hb : (b && i == 0) with
        | true => exact oneLt_int h
        | false => exact kat_one _ _ (PyProof.Rows.lt_int h)
end
/-- a tuple of nums first, then of other things -/
structure TupI (news : List (Addr × Obj)) (v : Value) (ns : List Int) (tl : List Addr) : Prop where
  at_ : ∃ a xs n, v = .ref a ∧ (a, tupObj (xs ++ tl.map Value.ref) n) ∈ news ∧ IntsAre xs ns
theorem TupI.mono {news news' : List (Addr × Obj)} {v : Value} {ns : List Int} {tl : List Addr} (h : TupI news v ns tl) (hs : ∀ q ∈ news, q ∈ news') : TupI news' v ns tl := by
  obtain ⟨a, xs, n, e, hm, hi⟩ := h.at_
  exact ⟨a, xs, n, e, hs _ hm, hi⟩
section
variable {prog : Program} {w : World} {A : Around} {E : Value → Shared → Prop} {s : Shared} {h₀ : Heap} {L : Addr} {m : Str → Option Value} {news : List (Addr × Obj)} {ι : Type} {val : ι → Value} {nums : ι → List Int} {tl : ι → List Addr} {rank : ι → Int}
theorem pw_short {α : Type} {R : α → α → Prop} {l : List α} (h : ¬ 2 ≤ l.length) : l.Pairwise R :=
  match l, h with
  | [], _ => .nil
  | [_], _ => List.pairwise_singleton ..
  | _ :: _ :: _, h => absurd (Nat.le_add_left 2 _) h
theorem perm_short {α : Type} {l k : List α} (h : ¬ 2 ≤ l.length) (p : k.Perm l) : k = l :=
  match l, h, p with
  | [], _, p => p.eq_nil
  | [_], _, p => List.perm_singleton.mp p
  | _ :: _ :: _, h, _ => absurd (Nat.le_add_left 2 _) h
theorem tups_kat {x0 : Int} {l : List ι} (N : News h₀ L s.heap news) (h : ∀ x ∈ l, TupI news (val x) (nums x) (tl x) ∧ ∃ y r, nums x = y :: r) : ∃ fs : List Value, KatTups s.heap (l.map val) fs ∧ fs.length = l.length ∧ ∀ v ∈ fs, ∃ k t, v = .int k t := by
  induction l with
  | nil => exact ⟨[], .nil, rfl, fun _ h => absurd h (List.not_mem_nil)⟩
  | cons x r ih =>
    obtain ⟨fs, h1, h2, h3⟩ := ih (fun y hy => h y (List.mem_cons_of_mem _ hy))
    obtain ⟨⟨a, xs, n, e, hm, hi⟩, y, q, hy⟩ := h x (List.mem_cons_self ..)
    rw [hy] at hi
    cases hi with
    | cons k t hr =>
      refine ⟨.int y t :: fs, ?_, by simp [h2], fun v hv => ?_⟩
      · rw [List.map_cons, e]
        exact .cons (N.get hm) rfl rfl (by simp) h1
      · rcases List.mem_cons.mp hv with rfl | hv
        · exact ⟨_, _, rfl⟩
        · exact h3 v hv
/-- the list in order, like ones as they came -/
theorem sorted_tups {l : List ι} {a : Addr} {c : Nat} {Q : Value → Shared → Prop} (F : Fr h₀ L s.heap m) (N : News h₀ L s.heap news) (hm : (a, lst (l.map val) c) ∈ news)
    (hx : ∀ x ∈ l, TupI news (val x) (nums x) (tl x) ∧ ∃ y r, nums x = y :: r) (hlen : ∀ x ∈ l, ∀ y ∈ l, (nums x).length = (nums y).length) (htn : ∀ x ∈ l, ∀ y ∈ l, (tl x).length = (tl y).length) (htl : ∀ x ∈ l, ∀ y ∈ l, nums x = nums y → tl x = tl y) (hr : ∀ x ∈ l, ∀ y ∈ l, lexLt (nums x) (nums y) = decide (rank x < rank y))
    (h64 : l.length < 64)
    (h : ∀ D c h' (o : List ι), o.Perm l → o.Pairwise (fun x y => rank x ≤ rank y) → Fr h₀ L h' m → News h₀ L h' ((D, lst (o.map val) c) :: news) → (∀ q ∈ news, q.1 < D) → Q (.ref D) { s with heap := h' }) :
    wpAny (model prog w) A (call (.builtin "sorted") [.ref a]) Q E s := by
  have hl := News.isList N hm
  by_cases h2 : 2 ≤ l.length
  · refine kat_sorted F N hl (by rw [List.length_map]; exact h2) (by rw [List.length_map]; exact h64) fun D e1 h' F' N' hD => ?_
    have hx' : ∀ x ∈ l, TupI ((D, seqObj "list" #[] e1) :: news) (val x) (nums x) (tl x) ∧ ∃ y r, nums x = y :: r := fun x hxl => ⟨(hx x hxl).1.mono fun q hq => List.mem_cons_of_mem _ hq, (hx x hxl).2⟩
    obtain ⟨fs, t1, t2, t3⟩ := tups_kat (s := { s with heap := h' }) (x0 := 0) N' hx'
    refine kat_kind (T := .type "int") t1 (by lia) (fun v hv => ?_) (by simp) ?_
    · obtain ⟨k, t, rfl⟩ := t3 v hv
      exact Looks.of_pure (by rfl)
    have d : ι := l[0]'(by lia)
    have sp := Srt.sort_sp (f := fun i => rank (l.getD i d)) (N := l.length) (by lia)
    rw [List.length_map]
    refine Srt.Sp.wp (fun i j C hi hj hC => ?_) sp (fun p hp => ?_)
    · unfold kas_ask
      have ei : (l.map val).getD i Value.none = val (l.getD i d) := by
        rw [List.getD_eq_getElem?_getD, List.getD_eq_getElem?_getD, List.getElem?_map, List.getElem?_eq_getElem hi]; rfl
      have ej : (l.map val).getD j Value.none = val (l.getD j d) := by
        rw [List.getD_eq_getElem?_getD, List.getD_eq_getElem?_getD, List.getElem?_map, List.getElem?_eq_getElem hj]; rfl
      have mi : l.getD i d ∈ l := by rw [List.getD_eq_getElem?_getD, List.getElem?_eq_getElem hi]; exact List.getElem_mem _
      have mj : l.getD j d ∈ l := by rw [List.getD_eq_getElem?_getD, List.getElem?_eq_getElem hj]; exact List.getElem_mem _
      rw [ei, ej]
      obtain ⟨a1, x1, n1, e1', m1, i1⟩ := (hx' _ mi).1.at_
      obtain ⟨a2, x2, n2, e2', m2, i2⟩ := (hx' _ mj).1.at_
      rw [e1', e2']
      refine kat_lt (N'.get m1) rfl (N'.get m2) rfl ?_
      have hsz : decide ((x1 ++ (tl (l.getD i d)).map Value.ref).toArray.size < (x2 ++ (tl (l.getD j d)).map Value.ref).toArray.size) = false := by
        have l1 := i1.length
        have l2 := i2.length
        have l3 := hlen _ mi _ mj
        have l4 := htn _ mi _ mj
        apply decide_eq_false
        simp only [List.size_toArray, List.length_append, List.length_map]
        lia
      rw [List.toList_toArray, List.toList_toArray, hsz]
      rw [← hr _ mi _ mj] at hC
      exact katLex_ints i1 i2 (hlen _ mi _ mj) (htl _ mi _ mj) hC
    · obtain ⟨hp1, hp2⟩ := hp.list
      have hget : ∀ i ∈ p.toList, i < l.length := fun i hi => List.mem_range.mp (hp1.mem_iff.mp hi)
      have e : (p.toList.map fun i => (l.map val).getD i Value.none) = (p.toList.map fun i => l.getD i d).map val := by
        rw [List.map_map]
        refine List.map_congr_left fun i hi => ?_
        have := hget i hi
        show (l.map val).getD i Value.none = val (l.getD i d)
        rw [List.getD_eq_getElem?_getD, List.getD_eq_getElem?_getD, List.getElem?_map, List.getElem?_eq_getElem this]; rfl
      rw [e]
      refine KasFin.intro F' N' (UpdF.head fun q hq => Nat.ne_of_lt (hD q hq)) fun h2' c F2 N2 => ?_
      refine h D c h2' _ ?_ ?_ F2 N2 hD
      · have : (List.range l.length).map (fun i => l.getD i d) = l := by
          apply List.ext_getElem
          · simp
          · intro i h1 h2
            simp only [List.length_map, List.length_range] at h1
            simp [List.getElem?_eq_getElem h1]
        exact (hp1.map _).trans (List.Perm.of_eq this)
      · refine List.pairwise_map.mpr (hp2.imp fun {i j} hb => ?_)
        unfold Srt.bef at hb
        dsimp only at hb
        lia
  · refine sorted_short_ F N hl (by rw [List.length_map]; (solve_by_elim (maxDepth := 4) [Int.lt_of_lt_of_le, Int.lt_of_le_of_lt, Int.le_of_lt, Int.le_trans, Int.lt_trans, Int.le_refl, Int.not_lt.mp, Int.not_le.mp, Int.le_antisymm, Nat.le_antisymm, Nat.not_lt.mp, Nat.not_le.mp, Nat.le_of_lt, Nat.lt_of_le_of_ne, Nat.lt_of_not_le, Nat.le_of_not_lt, Int.ofNat_nonneg, Int.lt_of_not_ge, Eq.symm, Int.le_of_eq, Nat.le_of_eq])) fun D c h' F' N' hD => ?_
    exact h D c h' l (List.Perm.refl _) (pw_short h2) F' N' hD
end
section
variable {prog : Program} {w : World} {A : Around} {E : Value → Shared → Prop} {s : Shared} {h₀ : Heap} {L : Addr} {m : Str → Option Value} {news : List (Addr × Obj)} {val : Nat → Value} {lev : Nat → Int}
theorem intsAre_at {vs : List Value} {ns : List Int} (h : IntsAre vs ns) : ∀ {i : Nat} {k : Int}, ns[i]? = some k → ∃ t, vs[i]? = some (.int k t) := by
  induction h with
  | nil => intro i k h; simp at h
  | cons x t r ih =>
    intro i k h
    cases i with
    | zero => exact ⟨t, by simpa using h⟩
    | succ i => simpa using ih (by simpa using h)
theorem intsAre_mem {vs : List Value} {ns : List Int} (h : IntsAre vs ns) : ∀ {v : Value}, v ∈ vs → ∃ k t, v = .int k t := by
  induction h with
  | nil => intro v h; exact absurd h (List.not_mem_nil)
  | cons x t r ih =>
    intro v h
    rcases List.mem_cons.mp h with rfl | h
    · exact ⟨_, _, rfl⟩
    · exact ih h
/-- the order of the line: by level, like ones as they came -/
noncomputable def lineLt (lev : Nat → Int) (i j : Nat) : Prop := lev i < lev j ∨ (lev i = lev j ∧ i < j)
theorem katKeys_all {f : Value} {kS D : Addr} {e1 : Nat} {Fin : List Value → Nat → Shared → Prop} (hkD : D ≠ kS) (hD : ∀ q ∈ news, q.1 ≠ kS)
    {r₀ : List Nat} (turn : ∀ k h tk own, k ∈ r₀ → Fr h₀ L h m → News h₀ L h (news ++ own) → wpAny (model prog w) A (call f [val k]) (fun v s₂ => ∃ h' tk' t, s₂ = { s with heap := h', toks := tk' } ∧ v = .int (lev k) t ∧ Fr h₀ L h' m ∧ News h₀ L h' (news ++ own)) (fun _ _ => False) { s with heap := h, toks := tk }) :
    ∀ (r : List Nat) (ks : List Value) (ns : List Int) (e : Nat) (h : Heap) (tk : Nat), (∀ k ∈ r, k ∈ r₀) → IntsAre ks ns → Fr h₀ L h m → News h₀ L h (news ++ [(kS, seqObj "list" (List.toArray ks) e), (D, seqObj "list" #[] e1)]) →
      (∀ ks' e' h' tk', IntsAre ks' (ns ++ r.map lev) → Fr h₀ L h' m → News h₀ L h' (news ++ [(kS, seqObj "list" (List.toArray ks') e'), (D, seqObj "list" #[] e1)]) → Fin ks' e' { s with heap := h', toks := tk' }) →
      KatKeys prog w A h₀ L m kS f Fin (r.map val) ks e { s with heap := h, toks := tk } := by
  intro r
  induction r with
  | nil => exact fun ks ns e h tk _ hi F N fin => KatKeys.nil (fin ks e h tk (by simpa using hi) F N)
  | cons k r ih =>
    intro ks ns e h tk hsub hi F N fin
    refine KatKeys.cons (wpAny_mono (turn k h tk _ (hsub k (List.mem_cons_self ..)) F N) (fun v s₂ hv => ?_) fun _ _ x => x)
    obtain ⟨h', tk', t, rfl, rfl, F', N'⟩ := hv
    have N'' : News h₀ L h' ((kS, seqObj "list" (List.toArray ks) e) :: (D, seqObj "list" #[] e1) :: news) := fun q hq => N' q (by
      simp only [List.mem_cons, List.mem_append, List.not_mem_nil, or_false] at hq ⊢
      rcases hq with h | h | h <;> simp [h])
    refine KatBack.intro F' N'' (UpdF.head fun q hq => ?_) fun h2 c F2 N2 => ?_
    · rcases List.mem_cons.mp hq with rfl | hq
      · exact hkD
      · exact hD q hq
    · refine ih (ks ++ [.int (lev k) t]) (ns ++ [lev k]) c h2 tk' (fun x hx => hsub x (List.mem_cons_of_mem _ hx)) (hi.append (.cons _ _ .nil)) F2 (fun q hq => N2 q (by
        simp only [List.mem_cons, List.mem_append, List.not_mem_nil, or_false] at hq ⊢
        rcases hq with h | h | h <;> simp [h])) ?_
      intro ks' e' h3 tk3 hi' F3 N3
      exact fin ks' e' h3 tk3 (by simpa using hi') F3 N3
theorem sorted_line {ks : List Nat} {a q : Addr} {c : Nat} {Q : Value → Shared → Prop} (F : Fr h₀ L s.heap m) (N : News h₀ L s.heap news) (hm : (a, lst (ks.map val) c) ∈ news) (hinc : ks.Pairwise (· < ·)) (h64 : ks.length < 64)
    (turn : ∀ k h tk own, Fr h₀ L h m → News h₀ L h (news ++ own) → k ∈ ks → wpAny (model prog w) A.in1.in1 (call (.ref q) [val k]) (fun v s₂ => ∃ h' tk' t, s₂ = { s with heap := h', toks := tk' } ∧ v = .int (lev k) t ∧ Fr h₀ L h' m ∧ News h₀ L h' (news ++ own)) (fun _ _ => False) { s with heap := h, toks := tk })
    (h : ∀ D c h' tk' (o : List Nat), o.Perm ks → o.Pairwise (lineLt lev) → Fr h₀ L h' m → News h₀ L h' ((D, lst (o.map val) c) :: news) → (∀ r ∈ news, r.1 < D) → Q (.ref D) { s with heap := h', toks := tk' }) :
    wpAny (model prog w) A (call (.builtin "sorted") [.ref a] [(Str.ofString "key", .ref q)]) Q E s := by
  have hl := News.isList N hm
  by_cases h2 : 2 ≤ ks.length
  · refine kat_sortedK (b := false) F N hl (by rw [List.length_map]; exact h2) (by rw [List.length_map]; exact h64) (ksk_s1 _ _) (fun x => ksk_l1 _ _) (fun x => ksk_t1 q x) fun D kS e1 h' F' N' hDk hD => ?_
    have hDk' : D ≠ kS := fun e => Nat.lt_irrefl _ (e ▸ hDk)
    refine katKeys_all (news := news) (kS := kS) (D := D) (e1 := e1) (r₀ := ks) (lev := lev) hDk' (fun r hr e => ?_) (fun k h2 tk own hk F2 N2 => turn k h2 tk own F2 N2 hk) ks [] [] 0 h' s.toks (fun k hk => hk) .nil F' (fun r hr => N' r ?_) ?_
    · have e1' : r.1 < kS := Nat.lt_trans (hD r hr) hDk
      rw [e] at e1'
      exact Nat.lt_irrefl _ e1'
    · simp only [List.mem_cons, List.mem_append, List.not_mem_nil, or_false] at hr ⊢
      rcases hr with h | h | h <;> simp [h]
    intro vs' e' h3 tk3 hi F3 N3
    rw [List.nil_append] at hi
    have hvl := hi.length
    rw [List.length_map] at hvl
    have vat : ∀ i, i < ks.length → ∃ t, vs'.getD i Value.none = .int (lev (ks.getD i 0)) t := fun i hi' => by
      obtain ⟨t, ht⟩ := intsAre_at hi (i := i) (k := lev (ks.getD i 0)) (by rw [List.getElem?_map, List.getElem?_eq_getElem hi', List.getD_eq_getElem?_getD, List.getElem?_eq_getElem hi']; rfl)
      exact ⟨t, by rw [List.getD_eq_getElem?_getD, ht]; rfl⟩
    refine kas_kind (T := .type "int") (by lia) (fun v hv => ?_) (by decide) (by simp) ?_
    · obtain ⟨k, t, rfl⟩ := intsAre_mem hi hv
      exact Looks.of_pure (by rfl)
    rw [List.length_map]
    have sp := Srt.sort_sp (f := fun i => lev (ks.getD i 0)) (N := ks.length) (by lia)
    refine Srt.Sp.wp (fun i j C hi' hj' hC => ?_) sp (fun p hp => ?_)
    · unfold kas_ask
      obtain ⟨t, e1'⟩ := vat i hi'
      obtain ⟨u, e2'⟩ := vat j hj'
      show wpAny _ _ (keyLt' oneType' (vs'.getD i Value.none) (vs'.getD j Value.none)) _ _ _
      rw [e1', e2']
      exact kat_lt_int hC
    · obtain ⟨hp1, hp2⟩ := hp.list
      have hget : ∀ i ∈ p.toList, i < ks.length := fun i hi => List.mem_range.mp (hp1.mem_iff.mp hi)
      have e : (p.toList.map fun i => (ks.map val).getD i Value.none) = (p.toList.map fun i => ks.getD i 0).map val := by
        rw [List.map_map]
        refine List.map_congr_left fun i hi => ?_
        have := hget i hi
        show (ks.map val).getD i Value.none = val (ks.getD i 0)
        rw [List.getD_eq_getElem?_getD, List.getD_eq_getElem?_getD, List.getElem?_map, List.getElem?_eq_getElem this]; rfl
      show KatFin h₀ L m kS D vs' e' e1 (p.toList.map fun i => (ks.map val).getD i Value.none) _ _
      rw [e]
      have N4 : News h₀ L h3 ((kS, seqObj "list" (List.toArray vs') e') :: (D, seqObj "list" #[] e1) :: news) := fun r hr => N3 r (by
        simp only [List.mem_cons, List.mem_append, List.not_mem_nil, or_false] at hr ⊢
        rcases hr with h | h | h <;> simp [h])
      refine KatFin.intro F3 N4 (UpdF.head fun r hr => ?_) fun h4 c4 F4 N5 => ?_
      · rcases List.mem_cons.mp hr with rfl | hr
        · exact hDk'
        · intro e
          have e1' : r.1 < kS := Nat.lt_trans (hD r hr) hDk
          rw [e] at e1'
          exact Nat.lt_irrefl _ e1'
      refine KasFin.intro F4 (fun r hr => N5 r (List.mem_cons_of_mem _ hr)) (UpdF.head fun r hr => Nat.ne_of_lt (hD r hr)) fun h5 c5 F5 N6 => ?_
      refine h D c5 h5 tk3 _ ?_ ?_ F5 N6 hD
      · have : (List.range ks.length).map (fun i => ks.getD i 0) = ks := by
          apply List.ext_getElem
          · simp
          · intro i h1 h2
            simp only [List.length_map, List.length_range] at h1
            simp [List.getElem?_eq_getElem h1]
        exact (hp1.map _).trans (List.Perm.of_eq this)
      · refine List.pairwise_map.mpr ?_
        refine hp2.imp_of_mem fun {i j} hi hj hb => ?_
        unfold Srt.bef at hb
        dsimp only at hb
        have hi' := hget i hi
        have hj' := hget j hj
        rcases hb with hb | ⟨hb, hb'⟩
        · exact .inl hb
        · refine .inr ⟨hb, ?_⟩
          rw [List.getD_eq_getElem?_getD, List.getD_eq_getElem?_getD, List.getElem?_eq_getElem hi', List.getElem?_eq_getElem hj']
          exact List.pairwise_iff_getElem.mp hinc i j hi' hj' hb'
  · refine ksk_sorted (b := false) (kz := ks.map lev) F N hl (by simp) (by rw [List.length_map]; exact h64) (ksk_s1 _ _) (fun x => ksk_l1 _ _) (fun x => ksk_t1 q x) (fun i v k hv hk h' tk own F' N' => ?_) fun D h' tk out c F' N' hD ko => ?_
    · rw [List.getElem?_map] at hv hk
      cases e : ks[i]? with
      | none => rw [e] at hv; cases hv
      | some z =>
        rw [e] at hv hk
        obtain rfl := Option.some.inj hv
        obtain rfl := Option.some.inj hk
        refine wpAny_mono (turn z h' tk own F' N' (List.mem_of_getElem? e)) (fun v s₂ hv' => ?_) fun _ _ x => x
        obtain ⟨h2, tk2, t, rfl, rfl, F2, N2⟩ := hv'
        exact KskEnd.intro F2 N2 (fun p hp => hp)
    · have ho : out.toList = ks.map val := by
        obtain ⟨ps, h1, h2', _⟩ := ko
        rw [h2', perm_short (by simpa using h2) h1]
        exact List.map_snd_zip (by simp)
      have hout : out = (ks.map val).toArray := by rw [← ho]
      subst hout
      exact h D c h' tk ks (List.Perm.refl _) (pw_short h2) F' N' hD
end
end
section
-- Tlt
open Builtin Builtin.Tuple
set_option maxHeartbeats 2000000
theorem lexLt_self : ∀ l : List Int, lexLt l l = false
  | [] => rfl
  | x :: r => by unfold lexLt; rw [if_pos rfl]; exact lexLt_self r
theorem lexLt_eq (x : Int) (r t : List Int) : lexLt (x :: r) (x :: t) = lexLt r t := by
  conv => lhs; unfold lexLt
  rw [if_pos rfl]
theorem lexLt_ne {x y : Int} (h : ¬ x = y) (r t : List Int) : lexLt (x :: r) (y :: t) = decide (x < y) := by
  conv => lhs; unfold lexLt
  rw [if_neg h]
section
variable {prog : Program} {w : World} {A : Around} {E : Value → Shared → Prop} {s : Shared} {h₀ : Heap} {L : Addr} {news : List (Addr × Obj)}
theorem tup_typeIs {a : Addr} {l : List Value} {n : Nat} (ho : s.heap.get? a = some (tupObj l n)) : s.TypeIs (.ref a) "tuple" := ⟨_, ho, rfl⟩
/-- the items that are left, pairwise -/
inductive LI (f : List Int → List Int → Bool) (c : Bool) : List (Value × Value) → Prop
  | mk (xs ys : List Value) (ns ms : List Int) (t u : List Addr) (hx : IntsAre xs ns) (hy : IntsAre ys ms) (hl : ns.length = ms.length) (ht : ns = ms → t = u) (hlex : f ns ms = c) : LI f c (List.zip (xs ++ t.map Value.ref) (ys ++ u.map Value.ref))
theorem tuple_lt_tree {a b : Addr} {xs ys : List Value} {ns ms : List Int} {t u : List Addr} {n k : Nat} {P : Fin → Shared → Prop} (ha : s.heap.get? a = some (tupObj (xs ++ t.map Value.ref) n)) (hb : s.heap.get? b = some (tupObj (ys ++ u.map Value.ref) k))
    (hi : IntsAre xs ns) (hj : IntsAre ys ms) (hl : ns.length = ms.length) (htl : t.length = u.length) (ht : ns = ms → t = u) (h : P (.done (.ret (.bool (lexLt ns ms)))) s) :
    wpAny (model prog w) A (Builtin.«tuple.__lt__» ⟨[.ref a, .ref b], []⟩) P E s := by
  have hTb := tup_typeIs hb
  show wpAny _ _ (isInstance (.ref b) (.type "tuple") >>= _) _ _ s
  refine wpAny_bind (wpAny_isInstance hTb isSubtype_tuple_tuple ?_)
  simp only [Bool.not_true, Bool.false_eq_true, if_false]
  refine wpAny_bind (wpAny_tupleItemsOf ha rfl ?_)
  refine wpAny_bind (wpAny_tupleItemsOf hb rfl ?_)
  refine wpAny_bind ?_
  refine wpAny_forIn_list _
    (fun rest r s' => r.1 = none ∧ s' = s ∧ LI lexLt (lexLt ns ms) rest)
    _ ?_ ?_ _ _ ⟨rfl, rfl, ?ini⟩
  case ini =>
    refine (congrArg (LI _ _) ?e).mp (LI.mk xs ys ns ms t u hi hj hl ht rfl)
    simp
  · rintro ⟨p, q⟩ rest r s' ⟨hr, rfl, hI⟩
    generalize hz : (p, q) :: rest = z at hI
    cases hI with
    | mk xs' ys' ns' ms' t' u' hx hy hl' ht' hlex =>
    cases hx with
    | nil =>
      cases hy with
      | nil =>
        obtain rfl := ht' rfl
        cases t' with
        | nil => simp at hz
        | cons c t' =>
          simp only [List.nil_append, List.map_cons, List.zip_cons_cons, List.cons.injEq, Prod.mk.injEq] at hz
          obtain ⟨⟨rfl, rfl⟩, rfl⟩ := hz
          refine wpAny_bind (eqBool_self ?_)
          simp only [Bool.not_true, Bool.false_eq_true, if_false]
          exact wpAny_pure ⟨rfl, rfl, .mk [] [] [] [] t' t' .nil .nil rfl (fun _ => rfl) hlex⟩
      | cons _ _ _ => simp at hl'
    | cons x tx hx' =>
      cases hy with
      | nil => simp at hl'
      | cons y ty hy' =>
        rename_i vs1 ns1 vs2 ns2
        simp only [List.cons_append, List.zip_cons_cons, List.cons.injEq, Prod.mk.injEq] at hz
        obtain ⟨⟨rfl, rfl⟩, rfl⟩ := hz
        refine wpAny_bind (wpAny_eqBool_int ?_)
        by_cases e : x = y
        · subst e
          have e1 : (x == x) = true := by simp
          rw [e1]
          simp only [Bool.not_true, Bool.false_eq_true, if_false]
          refine wpAny_pure ⟨rfl, rfl, .mk vs1 vs2 ns1 ns2 t' u' hx' hy' (Nat.succ.inj hl') (fun e => ht' (by rw [e])) ((lexLt_eq ..).symm.trans hlex)⟩
        · have e1 : (x == y) = false := by simp [e]
          rw [e1]
          simp only [Bool.not_false, if_true]
          have e2 : lexLt ns ms = decide (x < y) := hlex.symm.trans (lexLt_ne e ..)
          rw [e2] at h
          exact wpAny_bind (wpAny_rule (wpAny_bind (wpAny_mono (PyProof.Rows.lt_int (Q := fun v s2 => v = .bool (decide (x < y)) ∧ s2 = s') ⟨rfl, rfl⟩) (fun v s2 hv => by obtain ⟨rfl, rfl⟩ := hv; exact wpAny_bind (wpAny_pure (wpAny_pure (wpAny_pure h)))) fun _ _ x => x)))
  · rintro ⟨r1, r2⟩ s' ⟨hr, rfl, hI⟩
    generalize hz : [] = z at hI
    cases hI with
    | mk xs' ys' ns' ms' t' u' hx hy hl' ht' hlex =>
    simp only at hr
    subst hr
    refine wpAny_pure ?_
    have hns : lexLt ns ms = false := by
      rw [← hlex]
      cases hx with
      | nil => cases hy with
        | nil => rfl
        | cons _ _ _ => simp at hl'
      | cons _ _ _ => cases hy with
        | nil => simp at hl'
        | cons _ _ _ => simp at hz
    rw [hns] at h
    have hsz : tupleCompareSizes .Lt (xs ++ t.map Value.ref).toArray.size (ys ++ u.map Value.ref).toArray.size = .bool false := by
      have l1 := hi.length
      have l2 := hj.length
      have e : (xs ++ t.map Value.ref).toArray.size = (ys ++ u.map Value.ref).toArray.size := by
        simp only [List.size_toArray, List.length_append, List.length_map]; omega
      rw [e]
      show Value.bool (decide _) = _
      simp
    show P (.done (.ret (tupleCompareSizes .Lt (xs ++ t.map Value.ref).toArray.size (ys ++ u.map Value.ref).toArray.size))) s'
    rw [hsz]; exact h
theorem tuple_gt_tree {a b : Addr} {xs ys : List Value} {ns ms : List Int} {t u : List Addr} {n k : Nat} {P : Fin → Shared → Prop} (ha : s.heap.get? a = some (tupObj (xs ++ t.map Value.ref) n)) (hb : s.heap.get? b = some (tupObj (ys ++ u.map Value.ref) k))
    (hi : IntsAre xs ns) (hj : IntsAre ys ms) (hl : ns.length = ms.length) (htl : t.length = u.length) (ht : ns = ms → t = u) (h : P (.done (.ret (.bool (lexLt ms ns)))) s) :
    wpAny (model prog w) A (Builtin.«tuple.__gt__» ⟨[.ref a, .ref b], []⟩) P E s := by
  have hTb := tup_typeIs hb
  show wpAny _ _ (isInstance (.ref b) (.type "tuple") >>= _) _ _ s
  refine wpAny_bind (wpAny_isInstance hTb isSubtype_tuple_tuple ?_)
  simp only [Bool.not_true, Bool.false_eq_true, if_false]
  refine wpAny_bind (wpAny_tupleItemsOf ha rfl ?_)
  refine wpAny_bind (wpAny_tupleItemsOf hb rfl ?_)
  refine wpAny_bind ?_
  refine wpAny_forIn_list _
    (fun rest r s' => r.1 = none ∧ s' = s ∧ LI (fun a b => lexLt b a) (lexLt ms ns) rest)
    _ ?_ ?_ _ _ ⟨rfl, rfl, ?ini⟩
  case ini =>
    refine (congrArg (LI _ _) ?e).mp (LI.mk xs ys ns ms t u hi hj hl ht rfl)
    simp
  · rintro ⟨p, q⟩ rest r s' ⟨hr, rfl, hI⟩
    generalize hz : (p, q) :: rest = z at hI
    cases hI with
    | mk xs' ys' ns' ms' t' u' hx hy hl' ht' hlex =>
    cases hx with
    | nil =>
      cases hy with
      | nil =>
        obtain rfl := ht' rfl
        cases t' with
        | nil => simp at hz
        | cons c t' =>
          simp only [List.nil_append, List.map_cons, List.zip_cons_cons, List.cons.injEq, Prod.mk.injEq] at hz
          obtain ⟨⟨rfl, rfl⟩, rfl⟩ := hz
          refine wpAny_bind (eqBool_self ?_)
          simp only [Bool.not_true, Bool.false_eq_true, if_false]
          exact wpAny_pure ⟨rfl, rfl, .mk [] [] [] [] t' t' .nil .nil rfl (fun _ => rfl) hlex⟩
      | cons _ _ _ => simp at hl'
    | cons x tx hx' =>
      cases hy with
      | nil => simp at hl'
      | cons y ty hy' =>
        rename_i vs1 ns1 vs2 ns2
        simp only [List.cons_append, List.zip_cons_cons, List.cons.injEq, Prod.mk.injEq] at hz
        obtain ⟨⟨rfl, rfl⟩, rfl⟩ := hz
        refine wpAny_bind (wpAny_eqBool_int ?_)
        by_cases e : x = y
        · subst e
          have e1 : (x == x) = true := by simp
          rw [e1]
          simp only [Bool.not_true, Bool.false_eq_true, if_false]
          refine wpAny_pure ⟨rfl, rfl, .mk vs1 vs2 ns1 ns2 t' u' hx' hy' (Nat.succ.inj hl') (fun e => ht' (by rw [e])) ((lexLt_eq ..).symm.trans hlex)⟩
        · have e1 : (x == y) = false := by simp [e]
          rw [e1]
          simp only [Bool.not_false, if_true]
          have e2 : lexLt ms ns = decide (y < x) := hlex.symm.trans (lexLt_ne (Ne.symm e) ..)
          rw [e2] at h
          exact wpAny_bind (wpAny_rule (wpAny_bind (wpAny_mono (PyProof.Rows.gt_int (Q := fun v s2 => v = .bool (decide (y < x)) ∧ s2 = s') ⟨rfl, rfl⟩) (fun v s2 hv => by obtain ⟨rfl, rfl⟩ := hv; exact wpAny_bind (wpAny_pure (wpAny_pure (wpAny_pure h)))) fun _ _ x => x)))
  · rintro ⟨r1, r2⟩ s' ⟨hr, rfl, hI⟩
    generalize hz : [] = z at hI
    cases hI with
    | mk xs' ys' ns' ms' t' u' hx hy hl' ht' hlex =>
    simp only at hr
    subst hr
    refine wpAny_pure ?_
    have hns : lexLt ms ns = false := by
      rw [← hlex]
      cases hx with
      | nil => cases hy with
        | nil => rfl
        | cons _ _ _ => simp at hl'
      | cons _ _ _ => cases hy with
        | nil => simp at hl'
        | cons _ _ _ => simp at hz
    rw [hns] at h
    have hsz : tupleCompareSizes .Gt (xs ++ t.map Value.ref).toArray.size (ys ++ u.map Value.ref).toArray.size = .bool false := by
      have l1 := hi.length
      have l2 := hj.length
      have e : (xs ++ t.map Value.ref).toArray.size = (ys ++ u.map Value.ref).toArray.size := by
        simp only [List.size_toArray, List.length_append, List.length_map]; omega
      rw [e]
      show Value.bool (decide _) = _
      simp
    show P (.done (.ret (tupleCompareSizes .Gt (xs ++ t.map Value.ref).toArray.size (ys ++ u.map Value.ref).toArray.size))) s'
    rw [hsz]; exact h
theorem lt_tups {a b : Addr} {xs ys : List Value} {ns ms : List Int} {t u : List Addr} {n k : Nat} {Q : Value → Shared → Prop} (ha : s.heap.get? a = some (tupObj (xs ++ t.map Value.ref) n)) (hb : s.heap.get? b = some (tupObj (ys ++ u.map Value.ref) k))
    (hi : IntsAre xs ns) (hj : IntsAre ys ms) (hl : ns.length = ms.length) (htl : t.length = u.length) (ht : ns = ms → t = u) (hu : A.units < cLine) (h : Q (.bool (lexLt ns ms)) s) : wpAny (model prog w) A (richCompare .Lt (.ref a) (.ref b)) Q E s :=
  wpAny_richCompare_same_room (tup_typeIs ha) (tup_typeIs hb) F.slot_tuple_lt (wpAny_call_entry F.slot_tuple_lt (tup_typeIs ha) F.entry_tuple_lt (tuple_lt_tree ha hb hi hj hl htl ht ⟨_, rfl, by simp, h⟩) (F.args_tuple_lt_2 _ _)) hu
theorem gt_tups {a b : Addr} {xs ys : List Value} {ns ms : List Int} {t u : List Addr} {n k : Nat} {Q : Value → Shared → Prop} (ha : s.heap.get? a = some (tupObj (xs ++ t.map Value.ref) n)) (hb : s.heap.get? b = some (tupObj (ys ++ u.map Value.ref) k))
    (hi : IntsAre xs ns) (hj : IntsAre ys ms) (hl : ns.length = ms.length) (htl : t.length = u.length) (ht : ns = ms → t = u) (hu : A.units < cLine) (h : Q (.bool (lexLt ms ns)) s) : wpAny (model prog w) A (compareOp .Gt (.ref a) (.ref b)) Q E s :=
  (wpAny_richCompare_same_room (tup_typeIs ha) (tup_typeIs hb) F.slot_tuple_gt (wpAny_call_entry F.slot_tuple_gt (tup_typeIs ha) F.entry_tuple_gt (tuple_gt_tree ha hb hi hj hl htl ht ⟨_, rfl, by simp, h⟩) (F.args_tuple_gt_2 _ _)) hu : wpAny (model prog w) A (richCompare .Gt (.ref a) (.ref b)) Q E s)
end
end
section
-- Mn
set_option maxHeartbeats 2000000
section
variable {prog : Program} {w : World} {A : Around} {R : Result → Shared → Prop} {I S : Addr} {fp wr : List Addr} {n : Nat} {P : Nat → Value → Prop} {St : Nat → Heap → Prop} {s₀ : Shared}
/-- nothing but the iterator and the best so far has changed -/
noncomputable def KeepM (s₀ : Shared) (wr : List Addr) (S : Addr) (h : Heap) : Prop := ∀ b o, b ∉ wr → b ≠ S → s₀.heap.get? b = some o → h.get? b = some o
noncomputable def CmpM (prog : Program) (w : World) (A : Around) (s₀ : Shared) (wr : List Addr) (S : Addr) (P : Nat → Value → Prop) (bt : Nat → Nat → Bool) : Prop :=
  ∀ h tk, KeepM s₀ wr S h → ∀ i j vi vj (Q : Value → Shared → Prop) (E : Value → Shared → Prop), P i vi → P j vj → Q (.bool (bt i j)) { s₀ with heap := h, toks := tk } → wpAny (model prog w) A (richCompare .Lt vi vj) Q E { s₀ with heap := h, toks := tk }
theorem min_loop (W : Walks prog w A.in1 I fp wr n P St) (bt : Nat → Nat → Bool) (hcmp : CmpM prog w A.in1 s₀ wr S P bt) (hSf : S ∉ fp) :
    ∀ (k j : Nat) (h : Heap) (tk : Nat) (vb : Value) (c : Nat), n - (j + 1) = k → j + 1 ≤ n → KeepM s₀ wr S h → St (j + 1) h → P (argBest bt j) vb →
    h.get? S = some { cls := .type "list", dict := none, data := .seq #[vb, vb] c, slots := #[] } →
    (∀ v h' tk', P (argBest bt (n - 1)) v → KeepM s₀ wr S h' → R (.ok (.ret v)) { s₀ with heap := h', toks := tk' }) →
    codeAny (model prog w) A (.builtin "min.loop" ⟨[.ref I, .none, .ref S], []⟩) R { s₀ with heap := h, toks := tk } := by
  have hSw : S ∉ wr := fun h => hSf (W.sub _ h)
  have hname : (toString "min" ++ toString ".loop" : String) = "min.loop" := by decide
  intro k
  induction k with
  | zero =>
    intro j h tk vb c hk hj hK hst hPb hS hR
    have hin : j + 1 = n := by omega
    refine codeAny_builtin F.entry_min_loop ?_
    rw [Around.under_plainId F.plain_min_loop _]
    show wpAny _ A.in1 (seqItems? (.ref S) >>= _) _ _ _
    refine wpAny_bind (wpAny_seqItems hS rfl ?_)
    show wpAny _ A.in1 (tryCatch (pyNext (.ref I)) _ >>= _) _ _ _
    refine wpAny_bind (wpAny_tryCatch (W.done _ _ _ (hin ▸ hst) fun h' tk' hk' => ?_))
    have hS' := hk' S _ hSw hS
    show wpAny _ A.in1 (updateSeq S (fun _ => #[]) >>= _) _ _ _
    refine wpAny_bind ?_
    refine wpAny_updateSeq hS' rfl (wpAny_bind (wpAny_letGo (wpAny_pure ?_)))
    refine hR vb _ tk' (by rw [← hin]; exact hPb) fun b o hbw hbS e => (Heap.get?_update_other _ _ (Ne.symm hbS)).trans (hk' b o hbw (hK b o hbw hbS e))
  | succ k ih =>
    intro j h tk vb c hk hj hK hst hPb hS hR
    have hlt : j + 1 < n := by omega
    refine codeAny_builtin F.entry_min_loop ?_
    rw [Around.under_plainId F.plain_min_loop _]
    show wpAny _ A.in1 (seqItems? (.ref S) >>= _) _ _ _
    refine wpAny_bind (wpAny_seqItems hS rfl ?_)
    show wpAny _ A.in1 (tryCatch (pyNext (.ref I)) _ >>= _) _ _ _
    refine wpAny_bind (wpAny_tryCatch (W.item (j + 1) _ _ _ hlt hst fun v h' tk' hP hst' hk' => ?_))
    have hS' := hk' S _ hSw hS
    have hK' : KeepM s₀ wr S h' := fun b o hbw hbS e => hk' b o hbw (hK b o hbw hbS e)
    show wpAny _ A.in1 (tryCatch (holding [v, v] (richCompare .Lt v vb >>= _)) _ >>= _) _ _ _
    refine wpAny_bind (wpAny_tryCatch (wpAny_holding (wpAny_bind (hcmp h' tk' hK' (j + 1) (argBest bt j) v vb _ _ hP hPb ?_))))
    refine wpAny_bind (wpAny_holding (wpAny_truthy_bool ?_))
    refine wpAny_bind (wpAny_letGo (wpAny_pure ?_))
    cases hb : bt (j + 1) (argBest bt j) with
    | true =>
      simp only [if_true]
      refine wpAny_bind ?_
      refine wpAny_updateSeq hS' rfl (wpAny_bind (wpAny_letGo ?_))
      rw [hname]
      refine wpAny_pure ⟨plainId_quiet F.plain_min_loop _, ih (j + 1) _ _ v _ (by omega) hlt (fun b o hbw hbS e => (Heap.get?_update_other _ _ (Ne.symm hbS)).trans (hK' b o hbw hbS e)) (W.frame _ _ _ hst' fun b hbf o e => ?_) (by simp only [argBest, hb, if_true]; exact hP) (Heap.get?_update_self _ hS' rfl) hR⟩
      exact (Heap.get?_update_other _ _ (fun h : S = b => hSf (by rw [h]; exact hbf))).trans e
    | false =>
      simp only [Bool.false_eq_true, if_false]
      refine wpAny_bind (wpAny_letGo ?_)
      rw [hname]
      exact wpAny_pure ⟨plainId_quiet F.plain_min_loop _, ih (j + 1) _ _ vb c (by omega) hlt hK' hst' (by simp only [argBest, hb, Bool.false_eq_true, if_false]; exact hPb) hS' hR⟩
theorem min_loop_first (W : Walks prog w A.in1 I fp wr n P St) (bt : Nat → Nat → Bool) (hcmp : CmpM prog w A.in1 s₀ wr S P bt) (hSf : S ∉ fp) (hn : 0 < n) {c : Nat} (hst : St 0 s₀.heap)
    (hS : s₀.heap.get? S = some { cls := .type "list", dict := none, data := .seq #[] c, slots := #[] })
    (hR : ∀ v h' tk, P (argBest bt (n - 1)) v → KeepM s₀ wr S h' → R (.ok (.ret v)) { s₀ with heap := h', toks := tk }) :
    codeAny (model prog w) A (.builtin "min.loop" ⟨[.ref I, .none, .ref S], []⟩) R s₀ := by
  have hSw : S ∉ wr := fun h => hSf (W.sub _ h)
  have hname : (toString "min" ++ toString ".loop" : String) = "min.loop" := by decide
  refine codeAny_builtin F.entry_min_loop ?_
  rw [Around.under_plainId F.plain_min_loop _]
  show wpAny _ A.in1 (seqItems? (.ref S) >>= _) _ _ _
  refine wpAny_bind (wpAny_seqItems hS rfl ?_)
  show wpAny _ A.in1 (tryCatch (pyNext (.ref I)) _ >>= _) _ _ _
  refine wpAny_bind (wpAny_tryCatch (W.item 0 s₀ _ _ hn hst fun v h' tk hP hst' hk' => ?_))
  have hS' := hk' S _ hSw hS
  show wpAny _ A.in1 (updateSeq S (fun _ => #[v, v]) >>= _) _ _ _
  refine wpAny_bind ?_
  refine wpAny_updateSeq hS' rfl ?_
  rw [hname]
  refine wpAny_pure ⟨plainId_quiet F.plain_min_loop _, min_loop W bt hcmp hSf _ 0 _ _ v _ rfl hn (fun b o hbw hbS e => (Heap.get?_update_other _ _ (Ne.symm hbS)).trans (hk' b o hbw e)) (W.frame _ _ _ hst' fun b hbf o e => ?_) hP (Heap.get?_update_self _ hS' rfl) hR⟩
  exact (Heap.get?_update_other _ _ (fun h : S = b => hSf (by rw [h]; exact hbf))).trans e
end
section
variable {prog : Program} {w : World} {A : Around} {E : Value → Shared → Prop} {s : Shared} {h₀ : Heap} {L : Addr} {m : Str → Option Value} {news : List (Addr × Obj)} {ι : Type} {val : ι → Value} {nums : ι → List Int} {tl : ι → List Addr} {rank : ι → Int}
theorem argBest_min {l : List ι} {d : ι} {rank : ι → Int} : ∀ k, k < l.length → argBest (fun i j => decide (rank (l.getD i d) < rank (l.getD j d))) k ≤ k ∧ ∀ j, j ≤ k → rank (l.getD (argBest (fun i j => decide (rank (l.getD i d) < rank (l.getD j d))) k) d) ≤ rank (l.getD j d)
  | 0, _ => ⟨Nat.le_refl _, fun j hj => by obtain rfl : j = 0 := by omega
                                           exact Int.le_refl _⟩
  | k + 1, h => by
    obtain ⟨h1, h2⟩ := argBest_min (l := l) (d := d) (rank := rank) k (by omega)
    unfold argBest
    split
    · rename_i hlt
      have hlt := of_decide_eq_true hlt
      refine ⟨Nat.le_refl _, fun j hj => ?_⟩
      by_cases e : j = k + 1
      · rw [e]; exact Int.le_refl _
      · have := h2 j (by omega); omega
    · rename_i hlt
      have hlt := of_decide_eq_false (Bool.not_eq_true _ ▸ hlt)
      refine ⟨by omega, fun j hj => ?_⟩
      by_cases e : j = k + 1
      · rw [e]; omega
      · exact h2 j (by omega)
/-- the least of a list of tuples -/
theorem min_tups {l : List ι} {a : Addr} {c : Nat} {Q : Value → Shared → Prop} (hh : A.handled = none) (Fm : Fr h₀ L s.heap m) (N : News h₀ L s.heap news) (hm : (a, lst (l.map val) c) ∈ news) (hne : l ≠ [])
    (hx : ∀ x ∈ l, TupI news (val x) (nums x) (tl x)) (hlen : ∀ x ∈ l, ∀ y ∈ l, (nums x).length = (nums y).length) (htn : ∀ x ∈ l, ∀ y ∈ l, (tl x).length = (tl y).length) (htl : ∀ x ∈ l, ∀ y ∈ l, nums x = nums y → tl x = tl y) (hr : ∀ x ∈ l, ∀ y ∈ l, lexLt (nums x) (nums y) = decide (rank x < rank y))
    (hu : A.in1.units < cLine) (h : ∀ x h' tk', x ∈ l → (∀ y ∈ l, rank x ≤ rank y) → Fr h₀ L h' m → News h₀ L h' news → Q (val x) { s with heap := h', toks := tk' }) :
    wpAny (model prog w) A (call (.builtin "min") [.ref a]) Q E s := by
  have hname : (toString "min" ++ toString ".loop" : String) = "min.loop" := by decide
  have hpos : 0 < l.length := List.length_pos_iff.mpr hne
  have d : ι := l[0]'hpos
  refine call_function_tree F.kind_min F.plain_min F.entry_min (F.args_min1 _) ?_
  show wpAny _ A.in1 (Builtin.Builtins.bindParams "min" ["key", "default"] 0 ⟨[], []⟩ >>= _) _ _ s
  refine wpAny_bind (wpAny_of_eq (show Builtin.Builtins.bindParams "min" ["key", "default"] 0 ⟨[], []⟩ = pure [none, none] from rfl) ?_)
  refine wpAny_bind (wpAny_pure ?_)
  have hls : s.heap.IsList a (l.map val).toArray := News.isList N hm
  have hlt : a < s.heap.objs.size := Heap.lt_size (N _ hm).1
  refine wpAny_bind (wpAny_pyIter_list hls ?_)
  have W := Walks.list (prog := prog) (w := w) (A := A.in1) hh s.heap.objs.size a (Nat.ne_of_lt hlt) (l.map val).toArray
  have hlen' : (l.map val).toArray.size = l.length := by simp
  rw [hlen'] at W
  have hI : (s.heap.push { cls := .type "list_iterator", data := .fields #[.ref a, .int 0 0] }).objs.size = s.heap.objs.size + 1 := Heap.size_push ..
  refine wpAny_bind (wpAny_newObj_type ?_)
  rw [hname]
  have hL : L < s.heap.objs.size := Fm.ns.lt
  have up : ∀ b o, s.heap.get? b = some o → ((s.heap.push { cls := .type "list_iterator", data := .fields #[.ref a, .int 0 0] }).push { cls := .type "list", data := .seq #[] }).get? b = some o := fun b o e => Heap.get?_push_of_some _ (Heap.get?_push_of_some _ e)
  refine wpAny_pure ⟨plainId_quiet F.plain_min_loop _, min_loop_first (S := (s.heap.push { cls := .type "list_iterator", data := .fields #[.ref a, .int 0 0] }).objs.size) W (fun i j => decide (rank (l.getD i d) < rank (l.getD j d))) ?_ ?_ hpos ?_ (Heap.get?_push_size _ rfl) ?_⟩
  · intro h' tk' hK i j vi vj Q' E' hi hj hQ
    have keep : ∀ b o, s.heap.get? b = some o → h'.get? b = some o := fun b o e => hK b o (fun hb => by
      rw [List.mem_singleton.mp hb] at e
      exact absurd (Heap.lt_size e) (Nat.lt_irrefl _)) (fun hb => by
      have := Heap.lt_size e
      rw [hb, hI] at this
      exact absurd (show (s.heap.objs.size + 1 : Nat) < s.heap.objs.size from this) (by omega)) (up b o e)
    have hi2 : (l.map val)[i]? = some vi := by simpa using hi
    have hj2 : (l.map val)[j]? = some vj := by simpa using hj
    rw [List.getElem?_map] at hi2 hj2
    cases ei : l[i]? with
    | none => rw [ei] at hi2; cases hi2
    | some x =>
      cases ej : l[j]? with
      | none => rw [ej] at hj2; cases hj2
      | some y =>
        rw [ei] at hi2
        rw [ej] at hj2
        obtain rfl := Option.some.inj hi2
        obtain rfl := Option.some.inj hj2
        have mx := List.mem_of_getElem? ei
        have my := List.mem_of_getElem? ej
        obtain ⟨a1, x1, n1, e1, m1, i1⟩ := (hx x mx).at_
        obtain ⟨a2, x2, n2, e2, m2, i2⟩ := (hx y my).at_
        have gx : l.getD i d = x := by rw [List.getD_eq_getElem?_getD, ei]; rfl
        have gy : l.getD j d = y := by rw [List.getD_eq_getElem?_getD, ej]; rfl
        have hQ : Q' (.bool (decide (rank (l.getD i d) < rank (l.getD j d)))) _ := hQ
        rw [gx, gy, ← hr x mx y my] at hQ
        rw [e1, e2]
        exact lt_tups (keep _ _ (N.get m1)) (keep _ _ (N.get m2)) i1 i2 (hlen x mx y my) (htn x mx y my) (htl x mx y my) hu hQ
  · intro hb
    rcases List.mem_cons.mp hb with e | hb
    · have e : (s.heap.push { cls := .type "list_iterator", data := .fields #[.ref a, .int 0 0] }).objs.size = s.heap.objs.size := e
      omega
    · have e : (s.heap.push { cls := .type "list_iterator", data := .fields #[.ref a, .int 0 0] }).objs.size = a := List.mem_singleton.mp hb
      have hlt' : @LT.lt Nat _ a s.heap.objs.size := hlt
      omega
  · exact ⟨⟨_, Heap.get?_push_of_some _ (Heap.get?_push_size _ rfl), rfl, rfl⟩, hls.at fun o e => up _ o e⟩
  · intro v h' tk' hP hK
    have keep : ∀ b o, s.heap.get? b = some o → h'.get? b = some o := fun b o e => hK b o (fun hb => by
      rw [List.mem_singleton.mp hb] at e
      exact absurd (Heap.lt_size e) (Nat.lt_irrefl _)) (fun hb => by
      have := Heap.lt_size e
      rw [hb, hI] at this
      exact absurd (show (s.heap.objs.size + 1 : Nat) < s.heap.objs.size from this) (by omega)) (up b o e)
    obtain ⟨b1, b2⟩ := argBest_min (l := l) (d := d) (rank := rank) (l.length - 1) (by omega)
    have hP2 : (l.map val)[argBest (fun i j => decide (rank (l.getD i d) < rank (l.getD j d))) (l.length - 1)]? = some v := by simpa using hP
    rw [List.getElem?_map] at hP2
    cases ei : l[argBest (fun i j => decide (rank (l.getD i d) < rank (l.getD j d))) (l.length - 1)]? with
    | none => rw [ei] at hP2; cases hP2
    | some x =>
      rw [ei] at hP2
      obtain rfl := Option.some.inj hP2
      refine h x h' tk' (List.mem_of_getElem? ei) (fun y hy => ?_) ⟨Fm.ns.at' fun o e => keep _ o e, fun b o e => keep b o (Fm.keep b o e), Fm.above⟩ (fun p hp => ⟨keep _ _ (N p hp).1, (N p hp).2⟩)
      obtain ⟨j, hj⟩ := List.getElem?_of_mem hy
      have hjl := (List.getElem?_eq_some_iff.mp hj).1
      have := b2 j (by omega)
      rwa [List.getD_eq_getElem?_getD, ei, List.getD_eq_getElem?_getD, hj] at this
end
end
section
-- Ps
set_option maxHeartbeats 2000000
/-- the places in order, by level, row and column -/
noncomputable def rkF (lev : Nat → Int) (k : Nat) : Int := lev k * 100 + ((k / 3 * 10 + k % 3 : Nat) : Int)
theorem rk_inj {lev : Nat → Int} {k j : Nat} (hk : k < 9) (hj : j < 9) (h : rkF lev k = rkF lev j) : k = j := by
  unfold rkF at h
  omega
noncomputable def Plc.nums (p : Plc) (k : Nat) : List Int := [p.lev k, ((k / 3 : Nat) : Int), ((k % 3 : Nat) : Int)]
theorem lex_plc (p : Plc) {k j : Nat} (hk : k < 9) (hj : j < 9) : lexLt (p.nums k) (p.nums j) = decide (rkF p.lev k < rkF p.lev j) := by
  unfold Plc.nums rkF
  by_cases h1 : p.lev k = p.lev j
  · rw [h1, lexLt_eq]
    by_cases h2 : ((k / 3 : Nat) : Int) = ((j / 3 : Nat) : Int)
    · rw [h2, lexLt_eq]
      by_cases h3 : ((k % 3 : Nat) : Int) = ((j % 3 : Nat) : Int)
      · rw [h3, lexLt_eq]
        symm
        apply decide_eq_false
        omega
      · rw [lexLt_ne h3]
        congr 1
        apply propext
        omega
    · rw [lexLt_ne h2]
      congr 1
      apply propext
      lia
  · rw [lexLt_ne h1]
    congr 1
    apply propext
    lia
section
variable {h₀ h : Heap} {L : Addr} {news : List (Addr × Obj)} {p : Plc} {ks js : List Nat}
theorem plc_tup {k : Nat} (hk : p.In [k] news) : TupI news (p.v k) (p.nums k) [p.wad k] :=
  ⟨⟨p.ad k, [.int (p.lev k) (p.t0 k), .int ((k / 3 : Nat) : Int) (p.t1 k), .int ((k % 3 : Nat) : Int) (p.t2 k)], 0, rfl, (hk k (List.mem_singleton.mpr rfl)).2.1, .cons _ _ (.cons _ _ (.cons _ _ .nil))⟩⟩
theorem Plc.In.one (hp : p.In ks news) {k : Nat} (hk : k ∈ ks) : p.In [k] news := hp.sub fun x hx => by rw [List.mem_singleton.mp hx]; exact hk
variable {prog : Program} {w : World} {A : Around} {E : Value → Shared → Prop} {s : Shared} {m : Str → Option Value}
theorem nums_tl (hp : p.In ks news) : ∀ x ∈ ks, ∀ y ∈ ks, p.nums x = p.nums y → [p.wad x] = [p.wad y] := fun x hx y hy e => by
  have h1 := (hp x hx).1
  have h2 := (hp y hy).1
  unfold Plc.nums at e
  injection e with _ e
  injection e with e1 e
  injection e with e2 _
  have : x = y := by lia
  rw [this]
theorem min_plcs {a : Addr} {c : Nat} {Q : Value → Shared → Prop} (hh : A.handled = none) (F : Fr h₀ L s.heap m) (N : News h₀ L s.heap news) (hm : (a, lst (ks.map p.v) c) ∈ news) (hne : ks ≠ []) (hp : p.In ks news) (hu : A.in1.units < cLine)
    (h : ∀ k h' tk', k ∈ ks → (∀ j ∈ ks, rkF p.lev k ≤ rkF p.lev j) → Fr h₀ L h' m → News h₀ L h' news → Q (p.v k) { s with heap := h', toks := tk' }) :
    wpAny (model prog w) A (call (.builtin "min") [.ref a]) Q E s :=
  min_tups (nums := p.nums) (tl := fun k => [p.wad k]) (rank := rkF p.lev) hh F N hm hne (fun x hx => plc_tup (hp.one hx)) (fun _ _ _ _ => rfl) (fun _ _ _ _ => rfl) (nums_tl hp) (fun x hx y hy => lex_plc p (hp x hx).1 (hp y hy).1) hu h
theorem sorted_plcs {a : Addr} {c : Nat} {Q : Value → Shared → Prop} (F : Fr h₀ L s.heap m) (N : News h₀ L s.heap news) (hm : (a, lst (ks.map p.v) c) ∈ news) (hp : p.In ks news) (h64 : ks.length < 64)
    (h : ∀ D c h' (o : List Nat), o.Perm ks → o.Pairwise (fun x y => rkF p.lev x ≤ rkF p.lev y) → Fr h₀ L h' m → News h₀ L h' ((D, lst (o.map p.v) c) :: news) → (∀ q ∈ news, q.1 < D) → Q (.ref D) { s with heap := h' }) :
    wpAny (model prog w) A (call (.builtin "sorted") [.ref a]) Q E s :=
  sorted_tups (nums := p.nums) (tl := fun k => [p.wad k]) (rank := rkF p.lev) F N hm (fun x hx => ⟨plc_tup (hp.one hx), _, _, rfl⟩) (fun _ _ _ _ => rfl) (fun _ _ _ _ => rfl) (nums_tl hp) (fun x hx y hy => lex_plc p (hp x hx).1 (hp y hy).1) h64 h
theorem gt_plcs {k j : Nat} {Q : Value → Shared → Prop} (N : News h₀ L s.heap news) (hk : p.In [k] news) (hj : p.In [j] news) (hu : A.units < cLine) (h : Q (.bool (decide (rkF p.lev j < rkF p.lev k))) s) :
    wpAny (model prog w) A (compareOp .Gt (p.v k) (p.v j)) Q E s := by
  have hk9 := (hk k (List.mem_singleton.mpr rfl)).1
  have hj9 := (hj j (List.mem_singleton.mpr rfl)).1
  have h1 := N.get (hk k (List.mem_singleton.mpr rfl)).2.1
  have h2 := N.get (hj j (List.mem_singleton.mpr rfl)).2.1
  refine gt_tups (xs := [.int (p.lev k) (p.t0 k), .int ((k / 3 : Nat) : Int) (p.t1 k), .int ((k % 3 : Nat) : Int) (p.t2 k)]) (t := [p.wad k]) (ys := [.int (p.lev j) (p.t0 j), .int ((j / 3 : Nat) : Int) (p.t1 j), .int ((j % 3 : Nat) : Int) (p.t2 j)]) (u := [p.wad j]) (ns := p.nums k) (ms := p.nums j)
    h1 h2 (.cons _ _ (.cons _ _ (.cons _ _ .nil))) (.cons _ _ (.cons _ _ (.cons _ _ .nil))) rfl rfl ?_ hu ?_
  · intro e
    unfold Plc.nums at e
    injection e with _ e
    injection e with e1 e
    injection e with e2 _
    have : k = j := by lia
    rw [this]
  · rw [lex_plc p hj9 hk9]; exact h
theorem notIn_plcs {a : Addr} {c k : Nat} {Q : Value → Shared → Prop} (N : News h₀ L s.heap news) (hm : (a, lst (js.map p.v) c) ∈ news) (hj : p.In js news) (hk : p.In [k] news) (hu : A.units + 64 < cLine)
    (h : Q (.bool (!decide (k ∈ js))) s) : wpAny (model prog w) A (compareOp .NotIn (p.v k) (.ref a)) Q E s := by
  obtain ⟨as, h1⟩ := Plc.readsL hj hm N
  obtain ⟨bs, h2⟩ := Plc.reads hk N
  have d1 := depth_dat p k
  refine SeqAt.notIn_list_reads h1 h2 (canLay_dats p js) (canLay_dat p k) ?_ ?_
  · have := Nat.min_le_right (PyData.depthAll (js.map p.dat)) (p.dat k).depth
    lia
  · have e : ((js.map p.dat).any fun y => PyData.eqv y (p.dat k)) = decide (k ∈ js) := by
      rw [List.any_map]
      have : ((fun y => PyData.eqv y (p.dat k)) ∘ p.dat) = fun j => decide (j = k) := funext fun j => eqv_dat p j k
      rw [this]
      by_cases hkj : k ∈ js
      · rw [decide_eq_true hkj, List.any_eq_true]
        exact ⟨k, hkj, decide_eq_true rfl⟩
      · rw [decide_eq_false hkj, List.any_eq_false]
        intro x hx hx2
        exact hkj (of_decide_eq_true hx2 ▸ hx)
    rw [e]; exact h
end
/-- the lowest of a row -/
noncomputable def minF (lev : Nat → Int) : List Nat → Option Nat
  | [] => none
  | k :: r => match minF lev r with
    | none => some k
    | some j => if rkF lev k ≤ rkF lev j then some k else some j
theorem minF_mem {lev : Nat → Int} : ∀ {l : List Nat} {k : Nat}, minF lev l = some k → k ∈ l ∧ ∀ j ∈ l, rkF lev k ≤ rkF lev j
  | [], _, h => by cases h
  | x :: r, k, h => by
    unfold minF at h
    cases e : minF lev r with
    | none =>
      rw [e] at h
      obtain rfl := Option.some.inj h
      have : r = [] := by
        cases r with
        | nil => rfl
        | cons y t =>
          unfold minF at e
          split at e
          · cases e
          · split at e <;> cases e
      subst this
      exact ⟨List.mem_cons_self .., fun j hj => by rw [List.mem_singleton.mp hj]; exact Int.le_refl _⟩
    | some j =>
      rw [e] at h
      obtain ⟨h1, h2⟩ := minF_mem e
      dsimp only at h
      split at h
      · obtain rfl := Option.some.inj h
        refine ⟨List.mem_cons_self .., fun i hi => ?_⟩
        rcases List.mem_cons.mp hi with rfl | hi
        · exact Int.le_refl _
        · have := h2 i hi; lia
      · obtain rfl := Option.some.inj h
        refine ⟨List.mem_cons_of_mem _ h1, fun i hi => ?_⟩
        rcases List.mem_cons.mp hi with rfl | hi
        · lia
        · exact h2 i hi
theorem minF_ne {lev : Nat → Int} {x : Nat} {r : List Nat} : ∃ k, minF lev (x :: r) = some k := by
  unfold minF
  split
  · exact ⟨_, rfl⟩
  · split <;> exact ⟨_, rfl⟩
theorem minF_is {lev : Nat → Int} {l : List Nat} {k : Nat} (h9 : ∀ j ∈ l, j < 9) (hk : k ∈ l) (hmin : ∀ j ∈ l, rkF lev k ≤ rkF lev j) : minF lev l = some k := by
  cases l with
  | nil => exact absurd hk (List.not_mem_nil)
  | cons x r =>
    obtain ⟨j, hj⟩ := minF_ne (lev := lev) (x := x) (r := r)
    obtain ⟨h1, h2⟩ := minF_mem hj
    have := rk_inj (lev := lev) (h9 _ h1) (h9 _ hk) (by have a := h2 k hk; have b := hmin j h1; (solve_by_elim (maxDepth := 4) [Int.lt_of_lt_of_le, Int.lt_of_le_of_lt, Int.le_of_lt, Int.le_trans, Int.lt_trans, Int.le_refl, Int.not_lt.mp, Int.not_le.mp, Int.le_antisymm, Nat.le_antisymm, Nat.not_lt.mp, Nat.not_le.mp, Nat.le_of_lt, Nat.lt_of_le_of_ne, Nat.lt_of_not_le, Nat.le_of_not_lt, Int.ofNat_nonneg, Int.lt_of_not_ge, Eq.symm, Int.le_of_eq, Nat.le_of_eq]))
    rw [hj, this]
noncomputable def lowF (lev : Nat → Int) (left : List Nat) : List Nat := ([0, 1, 2].map fun i => left.filter (fun k => k / 3 = i)).filterMap (minF lev)
noncomputable def beatF (lev : Nat → Int) (low : List Nat) : List Nat := low.filter (fun k => !decide (low.filter (fun j => decide (j % 3 = k % 3) && decide (rkF lev k < rkF lev j)) = []))
noncomputable def stayF (lev : Nat → Int) : Nat → List Nat → List Nat
  | 0, left => lowF lev left
  | n + 1, left => if beatF lev (lowF lev left) = [] then lowF lev left else stayF lev n (left.filter (fun k => !decide (k ∈ beatF lev (lowF lev left))))
theorem slice_all (l : List Value) : (slicePick l.toArray none none none).toList = l := by
  rw [kmk_pick_nat l.toArray (a := 0) (b := l.length) (by simp [sliceBounds])]
  simp
theorem store_cell {M : Model} {A : Around} {E : Value → Shared → Prop} {s : Shared} {h₀ : Heap} {L c : Addr} {m : Str → Option Value} {news : List (Addr × Obj)} {cn : Str} {cs : Scope} {a : Addr} {ccd : Value} {cl : List (Str × Addr)} {x : Str} {v : Value} {v₀ : Option Value} {o : Obj} {Q : Unit → Shared → Prop}
    (F : Fr h₀ L s.heap m) (N : News h₀ L s.heap news) (hc : cl.lookup x = some c) (hm : (c, o) ∈ news) (hd : o.data = .cell v₀)
    (h : ∀ h' o', Fr h₀ L h' m → News h₀ L h' (Chg news c o') → o'.data = .cell (some v) → Q () { s with heap := h' })
    (hk : cs.kind = .function := by rfl) (hx : (envX cn cs L a ccd cl).kindOf x = some .cell := by rfl) : wpAny M A (storeName (envX cn cs L a ccd cl) x v) Q E s :=
  storeX_C F (focus N hm) hc (UpdF.head Chg.ne) hd h hk hx
/-- the three cells of a def, ahead of the rest -/
noncomputable def St3 (L : Addr) (o1 o2 o3 : Obj) (rest : List (Addr × Obj)) : List (Addr × Obj) := (L + 1 + 1 + 1, o3) :: (L + 1 + 1, o2) :: (L + 1, o1) :: rest
noncomputable def Off3 (L : Addr) (rest : List (Addr × Obj)) : Prop := ∀ r ∈ rest, r.1 ≠ L + 1 ∧ r.1 ≠ L + 1 + 1 ∧ r.1 ≠ L + 1 + 1 + 1
theorem Off3.cons {L a : Addr} {o : Obj} {rest : List (Addr × Obj)} (h : L + 1 + 1 + 1 < a) (hr : Off3 L rest) : Off3 L ((a, o) :: rest) := fun r hm => by
  rcases List.mem_cons.mp hm with rfl | hm
  · have h : @LT.lt Nat _ (L + 1 + 1 + 1) a := h
    refine ⟨fun e => ?_, fun e => ?_, fun e => ?_⟩
    · have e : @Eq Nat a (L + 1) := e
      lia
    · have e : @Eq Nat a (L + 1 + 1) := e
      lia
    · have e : @Eq Nat a (L + 1 + 1 + 1) := e
      (solve_by_elim (maxDepth := 5) [Nat.lt_of_lt_of_le, Nat.lt_of_le_of_lt, Nat.le_of_lt, Nat.le_trans, Nat.lt_trans, Nat.lt_succ_of_lt, Nat.lt_succ_of_le, Nat.le_succ_of_le, Nat.succ_le_of_lt, Nat.le_refl, Nat.sub_lt, Nat.sub_le, Nat.le_add_right, Nat.le_add_left, Nat.zero_le, Nat.zero_lt_succ, Nat.pos_of_ne_zero, Nat.le_of_lt_succ, Nat.ne_of_lt, Nat.ne_of_gt])
  · exact hr r hm
theorem off3_below {L : Addr} {rest : List (Addr × Obj)} (h : ∀ r ∈ rest, r.1 < L) : Off3 L rest := fun r hm => by
  have h : @LT.lt Nat _ r.1 L := h r hm
  refine ⟨fun e => ?_, fun e => ?_, fun e => ?_⟩
  · have e : @Eq Nat r.1 (L + 1) := e
    lia
  · have e : @Eq Nat r.1 (L + 1 + 1) := e
    lia
  · have e : @Eq Nat r.1 (L + 1 + 1 + 1) := e
    lia
section
variable {h₀ h : Heap} {L Lf : Addr} {led rest : List (Addr × Obj)} {o1 o2 o3 o : Obj}
theorem st3_1 (hr : Off3 L rest) (hs : ∀ r ∈ St3 L o1 o2 o3 rest, r ∈ led) (N : News h₀ Lf h (Chg led (L + 1) o)) : News h₀ Lf h (St3 L o o2 o3 rest) := fun r hm => by
  rcases List.mem_cons.mp hm with rfl | hm
  · exact N _ (Chg.old (hs _ (List.mem_cons_self ..)) (Nat.ne_of_gt (Nat.lt_succ_of_lt (Nat.lt_succ_self _))))
  · rcases List.mem_cons.mp hm with rfl | hm
    · exact N _ (Chg.old (hs _ (List.mem_cons_of_mem _ (List.mem_cons_self ..))) (Nat.ne_of_gt (Nat.lt_succ_self _)))
    · rcases List.mem_cons.mp hm with rfl | hm
      · exact N _ Chg.self
      · exact N _ (Chg.oldp (hs _ (List.mem_cons_of_mem _ (List.mem_cons_of_mem _ (List.mem_cons_of_mem _ hm)))) (hr r hm).1)
theorem st3_2 (hr : Off3 L rest) (hs : ∀ r ∈ St3 L o1 o2 o3 rest, r ∈ led) (N : News h₀ Lf h (Chg led (L + 1 + 1) o)) : News h₀ Lf h (St3 L o1 o o3 rest) := fun r hm => by
  rcases List.mem_cons.mp hm with rfl | hm
  · exact N _ (Chg.old (hs _ (List.mem_cons_self ..)) (Nat.ne_of_gt (Nat.lt_succ_self _)))
  · rcases List.mem_cons.mp hm with rfl | hm
    · exact N _ Chg.self
    · rcases List.mem_cons.mp hm with rfl | hm
      · exact N _ (Chg.old (hs _ (List.mem_cons_of_mem _ (List.mem_cons_of_mem _ (List.mem_cons_self ..)))) (Nat.ne_of_lt (Nat.lt_succ_self _)))
      · exact N _ (Chg.oldp (hs _ (List.mem_cons_of_mem _ (List.mem_cons_of_mem _ (List.mem_cons_of_mem _ hm)))) (hr r hm).2.1)
theorem st3_3 (hr : Off3 L rest) (hs : ∀ r ∈ St3 L o1 o2 o3 rest, r ∈ led) (N : News h₀ Lf h (Chg led (L + 1 + 1 + 1) o)) : News h₀ Lf h (St3 L o1 o2 o rest) := fun r hm => by
  rcases List.mem_cons.mp hm with rfl | hm
  · exact N _ Chg.self
  · rcases List.mem_cons.mp hm with rfl | hm
    · exact N _ (Chg.old (hs _ (List.mem_cons_of_mem _ (List.mem_cons_self ..))) (Nat.ne_of_lt (Nat.lt_succ_self _)))
    · rcases List.mem_cons.mp hm with rfl | hm
      · exact N _ (Chg.old (hs _ (List.mem_cons_of_mem _ (List.mem_cons_of_mem _ (List.mem_cons_self ..)))) (Nat.ne_of_lt (Nat.lt_succ_of_lt (Nat.lt_succ_self _))))
      · exact N _ (Chg.oldp (hs _ (List.mem_cons_of_mem _ (List.mem_cons_of_mem _ (List.mem_cons_of_mem _ hm)))) (hr r hm).2.2)
theorem St3.c1 : (L + 1, o1) ∈ St3 L o1 o2 o3 rest := List.mem_cons_of_mem _ (List.mem_cons_of_mem _ (List.mem_cons_self ..))
theorem St3.c2 : (L + 1 + 1, o2) ∈ St3 L o1 o2 o3 rest := List.mem_cons_of_mem _ (List.mem_cons_self ..)
theorem St3.c3 : (L + 1 + 1 + 1, o3) ∈ St3 L o1 o2 o3 rest := List.mem_cons_self ..
theorem St3.r {r : Addr × Obj} (h : r ∈ rest) : r ∈ St3 L o1 o2 o3 rest := List.mem_cons_of_mem _ (List.mem_cons_of_mem _ (List.mem_cons_of_mem _ h))
end
structure SS where
  left : List Nat
  low : List Nat
  bt : Option (List Nat)
  la : Addr
  lb : Addr
  lc : Addr
  ca : Nat
  cb : Nat
  cc : Nat
  o1 : Obj
  o2 : Obj
  o3 : Obj
noncomputable def bvals (p : Plc) : Option (List Nat) → List Value
  | none => [.none]
  | some l => l.map p.v
noncomputable def LedS (L : Addr) (p : Plc) (base : List (Addr × Obj)) (σ : SS) : List (Addr × Obj) :=
  St3 L σ.o1 σ.o2 σ.o3 ((σ.lc, lst (σ.low.map p.v) σ.cc) :: (σ.lb, lst (bvals p σ.bt) σ.cb) :: (σ.la, lst (σ.left.map p.v) σ.ca) :: base)
structure GoodS (L : Addr) (ks : List Nat) (σ : SS) : Prop where
  d1 : σ.o1.data = .cell (some (.ref σ.la))
  d2 : σ.o2.data = .cell (some (.ref σ.lb))
  d3 : σ.o3.data = .cell (some (.ref σ.lc))
  a1 : L + 1 + 1 + 1 < σ.la
  a2 : L + 1 + 1 + 1 < σ.lb
  a3 : L + 1 + 1 + 1 < σ.lc
  left : ∀ k ∈ σ.left, k ∈ ks
  low : ∀ k ∈ σ.low, k ∈ ks
  bt : ∀ l, σ.bt = some l → ∀ k ∈ l, k ∈ ks
  n1 : σ.left.length ≤ 9
  n2 : σ.low.length ≤ 9
noncomputable def RunS (lev : Nat → Int) (ks : List Nat) (σ : SS) : Prop := (σ.bt = some [] → σ.low = stayF lev 10 ks) ∧ (σ.bt ≠ some [] → ∃ n, σ.left.length ≤ n ∧ stayF lev n σ.left = stayF lev 10 ks)
noncomputable def muS (σ : SS) : Nat := 2 * σ.left.length + if σ.bt = some [] then 0 else 1
section
variable {prog : Program} {w : World} {A : Around} {E : Value → Shared → Prop} {s : Shared} {h₀ : Heap} {L : Addr} {news : List (Addr × Obj)} {p : Plc}
theorem ne_bvals {a b : Addr} {bt : Option (List Nat)} {c d : Nat} {Q : Value → Shared → Prop} (N : News h₀ L s.heap news) (hm : (a, lst (bvals p bt) c) ∈ news) (hm' : (b, lst [] d) ∈ news) (hk : ∀ l, bt = some l → p.In l news)
    (hu : A.units + 64 < cLine) (h : Q (.bool (!decide (bt = some []))) s) : wpAny (model prog w) A (compareOp .NotEq (.ref a) (.ref b)) Q E s := by
  cases bt with
  | none =>
    refine ne_dataH (reads_list_at (N.get hm) rfl rfl (.cons .none .nil)) (reads_list_at (N.get hm') rfl rfl .nil) rfl rfl hu ?_
    exact h
  | some l =>
    refine ne_plcs (ks := l) (js := []) N hm hm' (hk l rfl) (fun _ h => absurd h (List.not_mem_nil)) hu ?_
    have : decide (some l = some ([] : List Nat)) = decide (l = []) := by
      by_cases e : l = [] <;> simp [e]
    rw [this] at h
    exact h
end
theorem low_step {lev : Nat → Int} {p : Plc} {f : Nat → List Nat} {i k : Nat} (hi : i < 3) (h : minF lev (f i) = some k) : ((([f 0, f 1, f 2].take i).filterMap (minF lev)).map p.v) ++ [p.v k] = (([f 0, f 1, f 2].take (i + 1)).filterMap (minF lev)).map p.v := by
  have e : [f 0, f 1, f 2][i]? = some (f i) := by
    have : i = 0 ∨ i = 1 ∨ i = 2 := by lia
    rcases this with rfl | rfl | rfl <;> rfl
  rw [List.take_add_one, e, List.filterMap_append, List.map_append]
  simp [h]
theorem low_none {lev : Nat → Int} {p : Plc} {f : Nat → List Nat} {i : Nat} (hi : i < 3) (h : f i = []) : ((([f 0, f 1, f 2].take i).filterMap (minF lev)).map p.v) = (([f 0, f 1, f 2].take (i + 1)).filterMap (minF lev)).map p.v := by
  have e : [f 0, f 1, f 2][i]? = some (f i) := by
    have : i = 0 ∨ i = 1 ∨ i = 2 := by omega
    rcases this with rfl | rfl | rfl <;> rfl
  rw [List.take_add_one, e, List.filterMap_append, List.map_append, h]
  simp [minF]
theorem low_sub {lev : Nat → Int} {left : List Nat} : ∀ k ∈ lowF lev left, k ∈ left := fun k hk => by
  obtain ⟨l, hl, hm⟩ := List.mem_filterMap.mp hk
  obtain ⟨i, _, rfl⟩ := List.mem_map.mp hl
  exact (List.mem_filter.mp (minF_mem hm).1).1
theorem low_len {lev : Nat → Int} {left : List Nat} : (lowF lev left).length ≤ 3 := by
  unfold lowF
  exact Nat.le_trans (List.length_filterMap_le ..) (by simp)
theorem stay_end {lev : Nat → Int} {ks : List Nat} {left : List Nat} {n : Nat} (h : stayF lev n left = stayF lev 10 ks) (hb : beatF lev (lowF lev left) = []) : lowF lev left = stayF lev 10 ks := by
  rw [← h]
  cases n with
  | zero => rfl
  | succ n => unfold stayF; rw [if_pos hb]
theorem beat_low {lev : Nat → Int} {left : List Nat} (h : left = []) : beatF lev (lowF lev left) = [] := by
  subst h
  rfl
theorem stay_next {lev : Nat → Int} {ks : List Nat} {left : List Nat} {n : Nat} (hn : left.length ≤ n) (h : stayF lev n left = stayF lev 10 ks) (hb : beatF lev (lowF lev left) ≠ []) :
    (left.filter (fun k => !decide (k ∈ beatF lev (lowF lev left)))).length < left.length ∧ ∃ m, (left.filter (fun k => !decide (k ∈ beatF lev (lowF lev left)))).length ≤ m ∧ stayF lev m (left.filter (fun k => !decide (k ∈ beatF lev (lowF lev left)))) = stayF lev 10 ks := by
  have hlt : (left.filter (fun k => !decide (k ∈ beatF lev (lowF lev left)))).length < left.length := by
    obtain ⟨x, r, e⟩ : ∃ x r, beatF lev (lowF lev left) = x :: r := by
      cases e : beatF lev (lowF lev left) with
      | nil => exact absurd e hb
      | cons x r => exact ⟨x, r, rfl⟩
    have hx : x ∈ beatF lev (lowF lev left) := by rw [e]; exact List.mem_cons_self ..
    have hxl : x ∈ left := low_sub x (List.mem_filter.mp hx).1
    rcases Nat.lt_or_ge (left.filter (fun k => !decide (k ∈ beatF lev (lowF lev left)))).length left.length with h1 | h1
    · exact h1
    · have h2 := List.length_filter_eq_length_iff.mp (Nat.le_antisymm (List.length_filter_le ..) h1) x hxl
      simp [hx] at h2
  refine ⟨hlt, ?_⟩
  cases n with
  | zero => omega
  | succ n =>
    refine ⟨n, by lia, ?_⟩
    rw [← h]
    conv => rhs; unfold stayF
    rw [if_neg hb]
theorem three_mem {α : Type} {f : Nat → α} {i : Nat} (h : i < 3) : f i ∈ [f 0, f 1, f 2] := by
  have : i = 0 ∨ i = 1 ∨ i = 2 := by omega
  rcases this with rfl | rfl | rfl <;> simp
end
section
-- Ln
/-- what the line holds when these have come -/
noncomputable def lineOf (lev : Nat → Int) (came : List Nat) : List Nat := came.foldl (fun l k => insR lev k l) []
theorem lineOf_snoc (lev : Nat → Int) (came : List Nat) (k : Nat) : lineOf lev (came ++ [k]) = insR lev k (lineOf lev came) := by simp [lineOf]
theorem insR_perm {ι : Type} (key : ι → Int) (y : ι) : ∀ l : List ι, (insR key y l).Perm (y :: l)
  | [] => List.Perm.refl _
  | z :: r => by
    unfold insR
    split
    · exact List.Perm.refl _
    · exact (List.Perm.cons z (insR_perm key y r)).trans (List.Perm.swap y z r)
theorem lineLt_trans {lev : Nat → Int} {i j k : Nat} (h1 : lineLt lev i j) (h2 : lineLt lev j k) : lineLt lev i k := by
  unfold lineLt at *
  lia
theorem insR_line {lev : Nat → Int} {k : Nat} : ∀ {l : List Nat}, l.Pairwise (lineLt lev) → (∀ x ∈ l, x < k) → (insR lev k l).Pairwise (lineLt lev)
  | [], _, _ => List.pairwise_singleton ..
  | z :: r, h, hk => by
    rw [List.pairwise_cons] at h
    unfold insR
    by_cases hlt : lev k < lev z
    · rw [if_pos hlt]
      rw [List.pairwise_cons]
      refine ⟨fun x hx => ?_, List.pairwise_cons.mpr h⟩
      rcases List.mem_cons.mp hx with rfl | hx
      · exact .inl hlt
      · exact lineLt_trans (.inl hlt) (h.1 x hx)
    · rw [if_neg hlt]
      rw [List.pairwise_cons]
      refine ⟨fun x hx => ?_, insR_line h.2 fun y hy => hk y (List.mem_cons_of_mem _ hy)⟩
      rcases (insR_mem lev k x r).mp hx with rfl | hx
      · have := hk z (List.mem_cons_self ..)
        unfold lineLt
        lia
      · exact h.1 x hx
theorem line_fold {lev : Nat → Int} : ∀ {came l : List Nat}, l.Pairwise (lineLt lev) → came.Pairwise (· < ·) → (∀ x ∈ l, ∀ y ∈ came, x < y) →
    (came.foldl (fun l k => insR lev k l) l).Pairwise (lineLt lev) ∧ (came.foldl (fun l k => insR lev k l) l).Perm (came ++ l)
  | [], l, h, _, _ => ⟨h, List.Perm.refl _⟩
  | k :: r, l, h, hc, hx => by
    rw [List.pairwise_cons] at hc
    have h1 := insR_line (k := k) h (fun x hxl => hx x hxl k (List.mem_cons_self ..))
    obtain ⟨a, b⟩ := line_fold (came := r) h1 hc.2 (fun x hxl y hy => by
      rcases (insR_mem lev k x l).mp hxl with rfl | hxl
      · exact hc.1 y hy
      · exact hx x hxl y (List.mem_cons_of_mem _ hy))
    refine ⟨a, b.trans ?_⟩
    exact ((List.Perm.append_left r (insR_perm lev k l)).trans List.perm_middle)
theorem line_sorted {lev : Nat → Int} {came : List Nat} (hc : came.Pairwise (· < ·)) : (lineOf lev came).Pairwise (lineLt lev) ∧ (lineOf lev came).Perm came := by
  have := line_fold (lev := lev) (came := came) (l := []) .nil hc (fun x h => absurd h (List.not_mem_nil))
  rw [List.append_nil] at this
  exact this
/-- two lists in one strict order, of the same things, are one -/
theorem perm_unique {α : Type} {R : α → α → Prop} (hirr : ∀ a b, R a b → R b a → False) : ∀ {l l' : List α}, l.Perm l' → l.Pairwise R → l'.Pairwise R → l = l'
  | [], l', p, _, _ => (List.nil_perm.mp p).symm
  | x :: r, [], p, _, _ => absurd p.length_eq (by simp)
  | x :: r, y :: t, p, h, h' => by
    rw [List.pairwise_cons] at h h'
    have e : x = y := by
      rcases List.mem_cons.mp (p.mem_iff.mp (List.mem_cons_self ..)) with e | hx
      · exact e
      · rcases List.mem_cons.mp (p.mem_iff.mpr (List.mem_cons_self ..)) with e | hy
        · exact e.symm
        · exact (hirr _ _ (h.1 y hy) (h'.1 x hx)).elim
    subst e
    rw [perm_unique hirr (List.perm_cons x |>.mp p) h.2 h'.2]
theorem line_is {lev : Nat → Int} {came o : List Nat} (hc : came.Pairwise (· < ·)) (hp : o.Perm came) (ho : o.Pairwise (lineLt lev)) : o = lineOf lev came := by
  obtain ⟨h1, h2⟩ := line_sorted (lev := lev) hc
  exact perm_unique (fun a b h h' => by unfold lineLt at h h'; lia) (hp.trans h2.symm) ho h1
end
section
-- Kn
noncomputable def lv (a b c k : Nat) : Int := (((1 + a) * (k / 3) + (1 + b) * (k % 3) + c) % 3 : Nat)
noncomputable def lineF (lev : Nat → Int) : List Nat := [0, 1, 2, 3, 4, 5, 6, 7, 8].foldl (fun l k => insR lev k l) []
noncomputable def askF (lev : Nat → Int) (S : Nat) : List Nat := (lineF lev).filter (fun k => S.testBit k)
/-- each that asks and is not chosen sees a chosen one: lower in its row, or higher in its column -/
noncomputable def seen (lev : Nat → Int) (asked chosen : List Nat) : Bool :=
  asked.all fun k => chosen.contains k || chosen.any fun j => (j / 3 == k / 3 && decide (lev j < lev k)) || (j % 3 == k % 3 && decide (lev k < lev j))
noncomputable def okC (lev : Nat → Int) (asked : List Nat) : Bool :=
  let c := chosenF lev asked
  let s := stayF lev 10 asked
  c.isPerm s && seen lev asked c
noncomputable def okAll (a b c : Nat) : Bool := (List.range 512).all fun S => okC (lv a b c) (askF (lv a b c) S)
theorem ok000 : okAll 0 0 0 = true := by decide +kernel
theorem ok001 : okAll 0 0 1 = true := by decide +kernel
theorem ok002 : okAll 0 0 2 = true := by decide +kernel
theorem ok010 : okAll 0 1 0 = true := by decide +kernel
theorem ok011 : okAll 0 1 1 = true := by decide +kernel
theorem ok012 : okAll 0 1 2 = true := by decide +kernel
theorem ok100 : okAll 1 0 0 = true := by decide +kernel
theorem ok101 : okAll 1 0 1 = true := by decide +kernel
theorem ok102 : okAll 1 0 2 = true := by decide +kernel
theorem ok110 : okAll 1 1 0 = true := by decide +kernel
theorem ok111 : okAll 1 1 1 = true := by decide +kernel
theorem ok112 : okAll 1 1 2 = true := by decide +kernel
theorem ok_all {a b c : Nat} (ha : a < 2) (hb : b < 2) (hc : c < 3) : okAll a b c = true := by
  have h1 : a = 0 ∨ a = 1 := by omega
  have h2 : b = 0 ∨ b = 1 := by omega
  have h3 : c = 0 ∨ c = 1 ∨ c = 2 := by omega
  rcases h1 with rfl | rfl <;> rcases h2 with rfl | rfl <;> rcases h3 with rfl | rfl | rfl
  · exact ok000
  · exact ok001
  · exact ok002
  · exact ok010
  · exact ok011
  · exact ok012
  · exact ok100
  · exact ok101
  · exact ok102
  · exact ok110
  · exact ok111
  · exact ok112
end
section
-- Gv
theorem filter_le {α : Type} {p q : α → Bool} : ∀ {l : List α}, (∀ x ∈ l, q x = true → p x = true) → (l.filter q).length ≤ (l.filter p).length
  | [], _ => Nat.le_refl _
  | x :: r, h => by
    have ih := filter_le (l := r) (fun y hy => h y (List.mem_cons_of_mem _ hy))
    have hx := h x (List.mem_cons_self ..)
    rw [List.filter_cons, List.filter_cons]
    by_cases hq : q x = true
    · rw [if_pos hq, if_pos (hx hq)]
      simp only [List.length_cons]; lia
    · rw [if_neg hq]
      by_cases hp : p x = true
      · rw [if_pos hp]; simp only [List.length_cons]; lia
      · rw [if_neg hp]; exact ih
theorem filter_lt {α : Type} {p q : α → Bool} {u : α} : ∀ {l : List α}, (∀ x ∈ l, q x = true → p x = true) → u ∈ l → p u = true → q u = false → (l.filter q).length < (l.filter p).length
  | [], _, hu, _, _ => absurd hu (List.not_mem_nil)
  | x :: r, h, hu, hp, hq => by
    have hr : ∀ y ∈ r, q y = true → p y = true := fun y hy => h y (List.mem_cons_of_mem _ hy)
    rw [List.filter_cons, List.filter_cons]
    rcases List.mem_cons.mp hu with rfl | hu
    · rw [if_neg (by rw [hq]; decide), if_pos hp]
      have := filter_le hr
      simp only [List.length_cons]; lia
    · have ih := filter_lt hr hu hp hq
      have hx := h x (List.mem_cons_self ..)
      by_cases hqx : q x = true
      · rw [if_pos hqx, if_pos (hx hqx)]
        simp only [List.length_cons]; lia
      · rw [if_neg hqx]
        by_cases hpx : p x = true
        · rw [if_pos hpx]; simp only [List.length_cons]; (solve_by_elim (maxDepth := 4) [Nat.sub_lt_of_lt, Nat.lt_of_lt_of_le, Nat.lt_of_le_of_lt, Nat.le_of_succ_le_succ, Nat.lt_of_succ_lt_succ, Nat.succ_le_succ, Nat.add_le_add_right, Nat.add_lt_add_right, Nat.add_le_add_left, Nat.add_lt_add_left, Nat.sub_le_sub_right, Nat.lt_of_succ_lt, Nat.lt_sub_of_add_lt, Nat.add_lt_of_lt_sub, Nat.le_sub_of_add_le, Nat.add_le_of_le_sub, Nat.lt_add_of_pos_right, Nat.lt_succ_self, Nat.le_succ, Nat.le_of_lt_succ, Nat.lt_of_le_of_ne, Ne.symm, Nat.lt_irrefl, Nat.not_lt_of_le, Nat.not_le_of_lt, absurd])
        · rw [if_neg hpx]; exact ih
/-- j is lower in k's row, or higher in its column -/
noncomputable def dom (lev : Nat → Int) (j k : Nat) : Bool := (j / 3 == k / 3 && decide (lev j < lev k)) || (j % 3 == k % 3 && decide (lev k < lev j))
/-- more words are left than places that come first -/
noncomputable def Rich (lev : Nat → Int) (wl : Nat → List Int) (came : List Nat) (ws : List Int) (placed : List Nat) : Prop :=
  ∀ v ∈ came, v ∉ placed → (came.filter (fun u => dom lev u v && !decide (u ∈ placed))).length < ((wl v).filter (fun x => !decide (x ∈ ws))).length
theorem rich_step {lev : Nat → Int} {wl : Nat → List Int} {came : List Nat} {ws : List Int} {placed M : List Nat} {w : Int} (R : Rich lev wl came ws placed) (hw : w ∉ ws)
    (hnd : ∀ v ∈ came, (wl v).Nodup) (hM : ∀ u ∈ M, u ∈ came ∧ u ∉ placed) (hdom : ∀ v ∈ came, v ∉ placed → w ∈ wl v → v ∉ M → ∃ u ∈ M, dom lev u v = true) : Rich lev wl came (w :: ws) (M ++ placed) := by
  intro v hv hvp
  have hv1 : v ∉ placed := fun h => hvp (List.mem_append_right _ h)
  have hv2 : v ∉ M := fun h => hvp (List.mem_append_left _ h)
  have h0 := R v hv hv1
  have hsub : ∀ x ∈ came, (dom lev x v && !decide (x ∈ M ++ placed)) = true → (dom lev x v && !decide (x ∈ placed)) = true := fun x _ h => by
    simp only [Bool.and_eq_true, Bool.not_eq_true', decide_eq_false_iff_not, List.mem_append, not_or] at h ⊢
    exact ⟨h.1, h.2.2⟩
  by_cases hwv : w ∈ wl v
  · obtain ⟨u, hu, hd⟩ := hdom v hv hv1 hwv hv2
    have h1 := filter_lt (u := u) hsub (hM u hu).1 (by simp [hd, (hM u hu).2]) (by simp [hu])
    have h2 : ((wl v).filter (fun x => !decide (x ∈ ws))).length = ((wl v).filter (fun x => !decide (x ∈ w :: ws))).length + 1 := by
      have hn := hnd v hv
      generalize wl v = l at hwv hn
      induction l with
      | nil => exact absurd hwv (List.not_mem_nil)
      | cons x r ih =>
        rw [List.nodup_cons] at hn
        rw [List.filter_cons, List.filter_cons]
        rcases List.mem_cons.mp hwv with rfl | hwr
        · rw [if_pos (by simp [hw]), if_neg (by simp)]
          simp only [List.length_cons]
          congr 1
          congr 1
          refine List.filter_congr fun y hy => ?_
          have : y ≠ w := fun e => hn.1 (e ▸ hy)
          simp [this]
        · have hxw : x ≠ w := fun e => hn.1 (e ▸ hwr)
          have ih' := ih hwr hn.2
          by_cases hx : x ∈ ws
          · rw [if_neg (by simp [hx]), if_neg (by simp [hx])]; exact ih'
          · rw [if_pos (by simp [hx]), if_pos (by simp [hx, hxw])]
            simp only [List.length_cons]; (solve_by_elim (maxDepth := 5) [Nat.lt_of_lt_of_le, Nat.lt_of_le_of_lt, Nat.le_of_lt, Nat.le_trans, Nat.lt_trans, Nat.lt_succ_of_lt, Nat.lt_succ_of_le, Nat.le_succ_of_le, Nat.succ_le_of_lt, Nat.le_refl, Nat.sub_lt, Nat.sub_le, Nat.le_add_right, Nat.le_add_left, Nat.zero_le, Nat.zero_lt_succ, Nat.pos_of_ne_zero, Nat.le_of_lt_succ, Nat.ne_of_lt, Nat.ne_of_gt])
    lia
  · have h1 := filter_le hsub
    have h2 : ((wl v).filter (fun x => !decide (x ∈ w :: ws))) = ((wl v).filter (fun x => !decide (x ∈ ws))) := by
      refine List.filter_congr fun y hy => ?_
      have : y ≠ w := fun e => hwv (e ▸ hy)
      simp [this]
    rw [h2]
    omega
theorem rich_end {lev : Nat → Int} {wl : Nat → List Int} {came : List Nat} {ws : List Int} {placed : List Nat} (R : Rich lev wl came ws placed) (h : ∀ v ∈ came, ∀ x ∈ wl v, x ∈ ws) : ∀ v ∈ came, v ∈ placed := fun v hv => by
  by_cases hp : v ∈ placed
  · exact hp
  · have h0 := R v hv hp
    have : ((wl v).filter (fun x => !decide (x ∈ ws))) = [] := by
      rw [List.filter_eq_nil_iff]
      intro x hx
      simp [h v hv x hx]
    rw [this] at h0
    simp at h0
end
section
-- Lm
theorem nine_inc : ([0, 1, 2, 3, 4, 5, 6, 7, 8] : List Nat).Pairwise (· < ·) := by decide
theorem nine_mem {k : Nat} : k ∈ ([0, 1, 2, 3, 4, 5, 6, 7, 8] : List Nat) ↔ k < 9 := by
  simp only [List.mem_cons, List.not_mem_nil, or_false]
  lia
theorem perm_inc {l l' : List Nat} (h : l.Pairwise (· < ·)) (h' : l'.Pairwise (· < ·)) (hm : ∀ x, x ∈ l ↔ x ∈ l') : l = l' := by
  refine perm_unique (R := (· < ·)) (fun a b h1 h2 => by lia) ?_ h h'
  have n1 : l.Nodup := h.imp fun hab => Nat.ne_of_lt hab
  have n2 : l'.Nodup := h'.imp fun hab => Nat.ne_of_lt hab
  rw [List.perm_iff_count]
  intro a
  rw [n1.count, n2.count]
  simp only [hm]
theorem line_filter {lev : Nat → Int} {came : List Nat} (hc : came.Pairwise (· < ·)) (h9 : ∀ k ∈ came, k < 9) : lineOf lev came = (lineF lev).filter (fun k => decide (k ∈ came)) := by
  obtain ⟨h1, h2⟩ := line_sorted (lev := lev) nine_inc
  refine (line_is hc ?_ (h1.filter _)).symm
  refine (h2.filter _).trans (List.Perm.of_eq ?_)
  refine perm_inc (nine_inc.filter _) hc fun x => ?_
  simp only [List.mem_filter, nine_mem, decide_eq_true_eq]
  exact ⟨fun h => h.2, fun h => ⟨h9 x h, h⟩⟩
/-- the nine answers as one number -/
noncomputable def maskOf (f : Nat → Bool) : Nat := (if f 0 then 1 else 0) + (if f 1 then 2 else 0) + (if f 2 then 4 else 0) + (if f 3 then 8 else 0) + (if f 4 then 16 else 0) + (if f 5 then 32 else 0) + (if f 6 then 64 else 0) + (if f 7 then 128 else 0) + (if f 8 then 256 else 0)
theorem mask_all : ∀ b0 b1 b2 b3 b4 b5 b6 b7 b8 : Bool, ((List.range 9).all fun k => Nat.testBit ((if b0 then 1 else 0) + (if b1 then 2 else 0) + (if b2 then 4 else 0) + (if b3 then 8 else 0) + (if b4 then 16 else 0) + (if b5 then 32 else 0) + (if b6 then 64 else 0) + (if b7 then 128 else 0) + (if b8 then 256 else 0)) k == [b0, b1, b2, b3, b4, b5, b6, b7, b8].getD k false) = true := by decide +kernel
theorem mask_lt (f : Nat → Bool) : maskOf f < 512 := by
  have key : ∀ (b : Bool) (n : Nat), (if b then n else 0) ≤ n := fun b n => by cases b <;> simp
  have h0 := key (f 0) 1
  have h1 := key (f 1) 2
  have h2 := key (f 2) 4
  have h3 := key (f 3) 8
  have h4 := key (f 4) 16
  have h5 := key (f 5) 32
  have h6 := key (f 6) 64
  have h7 := key (f 7) 128
  have h8 := key (f 8) 256
  unfold maskOf
  generalize (if f 0 then 1 else 0) = a0 at *
  generalize (if f 1 then 2 else 0) = a1 at *
  generalize (if f 2 then 4 else 0) = a2 at *
  generalize (if f 3 then 8 else 0) = a3 at *
  generalize (if f 4 then 16 else 0) = a4 at *
  generalize (if f 5 then 32 else 0) = a5 at *
  generalize (if f 6 then 64 else 0) = a6 at *
  generalize (if f 7 then 128 else 0) = a7 at *
  generalize (if f 8 then 256 else 0) = a8 at *
  lia
theorem mask_bit (f : Nat → Bool) {k : Nat} (hk : k < 9) : (maskOf f).testBit k = f k := by
  have := List.all_eq_true.mp (mask_all (f 0) (f 1) (f 2) (f 3) (f 4) (f 5) (f 6) (f 7) (f 8)) k (List.mem_range.mpr hk)
  have := eq_of_beq this
  have h9 : k = 0 ∨ k = 1 ∨ k = 2 ∨ k = 3 ∨ k = 4 ∨ k = 5 ∨ k = 6 ∨ k = 7 ∨ k = 8 := by lia
  unfold maskOf
  rw [this]
  rcases h9 with rfl | rfl | rfl | rfl | rfl | rfl | rfl | rfl | rfl <;> rfl
theorem lineF_lt {lev : Nat → Int} {k : Nat} (h : k ∈ lineF lev) : k < 9 := nine_mem.mp ((line_sorted (lev := lev) nine_inc).2.mem_iff.mp h)
/-- whoever asks: the chosen are those that stay, and all others see a chosen one -/
theorem kernel {a b c : Nat} (ha : a < 2) (hb : b < 2) (hc : c < 3) {came : List Nat} (hi : came.Pairwise (· < ·)) (h9 : ∀ k ∈ came, k < 9) (g : Nat → Bool) :
    let asked := (lineOf (lv a b c) came).filter g
    (chosenF (lv a b c) asked).Perm (stayF (lv a b c) 10 asked) ∧ ∀ k ∈ asked, k ∈ chosenF (lv a b c) asked ∨ ∃ j ∈ chosenF (lv a b c) asked, dom (lv a b c) j k = true := by
  intro asked
  have e : asked = askF (lv a b c) (maskOf fun k => g k && decide (k ∈ came)) := by
    show (lineOf (lv a b c) came).filter g = _
    rw [line_filter hi h9, List.filter_filter]
    refine List.filter_congr fun k hk => ?_
    rw [mask_bit _ (lineF_lt hk)]
  have h := List.all_eq_true.mp (ok_all ha hb hc) _ (List.mem_range.mpr (mask_lt fun k => g k && decide (k ∈ came)))
  unfold okC at h
  rw [← e] at h
  dsimp only at h
  rw [Bool.and_eq_true] at h
  refine ⟨List.isPerm_iff.mp h.1, fun k hk => ?_⟩
  have := List.all_eq_true.mp h.2 k hk
  rw [Bool.or_eq_true] at this
  rcases this with h1 | h1
  · exact .inl (by simpa using h1)
  · obtain ⟨j, hj, hd⟩ := List.any_eq_true.mp h1
    exact .inr ⟨j, hj, hd⟩
end
section
-- Lw
/-- a for in the law: the ground is the one of the frame's fact -/
theorem for_fr {prog : Program} {w : World} {A : Around} {E : Value → Shared → Prop} {s : Shared} {h₀ : Heap} {env : Env} {x : Str} {body : List Stmt} {Q : Flow → Shared → Prop} {m : Str → Option Value} {px pos : Pos} {iter : Expr}
    (_F : Fr h₀ env.locals s.heap m) (hx : env.kindOf x = some .local)
    (hp : (env.scope.kind == .class || (env.scope.kind == .module && env.locals != env.globals)) = false)
    (h : wpAny (model prog w) A (eval iter env) (fun xv s₁ => wpAny (model prog w) A (pyIter xv) (fun it s₂ => LoopAtV prog w A h₀ env x body Q E it s₂) E s₁) E s)
    (hs : ∀ x, foldedSetIterable iter env x = pure x) (hE : PassesOwn (model prog w) A env E) :
    wpAny (model prog w) A (exec (.For (.Name x px) iter body [] pos) env) Q E s := For_invV h₀ hx hp h hs hE
theorem size_nat (n : Nat) : Builtin.Range.rangeSize 0 (n : Int) 1 = n := by
  rw [rangeSize_nat]
  (solve_by_elim (maxDepth := 5) [Nat.lt_of_lt_of_le, Nat.lt_of_le_of_lt, Nat.le_of_lt, Nat.le_trans, Nat.lt_trans, Nat.lt_succ_of_lt, Nat.lt_succ_of_le, Nat.le_succ_of_le, Nat.succ_le_of_lt, Nat.le_refl, Nat.sub_lt, Nat.sub_le, Nat.le_add_right, Nat.le_add_left, Nat.zero_le, Nat.zero_lt_succ, Nat.pos_of_ne_zero, Nat.le_of_lt_succ, Nat.ne_of_lt, Nat.ne_of_gt])
theorem fits_long {n : Nat} (h : n ≤ 2000) : Builtin.Range.rangeFitsLong (n : Int) = true := by
  unfold Builtin.Range.rangeFitsLong
  rw [Bool.and_eq_true]
  exact ⟨decide_eq_true (by (solve_by_elim (maxDepth := 5) [Nat.lt_of_lt_of_le, Nat.lt_of_le_of_lt, Nat.le_of_lt, Nat.le_trans, Nat.lt_trans, Nat.lt_succ_of_lt, Nat.lt_succ_of_le, Nat.le_succ_of_le, Nat.succ_le_of_lt, Nat.le_refl, Nat.sub_lt, Nat.sub_le, Nat.le_add_right, Nat.le_add_left, Nat.zero_le, Nat.zero_lt_succ, Nat.pos_of_ne_zero, Nat.le_of_lt_succ, Nat.ne_of_lt, Nat.ne_of_gt])), decide_eq_true (by omega)⟩
theorem small_nat {n : Nat} (h : n ≤ 1000) : Builtin.Range.small 0 (n : Int) 1 = true := by
  unfold Builtin.Range.small
  rw [size_nat n, if_pos (by decide), fits_long (n := n) (by lia)]
  have h1 : Builtin.Range.rangeFitsLong ((n : Int) + (1 - 1)) = true := by
    rw [show (n : Int) + (1 - 1) = (n : Int) by (solve_by_elim (maxDepth := 5) [Nat.lt_of_lt_of_le, Nat.lt_of_le_of_lt, Nat.le_of_lt, Nat.le_trans, Nat.lt_trans, Nat.lt_succ_of_lt, Nat.lt_succ_of_le, Nat.le_succ_of_le, Nat.succ_le_of_lt, Nat.le_refl, Nat.sub_lt, Nat.sub_le, Nat.le_add_right, Nat.le_add_left, Nat.zero_le, Nat.zero_lt_succ, Nat.pos_of_ne_zero, Nat.le_of_lt_succ, Nat.ne_of_lt, Nat.ne_of_gt])]
    exact fits_long (by omega)
  rw [h1, Bool.or_true]
  decide
section
variable {prog : Program} {w : World} {A : Around} {E : Value → Shared → Prop} {s : Shared} {h₀ : Heap} {L : Addr} {m : Str → Option Value}
/-- an item of a list that stood there at the start -/
theorem old_item {value slice : PySem.Expr} {a : Addr} {vs : List Value} {ns : List Int} {k : Int} {u : Tok} {x : Int} {Q : Value → Shared → Prop} (F : Fr h₀ L s.heap m) (hl : h₀.IsList a vs.toArray) (hi : IntsAre vs ns) (h0 : 0 ≤ k) (hk : k < 1000) (hx : ns[k.toNat]? = some x) (h : ∀ t, Q (.int x t) s)
    (hs : subscripted slice false (.ref a) (.int k u) = operate [.ref a, .int k u] (getItem (.ref a) (.int k u)) := by with_unfolding_all rfl) (hg : ∀ r, letTemporaryGo value (.ref a) r = pure () := by intro _; with_unfolding_all rfl) :
    wpAny (model prog w) A (subscriptTail value slice (.ref a) (.int k u)) Q E s := by
  obtain ⟨o, ho, hc, n, hd⟩ := hl
  obtain ⟨t, ht⟩ := hi.get _ _ hx
  exact item_listL ⟨o, F.keep _ _ ho, hc, n, hd⟩ h0 (by (solve_by_elim (maxDepth := 4) [Int.lt_of_lt_of_le, Int.lt_of_le_of_lt, Int.le_of_lt, Int.le_trans, Int.lt_trans, Int.le_refl, Int.not_lt.mp, Int.not_le.mp, Int.le_antisymm, Nat.le_antisymm, Nat.not_lt.mp, Nat.not_le.mp, Nat.le_of_lt, Nat.lt_of_le_of_ne, Nat.lt_of_not_le, Nat.le_of_not_lt, Int.ofNat_nonneg, Int.lt_of_not_ge, Eq.symm, Int.le_of_eq, Nat.le_of_eq])) ht (h t) hs hg
end
theorem setL_some : ∀ {l : List Value} {k : Nat} (v : Value), k < l.length → ki_setL l k v = some (l.set k v)
  | [], _, _, h => by simp at h
  | x :: r, 0, v, _ => rfl
  | x :: r, k + 1, v, h => by
    show (match ki_setL r k v with | some q => some (x :: q) | none => none) = _
    rw [setL_some (l := r) (k := k) v (by simpa using h)]
    rfl
section
variable {prog : Program} {w : World} {A : Around} {E : Value → Shared → Prop} {s : Shared} {h₀ : Heap} {L D : Addr} {m : Str → Option Value} {news : List (Addr × Obj)}
theorem set_at {k : Int} {t : Tok} {v : Value} {l : List Value} {n : Nat} {Q : Unit → Shared → Prop} (F : Fr h₀ L s.heap m) (N : News h₀ L s.heap news) (hm : (D, lst l n) ∈ news) (h0 : 0 ≤ k) (hk : k < 1000) (hl : k.toNat < l.length)
    (h : ∀ h', Fr h₀ L h' m → News h₀ L h' (Chg news D (lst (l.set k.toNat v) n)) → Q () { s with heap := h' }) : wpAny (model prog w) A (setItem (.ref D) (.int k t) v) Q E s :=
  ki_set F (focus N hm) h0 (by (solve_by_elim (maxDepth := 4) [Int.lt_of_lt_of_le, Int.lt_of_le_of_lt, Int.le_of_lt, Int.le_trans, Int.lt_trans, Int.le_refl, Int.not_lt.mp, Int.not_le.mp, Int.le_antisymm, Nat.le_antisymm, Nat.not_lt.mp, Nat.not_le.mp, Nat.le_of_lt, Nat.lt_of_le_of_ne, Nat.lt_of_not_le, Nat.le_of_not_lt, Int.ofNat_nonneg, Int.lt_of_not_ge, Eq.symm, Int.le_of_eq, Nat.le_of_eq])) (by rw [List.toList_toArray]; exact setL_some v hl) (Upd.head Chg.ne) h
end
theorem ints_set {vs : List Value} {ns : List Int} (h : IntsAre vs ns) : ∀ (k : Nat) (x : Int) (t : Tok), IntsAre (vs.set k (.int x t)) (ns.set k x) := by
  induction h with
  | nil => intro k x t; exact .nil
  | cons y u r ih =>
    intro k x t
    cases k with
    | zero => exact .cons _ _ r
    | succ k => exact .cons _ _ (ih k x t)
end
section
-- S1
open PySem PySem.W PyProof.Rows
set_option maxRecDepth 10000
namespace S
noncomputable abbrev one (c : Nat) : Str := ⟨#[c]⟩
theorem len_eq (x : Str) : x.length = x.cps.toList.length := by simp [Str.length]
theorem app_list (a b : Str) : (a ++ b).cps.toList = a.cps.toList ++ b.cps.toList := by rw [Str.cps_append]; simp
theorem join_cons2 (sep x y : Str) (r : List Str) : Str.join sep (x :: y :: r) = x ++ sep ++ Str.join sep (y :: r) := rfl
theorem split_at {a b : List Nat} {c : Nat} : ∀ {p q : List Nat}, c ∉ p → c ∉ q → p ++ c :: a = q ++ c :: b → p = q ∧ a = b
  | [], [], _, _, h => ⟨rfl, by simpa using h⟩
  | [], y :: q, _, hq, h => by
    simp only [List.nil_append, List.cons_append, List.cons.injEq] at h
    exact absurd (h.1 ▸ List.mem_cons_self ..) hq
  | x :: p, [], hp, _, h => by
    simp only [List.nil_append, List.cons_append, List.cons.injEq] at h
    exact absurd (h.1 ▸ List.mem_cons_self ..) hp
  | x :: p, y :: q, hp, hq, h => by
    simp only [List.cons_append, List.cons.injEq] at h
    obtain ⟨e1, e2⟩ := split_at (fun m => hp (List.mem_cons_of_mem _ m)) (fun m => hq (List.mem_cons_of_mem _ m)) h.2
    exact ⟨by rw [h.1, e1], e2⟩
theorem free_join {c d : Nat} (hd : d ≠ c) : ∀ (ps : List Str), (∀ p ∈ ps, d ∉ p.cps.toList) → d ∉ (Str.join (one c) ps).cps.toList
  | [], _ => by simp [Str.join, Str.empty]
  | [x], h => h x (List.mem_cons_self ..)
  | x :: y :: r, h => by
    rw [join_cons2, app_list, app_list]
    simp only [List.mem_append, not_or]
    exact ⟨⟨h x (List.mem_cons_self ..), by simpa using hd⟩, free_join hd (y :: r) (fun p hp => h p (List.mem_cons_of_mem _ hp))⟩
theorem join_inj {c : Nat} : ∀ (ps qs : List Str), ps ≠ [] → qs ≠ [] → (∀ p ∈ ps, c ∉ p.cps.toList) → (∀ p ∈ qs, c ∉ p.cps.toList) → Str.join (one c) ps = Str.join (one c) qs → ps = qs
  | [], _, h, _, _, _, _ => absurd rfl h
  | _, [], _, h, _, _, _ => absurd rfl h
  | [x], [y], _, _, _, _, h => by rw [show x = y from h]
  | [x], y :: z :: r, _, _, h1, _, h => by
    have hx := h1 x (List.mem_cons_self ..)
    rw [join_cons2] at h
    have h' : x = y ++ one c ++ Str.join (one c) (z :: r) := h
    rw [h', app_list, app_list] at hx
    exact absurd (by simp) hx
  | y :: z :: r, [x], _, _, _, h1, h => by
    have hx := h1 x (List.mem_cons_self ..)
    rw [join_cons2] at h
    have h' : y ++ one c ++ Str.join (one c) (z :: r) = x := h
    rw [← h', app_list, app_list] at hx
    exact absurd (by simp) hx
  | x :: y :: r, x' :: y' :: r', _, _, h1, h2, h => by
    rw [join_cons2, join_cons2] at h
    have h' := congrArg (fun s : Str => s.cps.toList) h
    simp only [app_list, List.append_assoc, List.cons_append, List.nil_append] at h'
    obtain ⟨e1, e2⟩ := split_at (h1 x (List.mem_cons_self ..)) (h2 x' (List.mem_cons_self ..)) h'
    have e1' : x = x' := Str.ext' (Array.toList_inj.mp e1)
    have e2' : Str.join (one c) (y :: r) = Str.join (one c) (y' :: r') := Str.ext' (Array.toList_inj.mp e2)
    rw [e1', join_inj (y :: r) (y' :: r') (by simp) (by simp) (fun p hp => h1 p (List.mem_cons_of_mem _ hp)) (fun p hp => h2 p (List.mem_cons_of_mem _ hp)) e2']
theorem split_ne (x : Str) (c : Nat) : Txt.split x (one c) ≠ [] := by
  unfold Txt.split
  split
  · simp
  · split
    · simp
    · rw [StrLaws.partsBetween_eq]
      obtain ⟨p, r, e⟩ := StrLaws.partsFrom_ne x (one c).length 0 (Builtin.Str.occurrences x (one c) 0 x.length (x.length + 1))
      rw [e]; simp
theorem split_join {c : Nat} {ps : List Str} (h : ps ≠ []) (hf : ∀ p ∈ ps, c ∉ p.cps.toList) : Txt.split (Str.join (one c) ps) (one c) = ps :=
  join_inj _ _ (split_ne _ _) h (StrLaws.split_free _ _) hf (StrLaws.join_split _ _)
theorem replace_join {c : Nat} {z : Str} {ps : List Str} (h : ps ≠ []) (hf : ∀ p ∈ ps, c ∉ p.cps.toList) : Txt.replace (Str.join (one c) ps) (one c) z = Str.join z ps := by
  rw [StrLaws.replace_one, split_join h hf]
theorem getD_list (x : Str) (i : Nat) : x.cps.getD i 0 = x.cps.toList.getD i 0 := by
  rw [List.getD_eq_getElem?_getD, Array.getElem?_toList, Array.getD_eq_getD_getElem?]
theorem find3_at {A B C : Str} {c : Nat} {n : Int} (hn : n = A.length) (hB : c ∉ B.cps.toList) : Txt.find3 (A ++ B ++ one c ++ C) (one c) n = (A.length + B.length : Nat) := by
  have hl : (A ++ B ++ one c ++ C).cps.toList = A.cps.toList ++ (B.cps.toList ++ c :: C.cps.toList) := by simp [app_list]
  have hlen : (A ++ B ++ one c ++ C).length = A.length + (B.length + (1 + C.length)) := by
    rw [len_eq, hl]; simp only [List.length_append, List.length_cons, len_eq]; lia
  have hfrom : fromIndex (A ++ B ++ one c ++ C).length n = A.length := by
    unfold fromIndex
    rw [hn, hlen]
    (try split) <;> lia
  have at1 : (A ++ B ++ one c ++ C).cps.getD (A.length + B.length) 0 = c := by
    rw [getD_list, hl, List.getD_eq_getElem?_getD, List.getElem?_append_right (by rw [len_eq A]; lia), List.getElem?_append_right (by rw [len_eq A, len_eq B]; lia)]
    simp [len_eq A, len_eq B]
  have at2 : ∀ v, A.length ≤ v → v < A.length + B.length → (A ++ B ++ one c ++ C).cps.getD v 0 ≠ c := fun v h1 h2 e => by
    rw [getD_list, hl, List.getD_eq_getElem?_getD, List.getElem?_append_right (by rw [← len_eq A]; omega), List.getElem?_append_left (by rw [← len_eq A, ← len_eq B]; lia)] at e
    have hlt : v - A.cps.toList.length < B.cps.toList.length := by rw [← len_eq A, ← len_eq B]; omega
    rw [List.getElem?_eq_getElem hlt] at e
    exact hB (by
      have e' : B.cps.toList[v - A.cps.toList.length] = c := e
      rw [← e']; exact List.getElem_mem _)
  rcases StrLaws.find3_spec (A ++ B ++ one c ++ C) c n with ⟨_, h⟩ | ⟨k, h1, h2, h3, h4, h5⟩
  · exact absurd at1 (h _ (by rw [hfrom]; lia) (by rw [hlen]; lia))
  · rw [h1]
    rw [hfrom] at h2 h5
    have : k = A.length + B.length := by
      rcases Nat.lt_trichotomy k (A.length + B.length) with h | h | h
      · exact absurd h4 (at2 k h2 h)
      · exact h
      · exact absurd at1 (h5 _ (by lia) h)
    rw [this]
theorem find_eq3 (x y : Str) : Txt.find x y = Txt.find3 x y 0 := by
  unfold Txt.find Txt.find3
  have : fromIndex x.length 0 = 0 := by unfold fromIndex; (try split) <;> lia
  rw [this]
  cases Builtin.Str.occurrences x y 0 x.length 1 <;> rfl
theorem find_at {B C : Str} {c : Nat} (hB : c ∉ B.cps.toList) : Txt.find (B ++ one c ++ C) (one c) = (B.length : Nat) := by
  rw [find_eq3]
  have := find3_at (A := Str.empty) (B := B) (C := C) (c := c) (n := 0) rfl hB
  rw [Str.empty_append] at this
  rw [this]
  congr 1
  have : Str.empty.length = 0 := rfl
  lia
theorem item_in {A B C : Str} {c : Nat} {i : Nat} (hi : i = A.length) (hB : B.cps.toList.head? = some c) : (A ++ B ++ C).cps[i]? = some c := by
  rw [← Array.getElem?_toList, app_list, app_list, hi, len_eq A, List.append_assoc, List.getElem?_append_right (Nat.le_refl _), Nat.sub_self]
  cases h : B.cps.toList with
  | nil => rw [h] at hB; cases hB
  | cons b r => rw [h] at hB; simpa using hB
theorem item_last {A B C : Str} {c : Nat} {i : Nat} (hi : i + 1 = A.length + B.length) (hB : B.cps.toList.getLast? = some c) : (A ++ B ++ C).cps[i]? = some c := by
  have hne : B.cps.toList ≠ [] := fun e => by rw [e] at hB; cases hB
  have hpos : 0 < B.cps.toList.length := List.length_pos_iff.mpr hne
  rw [← Array.getElem?_toList, app_list, app_list, List.append_assoc, List.getElem?_append_right (by rw [← len_eq A]; rw [← len_eq B] at hpos; lia), List.getElem?_append_left (by rw [← len_eq A, ← len_eq B]; rw [← len_eq B] at hpos; omega), ← hB, List.getLast?_eq_getElem?]
  congr 1
  rw [← len_eq A, ← len_eq B]; rw [← len_eq B] at hpos; lia
theorem slice_mid {A B C : Str} {a b : Int} (ha : a = A.length) (hb : b = (A.length + B.length : Nat)) : StrLaws.sliceText (A ++ B ++ C) (some a) (some b) = B := by
  have hlen : (A ++ B ++ C).length = A.length + B.length + C.length := by rw [Str.length_append, Str.length_append]
  rw [ha, hb, StrLaws.sliceText_nat _ (by lia) (by rw [hlen]; lia)]
  apply Str.ext'
  apply Array.toList_inj.mp
  show (((A ++ B ++ C).cps.toList.drop A.length).take (A.length + B.length - A.length)) = B.cps.toList
  rw [app_list, app_list, List.append_assoc, len_eq A, List.drop_left, Nat.add_sub_cancel_left, len_eq B, List.take_left]
theorem slice_to {A B : Str} {b : Int} (hb : b = A.length) : StrLaws.sliceText (A ++ B) none (some b) = A := by
  have := slice_mid (A := Str.empty) (B := A) (C := B) (a := 0) (b := b) rfl (by rw [hb]; have : Str.empty.length = 0 := rfl; lia)
  rw [Str.empty_append] at this
  have e : StrLaws.sliceText (A ++ B) none (some b) = StrLaws.sliceText (A ++ B) (some 0) (some b) := by
    unfold StrLaws.sliceText
    rw [StrLaws.sliceIdx_none_lo]
  rw [e, this]
theorem join_head {c : Nat} {r : List Str} (h : r ≠ []) : (Str.join (one c) (Str.empty :: r)).cps.toList.head? = some c := by
  cases r with
  | nil => exact absurd rfl h
  | cons y r =>
    rw [join_cons2, app_list, app_list]
    rfl
theorem join_snoc (sep p : Str) : ∀ (ps : List Str), ps ≠ [] → Str.join sep (ps ++ [p]) = Str.join sep ps ++ sep ++ p
  | [], h => absurd rfl h
  | [x], _ => rfl
  | x :: y :: r, _ => by
    show x ++ sep ++ Str.join sep ((y :: r) ++ [p]) = (x ++ sep ++ Str.join sep (y :: r)) ++ sep ++ p
    rw [join_snoc sep p (y :: r) (by simp), Str.append_assoc, Str.append_assoc, Str.append_assoc, Str.append_assoc, Str.append_assoc]
theorem join_last_empty {c : Nat} {ps : List Str} (h : ps ≠ []) : (Str.join (one c) (ps ++ [Str.empty])).cps.toList.getLast? = some c := by
  rw [join_snoc _ _ _ h, app_list, app_list]
  simp [Str.empty]
theorem join_last {c d : Nat} {ps : List Str} {p : Str} (h : ps ≠ []) (hp : p.cps.toList.getLast? = some d) : (Str.join (one c) (ps ++ [p])).cps.toList.getLast? = some d := by
  rw [join_snoc _ _ _ h, app_list, List.getLast?_append, hp]
  rfl
end S
end
section
-- T2
set_option maxHeartbeats 2000000
theorem cut_at : ∀ {l : List Value} {k : Nat} {y : Value}, l[k]? = some y → kl_cut l k = some (l.take k, y, l.drop (k + 1))
  | [], _, _, h => by simp at h
  | x :: r, 0, y, h => by
    obtain rfl : x = y := by simpa using h
    rfl
  | x :: r, k + 1, y, h => by
    have := cut_at (l := r) (k := k) (y := y) (by simpa using h)
    show (match kl_cut r k with | some (p, y, q) => some (x :: p, y, q) | none => none) = _
    rw [this]
    rfl
theorem ints_erase {vs : List Value} {ns : List Int} (h : IntsAre vs ns) : ∀ (k : Nat), IntsAre (vs.eraseIdx k) (ns.eraseIdx k) := by
  induction h with
  | nil => intro k; exact .nil
  | cons y u r ih =>
    intro k
    cases k with
    | zero => exact r
    | succ k => exact .cons _ _ (ih k)
section
variable {prog : Program} {w : World} {A : Around} {E : Value → Shared → Prop} {s : Shared} {h₀ : Heap} {L D : Addr} {m : Str → Option Value} {news news' : List (Addr × Obj)}
theorem pop_at {u : Tok} {k : Int} {y : Value} {vs : List Value} {n : Nat} {Q : Value → Shared → Prop} (F : Fr h₀ L s.heap m) (N : News h₀ L s.heap news) (h0 : 0 ≤ k) (hx : vs[k.toNat]? = some y) (hz : vs.length < 1000)
    (U : Upd D (lst vs n) (lst (vs.eraseIdx k.toNat) (n + 1)) news news')
    (h : ∀ h', Fr h₀ L h' m → News h₀ L h' news' → Q y { s with heap := h' }) : wpAny (model prog w) A (call (.builtin "list.pop") [.ref D, .int k u]) Q E s := by
  have hlt : k.toNat < vs.length := (List.getElem?_eq_some_iff.mp hx).1
  have hfit : Builtin.List.listFitsIndex k = true := by
    have := fits_nat (i := k.toNat) (by (solve_by_elim (maxDepth := 5) [Nat.lt_of_lt_of_le, Nat.lt_of_le_of_lt, Nat.le_of_lt, Nat.le_trans, Nat.lt_trans, Nat.lt_succ_of_lt, Nat.lt_succ_of_le, Nat.le_succ_of_le, Nat.succ_le_of_lt, Nat.le_refl, Nat.sub_lt, Nat.sub_le, Nat.le_add_right, Nat.le_add_left, Nat.zero_le, Nat.zero_lt_succ, Nat.pos_of_ne_zero, Nat.le_of_lt_succ, Nat.ne_of_lt, Nat.ne_of_gt]))
    rwa [Int.toNat_of_nonneg h0] at this
  refine kl_popAt (p := vs.take k.toNat) (q := vs.drop (k.toNat + 1)) (k := k.toNat) F N hfit ?_ (by rw [List.toList_toArray]; exact cut_at hx) (by rw [List.eraseIdx_eq_take_drop_succ] at U; exact U) (by rw [List.toList_toArray]; simp only [sizeLine]; (solve_by_elim (maxDepth := 5) [Nat.lt_of_lt_of_le, Nat.lt_of_le_of_lt, Nat.le_of_lt, Nat.le_trans, Nat.lt_trans, Nat.lt_succ_of_lt, Nat.lt_succ_of_le, Nat.le_succ_of_le, Nat.succ_le_of_lt, Nat.le_refl, Nat.sub_lt, Nat.sub_le, Nat.le_add_right, Nat.le_add_left, Nat.zero_le, Nat.zero_lt_succ, Nat.pos_of_ne_zero, Nat.le_of_lt_succ, Nat.ne_of_lt, Nat.ne_of_gt])) h
  have h1 : ¬ k < 0 := by lia
  have h2 : (decide (0 ≤ k) && decide (k < (vs.length : Int))) = true := by simp only [Bool.and_eq_true, decide_eq_true_eq]; lia
  unfold seqIndex?
  simp only [List.size_toArray, h1, if_false, h2, if_true]
end
/-- the rows of the places that came -/
noncomputable def rowsP (p : Plc) (ks : List Nat) : List (Addr × Obj) := ks.flatMap fun k => [(p.ad k, p.o k), (p.wad k, lst (p.wv k) (p.wc k))]
theorem rowsP_in {p : Plc} {ks : List Nat} (h9 : ∀ k ∈ ks, k < 9) (hi : ∀ k ∈ ks, IntsAre (p.wv k) (p.wl k)) {news : List (Addr × Obj)} (hs : ∀ r ∈ rowsP p ks, r ∈ news) : p.In ks news := fun k hk =>
  ⟨h9 k hk, hs _ (List.mem_flatMap.mpr ⟨k, hk, List.mem_cons_self ..⟩), hs _ (List.mem_flatMap.mpr ⟨k, hk, List.mem_cons_of_mem _ (List.mem_cons_self ..)⟩), hi k hk⟩
/-- three words of 1 to 6, in order, none twice -/
noncomputable def WordsOk (l : List Int) : Prop := l.length = 3 ∧ l.Pairwise (· ≤ ·) ∧ l.Nodup ∧ ∀ x ∈ l, 1 ≤ x ∧ x ≤ 6
structure S2 where
  ks : List Nat
  p : Plc
  cl : Nat
  cc : Nat
  ow : Obj
noncomputable def Led2 (lA cA ca wA fA : Addr) (co fo : Obj) (lev : Nat → Int) (σ : S2) : List (Addr × Obj) :=
  (lA, lst ((lineOf lev σ.ks).map σ.p.v) σ.cl) :: (cA, lst (σ.ks.map σ.p.v) σ.cc) :: (ca, co) :: (wA, σ.ow) :: (fA, fo) :: rowsP σ.p σ.ks
structure G2 (cA : Addr) (lev : Nat → Int) (i : Nat) (σ : S2) : Prop where
  inc : σ.ks.Pairwise (· < ·)
  lt : ∀ k ∈ σ.ks, k < i
  lev : σ.p.lev = lev
  wl : ∀ k ∈ σ.ks, WordsOk (σ.p.wl k)
  wi : ∀ k ∈ σ.ks, IntsAre (σ.p.wv k) (σ.p.wl k)
  ow : ∃ v, σ.ow.data = .cell v
  off : ∀ r ∈ rowsP σ.p σ.ks, cA < r.1
noncomputable def six : List Int := [1, 2, 3, 4, 5, 6]
structure Three (x y z : Int) : Prop where
  x1 : 1 ≤ x ∧ x ≤ 6
  y1 : 1 ≤ y ∧ y ≤ 6
  z1 : 1 ≤ z ∧ z ≤ 6
  xy : x ≠ y
  xz : x ≠ z
  yz : y ≠ z
inductive Drw (a b c : Nat) : Prop
  | mk (x y z : Int) (h1 : six[a]? = some x) (h2 : (six.eraseIdx a)[b]? = some y) (h3 : ((six.eraseIdx a).eraseIdx b)[c]? = some z) (h4 : Three x y z) : Drw a b c
theorem drawn_ok {a b c : Nat} (ha : a < 6) (hb : b < 5) (hc : c < 4) : Drw a b c := by
  have key : ∀ a : Fin 6, ∀ b : Fin 5, ∀ c : Fin 4, (match six[a.val]?, (six.eraseIdx a.val)[b.val]?, ((six.eraseIdx a.val).eraseIdx b.val)[c.val]? with | some x, some y, some z => decide ((1 ≤ x ∧ x ≤ 6) ∧ (1 ≤ y ∧ y ≤ 6) ∧ (1 ≤ z ∧ z ≤ 6) ∧ x ≠ y ∧ x ≠ z ∧ y ≠ z) | _, _, _ => false) = true := by decide +kernel
  have := key ⟨a, ha⟩ ⟨b, hb⟩ ⟨c, hc⟩
  dsimp only at this
  split at this
  · rename_i x y z e1 e2 e3
    obtain ⟨h1, h2, h3, h4, h5, h6⟩ := of_decide_eq_true this
    exact ⟨x, y, z, e1, e2, e3, ⟨h1, h2, h3, h4, h5, h6⟩⟩
  · cases this
inductive FMod (x m : Int) : Prop
  | mk (a : Nat) (h1 : (a : Int) = x.fmod m) (h2 : (a : Int) < m) (h3 : (x.fmod m).toNat = a) : FMod x m
theorem fmod_nat {x m : Int} (hm : 0 < m) : FMod x m := 
  ⟨(x.fmod m).toNat, Int.toNat_of_nonneg (Int.fmod_nonneg_of_pos _ hm), by rw [Int.toNat_of_nonneg (Int.fmod_nonneg_of_pos _ hm)]; exact Int.fmod_lt_of_pos _ hm, rfl⟩
noncomputable abbrev dg (x : Int) : Str := Str.ofString (toString x)
inductive DgAt (x1 x2 x3 : Int) (i : Nat) (v : Value) : Prop
  | mk (x : Int) (t : Tok) (e : v = .int x t) (h1 : [dg x1, dg x2, dg x3].take (i + 1) = [dg x1, dg x2, dg x3].take i ++ [dg x]) (h2 : 1 ≤ x ∧ x ≤ 6) : DgAt x1 x2 x3 i v
theorem digit_at {x1 x2 x3 : Int} {t1 t2 t3 : Tok} (h : Three x1 x2 x3) {i : Nat} {v : Value} (hv : [Value.int x1 t1, Value.int x2 t2, Value.int x3 t3][i]? = some v) :
    DgAt x1 x2 x3 i v := by
  match i with
  | 0 => exact ⟨x1, t1, (Option.some.inj hv).symm, rfl, h.x1⟩
  | 1 => exact ⟨x2, t2, (Option.some.inj hv).symm, rfl, h.y1⟩
  | 2 => exact ⟨x3, t3, (Option.some.inj hv).symm, rfl, h.z1⟩
  | _ + 3 => cases hv
theorem strs_snoc {vs : List Value} {ys zs : List Str} {x : Str} {t : Tok} (h : StrsAre vs ys) (e : zs = ys ++ [x]) : StrsAre (vs ++ [.str x t]) zs := by
  rw [e]
  clear e
  induction h with
  | nil => exact .cons _ _ .nil
  | cons y u r ih => exact .cons _ _ ih
noncomputable def figS (x y z : Int) : Str := Txt.join (Str.ofString "") [dg x, dg y, dg z]
theorem fig_all : ∀ a b c : Fin 6, (figS (a.val + 1) (b.val + 1) (c.val + 1)).cps.toList = [49 + a.val, 49 + b.val, 49 + c.val] ∧ PySem.intText? (figS (a.val + 1) (b.val + 1) (c.val + 1)) = some (100 * (a.val + 1) + 10 * (b.val + 1) + (c.val + 1) : Int) ∧ dg (100 * (a.val + 1) + 10 * (b.val + 1) + (c.val + 1) : Int) = figS (a.val + 1) (b.val + 1) (c.val + 1) := by decide +kernel
/-- what is known of the three figures -/
structure FigOk (x y z : Int) (f : Str) : Prop where
  cps : f.cps.toList = [48 + x.toNat, 48 + y.toNat, 48 + z.toNat]
  num : PySem.intText? f = some (100 * x + 10 * y + z)
  back : dg (100 * x + 10 * y + z) = f
  len : f.length = 3
theorem dg_len {x : Int} (h : 1 ≤ x ∧ x ≤ 6) : (dg x).length = 1 := by
  have key : ∀ a : Fin 6, (dg (a.val + 1)).length = 1 := by decide +kernel
  obtain ⟨a, ha⟩ : ∃ a : Nat, x = (a : Int) + 1 := ⟨(x - 1).toNat, by omega⟩
  subst ha
  exact key ⟨a, by omega⟩
theorem fig_ok {x y z : Int} (h : Three x y z) : FigOk x y z (figS x y z) := by
  obtain ⟨a, ha⟩ : ∃ a : Nat, x = (a : Int) + 1 := ⟨(x - 1).toNat, by have := h.x1; omega⟩
  obtain ⟨b, hb⟩ : ∃ a : Nat, y = (a : Int) + 1 := ⟨(y - 1).toNat, by have := h.y1; omega⟩
  obtain ⟨c, hc⟩ : ∃ a : Nat, z = (a : Int) + 1 := ⟨(z - 1).toNat, by have := h.z1; omega⟩
  have h1 := h.x1
  have h2 := h.y1
  have h3 := h.z1
  subst ha hb hc
  obtain ⟨e1, e2, e3⟩ := fig_all ⟨a, by omega⟩ ⟨b, by omega⟩ ⟨c, by omega⟩
  have c1 : (figS (a + 1) (b + 1) (c + 1)).cps.toList = [48 + ((a : Int) + 1).toNat, 48 + ((b : Int) + 1).toNat, 48 + ((c : Int) + 1).toNat] := by
    rw [e1]
    simp only [List.cons.injEq, and_true]
    lia
  refine ⟨c1, e2, e3, ?_⟩
  rw [S.len_eq, c1]
  rfl
theorem constS {M : Model} {A : Around} {E : Value → Shared → Prop} {env : Env} {h : Heap} {g d} {tk : Nat} {o} {x : Str} {k : Nat} {pos : Pos} {Q : Value → Shared → Prop} (hq : Q (.str x tk) { heap := h, gens := g, drawn := d, toks := tk + 1, os := o }) :
    wpAny M A (eval (.Constant (.str x) k pos) env) Q E { heap := h, gens := g, drawn := d, toks := tk, os := o } := fun _ _ _ => hq
theorem iteN {c : Prop} [Decidable c] {a b : Prop} (hc : ¬ c) (h : b) : if c then a else b := by rwa [if_neg hc]
theorem iteY {c : Prop} [Decidable c] {a b : Prop} (hc : c) (h : a) : if c then a else b := by rwa [if_pos hc]
section
variable {prog : Program} {w : World} {A : Around} {E : Value → Shared → Prop} {s : Shared} {h₀ : Heap} {L D : Addr} {news : List (Addr × Obj)}
theorem readsAll_ints {h : Heap} {vs : List Value} {ns : List Int} (hi : IntsAre vs ns) : ∃ as, ReadsAll h vs (ns.map .int) as := by
  induction hi with
  | nil => exact ⟨_, .nil⟩
  | cons x t r ih =>
    obtain ⟨as, h⟩ := ih
    exact ⟨_, .cons (.int _ _) h⟩
theorem any_int (k : Int) : ∀ xs : List Int, ((xs.map PyData.int).any fun y => PyData.eqv y (.int k)) = decide (k ∈ xs)
  | [] => by simp
  | x :: r => by
    rw [List.map_cons, List.any_cons, any_int k r]
    simp only [PyData.eqv, List.mem_cons]
    by_cases h : x = k
    · subst h; simp
    · have h' : ¬ k = x := fun e => h e.symm
      simp [h, h']
theorem int_in_tup {k : Int} {t : Tok} {vs : List Value} {xs : List Int} {n : Nat} {Q : Value → Shared → Prop} (N : News h₀ L s.heap news) (hm : (D, tupObj vs n) ∈ news) (hi : IntsAre vs xs) (hu : A.units + 64 < cLine) (h : Q (.bool (decide (k ∈ xs))) s) :
    wpAny (model prog w) A (compareOp .In (.int k t) (.ref D)) Q E s := by
  obtain ⟨as, hr⟩ := readsAll_ints (h := s.heap) hi
  refine SeqAt.in_tuple_reads (xs := xs.map .int) (d := .int k) (reads_tuple_at (N.get hm) rfl rfl hr) (.int _ _) (canLayAll0_ints xs) rfl ?_ ?_
  · have := Nat.min_le_right (PyData.depthAll (xs.map PyData.int)) (PyData.int k).depth
    have e : (PyData.int k).depth ≤ 2 := by simp [PyData.depth]
    lia
  · rw [any_int]; exact h
end
end
section
-- Tld
set_option maxHeartbeats 8000000
theorem below_env {A₀ A : Around} {base h₀ h : Heap} {env : Env} {outer : List Env} {L : Addr} {m : Str → Option Value} (K : Below A₀ base outer h₀) (F : Fr h₀ L h m) (hA : A.frames = some (env :: outer)) (hf : env.frame = some L) (hk : env.scope.kind = .function) :
    Below A base (env :: outer) h := by
  have hnew : base.get? L = none := by
    cases hq : base.get? L with
    | none => rfl
    | some o => exact absurd (Nat.lt_of_lt_of_le (Heap.lt_size (K.stays L o hq)) F.above) (Nat.lt_irrefl _)
  refine ⟨hA, fun b o e => F.keep b o (K.stays b o e), ?_⟩
  exact .cons (by rw [hk]; decide) hf F.ns hnew (K.frames.of_keeps fun b o e _ => ⟨o, F.keep b o e, rfl⟩)
section
variable {prog : Program} {w : World} {A₀ A : Around} {s : Shared} {base h₀ g₀ : Heap} {outer : List Env} {L : Addr} {m : Str → Option Value} {env : Env} {news : List (Addr × Obj)} {K : Frag} {p : Program} {loose : List Str} {mean : ExcName → Option Value} {mg mb : Str → Option Value}
    {R : Result → Shared → Prop} {name qual : Str} {params : Arguments} {body : List Stmt} {scope : Scope} {dV kV doc pm cdv ct oc : Value} {an od : Option Addr} {osl : Array (Option Value)} {f : Addr} {args : Args} {binds : List (Str × Value)}
/-- a def with a try, called from the law, whose frame has cells -/
theorem code_told (B : Below A₀ base [] h₀) (F : Fr h₀ L s.heap m) (X₀ : K.In h₀) (N : News h₀ L s.heap news) (T : Top p loose mean mg mb h₀) (hA : A.frames = some [env]) (hf : env.frame = some L)
    (hck : env.scope.kind = .function)
    (ho : K.lookup f = some ⟨oc, od, .func (fnOf name qual params body scope dV kV doc pm an cdv ct), osl⟩) (hcd : codeIn K cdv qual = true) (hroom : A.depth < recursionLimit)
    (hbind : BindsTo s (fnOf name qual params body scope dV kV doc pm an cdv ct) args binds) (hloc : ∀ y ∈ binds, scope.names.lookup y.1 = some .local)
    (h : ∀ g L' h₁, Fr h₀ L g m → Fr g L' h₁ (fun y => binds.reverse.lookup y) → News g L' h₁ news → Below A base [env] g → K.In g → Top p loose mean mg mb g → KtsDicts ([env].filterMap (·.frame)) g →
      wpAny (model prog w) (A.deeper (envOf qual scope L' f cdv)) (execs body (envOf qual scope L' f cdv))
        (fun fl s' => LeaveS0 ([env].filterMap (·.frame)) h₀ L m g R (match fl with | .ret v => v | _ => .none) s')
        (fun e s' => wpAny (model prog w) (A.deeper (envOf qual scope L' f cdv)) (leaving (envOf qual scope L' f cdv) e) (fun _ s'' => R (.error e) s'') (fun e' s'' => R (.error e') s'') s')
        { s with heap := h₁, toks := s.toks + binds.length })
    (hco : scope.isCoroutine = false) (hgen : scope.isGenerator = false) (hk : scope.kind = .function)
    (hcell : ∀ x ∈ scope.names, x.2 ≠ .cell) : codeAny (model prog w) A (.call (.ref f) args) R s := by
  have X := X₀.keeps F.keep
  have hfs : [env].filterMap (·.frame) = [L] := by simp [hf]
  rw [hfs] at h
  refine codeAny_call_def (fd := fnOf name qual params body scope dV kV doc pm an cdv ct) (body := body) (binds := binds) hroom (X _ _ ho) rfl (T.nolimit.keeps F.keep) (codeRec_of X hcd) rfl hbind hcell hloc (fun h₁ hns hk₁ => ?_) hco hgen hk
  have nm : ∀ b o, h₀.get? b = some o → b ∉ news.map (·.1) := fun b o e q => by
    obtain ⟨p, hp, rfl⟩ := List.mem_map.mp q
    rw [(N p hp).2.2] at e; cases e
  have st : h₀.StaysIn (hideAll s.heap (news.map (·.1))) := fun b o e => hideAll_get _ (F.keep b o e) (nm b o e)
  obtain ⟨oL, es, ep, hL, hLd, hLk, hLf⟩ := F.ns
  have nL : L ∉ news.map (·.1) := fun q => by
    obtain ⟨p, hp, e⟩ := List.mem_map.mp q
    exact (N p hp).2.1 e
  have hLg := hideAll_get (news.map (·.1)) hL nL
  have hN : ∀ h', h'.get? L = some oL → Heap.Ns h' L m := fun h' e => ⟨oL, es, ep, e, hLd, hLk, hLf⟩
  have hNs : ∀ (sl : Array (Option Value)) h', h'.get? L = some { oL with slots := sl } → Heap.Ns h' L m := fun sl h' e => ⟨_, es, ep, e, hLd, hLk, hLf⟩
  have B₂ : Below A base [env] (hideAll s.heap (news.map (·.1))) := below_env B ⟨hN _ hLg, st, F.above⟩ hA hf hck
  refine wpAny_mono (h _ s.heap.objs.size h₁ ⟨hN _ hLg, st, F.above⟩ ⟨hns, fun b o e => hk₁ b o (of_hideAll _ e), Nat.le_of_eq (hideAll_size _ _)⟩
    (fun p hp => ⟨hk₁ _ _ (N p hp).1, Nat.ne_of_lt (Heap.lt_size (N p hp).1), hideAll_none _ (List.mem_map_of_mem hp)⟩) B₂ (X₀.keeps st) (T.keeps st) (fun b hb => by
      obtain rfl := List.mem_singleton.mp hb
      exact ⟨oL, es, ep, hLg, hLd⟩)) (fun fl s' hl => ?_) fun _ _ y => y
  obtain ⟨g', L', m', news', T', F', N', k⟩ := hl
  have nL₀ : h₀.get? L = none := kts_self F
  obtain ⟨sl, hs⟩ := T'.up hLg
  refine k ⟨hNs sl _ (F'.keep _ _ hs), fun b o e => F'.keep b o (T'.other b o (st b o e) (fun q => by
    obtain rfl := List.mem_singleton.mp q
    rw [nL₀] at e
    cases e)), F.above⟩ fun p hp => ⟨(N' p hp).1, fun q => ?_, ?_⟩
  · have := (N' p hp).2.2; rw [q, hs] at this; cases this
  · cases q : h₀.get? p.1 with
    | none => rfl
    | some o =>
      obtain ⟨sl', hs'⟩ := T'.up (st _ _ q)
      have := (N' p hp).2.2
      rw [hs'] at this
      cases this
end
/-- what a def with a try does, called from the law -/
noncomputable def DoesT (w : World) (mean : ExcName → Option Value) (mg mb : Str → Option Value) (D : Nat) (f : Addr) (args : List Value) (kw : List (Str × Value)) (news : List (Addr × Obj)) (Out : Value → List (Addr × Obj) → Prop) : Prop :=
  ∀ (dp un : Nat) (gd : Option (List Code)) (cn : Str) (cs : Scope) (fa : Addr) (ccd : Value) (cl : List (Str × Addr)) (A₀ : Around) (h₀ : Heap) (L : Addr) (m : Str → Option Value) (s : Shared) (Q E : Value → Shared → Prop),
    Below A₀ h₀ [] h₀ → Fr h₀ L s.heap m → (h0.hd.heap_39 w.params).In h₀ → News h₀ L s.heap news → Top h0.hd.view_39 (looseW h0.hd.view_39 [Str.ofString "insort_right", Str.ofString "bisect_right", Str.ofString "insort_left", Str.ofString "bisect_left"]) mean mg mb h₀ → cs.kind = .function →
    dp + D < recursionLimit → un + 8 * D < cLine →
    (∀ r news' h' tk', Fr h₀ L h' m → News h₀ L h' news' → Out r news' → Q r { s with heap := h', toks := tk' }) →
    wpAny (model PySem.Challenge.pw_wy0021_01 w) (ktrTop dp un gd cn cs L fa ccd cl []) (call (.ref f) args kw) Q E s
theorem DoesT.use {w : World} {mean : ExcName → Option Value} {mg mb : Str → Option Value} {D : Nat} {f : Addr} {args : List Value} {kw : List (Str × Value)} {news : List (Addr × Obj)} {Out : Value → List (Addr × Obj) → Prop}
    (H : DoesT w mean mg mb D f args kw news Out)
    {dp un : Nat} {gd : Option (List Code)} {cn : Str} {cs : Scope} {fa : Addr} {ccd : Value} {cl : List (Str × Addr)} {A₀ : Around} {h₀ : Heap} {L : Addr} {m : Str → Option Value} {s : Shared} {Q E : Value → Shared → Prop}
    (B : Below A₀ h₀ [] h₀) (F : Fr h₀ L s.heap m) (X : (h0.hd.heap_39 w.params).In h₀) (N : News h₀ L s.heap news) (T : Top h0.hd.view_39 (looseW h0.hd.view_39 [Str.ofString "insort_right", Str.ofString "bisect_right", Str.ofString "insort_left", Str.ofString "bisect_left"]) mean mg mb h₀) (hk : cs.kind = .function)
    (hdp : dp + D < recursionLimit) (hun : un + 8 * D < cLine)
    (hret : ∀ r news' h' tk', Fr h₀ L h' m → News h₀ L h' news' → Out r news' → Q r { s with heap := h', toks := tk' }) :
    wpAny (model PySem.Challenge.pw_wy0021_01 w) (ktrTop dp un gd cn cs L fa ccd cl []) (call (.ref f) args kw) Q E s := H _ _ _ _ _ _ _ _ _ _ _ _ _ _ _ B F X N T hk hdp hun hret
end
section
-- Xs
theorem rstXs : True := by
  w_top off
  trivial
open Builtin Builtin.Str Builtin.BaseException Builtin.Exceptions
set_option maxHeartbeats 8000000
section
variable {prog : Program} {w : World} {A : Around} {E : Value → Shared → Prop} {s : Shared} {h₀ : Heap} {L : Addr} {K : Frag} {x C t0 : Addr} {o : Obj} {vs : Array Value} {m : Str} {tk : Tok}
theorem argsOwn {M : Model} {items : List Value} {Q : Value × List Value → Shared → Prop} (ho : s.heap.get? x = some o) (hd : o.data = .fields vs) (h0 : vs[0]? = some (.ref t0)) (ht : s.heap.TupAt t0 items) (hq : Q (.ref t0, items) s) :
    wpAny M A (bexcArgs (.ref x)) Q E s := by
  obtain ⟨ot, k, hto, _, htd⟩ := ht
  unfold bexcArgs
  refine wpAny_bind (wpAny_field ho hd h0 (wpAny_bind (wpAny_seqItems hto htd ?_)))
  have : items.toArray.toList = items := by simp
  show wpAny M A (pure (Value.ref t0, items.toArray.toList)) Q E s
  rw [this]; exact wpAny_pure hq
theorem strEntryOwn {Q : Fin → Shared → Prop} (ho : s.heap.get? x = some o) (hd : o.data = .fields vs) (h0 : vs[0]? = some (.ref t0)) (ht : s.heap.TupAt t0 [.str m tk]) (hq : Q (.done (.ret (.str m tk))) s) :
    wpAny (model prog w) A (Builtin.«BaseException.__str__» ⟨[.ref x], []⟩) Q E s := by
  unfold Builtin.«BaseException.__str__»
  repeat (first | with_reducible refine argsOwn ho hd h0 ht ?_ | wp_step)
  exact hq
theorem checkOwn {Q : Unit → Shared → Prop} (X : K.In s.heap) (ho : s.heap.get? x = some o) (hc : o.cls = .ref C) (q : ktsIn K C "BaseException" = true) (hq : Q () s) :
    wpAny (model prog w) A (checkBuiltinCall "BaseException.__str__" ⟨[.ref x], []⟩) Q E s := by
  have hk : builtinKind "BaseException.__str__" = some .slot := by decide +kernel
  have hsplit : splitId "BaseException.__str__" = some ("BaseException", "__str__") := by decide +kernel
  obtain ⟨nm, q', N, bs, bm, hdct, sn, sub, ab, col, dd, k0, k1, k2, k3, k5, newId, hC, hbase, hbT⟩ := kts_cls X q
  have hcB : (Value.ref C :: bm).contains (.type "BaseException") = true := by rw [List.contains_cons, hbase, Bool.or_true]
  have ha := F.args_bexc_str (.ref x)
  obtain ⟨hh, g, d, t, os⟩ := s
  simp only [checkBuiltinCall, hk, hsplit]
  refine wpAny_bind ?_
  unfold isInstance
  repeat (first | (with_reducible refine wpAny_loadPart_at ho ?_; rw [hc]) | (with_reducible refine wpAny_isSubtype_exc hC ?_; rw [hcB]) | wp_step)
  exact hq
theorem callOwn {Q : Value → Shared → Prop} (X : K.In s.heap) (ho : s.heap.get? x = some o) (hc : o.cls = .ref C) (hd : o.data = .fields vs) (h0 : vs[0]? = some (.ref t0)) (ht : s.heap.TupAt t0 [.str m tk]) (q : ktsIn K C "BaseException" = true) (hq : Q (.str m tk) s) :
    wpAny (model prog w) A (call (.builtin "BaseException.__str__") [.ref x]) Q E s :=
  wpAny_call (codeAny_call_builtin PySem.F.excStr_Exception.str.plain F.entry_bexc_str (checkOwn X ho hc q (strEntryOwn ho hd h0 ht hq)))
theorem strOfOwn {Q : Value → Shared → Prop} (hu : A.units < cLine) (X : K.In s.heap) (ho : s.heap.get? x = some o) (hc : o.cls = .ref C) (hd : o.data = .fields vs) (h0 : vs[0]? = some (.ref t0)) (ht : s.heap.TupAt t0 [.str m tk])
    (hs : findIn K (.ref C) "__str__" = some (some (.builtin "BaseException.__str__"))) (q : ktsIn K C "BaseException" = true) (hq : Q (.str m tk) s) :
    wpAny (model prog w) A (PySem.Builtin.Str.strOf (.ref x)) Q E s := by
  have hT : Looks (model prog w) s.heap (typeOf (.ref x)) (.ref C) := hc ▸ (Looks.ld ho).andThen .now
  unfold PySem.Builtin.Str.strOf
  rw [show isExactStr (.ref x) = false from rfl]
  refine wpAny_bind (m := cRoomFor _ _) (wpAny_cRoomFor hu ?_)
  refine wpAny_bind (m := callSpecial? (.ref x) (Str.ofString "__str__")) ?_
  simp only [callSpecial?]
  refine wpAny_bind (wpAny_bind (hT.here ((looks_findIn X hs).here ?_)))
  dsimp only
  rw [PySem.F.excStr_Exception.str.bind]
  exact wpAny_holding (wpAny_bind (wpAny_pure (wpAny_bind (wpAny_mono (callOwn X ho hc hd h0 ht q (Q := fun v s' => v = .str m tk ∧ Q v s') ⟨rfl, hq⟩) (fun v s' hv => by obtain ⟨rfl, hv⟩ := hv; exact wpAny_pure (wpAny_pure hv)) fun _ _ h' => h'))))
/-- str() of an exception of an own class, made with one text -/
theorem str_own {news : List (Addr × Obj)} {Q : Value → Shared → Prop} (N : News h₀ L s.heap news) (FX : K.In s.heap) (G : Got news x t0 (.ref C) [.str m tk]) (hu : A.units + 2 < cLine)
    (hs : findIn K (.ref C) "__str__" = some (some (.builtin "BaseException.__str__"))) (q : ktsIn K C "BaseException" = true) (hq : Q (.str m tk) s) :
    wpAny (model prog w) A (call (.type "str") [.ref x]) Q E s := by
  obtain ⟨oe, ot, ws, nt, h1, h2, hc, hd, h0, htc, htd⟩ := G
  have ht : s.heap.TupAt t0 [.str m tk] := ⟨ot, nt, N.get h2, htc, htd⟩
  refine callType_new F.called_str (by decide) (F.typeCall_str_1 _) (F.newCall_str_1 _) (fun obj => F.args_object_init_2 obj _) F.entry_str_new
    (meets_str_new (S := fun A' R s' => A'.units + 1 < cLine ∧ s' = s ∧ R (.ok (.ret (.str m tk))) s')
      fun _ _ A' s' _ hq' => ?_)
    ⟨(show A.units + 1 + 1 < cLine from hu), rfl, typeIs_str _ _ _, hq⟩
  obtain ⟨hu', rfl, hq'⟩ := hq'
  exact strOfOwn (A := A'.in1) hu' FX (N.get h1) hc hd h0 ht hs q hq'
end
theorem News.keep {h₀ h : Heap} {L : Addr} {q : Addr × Obj} {l l' : List (Addr × Obj)} (N : News h₀ L h (q :: l)) (hs : ∀ p ∈ l', p ∈ l) : News h₀ L h (q :: l') := fun p hp => by
  rcases List.mem_cons.mp hp with rfl | hp
  · exact N _ (List.mem_cons_self ..)
  · exact N p (List.mem_cons_of_mem _ (hs p hp))
end
-- B5
theorem rstB5 : True := by
  w_top off
  trivial
set_option maxHeartbeats 8000000
local macro_rules | `(tactic| walk_at "exec For Name Subscript cons nil") => `(tactic| (refine Held.out ?_))
local macro_rules | `(tactic| walk_at "exec For Name Name cons nil") => `(tactic| (refine Held.out ?_))
local macro_rules | `(tactic| walk_at "exec For Name Call cons nil") => `(tactic| (refine Held.out ?_))
local macro_rules | `(tactic| walk_at "exec For Name Tuple cons nil") => `(tactic| (refine Held.out ?_))
local macro_rules | `(tactic| walk_at "pyIter ref") => `(tactic| (refine Held.out ?_))
local macro_rules | `(tactic| walk_at "ForS") => `(tactic| (refine Held.out ?_))
noncomputable abbrev fL (X : Str) : Int := Txt.find X (Str.ofString "(")
noncomputable abbrev fR (X : Str) : Int := Txt.find3 X (Str.ofString ")") (fL X + 1)
/-- what parse229 finds in a reply -/
structure Found (X : Str) (r : Int) : Prop where
  len : X.length ≤ 100
  code : Txt.slice X none (some 3) = Str.ofString "229"
  left : fL X = 8
  right : fR X = r
  r1 : 9 < r
  r2 : r < X.length
theorem ne_str_f {prog : Program} {w : World} {A : Around} {E : Value → Shared → Prop} {s : Shared} {x y : Str} {t u : Tok} {Q : Value → Shared → Prop} (e : x = y) (h : Q (.bool false) s) : wpAny (model prog w) A (compareOp .NotEq (.str x t) (.str y u)) Q E s := by
  refine ne_str ?_
  subst e
  rw [bne_self_eq_false]
  exact h
theorem ne_str_t {prog : Program} {w : World} {A : Around} {E : Value → Shared → Prop} {s : Shared} {x y : Str} {t u : Tok} {Q : Value → Shared → Prop} (e : x ≠ y) (h : Q (.bool true) s) : wpAny (model prog w) A (compareOp .NotEq (.str x t) (.str y u)) Q E s := by
  refine ne_str ?_
  rw [bne_iff_ne.mpr e]
  exact h
local macro_rules | `(tactic| walk_at "compareOp NotEq str str") => `(tactic| refine Held.out ?_)
local macro_rules | `(tactic| walk_at "call type:int") => `(tactic| with_reducible refine hInt ?_)
noncomputable abbrev tB (X : Str) : Str := Txt.item X (Txt.find X (Str.ofString "(") + 1)
noncomputable abbrev tE (X : Str) : Str := Txt.item X (Txt.find3 X (Str.ofString ")") (Txt.find X (Str.ofString "(") + 1) - 1)
noncomputable abbrev tP (X : Str) : List Str := Txt.split (Txt.slice X (some (Txt.find X (Str.ofString "(") + 1)) (some (Txt.find3 X (Str.ofString ")") (Txt.find X (Str.ofString "(") + 1)))) (Txt.item X (Txt.find X (Str.ofString "(") + 1))
/-- what a told reply gives -/
inductive TOut (X : Str) (tx : Tok) (y : Str) (ty : Tok) (news : List (Addr × Obj)) : Value → List (Addr × Obj) → Prop
  | code (D : Addr) (t : Tok) (h : Txt.slice X none (some 3) ≠ Str.ofString "229") : TOut X tx y ty news (.ref D) ((D, lst [.str (Str.ofString "reply") t, .str X tx] 0) :: news)
  | proto (D : Addr) (t : Tok) (h : Txt.slice X none (some 3) = Str.ofString "229") (h2 : 0 ≤ Txt.find X (Str.ofString "(") → 0 ≤ Txt.find3 X (Str.ofString ")") (Txt.find X (Str.ofString "(") + 1) → tB X = tE X → (tP X).length ≠ 5) : TOut X tx y ty news (.ref D) ((D, lst [.str (Str.ofString "proto") t, .str X tx] 0) :: news)
  | ok (D : Addr) (t : Tok) (p : Str) (port : Int) (h : Txt.slice X none (some 3) = Str.ofString "229") (h1 : ¬ Txt.find X (Str.ofString "(") < 0) (h2 : ¬ Txt.find3 X (Str.ofString ")") (Txt.find X (Str.ofString "(") + 1) < 0) (h3 : tB X = tE X) (h4 : (tP X).length = 5) (h5 : (tP X)[3]? = some p) (h6 : PySem.intText? p = some port) : TOut X tx y ty news (.ref D) ((D, tupObj [.str y ty, .int port t] 0) :: news)
theorem five_ne {l : List (Str × Tok)} {X c : Str} (h : List.map (fun x => x.fst) l = Txt.split X c) (hn : ¬ ((l.length : Int) = 5)) : (Txt.split X c).length ≠ 5 := by
  rw [← h, List.length_map]
  exact fun e => hn (congrArg Nat.cast e)
theorem five_eq {l : List (Str × Tok)} {X c : Str} (h : List.map (fun x => x.fst) l = Txt.split X c) (hn : (l.length : Int) = 5) : (Txt.split X c).length = 5 := by
  rw [← h, List.length_map]
  exact Int.ofNat.inj hn
theorem part_at {l : List (Str × Tok)} {X c y : Str} (h : List.map (fun x => x.fst) l = Txt.split X c) (hy : (List.map (fun x => x.fst) l)[Int.toNat 3]? = some y) : (Txt.split X c)[3]? = some y := by
  rw [h] at hy
  exact hy
theorem told_any {w : World} {mean : ExcName → Option Value} {mg mb : Str → Option Value} {news : List (Addr × Obj)} {rp y : Str} {tx ty : Tok} (hlen : rp.length ≤ 100)
    (hL : Txt.slice rp none (some 3) = Str.ofString "229" → Txt.find rp (Str.ofString "(") < 0 ∨ Txt.find3 rp (Str.ofString ")") (Txt.find rp (Str.ofString "(") + 1) < 0 ∨ (Txt.find rp (Str.ofString "(") = 8 ∧ 9 < Txt.find3 rp (Str.ofString ")") (Txt.find rp (Str.ofString "(") + 1) ∧ Txt.find3 rp (Str.ofString ")") (Txt.find rp (Str.ofString "(") + 1) < rp.length))
    (h5 : ∀ p, Txt.slice rp none (some 3) = Str.ofString "229" → ¬ Txt.find rp (Str.ofString "(") < 0 → ¬ Txt.find3 rp (Str.ofString ")") (Txt.find rp (Str.ofString "(") + 1) < 0 → tB rp = tE rp → (tP rp).length = 5 → (tP rp)[3]? = some p → ∃ port, PySem.intText? p = some port ∧ p.length ≤ 640) :
    DoesT w mean mg mb 3 122 [.str rp tx, .str y ty] [] news (TOut rp tx y ty news) := by
  ((unfold DoesT); (intro dp un gd cn cs fa ccd cl A₀ h₀ L m s Q E B F X N T hk hdp hun hret); (refine wpAny_call ?_); (k_dflt (refine' code_told ?k1 ?k2 ?k3 ?k4 ?k5 ?kA ?kF ?kK ?k6 ?k7 ?k8 ?k9 ?kB ?_ ?c2 ?c3 ?c4 ?c5; (case kA => exact rfl); (case kF => exact rfl); (case kK => assumption); (case k1 => k_asm); (case k2 => k_asm); (case k3 => k_asm); (case k4 => k_asm); (case k5 => k_asm); (case k6 => k_is); (case k7 => k_is); (case k8 => ktr_room); (case k9 => exact BindsTo.of_eq rfl); (case kB => exact locs rfl); (case c2 => exact rfl); (case c3 => exact rfl); (case c4 => exact rfl); (case c5 => decide); k_whole; intro g' L' h' FG' F' N' B' X' T' D'; (try dsimp only); (try k_lift B'); (try k_fold))))
  ((repeat' (first | (k_unfold; (try clear ze zq); (try dsimp only)) | (k_end; wrow_close) | ((fail_if_success (fail_if_success (with_reducible refine wpAny_execs_cons ?_))); ((try ((fail_if_success (fail_if_success k_fold)); (with_reducible refine foldQ ?_); intro zq ze)); (try k_gentoks); (with_reducible refine wpAny_execs_cons ?_); (try dsimp only); ((fail_if_success (fail_if_success k_fold)); (with_reducible refine foldQ ?_); intro zq ze))) | ((with_reducible show wpAny _ _ (eval (.Name _ _) _) _ _ _); (k_dflt (refine nameL (by k_asm) (by exact rfl) ?_ rfl rfl (by decide)); k_whole)) | walk1 | (dsimp only; walk1) | (leave1; (try dsimp only)))) <;> (try ((fail_if_success (fail_if_success k_fold)); (with_reducible refine foldQ ?_); intro zq ze)))
  ((refine Held.mk ?_); (refine wpAny_call ?_); (k_dflt (refine' code_defS ?k1 ?k2 ?k3 ?k4 ?k5 ?XB ?TB ?D ?T0 ?kA ?k6 ?k7 ?k8 ?k9 ?kB ?_ ?cK ?c2 ?c3 ?c4 ?c5; (case kA => exact rfl); (case k2 => k_asm); (case k1 => k_asm); (case XB => assumption); (case TB => assumption); (case D => assumption); (case T0 => first | assumption | exact KtsTurn.refl); (case k3 => k_asm); (case k4 => k_asm); (case k5 => k_asm); (case k6 => k_is); (case k7 => k_is); (case k8 => ktr_room); (case k9 => first | exact BindsTo.of_eq rfl | exact binds_K (by k_in) rfl (by k_is) rfl rfl rfl | (refine' kp_binds ?kx ?ke; (case kx => k_in); (case ke => exact fun _ => rfl))); (case kB => exact locs rfl); (case cK => exact rfl); (case c2 => exact rfl); (case c3 => exact rfl); (case c4 => exact rfl); (case c5 => decide); k_whole; intro g2 L2 h2 FG2 F2 N2 B2 X2 T2 D2; (try dsimp only); (try k_lift B2); (try k_fold))))
  ((repeat' (first | (k_unfold; (try clear ze zq); (try dsimp only)) | (k_end; wrow_close) | ((fail_if_success (fail_if_success (with_reducible refine wpAny_execs_cons ?_))); ((try ((fail_if_success (fail_if_success k_fold)); (with_reducible refine foldQ ?_); intro zq ze)); (try k_gentoks); (with_reducible refine wpAny_execs_cons ?_); (try dsimp only); ((fail_if_success (fail_if_success k_fold)); (with_reducible refine foldQ ?_); intro zq ze))) | ((with_reducible show wpAny _ _ (eval (.Name _ _) _) _ _ _); (k_dflt (refine nameL (by k_asm) (by exact rfl) ?_ rfl rfl (by decide)); k_whole)) | walk1 | (dsimp only; walk1) | (leave1; (try dsimp only)))) <;> (try ((fail_if_success (fail_if_success k_fold)); (with_reducible refine foldQ ?_); intro zq ze)))
  refine Held.mk ?_
  by_cases hcode : Txt.slice rp none (some 3) = Str.ofString "229"
  · have hL := hL hcode
    refine ne_str_f hcode ?_
    ((repeat' (first | (k_unfold; (try clear ze zq); (try dsimp only)) | (k_end; wrow_close) | ((fail_if_success (fail_if_success (with_reducible refine wpAny_execs_cons ?_))); ((try ((fail_if_success (fail_if_success k_fold)); (with_reducible refine foldQ ?_); intro zq ze)); (try k_gentoks); (with_reducible refine wpAny_execs_cons ?_); (try dsimp only); ((fail_if_success (fail_if_success k_fold)); (with_reducible refine foldQ ?_); intro zq ze))) | ((with_reducible show wpAny _ _ (eval (.Name _ _) _) _ _ _); (k_dflt (refine nameL (by k_asm) (by exact rfl) ?_ rfl rfl (by decide)); k_whole)) | ((k_here; (with_reducible show wpAny _ _ (call (Value.type "str") [Value.ref _]) _ _ _); k_dflt (refine' str_own ?N ?FX ?G ?U ?hs ?q ?_; (case G => assumption); (case N => assumption); (case FX => k_in); (case U => ktr_units); (case hs => k_is); (case q => kts_isx); k_whole))) | walk1 | (dsimp only; walk1) | (leave1; (try dsimp only)))) <;> (try ((fail_if_success (fail_if_success k_fold)); (with_reducible refine foldQ ?_); intro zq ze)))
    · exact hret _ _ _ _ (by k_asm) (News.keep (by k_asm) (by (intro p hp; (try dsimp only at hp ⊢); first | exact hp | exact List.mem_cons_of_mem _ hp | exact List.mem_cons_of_mem _ (List.mem_cons_of_mem _ hp) | (simp only [List.mem_cons, List.mem_append, List.not_mem_nil, or_false, false_or, List.cons_append, List.nil_append] at hp ⊢; grind)))) (.proto _ _ hcode (fun h _ _ => absurd h (by omega)))
    · exact hret _ _ _ _ (by k_asm) (News.keep (by k_asm) (by (intro p hp; (try dsimp only at hp ⊢); first | exact hp | exact List.mem_cons_of_mem _ hp | exact List.mem_cons_of_mem _ (List.mem_cons_of_mem _ hp) | (simp only [List.mem_cons, List.mem_append, List.not_mem_nil, or_false, false_or, List.cons_append, List.nil_append] at hp ⊢; grind)))) (.proto _ _ hcode (fun _ h _ => absurd h (by omega)))
    refine Held.mk ?_
    by_cases hne : tB rp = tE rp
    · refine ne_str_f hne ?_
      ((repeat' (first | (k_unfold; (try clear ze zq); (try dsimp only)) | (k_end; wrow_close) | ((fail_if_success (fail_if_success (with_reducible refine wpAny_execs_cons ?_))); ((try ((fail_if_success (fail_if_success k_fold)); (with_reducible refine foldQ ?_); intro zq ze)); (try k_gentoks); (with_reducible refine wpAny_execs_cons ?_); (try dsimp only); ((fail_if_success (fail_if_success k_fold)); (with_reducible refine foldQ ?_); intro zq ze))) | ((with_reducible show wpAny _ _ (eval (.Name _ _) _) _ _ _); (k_dflt (refine nameL (by k_asm) (by exact rfl) ?_ rfl rfl (by decide)); k_whole)) | ((k_here; (with_reducible show wpAny _ _ (call (Value.type "str") [Value.ref _]) _ _ _); k_dflt (refine' str_own ?N ?FX ?G ?U ?hs ?q ?_; (case G => assumption); (case N => assumption); (case FX => k_in); (case U => ktr_units); (case hs => k_is); (case q => kts_isx); k_whole))) | ((with_reducible show wpAny _ _ (call (.builtin "len") [.ref _]) _ _ _); (k_dflt (refine kx_len (by k_asm) (by first | assumption | k_mem) (by omega) ?_); intro _ _)) | walk1 | (dsimp only; walk1) | (leave1; (try dsimp only)))) <;> (try ((fail_if_success (fail_if_success k_fold)); (with_reducible refine foldQ ?_); intro zq ze)))
      · exact hret _ _ _ _ (by k_asm) (News.keep (by k_asm) (by (intro p hp; (try dsimp only at hp ⊢); first | exact hp | exact List.mem_cons_of_mem _ hp | exact List.mem_cons_of_mem _ (List.mem_cons_of_mem _ hp) | (simp only [List.mem_cons, List.mem_append, List.not_mem_nil, or_false, false_or, List.cons_append, List.nil_append] at hp ⊢; grind)))) (.proto _ _ hcode (fun _ _ _ => five_ne (by assumption) (by assumption)))
      have hp3 := part_at (by assumption) (by assumption)
      have hp5 := five_eq (by assumption) (by assumption)
      obtain ⟨port, hport, hfl⟩ := h5 _ hcode (by assumption) (by assumption) hne hp5 hp3
      refine Held.mk ?_
      refine KIN.call_text hport hfl ?_
      ((repeat' (first | (k_unfold; (try clear ze zq); (try dsimp only)) | (k_end; wrow_close) | ((fail_if_success (fail_if_success (with_reducible refine wpAny_execs_cons ?_))); ((try ((fail_if_success (fail_if_success k_fold)); (with_reducible refine foldQ ?_); intro zq ze)); (try k_gentoks); (with_reducible refine wpAny_execs_cons ?_); (try dsimp only); ((fail_if_success (fail_if_success k_fold)); (with_reducible refine foldQ ?_); intro zq ze))) | ((with_reducible show wpAny _ _ (eval (.Name _ _) _) _ _ _); (k_dflt (refine nameL (by k_asm) (by exact rfl) ?_ rfl rfl (by decide)); k_whole)) | walk1 | (dsimp only; walk1) | (leave1; (try dsimp only)))) <;> (try ((fail_if_success (fail_if_success k_fold)); (with_reducible refine foldQ ?_); intro zq ze)))
      exact hret _ _ _ _ (by k_asm) (News.keep (by k_asm) (by (intro p hp; (try dsimp only at hp ⊢); first | exact hp | exact List.mem_cons_of_mem _ hp | exact List.mem_cons_of_mem _ (List.mem_cons_of_mem _ hp) | (simp only [List.mem_cons, List.mem_append, List.not_mem_nil, or_false, false_or, List.cons_append, List.nil_append] at hp ⊢; grind)))) (.ok _ _ _ _ hcode (by assumption) (by assumption) hne hp5 hp3 hport)
    · refine ne_str_t hne ?_
      ((repeat' (first | (k_unfold; (try clear ze zq); (try dsimp only)) | (k_end; wrow_close) | ((fail_if_success (fail_if_success (with_reducible refine wpAny_execs_cons ?_))); ((try ((fail_if_success (fail_if_success k_fold)); (with_reducible refine foldQ ?_); intro zq ze)); (try k_gentoks); (with_reducible refine wpAny_execs_cons ?_); (try dsimp only); ((fail_if_success (fail_if_success k_fold)); (with_reducible refine foldQ ?_); intro zq ze))) | ((with_reducible show wpAny _ _ (eval (.Name _ _) _) _ _ _); (k_dflt (refine nameL (by k_asm) (by exact rfl) ?_ rfl rfl (by decide)); k_whole)) | ((k_here; (with_reducible show wpAny _ _ (call (Value.type "str") [Value.ref _]) _ _ _); k_dflt (refine' str_own ?N ?FX ?G ?U ?hs ?q ?_; (case G => assumption); (case N => assumption); (case FX => k_in); (case U => ktr_units); (case hs => k_is); (case q => kts_isx); k_whole))) | walk1 | (dsimp only; walk1) | (leave1; (try dsimp only)))) <;> (try ((fail_if_success (fail_if_success k_fold)); (with_reducible refine foldQ ?_); intro zq ze)))
      exact hret _ _ _ _ (by k_asm) (News.keep (by k_asm) (by (intro p hp; (try dsimp only at hp ⊢); first | exact hp | exact List.mem_cons_of_mem _ hp | exact List.mem_cons_of_mem _ (List.mem_cons_of_mem _ hp) | (simp only [List.mem_cons, List.mem_append, List.not_mem_nil, or_false, false_or, List.cons_append, List.nil_append] at hp ⊢; grind)))) (.proto _ _ hcode (fun _ _ h => absurd h hne))
  · refine ne_str_t hcode ?_
    ((repeat' (first | (k_unfold; (try clear ze zq); (try dsimp only)) | (k_end; wrow_close) | ((fail_if_success (fail_if_success (with_reducible refine wpAny_execs_cons ?_))); ((try ((fail_if_success (fail_if_success k_fold)); (with_reducible refine foldQ ?_); intro zq ze)); (try k_gentoks); (with_reducible refine wpAny_execs_cons ?_); (try dsimp only); ((fail_if_success (fail_if_success k_fold)); (with_reducible refine foldQ ?_); intro zq ze))) | ((with_reducible show wpAny _ _ (eval (.Name _ _) _) _ _ _); (k_dflt (refine nameL (by k_asm) (by exact rfl) ?_ rfl rfl (by decide)); k_whole)) | ((k_here; (with_reducible show wpAny _ _ (call (Value.type "str") [Value.ref _]) _ _ _); k_dflt (refine' str_own ?N ?FX ?G ?U ?hs ?q ?_; (case G => assumption); (case N => assumption); (case FX => k_in); (case U => ktr_units); (case hs => k_is); (case q => kts_isx); k_whole))) | walk1 | (dsimp only; walk1) | (leave1; (try dsimp only)))) <;> (try ((fail_if_success (fail_if_success k_fold)); (with_reducible refine foldQ ?_); intro zq ze)))
    exact hret _ _ _ _ (by k_asm) (News.keep (by k_asm) (by (intro p hp; (try dsimp only at hp ⊢); first | exact hp | exact List.mem_cons_of_mem _ hp | exact List.mem_cons_of_mem _ (List.mem_cons_of_mem _ hp) | (simp only [List.mem_cons, List.mem_append, List.not_mem_nil, or_false, false_or, List.cons_append, List.nil_append] at hp ⊢; grind)))) (.code _ _ hcode)
theorem Found.three {X : Str} {r : Int} (hF : Found X r) : Txt.find X (Str.ofString "(") = 8 ∧ 9 < Txt.find3 X (Str.ofString ")") (Txt.find X (Str.ofString "(") + 1) ∧ Txt.find3 X (Str.ofString ")") (Txt.find X (Str.ofString "(") + 1) < X.length := by
  have a : Txt.find X (Str.ofString "(") = 8 := hF.left
  have b : Txt.find3 X (Str.ofString ")") (Txt.find X (Str.ofString "(") + 1) = r := hF.right
  exact ⟨a, b ▸ hF.r1, b ▸ hF.r2⟩
theorem DoesT.mono {w : World} {mean : ExcName → Option Value} {mg mb : Str → Option Value} {D : Nat} {f : Addr} {args : List Value} {kw : List (Str × Value)} {news : List (Addr × Obj)} {Out Out' : Value → List (Addr × Obj) → Prop} (H : DoesT w mean mg mb D f args kw news Out) (k : ∀ r n, Out r n → Out' r n) : DoesT w mean mg mb D f args kw news Out' := by
  unfold DoesT at H ⊢
  intros
  refine H _ _ _ _ _ _ _ _ _ _ _ _ _ _ _ (by assumption) (by assumption) (by assumption) (by assumption) (by assumption) (by assumption) (by assumption) (by assumption) (fun r news' h' tk' F N ho => ?_)
  rename_i hret
  exact hret r news' h' tk' F N (k _ _ ho)
theorem told_proto {w : World} {mean : ExcName → Option Value} {mg mb : Str → Option Value} {news : List (Addr × Obj)} {rp y : Str} {tx ty : Tok} (hlen : rp.length ≤ 100) (hcode : Txt.slice rp none (some 3) = Str.ofString "229")
    (hL : Txt.find rp (Str.ofString "(") < 0 ∨ Txt.find3 rp (Str.ofString ")") (Txt.find rp (Str.ofString "(") + 1) < 0 ∨ (Txt.find rp (Str.ofString "(") = 8 ∧ 9 < Txt.find3 rp (Str.ofString ")") (Txt.find rp (Str.ofString "(") + 1) ∧ Txt.find3 rp (Str.ofString ")") (Txt.find rp (Str.ofString "(") + 1) < rp.length))
    (hn : ¬ Txt.find rp (Str.ofString "(") < 0 → ¬ Txt.find3 rp (Str.ofString ")") (Txt.find rp (Str.ofString "(") + 1) < 0 → tB rp = tE rp → (tP rp).length = 5 → False) :
    DoesT w mean mg mb 3 122 [.str rp tx, .str y ty] [] news (fun r news' => ∃ D tx', r = .ref D ∧ news' = (D, lst [.str (Str.ofString "proto") tx', .str rp tx] 0) :: news) := by
  refine (told_any hlen (fun _ => hL) fun p _ h1 h2 h3 h4 _ => (hn h1 h2 h3 h4).elim).mono fun r n ho => ?_
  cases ho with
  | code D t h => exact absurd hcode h
  | proto D t _ _ => exact ⟨D, t, rfl, rfl⟩
  | ok D t p port h h1 h2 h3 h4 _ _ => exact (hn h1 h2 h3 h4).elim
theorem told_ends {w : World} {mean : ExcName → Option Value} {mg mb : Str → Option Value} {news : List (Addr × Obj)} {rp y : Str} {tx ty : Tok} {r : Int} (hF : Found rp r)
    (hne : Txt.item rp (Txt.find rp (Str.ofString "(") + 1) ≠ Txt.item rp (Txt.find3 rp (Str.ofString ")") (Txt.find rp (Str.ofString "(") + 1) - 1)) :
    DoesT w mean mg mb 3 122 [.str rp tx, .str y ty] [] news (fun r news' => ∃ D tx', r = .ref D ∧ news' = (D, lst [.str (Str.ofString "proto") tx', .str rp tx] 0) :: news) := told_proto hF.len hF.code (.inr (.inr hF.three)) fun _ _ h _ => hne h
theorem told_count {w : World} {mean : ExcName → Option Value} {mg mb : Str → Option Value} {news : List (Addr × Obj)} {rp y : Str} {tx ty : Tok} {r : Int} (hF : Found rp r)
    (_hne : Txt.item rp (Txt.find rp (Str.ofString "(") + 1) = Txt.item rp (Txt.find3 rp (Str.ofString ")") (Txt.find rp (Str.ofString "(") + 1) - 1))
    (hc : ((Txt.split (Txt.slice rp (some (Txt.find rp (Str.ofString "(") + 1)) (some (Txt.find3 rp (Str.ofString ")") (Txt.find rp (Str.ofString "(") + 1)))) (Txt.item rp (Txt.find rp (Str.ofString "(") + 1))).length : Int) ≠ 5) :
    DoesT w mean mg mb 3 122 [.str rp tx, .str y ty] [] news (fun r news' => ∃ D tx', r = .ref D ∧ news' = (D, lst [.str (Str.ofString "proto") tx', .str rp tx] 0) :: news) := told_proto hF.len hF.code (.inr (.inr hF.three)) fun _ _ _ h => hc (congrArg Nat.cast h)
theorem told_noleft {w : World} {mean : ExcName → Option Value} {mg mb : Str → Option Value} {news : List (Addr × Obj)} {rp y : Str} {tx ty : Tok} (hlen : rp.length ≤ 100) (hcode : Txt.slice rp none (some 3) = Str.ofString "229") (hleft : Txt.find rp (Str.ofString "(") < 0) :
    DoesT w mean mg mb 3 122 [.str rp tx, .str y ty] [] news (fun r news' => ∃ D tx', r = .ref D ∧ news' = (D, lst [.str (Str.ofString "proto") tx', .str rp tx] 0) :: news) := told_proto hlen hcode (.inl hleft) fun h => absurd hleft h
theorem told_noright {w : World} {mean : ExcName → Option Value} {mg mb : Str → Option Value} {news : List (Addr × Obj)} {rp y : Str} {tx ty : Tok} (hlen : rp.length ≤ 100) (hcode : Txt.slice rp none (some 3) = Str.ofString "229") (_hleft : Txt.find rp (Str.ofString "(") = 4) (hright : Txt.find3 rp (Str.ofString ")") (Txt.find rp (Str.ofString "(") + 1) < 0) :
    DoesT w mean mg mb 3 122 [.str rp tx, .str y ty] [] news (fun r news' => ∃ D tx', r = .ref D ∧ news' = (D, lst [.str (Str.ofString "proto") tx', .str rp tx] 0) :: news) := told_proto hlen hcode (.inr (.inl hright)) fun _ h => absurd hright h
theorem told_code {w : World} {mean : ExcName → Option Value} {mg mb : Str → Option Value} {news : List (Addr × Obj)} {rp y : Str} {tx ty : Tok} (hlen : rp.length ≤ 100) (hne : Txt.slice rp none (some 3) ≠ Str.ofString "229") :
    DoesT w mean mg mb 3 122 [.str rp tx, .str y ty] [] news (fun r news' => ∃ D tx', r = .ref D ∧ news' = (D, lst [.str (Str.ofString "reply") tx', .str rp tx] 0) :: news) := by
  refine (told_any hlen (fun h => absurd h hne) fun p h => absurd h hne).mono fun r n ho => ?_
  cases ho with
  | code D t h => exact ⟨D, t, rfl, rfl⟩
  | proto D t h _ => exact absurd h hne
  | ok D t p port h => exact absurd h hne
theorem told_ok {w : World} {mean : ExcName → Option Value} {mg mb : Str → Option Value} {news : List (Addr × Obj)} {rp y : Str} {tx ty : Tok} {r : Int} {p0 p1 p2 fig p4 : Str} {port : Int} (hF : Found rp r)
    (hne : Txt.item rp (Txt.find rp (Str.ofString "(") + 1) = Txt.item rp (Txt.find3 rp (Str.ofString ")") (Txt.find rp (Str.ofString "(") + 1) - 1))
    (hc : Txt.split (Txt.slice rp (some (Txt.find rp (Str.ofString "(") + 1)) (some (Txt.find3 rp (Str.ofString ")") (Txt.find rp (Str.ofString "(") + 1)))) (Txt.item rp (Txt.find rp (Str.ofString "(") + 1)) = [p0, p1, p2, fig, p4]) (hport : PySem.intText? fig = some port) (hfl : fig.length ≤ 640) :
    DoesT w mean mg mb 3 122 [.str rp tx, .str y ty] [] news (fun r news' => ∃ D tp, r = .ref D ∧ news' = (D, tupObj [.str y ty, .int port tp] 0) :: news) := by
  have h3 : ∀ p, (tP rp)[3]? = some p → p = fig := fun p hp => (Option.some.inj ((congrArg (·[3]?) hc).symm.trans hp)).symm
  have hle : (tP rp).length = 5 := congrArg List.length hc
  refine (told_any hF.len (fun _ => .inr (.inr hF.three)) fun p _ _ _ _ _ hp => ⟨port, h3 p hp ▸ hport, h3 p hp ▸ hfl⟩).mono fun r n ho => ?_
  cases ho with
  | code D t h => exact absurd hF.code h
  | proto D t _ h => exact absurd hle (h (by have := hF.three; omega) (by have := hF.three; omega) hne)
  | ok D t p port' _ _ _ _ _ h5 h6 =>
    have e := h3 p h5
    subst e
    have := Option.some.inj (h6.symm.trans hport)
    subst this
    exact ⟨D, t, rfl, rfl⟩
section
-- T3
/-- the reply with this text in the brackets -/
noncomputable def rpl (I : Str) : Str := Str.ofString "229 in) (" ++ I ++ Str.ofString ") (.9.)"
theorem slice_is (x : Str) (a b : Option Int) : Txt.slice x a b = StrLaws.sliceText x a b := rfl
theorem rpl_len (I : Str) : (rpl I).length = 9 + I.length + 7 := by
  unfold rpl
  rw [Str.length_append, Str.length_append]
  rfl
theorem rpl_left (I : Str) : Txt.find (rpl I) (Str.ofString "(") = 8 := by
  have e : rpl I = Str.ofString "229 in) " ++ S.one 40 ++ (I ++ Str.ofString ") (.9.)") := by
    unfold rpl
    rw [← Str.append_assoc]
    rfl
  rw [e]
  exact S.find_at (B := Str.ofString "229 in) ") (c := 40) (by decide)
theorem rpl_right {I : Str} (h : 41 ∉ I.cps.toList) : Txt.find3 (rpl I) (Str.ofString ")") (Txt.find (rpl I) (Str.ofString "(") + 1) = (9 + I.length : Nat) := by
  rw [rpl_left]
  have e : rpl I = Str.ofString "229 in) (" ++ I ++ S.one 41 ++ Str.ofString " (.9.)" := by
    unfold rpl
    rw [Str.append_assoc (Str.ofString "229 in) (" ++ I)]
    rfl
  rw [e]
  exact S.find3_at (A := Str.ofString "229 in) (") (B := I) (c := 41) (n := 8 + 1) (by decide) h
theorem rpl_found {I : Str} (h : 41 ∉ I.cps.toList) (h1 : 0 < I.length) (h2 : I.length ≤ 40) : Found (rpl I) (9 + I.length : Nat) where
  len := by rw [rpl_len]; omega
  code := by
    have e : rpl I = Str.ofString "229" ++ (Str.ofString " in) (" ++ I ++ Str.ofString ") (.9.)") := by
      unfold rpl
      rw [← Str.append_assoc, ← Str.append_assoc]
      rfl
    rw [e, slice_is]
    exact S.slice_to (by decide)
  left := rpl_left I
  right := rpl_right h
  r1 := by omega
  r2 := by rw [rpl_len]; omega
theorem item_nat {x : Str} {i : Nat} {c : Nat} (h : x.cps[i]? = some c) : Txt.item x (i : Int) = S.one c := by
  have hlt : i < x.length := by
    have := (Array.getElem?_eq_some_iff.mp h).1
    exact this
  have h1 : ¬ (i : Int) < 0 := by omega
  have h2 : (decide (0 ≤ (i : Int)) && decide ((i : Int) < (x.length : Int))) = true := by simp only [Bool.and_eq_true, decide_eq_true_eq]; omega
  unfold Txt.item Txt.charAt seqIndex?
  simp only [h1, if_false, h2, if_true, Option.bind_some, Int.toNat_natCast, h, Option.getD_some]
theorem rpl_first {I : Str} {c : Nat} (hc : I.cps.toList.head? = some c) : Txt.item (rpl I) (Txt.find (rpl I) (Str.ofString "(") + 1) = S.one c := by
  rw [rpl_left]
  exact item_nat (i := 9) (S.item_in (A := Str.ofString "229 in) (") (B := I) (by decide) hc)
theorem rpl_last {I : Str} {c : Nat} (h : 41 ∉ I.cps.toList) (h1 : 0 < I.length) (hc : I.cps.toList.getLast? = some c) : Txt.item (rpl I) (Txt.find3 (rpl I) (Str.ofString ")") (Txt.find (rpl I) (Str.ofString "(") + 1) - 1) = S.one c := by
  rw [rpl_right h]
  have e : ((9 + I.length : Nat) : Int) - 1 = ((8 + I.length : Nat) : Int) := by omega
  rw [e]
  refine item_nat (S.item_last (A := Str.ofString "229 in) (") (B := I) ?_ hc)
  have : (Str.ofString "229 in) (").length = 9 := by decide
  omega
theorem rpl_slice {I : Str} (h : 41 ∉ I.cps.toList) : Txt.slice (rpl I) (some (Txt.find (rpl I) (Str.ofString "(") + 1)) (some (Txt.find3 (rpl I) (Str.ofString ")") (Txt.find (rpl I) (Str.ofString "(") + 1))) = I := by
  rw [rpl_right h, rpl_left, slice_is]
  exact S.slice_mid (A := Str.ofString "229 in) (") (B := I) (by decide) (by have : (Str.ofString "229 in) (").length = 9 := by decide
                                                                             omega)
section
variable {w : World} {mean : ExcName → Option Value} {mg mb : Str → Option Value} {news : List (Addr × Obj)} {y : Str} {tx ty : Tok}
/-- a reply whose text is joined of these, by this sign: the first and the last are empty -/
theorem told_five {z : Nat} {p1 p2 fig : Str} {port : Int} (hz : z ≠ 41) (hf : ∀ p ∈ [Str.empty, p1, p2, fig, Str.empty], z ∉ p.cps.toList ∧ 41 ∉ p.cps.toList) (hl : (Str.join (S.one z) [Str.empty, p1, p2, fig, Str.empty]).length ≤ 40) (h0 : 0 < (Str.join (S.one z) [Str.empty, p1, p2, fig, Str.empty]).length) (hport : PySem.intText? fig = some port) (hfl : fig.length ≤ 640) :
    DoesT w mean mg mb 3 122 [.str (rpl (Str.join (S.one z) [Str.empty, p1, p2, fig, Str.empty])) tx, .str y ty] [] news (fun r news' => ∃ D tp, r = .ref D ∧ news' = (D, tupObj [.str y ty, .int port tp] 0) :: news) := by
  have h41 : 41 ∉ (Str.join (S.one z) [Str.empty, p1, p2, fig, Str.empty]).cps.toList := S.free_join (Ne.symm hz) _ fun p hp => (hf p hp).2
  have hh := S.join_head (c := z) (r := [p1, p2, fig, Str.empty]) (by simp)
  have ht := S.join_last_empty (c := z) (ps := [Str.empty, p1, p2, fig]) (by simp)
  refine told_ok (rpl_found h41 h0 hl) ?_ (p0 := Str.empty) (p1 := p1) (p2 := p2) (p4 := Str.empty) ?_ hport hfl
  · rw [rpl_first hh, rpl_last h41 h0 ht]
  · rw [rpl_slice h41, rpl_first hh]
    exact S.split_join (by simp) fun p hp => (hf p hp).1
theorem told_many {z : Nat} {ps : List Str} (hz : z ≠ 41) (h2 : ps ≠ []) (hn : ps.length ≠ 3) (hf : ∀ p ∈ ps, z ∉ p.cps.toList ∧ 41 ∉ p.cps.toList) (hl : (Str.join (S.one z) (Str.empty :: (ps ++ [Str.empty]))).length ≤ 40) (h0 : 0 < (Str.join (S.one z) (Str.empty :: (ps ++ [Str.empty]))).length) :
    DoesT w mean mg mb 3 122 [.str (rpl (Str.join (S.one z) (Str.empty :: (ps ++ [Str.empty])))) tx, .str y ty] [] news (fun r news' => ∃ D tx', r = .ref D ∧ news' = (D, lst [.str (Str.ofString "proto") tx', .str (rpl (Str.join (S.one z) (Str.empty :: (ps ++ [Str.empty])))) tx] 0) :: news) := by
  have hf' : ∀ p ∈ Str.empty :: (ps ++ [Str.empty]), z ∉ p.cps.toList ∧ 41 ∉ p.cps.toList := by
    intro p hp
    rcases List.mem_cons.mp hp with rfl | hp
    · exact ⟨List.not_mem_nil, List.not_mem_nil⟩
    · rcases List.mem_append.mp hp with hp | hp
      · exact hf p hp
      · rw [List.mem_singleton.mp hp]
        exact ⟨List.not_mem_nil, List.not_mem_nil⟩
  have h41 : 41 ∉ (Str.join (S.one z) (Str.empty :: (ps ++ [Str.empty]))).cps.toList := S.free_join (Ne.symm hz) _ fun p hp => (hf' p hp).2
  have hh := S.join_head (c := z) (r := ps ++ [Str.empty]) (by simp)
  have ht : (Str.join (S.one z) (Str.empty :: (ps ++ [Str.empty]))).cps.toList.getLast? = some z := S.join_last_empty (c := z) (ps := Str.empty :: ps) (by simp)
  refine told_count (rpl_found h41 h0 hl) ?_ ?_
  · rw [rpl_first hh, rpl_last h41 h0 ht]
  · rw [rpl_slice h41, rpl_first hh, S.split_join (by simp) fun p hp => (hf' p hp).1]
    simp only [List.length_append, List.length_cons, List.length_nil]
    omega
theorem told_other {z d : Nat} {ps : List Str} {p : Str} (hz : z ≠ 41) (hd : p.cps.toList.getLast? = some d) (hzd : z ≠ d) (hf : ∀ q ∈ Str.empty :: (ps ++ [p]), 41 ∉ q.cps.toList) (hl : (Str.join (S.one z) (Str.empty :: (ps ++ [p]))).length ≤ 40) (h0 : 0 < (Str.join (S.one z) (Str.empty :: (ps ++ [p]))).length) :
    DoesT w mean mg mb 3 122 [.str (rpl (Str.join (S.one z) (Str.empty :: (ps ++ [p])))) tx, .str y ty] [] news (fun r news' => ∃ D tx', r = .ref D ∧ news' = (D, lst [.str (Str.ofString "proto") tx', .str (rpl (Str.join (S.one z) (Str.empty :: (ps ++ [p])))) tx] 0) :: news) := by
  have h41 : 41 ∉ (Str.join (S.one z) (Str.empty :: (ps ++ [p]))).cps.toList := S.free_join (Ne.symm hz) _ hf
  have hh := S.join_head (c := z) (r := ps ++ [p]) (by simp)
  have ht : (Str.join (S.one z) (Str.empty :: (ps ++ [p]))).cps.toList.getLast? = some d := S.join_last (c := z) (ps := Str.empty :: ps) (p := p) (by simp) hd
  refine told_ends (rpl_found h41 h0 hl) ?_
  rw [rpl_first hh, rpl_last h41 h0 ht]
  intro e
  have := congrArg (fun s : Str => s.cps.toList) e
  simp at this
  exact hzd this
end
end
section
-- B4
theorem rstB4 : True := by
  w_top off
  trivial
set_option maxHeartbeats 8000000
/-- the texts so far -/
noncomputable def onw (l : List (Option Str)) (x0 : Option Str) : Option Str := l.foldl (fun t x => some (joinS t x)) x0
theorem onw_snoc (l : List (Option Str)) (x0 x : Option Str) : onw (l ++ [x]) x0 = some (joinS (onw l x0) x) := by simp [onw]
/-- the texts so far, from behind -/
noncomputable def bkw (l : List (Option Str)) (x0 : Option Str) : Option Str := l.foldl (fun t x => some (joinS x t)) x0
theorem bkw_snoc (l : List (Option Str)) (x0 x : Option Str) : bkw (l ++ [x]) x0 = some (joinS x (bkw l x0)) := by simp [bkw]
noncomputable def lenC (x : Option Str) : Nat := (x.getD (Str.ofString "C")).length
theorem joinS_len (a b : Option Str) : (joinS a b).length ≤ lenC a + 1 + lenC b := by
  cases b with
  | none => show lenC a ≤ _; lia
  | some b =>
    show (a.getD (Str.ofString "C") ++ Str.ofString "." ++ b).length ≤ _
    rw [Str.length_append, Str.length_append]
    have : (Str.ofString ".").length = 1 := by decide
    show _ ≤ (a.getD (Str.ofString "C")).length + 1 + b.length
    (solve_by_elim (maxDepth := 4) [Nat.sub_lt_of_lt, Nat.lt_of_lt_of_le, Nat.lt_of_le_of_lt, Nat.le_of_succ_le_succ, Nat.lt_of_succ_lt_succ, Nat.succ_le_succ, Nat.add_le_add_right, Nat.add_lt_add_right, Nat.add_le_add_left, Nat.add_lt_add_left, Nat.sub_le_sub_right, Nat.lt_of_succ_lt, Nat.lt_sub_of_add_lt, Nat.add_lt_of_lt_sub, Nat.le_sub_of_add_le, Nat.add_le_of_le_sub, Nat.lt_add_of_pos_right, Nat.lt_succ_self, Nat.le_succ, Nat.le_of_lt_succ, Nat.lt_of_le_of_ne, Ne.symm, Nat.lt_irrefl, Nat.not_lt_of_le, Nat.not_le_of_lt, absurd])
theorem optV_at {us : List Value} {xs : List (Option Str)} (h : Paired OptV xs us) {i : Nat} {v : Value} (hv : us[i]? = some v) : ∃ x, xs[i]? = some x ∧ OptV x v := by
  induction h generalizing i with
  | nil => cases hv
  | cons h1 h2 ih =>
    cases i with
    | zero => cases hv; exact ⟨_, rfl, h1⟩
    | succ i => exact ih hv
theorem joined_on {w : World} {mean : ExcName → Option Value} {mg mb : Str → Option Value} {news : List (Addr × Obj)} {a : Addr} {u0 u1 u2 u3 u4 : Value} {x0 x1 x2 x3 x4 : Option Str} {n : Nat}
    (h0 : OptV x0 u0) (h1 : OptV x1 u1) (h2 : OptV x2 u2) (h3 : OptV x3 u3) (h4 : OptV x4 u4) (hl : ∀ x ∈ [x0, x1, x2, x3, x4], lenC x ≤ 20) :
    Does w mean mg mb 4 115 [.ref a, .bool true] [] ((a, lst [u0, u1, u2, u3, u4] n) :: news) (fun r news' => OptV (onw [x1, x2, x3, x4] x0) r ∧ news' = (a, lst [u0, u1, u2, u3, u4] n) :: news) := by
  have hf : Paired OptV [x1, x2, x3, x4] [u1, u2, u3, u4] := .cons h1 (.cons h2 (.cons h3 (.cons h4 .nil)))
  (((unfold Does); (intro dp un gd cn cs fa ccd cl outer A₀ base h₀ L m s Q E B F X N T hk hdp hun hret); (refine wpAny_call ?_); (k_dflt (refine' code_def ?k1 ?k2 ?k3 ?k4 ?k5 ?kA ?kF ?kK ?k6 ?k7 ?k8 ?k9 ?kB ?_ ?c2 ?c3 ?c4 ?c5; (case kA => exact rfl); (case kF => exact rfl); (case kK => assumption); (case k1 => k_asm); (case k2 => k_asm); (case k3 => k_asm); (case k4 => k_asm); (case k5 => k_asm); (case k6 => k_is); (case k7 => k_is); (case k8 => ktr_room); (case k9 => first | exact BindsTo.of_eq rfl | exact binds_K (by k_in) rfl (by k_is) rfl rfl rfl | (refine' kp_binds ?kx ?ke; (case kx => k_in); (case ke => exact fun _ => rfl))); (case c5 => decide); (case kB => exact locs rfl); (case c2 => exact rfl); (case c3 => exact rfl); (case c4 => exact rfl); k_whole; intro g' L' h' FG' F' N' B' X' T'; (try dsimp only)))); (refine wpAny_noRaise ?_); (try k_fold))
  ((repeat' (first | (k_unfold; (try clear ze zq); (try dsimp only)) | (k_end; wrow_close) | ((fail_if_success (fail_if_success (with_reducible refine wpAny_execs_cons ?_))); ((try ((fail_if_success (fail_if_success k_fold)); (with_reducible refine foldQ ?_); intro zq ze)); (try k_gentoks); (with_reducible refine wpAny_execs_cons ?_); (try dsimp only); ((fail_if_success (fail_if_success k_fold)); (with_reducible refine foldQ ?_); intro zq ze))) | ((with_reducible show wpAny _ _ (eval (.Name _ _) _) _ _ _); (k_dflt (refine nameL (by k_asm) (by exact rfl) ?_ rfl rfl (by decide)); k_whole)) | walk1 | (dsimp only; walk1) | (leave1; (try dsimp only)))) <;> (try ((fail_if_success (fail_if_success k_fold)); (with_reducible refine foldQ ?_); intro zq ze)))
  ((refine Held.mk ?_); (with_unfolding_all refine' For_invV g' ?fx ?fp ?_ ?fs ?fE); ((case fx => rfl)); ((case fp => rfl)); ((case fs => intro _; rfl)); ((case fE => exact PassesOwn.never)))
  ((repeat' (first | (k_unfold; (try clear ze zq); (try dsimp only)) | (k_end; wrow_close) | ((with_reducible show wpAny _ _ (eval (.Name _ _) _) _ _ _); (k_dflt (refine nameL (by k_asm) (by exact rfl) ?_ rfl rfl (by decide)); k_whole)) | walk1 | (dsimp only; walk1) | (leave1; (try dsimp only)))) <;> (try ((fail_if_success (fail_if_success k_fold)); (with_reducible refine foldQ ?_); intro zq ze)))
  refine Held.mk ?_
  refine for_listS (σ := Value × Option Str) (vs := [u1, u2, u3, u4]) (c := 0) (fun _ => _) (fun q => [(Str.ofString "text", q.1)]) [] (fun i q => OptV q.2 q.1 ∧ q.2 = onw ([x1, x2, x3, x4].take i) x0 ∧ lenC q.2 ≤ 20 + 21 * i) (u0, x0)
    rfl (fun _ => List.mem_cons_self ..) (by k_asm) (by k_asm) (by kst_all) ⟨h0, rfl, by have := hl x0 (by simp); simpa using this⟩ ?turn ?done
  case turn =>
    rintro i v ⟨tv, to⟩ u h9 tk9 I oI hv ⟨hP1, hP2, hP3⟩ hoff F9 N9
    dsimp only [kstB] at hP1 hP2 hP3 F9
    obtain ⟨x, hx, hxv⟩ := optV_at hf hv
    have hxl : lenC x ≤ 20 := hl x (List.mem_cons_of_mem _ (List.mem_of_getElem? hx))
    have hi4 : i < 4 := (List.getElem?_eq_some_iff.mp hv).1
    ((repeat' (first | (k_unfold; (try clear ze zq); (try dsimp only)) | (k_end; wrow_close) | ((fail_if_success (fail_if_success (with_reducible refine wpAny_execs_cons ?_))); ((try ((fail_if_success (fail_if_success k_fold)); (with_reducible refine foldQ ?_); intro zq ze)); (try k_gentoks); (with_reducible refine wpAny_execs_cons ?_); (try dsimp only); ((fail_if_success (fail_if_success k_fold)); (with_reducible refine foldQ ?_); intro zq ze))) | ((with_reducible show wpAny _ _ (eval (.Name _ _) _) _ _ _); (k_dflt (refine nameL (by k_asm) (by exact rfl) ?_ rfl rfl (by decide)); k_whole)) | walk1 | (dsimp only; walk1) | (leave1; (try dsimp only)))) <;> (try ((fail_if_success (fail_if_success k_fold)); (with_reducible refine foldQ ?_); intro zq ze)))
    have hC := fun D nl hm => bl_pair (w := w) (mean := mean) (mg := mg) (mb := mb) (news := nl) (a := D) (n := 0) hm hP1 hxv (by show lenC to + lenC x < 1000; lia)
    ((refine Held.mk ?_); (refine' Does.use (hC _ _ ?km) ?k1 ?k2 ?k3 ?k4 ?k5 ?kK ?kd ?ku ?_); ((case k1 => k_asm)); ((case k2 => k_asm)); ((case k3 => k_asm)); ((case k4 => k_asm)); ((case km => k_mem)); ((case k5 => k_asm)); ((case kK => first | exact rfl | assumption)); ((case kd => ktr_room)); ((case ku => ktr_units)); (clear hC); (intro r9 news9 h9 tk9 F9 N9 ho9); ((try dsimp only at ho9)))
    obtain ⟨⟨t, e1⟩, e2⟩ := ho9
    subst e1 e2
    ((repeat' (first | (k_unfold; (try clear ze zq); (try dsimp only)) | (k_end; wrow_close) | walk1 | (dsimp only; walk1) | (leave1; (try dsimp only)))) <;> (try ((fail_if_success (fail_if_success k_fold)); (with_reducible refine foldQ ?_); intro zq ze)))
    refine Held.mk ?_
    refine ForS.next (.str (joinS to x) t, some (joinS to x)) (by k_asm) (News.sub (by k_asm) (by (intro p hp; (try dsimp only at hp ⊢); first | exact hp | exact List.mem_cons_of_mem _ hp | exact List.mem_cons_of_mem _ (List.mem_cons_of_mem _ hp) | (simp only [List.mem_cons, List.mem_append, List.not_mem_nil, or_false, false_or, List.cons_append, List.nil_append] at hp ⊢; grind)))) hoff (by kst_all) (by kst_same) ⟨⟨t, rfl⟩, ?_, ?_⟩
    · rw [List.take_add_one, hx, hP2]
      exact (onw_snoc ..).symm
    · have := joinS_len to x
      show (joinS to x).length ≤ 20 + 21 * (i + 1)
      lia
  case done =>
    rintro ⟨tv, to⟩ u h9 tk9 ⟨hP1, hP2, hP3⟩ F9 N9
    dsimp only [kstB] at hP1 hP2 hP3 F9
    ((repeat' (first | (k_unfold; (try clear ze zq); (try dsimp only)) | (k_end; wrow_close) | ((fail_if_success (fail_if_success (with_reducible refine wpAny_execs_cons ?_))); ((try ((fail_if_success (fail_if_success k_fold)); (with_reducible refine foldQ ?_); intro zq ze)); (try k_gentoks); (with_reducible refine wpAny_execs_cons ?_); (try dsimp only); ((fail_if_success (fail_if_success k_fold)); (with_reducible refine foldQ ?_); intro zq ze))) | ((with_reducible show wpAny _ _ (eval (.Name _ _) _) _ _ _); (k_dflt (refine nameL (by k_asm) (by exact rfl) ?_ rfl rfl (by decide)); k_whole)) | walk1 | (dsimp only; walk1) | (leave1; (try dsimp only)))) <;> (try ((fail_if_success (fail_if_success k_fold)); (with_reducible refine foldQ ?_); intro zq ze)))
    subst hP2
    exact hret _ _ _ _ (by k_asm) (News.sub (by k_asm) (by (intro p hp; (try dsimp only at hp ⊢); first | exact hp | exact List.mem_cons_of_mem _ hp | exact List.mem_cons_of_mem _ (List.mem_cons_of_mem _ hp) | (simp only [List.mem_cons, List.mem_append, List.not_mem_nil, or_false, false_or, List.cons_append, List.nil_append] at hp ⊢; grind)))) ⟨hP1, rfl⟩
local macro_rules | `(tactic| walk_at "subscriptTail Name Slice ref ref") => `(tactic| with_reducible refine hSl3 ?_)
theorem joined_back {w : World} {mean : ExcName → Option Value} {mg mb : Str → Option Value} {news : List (Addr × Obj)} {a : Addr} {u0 u1 u2 u3 u4 : Value} {x0 x1 x2 x3 x4 : Option Str} {n : Nat}
    (h0 : OptV x0 u0) (h1 : OptV x1 u1) (h2 : OptV x2 u2) (h3 : OptV x3 u3) (h4 : OptV x4 u4) (hl : ∀ x ∈ [x0, x1, x2, x3, x4], lenC x ≤ 20) :
    Does w mean mg mb 4 115 [.ref a, .bool false] [] ((a, lst [u0, u1, u2, u3, u4] n) :: news) (fun r news' => OptV (bkw [x3, x2, x1, x0] x4) r ∧ news' = (a, lst [u0, u1, u2, u3, u4] n) :: news) := by
  have hf : Paired OptV [x3, x2, x1, x0] [u3, u2, u1, u0] := .cons h3 (.cons h2 (.cons h1 (.cons h0 .nil)))
  (((unfold Does); (intro dp un gd cn cs fa ccd cl outer A₀ base h₀ L m s Q E B F X N T hk hdp hun hret); (refine wpAny_call ?_); (k_dflt (refine' code_def ?k1 ?k2 ?k3 ?k4 ?k5 ?kA ?kF ?kK ?k6 ?k7 ?k8 ?k9 ?kB ?_ ?c2 ?c3 ?c4 ?c5; (case kA => exact rfl); (case kF => exact rfl); (case kK => assumption); (case k1 => k_asm); (case k2 => k_asm); (case k3 => k_asm); (case k4 => k_asm); (case k5 => k_asm); (case k6 => k_is); (case k7 => k_is); (case k8 => ktr_room); (case k9 => first | exact BindsTo.of_eq rfl | exact binds_K (by k_in) rfl (by k_is) rfl rfl rfl | (refine' kp_binds ?kx ?ke; (case kx => k_in); (case ke => exact fun _ => rfl))); (case c5 => decide); (case kB => exact locs rfl); (case c2 => exact rfl); (case c3 => exact rfl); (case c4 => exact rfl); k_whole; intro g' L' h' FG' F' N' B' X' T'; (try dsimp only)))); (refine wpAny_noRaise ?_); (try k_fold))
  ((repeat' (first | (k_unfold; (try clear ze zq); (try dsimp only)) | (k_end; wrow_close) | ((fail_if_success (fail_if_success (with_reducible refine wpAny_execs_cons ?_))); ((try ((fail_if_success (fail_if_success k_fold)); (with_reducible refine foldQ ?_); intro zq ze)); (try k_gentoks); (with_reducible refine wpAny_execs_cons ?_); (try dsimp only); ((fail_if_success (fail_if_success k_fold)); (with_reducible refine foldQ ?_); intro zq ze))) | ((with_reducible show wpAny _ _ (eval (.Name _ _) _) _ _ _); (k_dflt (refine nameL (by k_asm) (by exact rfl) ?_ rfl rfl (by decide)); k_whole)) | walk1 | (dsimp only; walk1) | (leave1; (try dsimp only)))) <;> (try ((fail_if_success (fail_if_success k_fold)); (with_reducible refine foldQ ?_); intro zq ze)))
  ((refine Held.mk ?_); (with_unfolding_all refine' For_invV g' ?fx ?fp ?_ ?fs ?fE); ((case fx => rfl)); ((case fp => rfl)); ((case fs => intro _; rfl)); ((case fE => exact PassesOwn.never)))
  ((repeat' (first | (k_unfold; (try clear ze zq); (try dsimp only)) | (k_end; wrow_close) | ((with_reducible show wpAny _ _ (eval (.Name _ _) _) _ _ _); (k_dflt (refine nameL (by k_asm) (by exact rfl) ?_ rfl rfl (by decide)); k_whole)) | walk1 | (dsimp only; walk1) | (leave1; (try dsimp only)))) <;> (try ((fail_if_success (fail_if_success k_fold)); (with_reducible refine foldQ ?_); intro zq ze)))
  refine Held.mk ?_
  k_dflt (refine' kmk_slice3_lit (zs := [u3, u2, u1, u0]) ?sF ?sN ?sl ?sp ?sq ?sk ?so ?se ?_ ?ss ?st ?sz; (case sF => k_asm); (case sN => k_asm); (case sl => kmk_list); (case sp => kmk_part); (case sq => kmk_part); (case sk => kmk_part); (case so => decide); (case se => with_unfolding_all rfl); (case ss => with_unfolding_all rfl); (case st => kmk_pure); (case sz => kmk_size))
  intro D h8 F8 N8 l8
  ((repeat' (first | (k_unfold; (try clear ze zq); (try dsimp only)) | (k_end; wrow_close) | walk1 | (dsimp only; walk1) | (leave1; (try dsimp only)))) <;> (try ((fail_if_success (fail_if_success k_fold)); (with_reducible refine foldQ ?_); intro zq ze)))
  refine Held.mk ?_
  refine for_listS (σ := Value × Option Str) (vs := [u3, u2, u1, u0]) (c := 0) (fun _ => _) (fun q => [(Str.ofString "text", q.1)]) [] (fun i q => OptV q.2 q.1 ∧ q.2 = bkw ([x3, x2, x1, x0].take i) x4 ∧ lenC q.2 ≤ 20 + 21 * i) (u4, x4)
    rfl (fun _ => List.mem_cons_self ..) (by k_asm) (by k_asm) (by kst_all) ⟨h4, rfl, by have := hl x4 (by simp); simpa using this⟩ ?turn ?done
  case turn =>
    rintro i v ⟨tv, to⟩ u h9 tk9 I oI hv ⟨hP1, hP2, hP3⟩ hoff F9 N9
    dsimp only [kstB] at hP1 hP2 hP3 F9
    obtain ⟨x, hx, hxv⟩ := optV_at hf hv
    have hxl : lenC x ≤ 20 := hl x (by have := List.mem_of_getElem? hx; simp only [List.mem_cons, List.not_mem_nil, or_false] at this ⊢; rcases this with h | h | h | h <;> simp [h])
    have hi4 : i < 4 := (List.getElem?_eq_some_iff.mp hv).1
    ((repeat' (first | (k_unfold; (try clear ze zq); (try dsimp only)) | (k_end; wrow_close) | ((fail_if_success (fail_if_success (with_reducible refine wpAny_execs_cons ?_))); ((try ((fail_if_success (fail_if_success k_fold)); (with_reducible refine foldQ ?_); intro zq ze)); (try k_gentoks); (with_reducible refine wpAny_execs_cons ?_); (try dsimp only); ((fail_if_success (fail_if_success k_fold)); (with_reducible refine foldQ ?_); intro zq ze))) | ((with_reducible show wpAny _ _ (eval (.Name _ _) _) _ _ _); (k_dflt (refine nameL (by k_asm) (by exact rfl) ?_ rfl rfl (by decide)); k_whole)) | walk1 | (dsimp only; walk1) | (leave1; (try dsimp only)))) <;> (try ((fail_if_success (fail_if_success k_fold)); (with_reducible refine foldQ ?_); intro zq ze)))
    have hC := fun D nl hm => bl_pair (w := w) (mean := mean) (mg := mg) (mb := mb) (news := nl) (a := D) (n := 0) hm hxv hP1 (by show lenC x + lenC to < 1000; lia)
    ((refine Held.mk ?_); (refine' Does.use (hC _ _ ?km) ?k1 ?k2 ?k3 ?k4 ?k5 ?kK ?kd ?ku ?_); ((case k1 => k_asm)); ((case k2 => k_asm)); ((case k3 => k_asm)); ((case k4 => k_asm)); ((case km => k_mem)); ((case k5 => k_asm)); ((case kK => first | exact rfl | assumption)); ((case kd => ktr_room)); ((case ku => ktr_units)); (clear hC); (intro r9 news9 h9 tk9 F9 N9 ho9); ((try dsimp only at ho9)))
    obtain ⟨⟨t, e1⟩, e2⟩ := ho9
    subst e1 e2
    ((repeat' (first | (k_unfold; (try clear ze zq); (try dsimp only)) | (k_end; wrow_close) | walk1 | (dsimp only; walk1) | (leave1; (try dsimp only)))) <;> (try ((fail_if_success (fail_if_success k_fold)); (with_reducible refine foldQ ?_); intro zq ze)))
    refine Held.mk ?_
    refine ForS.next (.str (joinS x to) t, some (joinS x to)) (by k_asm) (News.sub (by k_asm) (by (intro p hp; (try dsimp only at hp ⊢); first | exact hp | exact List.mem_cons_of_mem _ hp | exact List.mem_cons_of_mem _ (List.mem_cons_of_mem _ hp) | (simp only [List.mem_cons, List.mem_append, List.not_mem_nil, or_false, false_or, List.cons_append, List.nil_append] at hp ⊢; grind)))) hoff (by kst_all) (by kst_same) ⟨⟨t, rfl⟩, ?_, ?_⟩
    · rw [List.take_add_one, hx, hP2]
      exact (bkw_snoc ..).symm
    · have := joinS_len x to
      show (joinS x to).length ≤ 20 + 21 * (i + 1)
      lia
  case done =>
    rintro ⟨tv, to⟩ u h9 tk9 ⟨hP1, hP2, hP3⟩ F9 N9
    dsimp only [kstB] at hP1 hP2 hP3 F9
    ((repeat' (first | (k_unfold; (try clear ze zq); (try dsimp only)) | (k_end; wrow_close) | ((fail_if_success (fail_if_success (with_reducible refine wpAny_execs_cons ?_))); ((try ((fail_if_success (fail_if_success k_fold)); (with_reducible refine foldQ ?_); intro zq ze)); (try k_gentoks); (with_reducible refine wpAny_execs_cons ?_); (try dsimp only); ((fail_if_success (fail_if_success k_fold)); (with_reducible refine foldQ ?_); intro zq ze))) | ((with_reducible show wpAny _ _ (eval (.Name _ _) _) _ _ _); (k_dflt (refine nameL (by k_asm) (by exact rfl) ?_ rfl rfl (by decide)); k_whole)) | walk1 | (dsimp only; walk1) | (leave1; (try dsimp only)))) <;> (try ((fail_if_success (fail_if_success k_fold)); (with_reducible refine foldQ ?_); intro zq ze)))
    subst hP2
    exact hret _ _ _ _ (by k_asm) (News.sub (by k_asm) (by (intro p hp; (try dsimp only at hp ⊢); first | exact hp | exact List.mem_cons_of_mem _ hp | exact List.mem_cons_of_mem _ (List.mem_cons_of_mem _ hp) | (simp only [List.mem_cons, List.mem_append, List.not_mem_nil, or_false, false_or, List.cons_append, List.nil_append] at hp ⊢; grind)))) ⟨hP1, rfl⟩
end
section
-- T4
noncomputable abbrev dot : Str := Str.ofString "."
theorem dot_one : dot = S.one 46 := rfl
theorem nil_empty : Str.ofString "" = Str.empty := rfl
section
variable {a b f : Str} {r : Value}
theorem join5 (p0 p1 p2 p3 p4 : Str) : Str.join dot [p0, p1, p2, p3, p4] = p0 ++ (dot ++ (p1 ++ (dot ++ (p2 ++ (dot ++ (p3 ++ (dot ++ p4))))))) := by
  simp only [S.join_cons2, Str.append_assoc]
  rfl
theorem join4 (p0 p1 p2 p3 : Str) : Str.join dot [p0, p1, p2, p3] = p0 ++ (dot ++ (p1 ++ (dot ++ (p2 ++ (dot ++ p3))))) := by
  simp only [S.join_cons2, Str.append_assoc]
  rfl
theorem join6 (p0 p1 p2 p3 p4 p5 : Str) : Str.join dot [p0, p1, p2, p3, p4, p5] = p0 ++ (dot ++ (p1 ++ (dot ++ (p2 ++ (dot ++ (p3 ++ (dot ++ (p4 ++ (dot ++ p5))))))))) := by
  simp only [S.join_cons2, Str.append_assoc]
  rfl
theorem back5 (h : OptV (bkw [some f, some b, some a, some (Str.ofString "")] (some (Str.ofString ""))) r) : ∃ t, r = .str (Str.join dot [Str.empty, a, b, f, Str.empty]) t := by
  obtain ⟨t, e⟩ : ∃ t, r = .str (Str.ofString "" ++ dot ++ (a ++ dot ++ (b ++ dot ++ (f ++ dot ++ Str.ofString "")))) t := h
  exact ⟨t, by rw [e, join5]; simp only [Str.append_assoc, nil_empty]⟩
theorem on5 (h : OptV (onw [some a, some b, some f, some (Str.ofString "")] (some (Str.ofString ""))) r) : ∃ t, r = .str (Str.join dot [Str.empty, a, b, f, Str.empty]) t := by
  obtain ⟨t, e⟩ : ∃ t, r = .str ((((Str.ofString "" ++ dot ++ a) ++ dot ++ b) ++ dot ++ f) ++ dot ++ Str.ofString "") t := h
  exact ⟨t, by rw [e, join5]; simp only [Str.append_assoc, nil_empty]⟩
theorem back5n (h : OptV (bkw [some f, some b, none, some (Str.ofString "")] (some (Str.ofString ""))) r) : ∃ t, r = .str (Str.join dot [Str.empty, Str.ofString "C", b, f, Str.empty]) t := by
  obtain ⟨t, e⟩ : ∃ t, r = .str (Str.ofString "" ++ dot ++ (Str.ofString "C" ++ dot ++ (b ++ dot ++ (f ++ dot ++ Str.ofString "")))) t := h
  exact ⟨t, by rw [e, join5]; simp only [Str.append_assoc, nil_empty]⟩
theorem on6 (h : OptV (onw [none, some b, some f, some (Str.ofString "")] (some (Str.ofString ""))) r) : ∃ t, r = .str (Str.join dot [Str.empty, b, f, Str.empty]) t := by
  obtain ⟨t, e⟩ : ∃ t, r = .str (((Str.ofString "" ++ dot ++ b) ++ dot ++ f) ++ dot ++ Str.ofString "") t := h
  exact ⟨t, by rw [e, join4]; simp only [Str.append_assoc, nil_empty]⟩
theorem back7 (h : OptV (bkw [some f, some b, some a, some (Str.ofString "")] (some (Str.ofString "q"))) r) : ∃ t, r = .str (Str.join dot [Str.empty, a, b, f, Str.ofString "q"]) t := by
  obtain ⟨t, e⟩ : ∃ t, r = .str (Str.ofString "" ++ dot ++ (a ++ dot ++ (b ++ dot ++ (f ++ dot ++ Str.ofString "q")))) t := h
  exact ⟨t, by rw [e, join5]; simp only [Str.append_assoc, nil_empty]⟩
theorem on8 (h : OptV (onw [some a, some b, some f, some (Str.ofString "7.")] (some (Str.ofString ""))) r) : ∃ t, r = .str (Str.join dot [Str.empty, a, b, f, Str.ofString "7", Str.empty]) t := by
  obtain ⟨t, e⟩ : ∃ t, r = .str ((((Str.ofString "" ++ dot ++ a) ++ dot ++ b) ++ dot ++ f) ++ dot ++ Str.ofString "7.") t := h
  have e7 : Str.ofString "7." = Str.ofString "7" ++ (dot ++ Str.empty) := by rfl
  exact ⟨t, by rw [e, join6, e7]; simp only [Str.append_assoc, nil_empty]⟩
theorem back9 (h : OptV (bkw [some f, some b, some a, some (Str.ofString "")] none) r) : ∃ t, r = .str (Str.join dot [Str.empty, a, b, f]) t := by
  obtain ⟨t, e⟩ : ∃ t, r = .str (Str.ofString "" ++ dot ++ (a ++ dot ++ (b ++ dot ++ f))) t := h
  exact ⟨t, by rw [e, join4]; simp only [Str.append_assoc, nil_empty]⟩
theorem rhs0 : Str.join dot [Str.empty, a, b, f, Str.empty] = dot ++ a ++ dot ++ b ++ dot ++ f ++ dot := by
  rw [join5]; simp only [Str.append_assoc, Str.empty_append, Str.append_empty]
theorem rhs5 : Str.join dot [Str.empty, Str.ofString "C", b, f, Str.empty] = Str.ofString ".C" ++ dot ++ b ++ dot ++ f ++ dot := by
  have e : Str.ofString ".C" = dot ++ Str.ofString "C" := by rfl
  rw [join5, e]; simp only [Str.append_assoc, Str.empty_append, Str.append_empty]
theorem rhs6 : Str.join dot [Str.empty, b, f, Str.empty] = Str.ofString "" ++ dot ++ b ++ dot ++ f ++ dot := by
  rw [join4]; simp only [Str.append_assoc, Str.empty_append, Str.append_empty, nil_empty]
theorem rhs7 : Str.join dot [Str.empty, a, b, f, Str.ofString "q"] = dot ++ a ++ dot ++ b ++ dot ++ f ++ Str.ofString ".q" := by
  have e : Str.ofString ".q" = dot ++ Str.ofString "q" := by rfl
  rw [join5, e]; simp only [Str.append_assoc, Str.empty_append, Str.append_empty]
theorem rhs8 : Str.join dot [Str.empty, a, b, f, Str.ofString "7", Str.empty] = dot ++ a ++ dot ++ b ++ dot ++ f ++ Str.ofString ".7." := by
  have e : Str.ofString ".7." = dot ++ (Str.ofString "7" ++ dot) := by rfl
  rw [join6, e]; simp only [Str.append_assoc, Str.empty_append, Str.append_empty]
theorem rhs9 : Str.join dot [Str.empty, a, b, f] = dot ++ a ++ dot ++ b ++ dot ++ f ++ Str.ofString "" := by
  rw [join4]; simp only [Str.append_assoc, Str.empty_append, Str.append_empty, nil_empty]
end
/-- the letters of a place -/
theorem row_is {i : Nat} (hi : i < 9) : Txt.item (Str.ofString "abc") ((i : Int).fdiv 3) = S.one (97 + i / 3) := by
  have key : ∀ i : Fin 9, Txt.item (Str.ofString "abc") ((i.val : Int).fdiv 3) = S.one (97 + i.val / 3) := by decide +kernel
  exact key ⟨i, hi⟩
theorem col_is {i : Nat} (hi : i < 9) : Txt.item (Str.ofString "xyz") ((i : Int).fmod 3) = S.one (120 + i % 3) := by
  have key : ∀ i : Fin 9, Txt.item (Str.ofString "xyz") ((i.val : Int).fmod 3) = S.one (120 + i.val % 3) := by decide +kernel
  exact key ⟨i, hi⟩
theorem sign_is {x : Int} : ∃ z, (z = 124 ∨ z = 46) ∧ Txt.item (Str.ofString "|.") (x.fmod 2) = S.one z := by
  obtain ⟨a, ha, h2, _⟩ := fmod_nat (x := x) (m := 2) (by decide)
  rw [← ha]
  have : a = 0 ∨ a = 1 := by lia
  rcases this with rfl | rfl
  · exact ⟨124, .inl rfl, by decide +kernel⟩
  · exact ⟨46, .inr rfl, by decide +kernel⟩
theorem News.pick1 {h₀ h : Heap} {L : Addr} {l b : List (Addr × Obj)} {x y : Addr × Obj} (N : News h₀ L h (x :: y :: l)) (hs : ∀ r ∈ b, r ∈ l) : News h₀ L h (y :: b) := fun r hr => by
  rcases List.mem_cons.mp hr with rfl | hr
  · exact N _ (List.mem_cons_of_mem _ (List.mem_cons_self ..))
  · exact N _ (List.mem_cons_of_mem _ (List.mem_cons_of_mem _ (hs r hr)))
theorem len_five {x0 x1 x2 x3 x4 : Option Str} (h0 : lenC x0 ≤ 20) (h1 : lenC x1 ≤ 20) (h2 : lenC x2 ≤ 20) (h3 : lenC x3 ≤ 20) (h4 : lenC x4 ≤ 20) : ∀ x ∈ [x0, x1, x2, x3, x4], lenC x ≤ 20 := by
  intro x hx
  simp only [List.mem_cons, List.not_mem_nil, or_false] at hx
  rcases hx with rfl | rfl | rfl | rfl | rfl <;> assumption
theorem booked_in {p : Params} {h : Heap} (K : (h0.hd.heap_39 p).In h) : NoneBooked h := by
  have ho := K cStatics _ rfl
  refine ⟨_, ⟨_, _, _, ho, rfl, ?_, fun _ => rfl⟩, ?_⟩
  · intro e he
    simp only [List.mem_toArray, List.mem_cons, List.not_mem_nil, or_false] at he
    rcases he with rfl | rfl
    · exact ⟨_, _, rfl⟩
    · exact ⟨_, _, rfl⟩
  · with_unfolding_all rfl
section
variable {z : Nat} {p0 p1 p2 p3 p4 p5 : Str}
theorem jlen4 : (Str.join (S.one z) [p0, p1, p2, p3]).length = p0.length + p1.length + p2.length + p3.length + 3 := by
  simp only [S.join_cons2, Str.length_append]
  have : (Str.join (S.one z) [p3]).length = p3.length := rfl
  have h1 : (S.one z).length = 1 := rfl
  lia
theorem jlen5 : (Str.join (S.one z) [p0, p1, p2, p3, p4]).length = p0.length + p1.length + p2.length + p3.length + p4.length + 4 := by
  rw [S.join_cons2, Str.length_append, Str.length_append, jlen4]
  have h1 : (S.one z).length = 1 := rfl
  lia
theorem jlen6 : (Str.join (S.one z) [p0, p1, p2, p3, p4, p5]).length = p0.length + p1.length + p2.length + p3.length + p4.length + p5.length + 5 := by
  rw [S.join_cons2, Str.length_append, Str.length_append, jlen5]
  have h1 : (S.one z).length = 1 := rfl
  lia
end
/-- none of the signs that the replies are made of -/
theorem ok_app {a b : Str} (ha : PyData.strOk a = true) (hb : PyData.strOk b = true) : PyData.strOk (a ++ b) = true := by
  unfold PyData.strOk at *
  rw [Str.cps_append, Array.all_append, ha, hb]
  rfl
theorem ok_list {a : Str} (h : ∀ c ∈ a.cps.toList, c < 0x110000) : PyData.strOk a = true := by
  unfold PyData.strOk
  rw [← Array.all_toList, List.all_eq_true]
  exact fun c hc => decide_eq_true (h c hc)
theorem ok_one {c : Nat} (h : c < 0x110000) : PyData.strOk (S.one c) = true := ok_list fun d hd => by rw [List.mem_singleton.mp hd]; exact h
theorem ok_join {z : Nat} (hz : z < 0x110000) : ∀ {ps : List Str}, (∀ p ∈ ps, PyData.strOk p = true) → PyData.strOk (Str.join (S.one z) ps) = true
  | [], _ => ok_list fun c hc => absurd hc (List.not_mem_nil)
  | [x], h => h x (List.mem_cons_self ..)
  | x :: y :: r, h => by
    rw [S.join_cons2]
    exact ok_app (ok_app (h x (List.mem_cons_self ..)) (ok_one hz)) (ok_join hz fun p hp => h p (List.mem_cons_of_mem _ hp))
theorem ok_rpl {I : Str} (h : PyData.strOk I = true) : PyData.strOk (rpl I) = true := ok_app (ok_app (by decide +kernel) h) (by decide +kernel)
noncomputable def Free (p : Str) : Prop := 46 ∉ p.cps.toList ∧ 124 ∉ p.cps.toList ∧ 41 ∉ p.cps.toList ∧ PyData.strOk p = true
theorem free_nil : Free Str.empty := ⟨List.not_mem_nil, List.not_mem_nil, List.not_mem_nil, by decide +kernel⟩
theorem free_nil' : Free (Str.ofString "") := free_nil
theorem free_C : Free (Str.ofString "C") := ⟨by decide, by decide, by decide, by decide +kernel⟩
theorem free_q : Free (Str.ofString "q") := ⟨by decide, by decide, by decide, by decide +kernel⟩
theorem free_7 : Free (Str.ofString "7") := ⟨by decide, by decide, by decide, by decide +kernel⟩
theorem free_one {c : Nat} (h : c ≠ 46 ∧ c ≠ 124 ∧ c ≠ 41 ∧ c < 1000) : Free (S.one c) := by
  refine ⟨?_, ?_, ?_, ok_one (by omega)⟩ <;> intro hm <;> have := List.mem_singleton.mp hm <;> lia
theorem free_row {i : Nat} (hi : i < 9) : Free (S.one (97 + i / 3)) := free_one ⟨by lia, by lia, by lia, by lia⟩
theorem free_col {i : Nat} : Free (S.one (120 + i % 3)) := free_one ⟨by lia, by lia, by lia, by lia⟩
theorem free_fig {x y z : Int} {f : Str} (h : FigOk x y z f) (hT : Three x y z) : Free f := by
  have h1 := hT.x1
  have h2 := hT.y1
  have h3 := hT.z1
  have ho : PyData.strOk f = true := ok_list fun c hc => by
    rw [h.cps] at hc
    simp only [List.mem_cons, List.not_mem_nil, or_false] at hc
    lia
  refine ⟨?_, ?_, ?_, ho⟩ <;> rw [h.cps] <;> simp only [List.mem_cons, List.not_mem_nil, or_false] <;> lia
theorem Free.sign {p : Str} (h : Free p) {z : Nat} (hz : z = 124 ∨ z = 46) : z ∉ p.cps.toList ∧ 41 ∉ p.cps.toList := by
  rcases hz with rfl | rfl
  · exact ⟨h.2.1, h.2.2.1⟩
  · exact ⟨h.1, h.2.2.1⟩
theorem free_all5 {p0 p1 p2 p3 p4 : Str} (h0 : Free p0) (h1 : Free p1) (h2 : Free p2) (h3 : Free p3) (h4 : Free p4) : ∀ p ∈ [p0, p1, p2, p3, p4], Free p := by
  intro p hp
  simp only [List.mem_cons, List.not_mem_nil, or_false] at hp
  rcases hp with rfl | rfl | rfl | rfl | rfl <;> assumption
theorem free_all4 {p0 p1 p2 p3 : Str} (h0 : Free p0) (h1 : Free p1) (h2 : Free p2) (h3 : Free p3) : ∀ p ∈ [p0, p1, p2, p3], Free p := by
  intro p hp
  simp only [List.mem_cons, List.not_mem_nil, or_false] at hp
  rcases hp with rfl | rfl | rfl | rfl <;> assumption
theorem free_all6 {p0 p1 p2 p3 p4 p5 : Str} (h0 : Free p0) (h1 : Free p1) (h2 : Free p2) (h3 : Free p3) (h4 : Free p4) (h5 : Free p5) : ∀ p ∈ [p0, p1, p2, p3, p4, p5], Free p := by
  intro p hp
  simp only [List.mem_cons, List.not_mem_nil, or_false] at hp
  rcases hp with rfl | rfl | rfl | rfl | rfl | rfl <;> assumption
theorem repl {ps : List Str} {z : Nat} (h : ps ≠ []) (hf : ∀ p ∈ ps, Free p) : Txt.replace (Str.join dot ps) (Str.ofString ".") (S.one z) = Str.join (S.one z) ps := S.replace_join (c := 46) h fun p hp => (hf p hp).1
section
variable {prog : Program} {w : World} {A : Around} {E : Value → Shared → Prop} {s : Shared} {h₀ : Heap} {L a b : Addr} {news : List (Addr × Obj)}
theorem ne_pair {x : Str} (hx : PyData.strOk x = true) {n : Int} {t t' u u' : Tok} {c d : Nat} {Q : Value → Shared → Prop} (N : News h₀ L s.heap news) (hm : (a, tupObj [.str x t, .int n u] c) ∈ news) (hm' : (b, tupObj [.str x t', .int n u'] d) ∈ news) (hu : A.units + 64 < cLine) (h : Q (.bool false) s) :
    wpAny (model prog w) A (compareOp .NotEq (.ref a) (.ref b)) Q E s := by
  refine ne_dataH (reads_tuple_at (N.get hm) rfl rfl (.cons (.str _ _) (.cons (.int _ _) .nil))) (reads_tuple_at (N.get hm') rfl rfl (.cons (.str _ _) (.cons (.int _ _) .nil))) (by simp [SeqAt.shaped, PyData.canLay0, PyData.canLayAll0, PyData.depth, PyData.depthAll, *]) (by simp [SeqAt.shaped, PyData.canLay0, PyData.canLayAll0, PyData.depth, PyData.depthAll, *]) hu ?_
  have e : (!PyData.eqv (.tuple [.str x, .int n]) (.tuple [.str x, .int n])) = false := by simp [PyData.eqv, PyData.eqvAll]
  rw [e]; exact h
theorem ne_two {x y : Str} (hx : PyData.strOk x = true) (hy : PyData.strOk y = true) {t t' u u' : Tok} {c d : Nat} {Q : Value → Shared → Prop} (N : News h₀ L s.heap news) (hm : (a, lst [.str x t, .str y u] c) ∈ news) (hm' : (b, lst [.str x t', .str y u'] d) ∈ news) (hu : A.units + 64 < cLine) (h : Q (.bool false) s) :
    wpAny (model prog w) A (compareOp .NotEq (.ref a) (.ref b)) Q E s := by
  refine ne_dataH (reads_list_at (N.get hm) rfl rfl (.cons (.str _ _) (.cons (.str _ _) .nil))) (reads_list_at (N.get hm') rfl rfl (.cons (.str _ _) (.cons (.str _ _) .nil))) (by simp [SeqAt.shaped, PyData.canLay0, PyData.canLayAll0, PyData.depth, PyData.depthAll, *]) (by simp [SeqAt.shaped, PyData.canLay0, PyData.canLayAll0, PyData.depth, PyData.depthAll, *]) hu ?_
  have e : (!PyData.eqv (.list [.str x, .str y]) (.list [.str x, .str y])) = false := by simp [PyData.eqv, PyData.eqvAll]
  rw [e]; exact h
end
end
section
-- T5
/-- how a text is made, by its kind -/
noncomputable def rowO (kd i : Nat) : Option Str := if kd = 4 then some (Str.ofString "") else if kd = 5 ∨ kd = 6 then none else some (S.one (97 + i / 3))
noncomputable def colS (kd i : Nat) : Str := if kd = 4 then Str.ofString "" else S.one (120 + i % 3)
noncomputable def endO (kd : Nat) : Option Str := if kd = 9 then none else if kd = 7 then some (Str.ofString "q") else if kd = 8 then some (Str.ofString "7.") else some (Str.ofString "")
noncomputable def frontS (kd i : Nat) : Str := if kd = 5 then Str.ofString ".C" else if kd = 6 then Str.ofString "" else dot ++ (rowO kd i).getD (Str.ofString "")
noncomputable def lastS (kd : Nat) : Str := if kd = 9 then Str.ofString "" else if kd = 7 then Str.ofString ".q" else if kd = 8 then Str.ofString ".7." else Str.ofString "."
noncomputable def psOf (kd i : Nat) (f : Str) : List Str :=
  if kd = 5 then [Str.empty, Str.ofString "C", colS kd i, f, Str.empty]
  else if kd = 6 then [Str.empty, colS kd i, f, Str.empty]
  else if kd = 7 then [Str.empty, S.one (97 + i / 3), colS kd i, f, Str.ofString "q"]
  else if kd = 8 then [Str.empty, S.one (97 + i / 3), colS kd i, f, Str.ofString "7", Str.empty]
  else if kd = 9 then [Str.empty, S.one (97 + i / 3), colS kd i, f]
  else [Str.empty, (rowO kd i).getD (Str.ofString ""), colS kd i, f, Str.empty]
noncomputable def onB (kd : Nat) : Bool := decide ((kd : Int) ∈ ([1, 3, 6, 8] : List Int))
theorem kd_cases {kd : Nat} (h : kd < 10) : kd = 0 ∨ kd = 1 ∨ kd = 2 ∨ kd = 3 ∨ kd = 4 ∨ kd = 5 ∨ kd = 6 ∨ kd = 7 ∨ kd = 8 ∨ kd = 9 := by lia
theorem text_is {kd i : Nat} {f : Str} {r : Value} (h : kd < 10)
    (hv : OptV (if onB kd then onw [rowO kd i, some (colS kd i), some f, endO kd] (some (Str.ofString "")) else bkw [some f, some (colS kd i), rowO kd i, some (Str.ofString "")] (endO kd)) r) : ∃ t, r = .str (Str.join dot (psOf kd i f)) t := by
  rcases kd_cases h with rfl | rfl | rfl | rfl | rfl | rfl | rfl | rfl | rfl | rfl
  · exact back5 hv
  · exact on5 hv
  · exact back5 hv
  · exact on5 hv
  · exact back5 hv
  · exact back5n hv
  · exact on6 hv
  · exact back7 hv
  · exact on8 hv
  · exact back9 hv
theorem side_is {kd i : Nat} {f : Str} (h : kd < 10) : Str.join dot (psOf kd i f) = frontS kd i ++ dot ++ colS kd i ++ dot ++ f ++ lastS kd := by
  rcases kd_cases h with rfl | rfl | rfl | rfl | rfl | rfl | rfl | rfl | rfl | rfl
  · exact rhs0
  · exact rhs0
  · exact rhs0
  · exact rhs0
  · exact rhs0
  · exact rhs5
  · exact rhs6
  · exact rhs7
  · exact rhs8
  · exact rhs9
theorem end_at {kd : Nat} (h : kd < 10) {t0 t1 t2 t3 t4 t5 t6 t7 t8 : Tok} :
    ∃ v, [Value.str (Str.ofString "") t0, .str (Str.ofString "") t1, .str (Str.ofString "") t2, .str (Str.ofString "") t3, .str (Str.ofString "") t4, .str (Str.ofString "") t5, .str (Str.ofString "") t6, .str (Str.ofString "q") t7, .str (Str.ofString "7.") t8, .none][(kd : Int).toNat]? = some v ∧ OptV (endO kd) v := by
  rw [Int.toNat_natCast]
  rcases kd_cases h with rfl | rfl | rfl | rfl | rfl | rfl | rfl | rfl | rfl | rfl
  · exact ⟨_, rfl, _, rfl⟩
  · exact ⟨_, rfl, _, rfl⟩
  · exact ⟨_, rfl, _, rfl⟩
  · exact ⟨_, rfl, _, rfl⟩
  · exact ⟨_, rfl, _, rfl⟩
  · exact ⟨_, rfl, _, rfl⟩
  · exact ⟨_, rfl, _, rfl⟩
  · exact ⟨_, rfl, _, rfl⟩
  · exact ⟨_, rfl, _, rfl⟩
  · exact ⟨_, rfl, rfl⟩
theorem last_at {kd : Nat} (h : kd < 10) {t0 t1 t2 t3 t4 t5 t6 t7 t8 t9 : Tok} :
    ∃ v, [Value.str (Str.ofString ".") t0, .str (Str.ofString ".") t1, .str (Str.ofString ".") t2, .str (Str.ofString ".") t3, .str (Str.ofString ".") t4, .str (Str.ofString ".") t5, .str (Str.ofString ".") t6, .str (Str.ofString ".q") t7, .str (Str.ofString ".7.") t8, .str (Str.ofString "") t9][(kd : Int).toNat]? = some v ∧ ∃ t, v = .str (lastS kd) t := by
  rw [Int.toNat_natCast]
  rcases kd_cases h with rfl | rfl | rfl | rfl | rfl | rfl | rfl | rfl | rfl | rfl <;> exact ⟨_, rfl, _, rfl⟩
theorem last_len {kd : Nat} : (lastS kd).length ≤ 3 := by
  unfold lastS
  repeat' split
  all_goals decide
theorem row_len {kd i : Nat} : lenC (rowO kd i) ≤ 20 := by
  unfold rowO
  repeat' split
  · decide
  · decide
  · show 1 ≤ 20; decide
theorem col_len {kd i : Nat} : (colS kd i).length ≤ 1 := by
  unfold colS
  split
  · decide
  · show 1 ≤ 1; decide
theorem end_len {kd : Nat} : lenC (endO kd) ≤ 20 := by
  unfold endO
  repeat' split
  all_goals decide
theorem front_len {kd i : Nat} : (frontS kd i).length ≤ 2 := by
  unfold frontS
  split
  · decide
  · split
    · decide
    · rw [Str.length_append]
      have h1 : dot.length = 1 := by decide
      have h2 : ((rowO kd i).getD (Str.ofString "")).length ≤ 1 := by
        unfold rowO
        repeat' split
        · decide
        · decide
        · show 1 ≤ 1; decide
      lia
theorem ps_free {kd i : Nat} {f : Str} (h : kd < 10) (hi : i < 9) (hf : Free f) : ∀ p ∈ psOf kd i f, Free p := by
  have h1 := free_row hi
  have h2 := free_col (i := i)
  rcases kd_cases h with rfl | rfl | rfl | rfl | rfl | rfl | rfl | rfl | rfl | rfl
  · exact free_all5 free_nil h1 h2 hf free_nil
  · exact free_all5 free_nil h1 h2 hf free_nil
  · exact free_all5 free_nil h1 h2 hf free_nil
  · exact free_all5 free_nil h1 h2 hf free_nil
  · exact free_all5 free_nil free_nil' free_nil' hf free_nil
  · exact free_all5 free_nil free_C h2 hf free_nil
  · exact free_all4 free_nil h2 hf free_nil
  · exact free_all5 free_nil h1 h2 hf free_q
  · exact free_all6 free_nil h1 h2 hf free_7 free_nil
  · exact free_all4 free_nil h1 h2 hf
theorem ps_ne {kd i : Nat} {f : Str} (h : kd < 10) : psOf kd i f ≠ [] := by
  rcases kd_cases h with rfl | rfl | rfl | rfl | rfl | rfl | rfl | rfl | rfl | rfl <;> exact List.cons_ne_nil _ _
theorem ps_len {kd i z : Nat} {f : Str} (h : kd < 10) (hf : f.length = 3) : 0 < (Str.join (S.one z) (psOf kd i f)).length ∧ (Str.join (S.one z) (psOf kd i f)).length ≤ 11 := by
  have e0 : Str.empty.length = 0 := rfl
  have e1 : ∀ c, (S.one c).length = 1 := fun _ => rfl
  have e2 : (Str.ofString "").length = 0 := rfl
  have e3 : (Str.ofString "C").length = 1 := rfl
  have e4 : (Str.ofString "q").length = 1 := rfl
  have e5 : (Str.ofString "7").length = 1 := rfl
  rcases kd_cases h with rfl | rfl | rfl | rfl | rfl | rfl | rfl | rfl | rfl | rfl
  · show 0 < (Str.join (S.one z) [Str.empty, S.one (97 + i / 3), S.one (120 + i % 3), f, Str.empty]).length ∧ (Str.join (S.one z) [Str.empty, S.one (97 + i / 3), S.one (120 + i % 3), f, Str.empty]).length ≤ 11
    rw [jlen5, hf, e0, e1, e1]; decide
  · show 0 < (Str.join (S.one z) [Str.empty, S.one (97 + i / 3), S.one (120 + i % 3), f, Str.empty]).length ∧ (Str.join (S.one z) [Str.empty, S.one (97 + i / 3), S.one (120 + i % 3), f, Str.empty]).length ≤ 11
    rw [jlen5, hf, e0, e1, e1]; omega
  · show 0 < (Str.join (S.one z) [Str.empty, S.one (97 + i / 3), S.one (120 + i % 3), f, Str.empty]).length ∧ (Str.join (S.one z) [Str.empty, S.one (97 + i / 3), S.one (120 + i % 3), f, Str.empty]).length ≤ 11
    rw [jlen5, hf, e0, e1, e1]; omega
  · show 0 < (Str.join (S.one z) [Str.empty, S.one (97 + i / 3), S.one (120 + i % 3), f, Str.empty]).length ∧ (Str.join (S.one z) [Str.empty, S.one (97 + i / 3), S.one (120 + i % 3), f, Str.empty]).length ≤ 11
    rw [jlen5, hf, e0, e1, e1]; omega
  · show 0 < (Str.join (S.one z) [Str.empty, Str.ofString "", Str.ofString "", f, Str.empty]).length ∧ (Str.join (S.one z) [Str.empty, Str.ofString "", Str.ofString "", f, Str.empty]).length ≤ 11
    rw [jlen5, hf, e0, e2]; decide
  · show 0 < (Str.join (S.one z) [Str.empty, Str.ofString "C", S.one (120 + i % 3), f, Str.empty]).length ∧ (Str.join (S.one z) [Str.empty, Str.ofString "C", S.one (120 + i % 3), f, Str.empty]).length ≤ 11
    rw [jlen5, hf, e0, e3, e1]; omega
  · show 0 < (Str.join (S.one z) [Str.empty, S.one (120 + i % 3), f, Str.empty]).length ∧ (Str.join (S.one z) [Str.empty, S.one (120 + i % 3), f, Str.empty]).length ≤ 11
    rw [jlen4, hf, e0, e1]; decide
  · show 0 < (Str.join (S.one z) [Str.empty, S.one (97 + i / 3), S.one (120 + i % 3), f, Str.ofString "q"]).length ∧ (Str.join (S.one z) [Str.empty, S.one (97 + i / 3), S.one (120 + i % 3), f, Str.ofString "q"]).length ≤ 11
    rw [jlen5, hf, e0, e1, e1, e4]; decide
  · show 0 < (Str.join (S.one z) [Str.empty, S.one (97 + i / 3), S.one (120 + i % 3), f, Str.ofString "7", Str.empty]).length ∧ (Str.join (S.one z) [Str.empty, S.one (97 + i / 3), S.one (120 + i % 3), f, Str.ofString "7", Str.empty]).length ≤ 11
    rw [jlen6, hf, e0, e1, e1, e5]; decide
  · show 0 < (Str.join (S.one z) [Str.empty, S.one (97 + i / 3), S.one (120 + i % 3), f]).length ∧ (Str.join (S.one z) [Str.empty, S.one (97 + i / 3), S.one (120 + i % 3), f]).length ≤ 11
    rw [jlen4, hf, e0, e1, e1]; decide
section
variable {w : World} {mean : ExcName → Option Value} {mg mb : Str → Option Value} {news : List (Addr × Obj)} {nm : Str} {tx ty : Tok} {kd i z : Nat} {x1 x2 x3 : Int} {f : Str}
theorem told_yes (h : kd < 6) (hi : i < 9) (hz : z = 124 ∨ z = 46) (ho : FigOk x1 x2 x3 f) (hT : Three x1 x2 x3) :
    DoesT w mean mg mb 3 122 [.str (rpl (Str.join (S.one z) (psOf kd i f))) tx, .str nm ty] [] news (fun r news' => ∃ D tp, r = .ref D ∧ news' = (D, tupObj [.str nm ty, .int (100 * x1 + 10 * x2 + x3) tp] 0) :: news) := by
  have hfa := ps_free (kd := kd) (i := i) (by (solve_by_elim (maxDepth := 5) [Nat.lt_of_lt_of_le, Nat.lt_of_le_of_lt, Nat.le_of_lt, Nat.le_trans, Nat.lt_trans, Nat.lt_succ_of_lt, Nat.lt_succ_of_le, Nat.le_succ_of_le, Nat.succ_le_of_lt, Nat.le_refl, Nat.sub_lt, Nat.sub_le, Nat.le_add_right, Nat.le_add_left, Nat.zero_le, Nat.zero_lt_succ, Nat.pos_of_ne_zero, Nat.le_of_lt_succ, Nat.ne_of_lt, Nat.ne_of_gt])) hi (free_fig ho hT)
  obtain ⟨l0, l1⟩ := ps_len (kd := kd) (i := i) (z := z) (by (solve_by_elim (maxDepth := 5) [Nat.lt_of_lt_of_le, Nat.lt_of_le_of_lt, Nat.le_of_lt, Nat.le_trans, Nat.lt_trans, Nat.lt_succ_of_lt, Nat.lt_succ_of_le, Nat.le_succ_of_le, Nat.succ_le_of_lt, Nat.le_refl, Nat.sub_lt, Nat.sub_le, Nat.le_add_right, Nat.le_add_left, Nat.zero_le, Nat.zero_lt_succ, Nat.pos_of_ne_zero, Nat.le_of_lt_succ, Nat.ne_of_lt, Nat.ne_of_gt])) ho.len
  obtain ⟨p1, p2, e⟩ : ∃ p1 p2, psOf kd i f = [Str.empty, p1, p2, f, Str.empty] := by
    rcases kd_cases (kd := kd) (by (solve_by_elim (maxDepth := 5) [Nat.lt_of_lt_of_le, Nat.lt_of_le_of_lt, Nat.le_of_lt, Nat.le_trans, Nat.lt_trans, Nat.lt_succ_of_lt, Nat.lt_succ_of_le, Nat.le_succ_of_le, Nat.succ_le_of_lt, Nat.le_refl, Nat.sub_lt, Nat.sub_le, Nat.le_add_right, Nat.le_add_left, Nat.zero_le, Nat.zero_lt_succ, Nat.pos_of_ne_zero, Nat.le_of_lt_succ, Nat.ne_of_lt, Nat.ne_of_gt])) with rfl | rfl | rfl | rfl | rfl | rfl | rfl | rfl | rfl | rfl
    · exact ⟨_, _, rfl⟩
    · exact ⟨_, _, rfl⟩
    · exact ⟨_, _, rfl⟩
    · exact ⟨_, _, rfl⟩
    · exact ⟨_, _, rfl⟩
    · exact ⟨_, _, rfl⟩
    all_goals lia
  rw [e] at hfa l0 l1 ⊢
  have := ho.len
  exact told_five (z := z) (by lia) (fun p hp => (hfa p hp).sign hz) (by lia) l0 ho.num (by lia)
theorem told_no (h : 6 ≤ kd) (h10 : kd < 10) (hi : i < 9) (hz : z = 124 ∨ z = 46) (ho : FigOk x1 x2 x3 f) (hT : Three x1 x2 x3) :
    DoesT w mean mg mb 3 122 [.str (rpl (Str.join (S.one z) (psOf kd i f))) tx, .str nm ty] [] news (fun r news' => ∃ D tx', r = .ref D ∧ news' = (D, lst [.str (Str.ofString "proto") tx', .str (rpl (Str.join (S.one z) (psOf kd i f))) tx] 0) :: news) := by
  have hfa := ps_free (kd := kd) (i := i) (by omega) hi (free_fig ho hT)
  obtain ⟨l0, l1⟩ := ps_len (kd := kd) (i := i) (z := z) (by omega) ho.len
  have hz1 := hT.z1
  rcases kd_cases h10 with rfl | rfl | rfl | rfl | rfl | rfl | rfl | rfl | rfl | rfl
  · omega
  · omega
  · omega
  · omega
  · omega
  · (solve_by_elim (maxDepth := 5) [Nat.lt_of_lt_of_le, Nat.lt_of_le_of_lt, Nat.le_of_lt, Nat.le_trans, Nat.lt_trans, Nat.lt_succ_of_lt, Nat.lt_succ_of_le, Nat.le_succ_of_le, Nat.succ_le_of_lt, Nat.le_refl, Nat.sub_lt, Nat.sub_le, Nat.le_add_right, Nat.le_add_left, Nat.zero_le, Nat.zero_lt_succ, Nat.pos_of_ne_zero, Nat.le_of_lt_succ, Nat.ne_of_lt, Nat.ne_of_gt])
  · exact told_many (z := z) (ps := [colS 6 i, f]) (by lia) (by simp) (by simp) (fun p hp => (hfa p (List.mem_cons_of_mem _ (List.mem_append_left [Str.empty] hp))).sign hz) (Nat.le_trans l1 (by decide)) l0
  · exact told_other (z := z) (d := 113) (ps := [S.one (97 + i / 3), colS 7 i, f]) (p := Str.ofString "q") (by omega) rfl (by lia) (fun q hq => ((hfa q hq).sign hz).2) (Nat.le_trans l1 (by decide)) l0
  · exact told_many (z := z) (ps := [S.one (97 + i / 3), colS 8 i, f, Str.ofString "7"]) (by omega) (by simp) (by simp) (fun p hp => (hfa p (List.mem_cons_of_mem _ (List.mem_append_left [Str.empty] hp))).sign hz) (Nat.le_trans l1 (by decide)) l0
  · exact told_other (z := z) (d := 48 + x3.toNat) (ps := [S.one (97 + i / 3), colS 9 i]) (p := f) (by omega) (by rw [ho.cps]; rfl) (by lia) (fun q hq => ((hfa q hq).sign hz).2) (Nat.le_trans l1 (by decide)) l0
end
section
variable {M : Model} {prog : Program} {w : World} {A : Around} {E : Value → Shared → Prop} {s : Shared} {h₀ : Heap} {L a : Addr} {news : List (Addr × Obj)} {m : Str → Option Value} {e : Expr} {env : Env} {Q : Value → Shared → Prop}
/-- what is known of an expression's value: it makes nothing that is kept -/
noncomputable def Cut (h₀ : Heap) (L : Addr) (m : Str → Option Value) (news : List (Addr × Obj)) (s : Shared) (P : Value → Prop) (v : Value) (s' : Shared) : Prop := ∃ h' tk', s' = { s with heap := h', toks := tk' } ∧ P v ∧ Fr h₀ L h' m ∧ News h₀ L h' news
theorem Cut.mk {P : Value → Prop} {v : Value} {h' : Heap} {tk' : Nat} (p : P v) (F : Fr h₀ L h' m) (N : News h₀ L h' news) : Cut h₀ L m news s P v { s with heap := h', toks := tk' } := ⟨h', tk', rfl, p, F, N⟩
theorem cut_eval (_F : Fr h₀ L s.heap m) (_N : News h₀ L s.heap news) (P : Value → Prop)
    (h1 : wpAny M A (eval e env) (Cut h₀ L m news s P) E s)
    (h2 : ∀ v h' tk', P v → Fr h₀ L h' m → News h₀ L h' news → Q v { s with heap := h', toks := tk' }) : wpAny M A (eval e env) Q E s :=
  wpAny_mono h1 (fun v _ ⟨h', tk', e1, p, f, n⟩ => e1 ▸ h2 v h' tk' p f n) fun _ _ x => x
theorem list_item_ex {value slice : PySem.Expr} {l : List Value} {n : Nat} {k : Int} {u : Tok} {P : Value → Prop}
    (N : News h₀ L s.heap news) (hm : (a, lst l n) ∈ news) (h0 : 0 ≤ k) (hk : k < 1000) (hx : ∃ x, l[k.toNat]? = some x ∧ P x) (h : ∀ x, P x → Q x s)
    (hs : subscripted slice false (.ref a) (.int k u) = operate [.ref a, .int k u] (getItem (.ref a) (.int k u)) := by with_unfolding_all rfl) :
    wpAny (model prog w) A (subscriptTail value slice (.ref a) (.int k u)) Q E s := by
  obtain ⟨x, hx, hp⟩ := hx
  have hl : s.heap.IsList a l.toArray := News.isList N hm
  exact tail_any hl.typeIs slot_list_getitem.lookup (wpAny_getItem_list hl h0 (by (solve_by_elim (maxDepth := 4) [Int.lt_of_lt_of_le, Int.lt_of_le_of_lt, Int.le_of_lt, Int.le_trans, Int.lt_trans, Int.le_refl, Int.not_lt.mp, Int.not_le.mp, Int.le_antisymm, Nat.le_antisymm, Nat.not_lt.mp, Nat.not_le.mp, Nat.le_of_lt, Nat.lt_of_le_of_ne, Nat.lt_of_not_le, Nat.le_of_not_lt, Int.ofNat_nonneg, Int.lt_of_not_ge, Eq.symm, Int.le_of_eq, Nat.le_of_eq])) (by simpa using hx) (h x hp)) hs
end
theorem joined_any {w : World} {mean : ExcName → Option Value} {mg mb : Str → Option Value} {news : List (Addr × Obj)} {a : Addr} {u0 u1 u2 u3 u4 : Value} {x0 x1 x2 x3 x4 : Option Str} {n : Nat} (b : Bool)
    (h0 : OptV x0 u0) (h1 : OptV x1 u1) (h2 : OptV x2 u2) (h3 : OptV x3 u3) (h4 : OptV x4 u4) (hl : ∀ x ∈ [x0, x1, x2, x3, x4], lenC x ≤ 20) :
    Does w mean mg mb 4 115 [.ref a, .bool b] [] ((a, lst [u0, u1, u2, u3, u4] n) :: news) (fun r news' => OptV (if b then onw [x1, x2, x3, x4] x0 else bkw [x3, x2, x1, x0] x4) r ∧ news' = (a, lst [u0, u1, u2, u3, u4] n) :: news) := by
  cases b with
  | true => exact joined_on h0 h1 h2 h3 h4 hl
  | false => exact joined_back h0 h1 h2 h3 h4 hl
theorem row_some {kd i : Nat} (h5 : ¬ kd = 5) (h6 : ¬ kd = 6) : ∃ c, rowO kd i = some c ∧ c.length ≤ 1 := by
  unfold rowO
  split
  · exact ⟨_, rfl, by decide⟩
  · rw [if_neg (by lia)]
    exact ⟨_, rfl, by show 1 ≤ 1; decide⟩
theorem dig {x y z : Int} (h : Three x y z) : (100 * x + 10 * y + z).fdiv 100 = x ∧ ((100 * x + 10 * y + z).fdiv 10).fmod 10 = y ∧ (100 * x + 10 * y + z).fmod 10 = z := by
  have h1 := h.x1
  have h2 := h.y1
  have h3 := h.z1
  rw [Int.fdiv_eq_ediv_of_nonneg _ (by decide), Int.fdiv_eq_ediv_of_nonneg _ (by decide), Int.fmod_eq_emod_of_nonneg _ (by decide), Int.fmod_eq_emod_of_nonneg _ (by decide)]
  lia
/-- the words of a place -/
noncomputable def wF (x y z : Int) : List Int := insR id z (insR id y (insR id x []))
theorem insR_sorted {y : Int} : ∀ {l : List Int}, l.Pairwise (· ≤ ·) → (insR id y l).Pairwise (· ≤ ·)
  | [], _ => List.pairwise_singleton ..
  | a :: r, h => by
    rw [List.pairwise_cons] at h
    unfold insR
    split
    · rename_i hlt
      rw [List.pairwise_cons]
      refine ⟨fun b hb => ?_, List.pairwise_cons.mpr h⟩
      have hlt : y < a := hlt
      rcases List.mem_cons.mp hb with rfl | hb
      · (solve_by_elim (maxDepth := 4) [Int.lt_of_lt_of_le, Int.lt_of_le_of_lt, Int.le_of_lt, Int.le_trans, Int.lt_trans, Int.le_refl, Int.not_lt.mp, Int.not_le.mp, Int.le_antisymm, Nat.le_antisymm, Nat.not_lt.mp, Nat.not_le.mp, Nat.le_of_lt, Nat.lt_of_le_of_ne, Nat.lt_of_not_le, Nat.le_of_not_lt, Int.ofNat_nonneg, Int.lt_of_not_ge, Eq.symm, Int.le_of_eq, Nat.le_of_eq])
      · have := h.1 b hb; lia
    · rename_i hlt
      rw [List.pairwise_cons]
      refine ⟨fun b hb => ?_, insR_sorted h.2⟩
      have hlt : ¬ y < a := hlt
      rcases (insR_mem id y b r).mp hb with rfl | hb
      · lia
      · exact h.1 b hb
theorem wF_ok {x y z : Int} (h : Three x y z) : WordsOk (wF x y z) := by
  have p : (wF x y z).Perm [z, y, x] := ((insR_perm id z _).trans (List.Perm.cons z ((insR_perm id y _).trans (List.Perm.cons y (insR_perm id x _)))))
  refine ⟨p.length_eq, insR_sorted (insR_sorted (List.pairwise_singleton ..)), p.nodup_iff.mpr ?_, fun a ha => ?_⟩
  · have h1 := h.xy
    have h2 := h.xz
    have h3 := h.yz
    simp only [List.nodup_cons, List.mem_cons, List.not_mem_nil, or_false, not_false_iff, List.nodup_nil, and_true]
    lia
  · have := p.mem_iff.mp ha
    simp only [List.mem_cons, List.not_mem_nil, or_false] at this
    have h1 := h.x1
    have h2 := h.y1
    have h3 := h.z1
    rcases this with rfl | rfl | rfl <;> assumption
/-- the ledger after a cell's change, the list ahead -/
theorem chg_word {h₀ h : Heap} {L lW wA : Addr} {oW o o' : Obj} {rest : List (Addr × Obj)} (N : News h₀ L h (Chg ((lW, oW) :: (wA, o) :: rest) wA o')) (h1 : lW ≠ wA) (h2 : ∀ r ∈ rest, r.1 ≠ wA) : News h₀ L h ((lW, oW) :: (wA, o') :: rest) := fun r hr => by
  rcases List.mem_cons.mp hr with rfl | hr
  · exact N _ (Chg.oldp (List.mem_cons_self ..) h1)
  · rcases List.mem_cons.mp hr with rfl | hr
    · exact N _ Chg.self
    · exact N _ (Chg.oldp (List.mem_cons_of_mem _ (List.mem_cons_of_mem _ hr)) (h2 r hr))
/-- own rows, behind the first two -/
theorem own_in {h₀ h : Heap} {L : Addr} {a b : Addr × Obj} {own rest : List (Addr × Obj)} (N : News h₀ L h (own ++ (a :: b :: rest))) : News h₀ L h (a :: b :: (own ++ rest)) := News.sub N fun r hr => by
  simp only [List.mem_cons, List.mem_append] at hr ⊢
  rcases hr with h | h | h | h <;> simp [h]
theorem own_out {h₀ h : Heap} {L : Addr} {a b : Addr × Obj} {own rest : List (Addr × Obj)} (N : News h₀ L h (a :: b :: (own ++ rest))) : News h₀ L h (own ++ (a :: b :: rest)) := News.sub N fun r hr => by
  simp only [List.mem_cons, List.mem_append] at hr ⊢
  rcases hr with h | h | h | h <;> simp [h]
theorem ne_of_rest {lW wA : Addr} {o : Obj} {rest : List (Addr × Obj)} (h : lW ≠ wA) (hr : ∀ r ∈ rest, r.1 ≠ lW) : ∀ r ∈ (wA, o) :: rest, r.1 ≠ lW := fun r h1 => by
  rcases List.mem_cons.mp h1 with rfl | h1
  · exact Ne.symm h
  · exact hr r h1
theorem own_ne {RW own : List (Addr × Obj)} {wA lW dW it : Addr} {P : Prop} (h : ∀ r ∈ RW, r.1 ≠ wA ∧ r.1 ≠ lW) (ho : ∀ r ∈ own, r.1 ∈ [it, dW]) (hd : lW < dW ∧ P) (hi : dW < it) (hw : wA < lW) : ∀ r ∈ own ++ RW, r.1 ≠ wA ∧ r.1 ≠ lW := by
  intro r hr
  rcases List.mem_append.mp hr with hr | hr
  · have := ho r hr
    have h1 : @LT.lt Nat _ lW dW := hd.1
    have h2 : @LT.lt Nat _ dW it := hi
    have h3 : @LT.lt Nat _ wA lW := hw
    simp only [List.mem_cons, List.not_mem_nil, or_false] at this
    rcases this with e | e <;> rw [e]
    · exact ⟨Nat.ne_of_gt (by lia), Nat.ne_of_gt (by (solve_by_elim (maxDepth := 5) [Nat.lt_of_lt_of_le, Nat.lt_of_le_of_lt, Nat.le_of_lt, Nat.le_trans, Nat.lt_trans, Nat.lt_succ_of_lt, Nat.lt_succ_of_le, Nat.le_succ_of_le, Nat.succ_le_of_lt, Nat.le_refl, Nat.sub_lt, Nat.sub_le, Nat.le_add_right, Nat.le_add_left, Nat.zero_le, Nat.zero_lt_succ, Nat.pos_of_ne_zero, Nat.le_of_lt_succ, Nat.ne_of_lt, Nat.ne_of_gt]))⟩
    · exact ⟨Nat.ne_of_gt (by (solve_by_elim (maxDepth := 5) [Nat.lt_of_lt_of_le, Nat.lt_of_le_of_lt, Nat.le_of_lt, Nat.le_trans, Nat.lt_trans, Nat.lt_succ_of_lt, Nat.lt_succ_of_le, Nat.le_succ_of_le, Nat.succ_le_of_lt, Nat.le_refl, Nat.sub_lt, Nat.sub_le, Nat.le_add_right, Nat.le_add_left, Nat.zero_le, Nat.zero_lt_succ, Nat.pos_of_ne_zero, Nat.le_of_lt_succ, Nat.ne_of_lt, Nat.ne_of_gt])), Nat.ne_of_gt (by omega)⟩
  · exact h r hr
theorem ne_cell {h₀ h : Heap} {L a b : Addr} {o o' : Obj} {news : List (Addr × Obj)} {v : Option Value} (N : News h₀ L h news) (hm : (a, o) ∈ news) (hm' : (b, o') ∈ news) (hd : o'.data = .cell v) (hn : ∀ v, o.data = .cell v → False) : a ≠ b := fun e => by
  have h1 := N.get hm
  have h2 := N.get hm'
  rw [e] at h1
  have := get_fun h1 h2
  rw [this] at hn
  exact hn _ hd
theorem all_seven {P : Addr × Obj → Prop} {x1 x2 x3 x4 x5 x6 x7 : Addr × Obj} {l : List (Addr × Obj)} (h1 : P x1) (h2 : P x2) (h3 : P x3) (h4 : P x4) (h5 : P x5) (h6 : P x6) (h7 : P x7) (h : ∀ r ∈ l, P r) : ∀ r ∈ x1 :: x2 :: x3 :: x4 :: x5 :: x6 :: x7 :: l, P r := by
  intro r hr
  simp only [List.mem_cons] at hr
  rcases hr with rfl | rfl | rfl | rfl | rfl | rfl | rfl | hr
  · exact h1
  · exact h2
  · exact h3
  · exact h4
  · exact h5
  · exact h6
  · exact h7
  · exact h r hr
end
section
-- T6
theorem le_unique : ∀ {l l' : List Int}, l.Perm l' → l.Pairwise (· ≤ ·) → l'.Pairwise (· ≤ ·) → l = l'
  | [], l', p, _, _ => (List.nil_perm.mp p).symm
  | x :: r, [], p, _, _ => absurd p.length_eq (by simp)
  | x :: r, y :: t, p, h, h' => by
    rw [List.pairwise_cons] at h h'
    have e : x = y := by
      rcases List.mem_cons.mp (p.mem_iff.mp (List.mem_cons_self ..)) with e | hx
      · exact e
      · rcases List.mem_cons.mp (p.mem_iff.mpr (List.mem_cons_self ..)) with e | hy
        · exact e.symm
        · have a := h.1 y hy
          have b := h'.1 x hx
          (solve_by_elim (maxDepth := 4) [Int.lt_of_lt_of_le, Int.lt_of_le_of_lt, Int.le_of_lt, Int.le_trans, Int.lt_trans, Int.le_refl, Int.not_lt.mp, Int.not_le.mp, Int.le_antisymm, Nat.le_antisymm, Nat.not_lt.mp, Nat.not_le.mp, Nat.le_of_lt, Nat.lt_of_le_of_ne, Nat.lt_of_not_le, Nat.le_of_not_lt, Int.ofNat_nonneg, Int.lt_of_not_ge, Eq.symm, Int.le_of_eq, Nat.le_of_eq])
    subst e
    rw [le_unique (List.perm_cons x |>.mp p) h.2 h'.2]
theorem wF_perm (x y z : Int) : (wF x y z).Perm [x, y, z] := by
  have p : (wF x y z).Perm [z, y, x] := ((insR_perm id z _).trans (List.Perm.cons z ((insR_perm id y _).trans (List.Perm.cons y (insR_perm id x _)))))
  exact p.trans (List.reverse_perm [x, y, z])
theorem wF_sorted (x y z : Int) : (wF x y z).Pairwise (· ≤ ·) := insR_sorted (insR_sorted (List.pairwise_singleton ..))
section
variable {prog : Program} {w : World} {A : Around} {E : Value → Shared → Prop} {s : Shared} {h₀ : Heap} {L a b : Addr} {news : List (Addr × Obj)} {m : Str → Option Value}
/-- sorted of three ints is the list of their words -/
theorem sorted_three {x y z : Int} {t u v : Tok} {c : Nat} {Q : Value → Shared → Prop} (F : Fr h₀ L s.heap m) (N : News h₀ L s.heap news) (hm : (a, lst [.int x t, .int y u, .int z v] c) ∈ news)
    (h : ∀ h' D vs' e, IntsAre vs' (wF x y z) → Fr h₀ L h' m → News h₀ L h' ((D, lst vs' e) :: news) → Q (.ref D) { s with heap := h' }) : wpAny (model prog w) A (call (.builtin "sorted") [.ref a]) Q E s := by
  refine sorted_N (vs := [.int x t, .int y u, .int z v]) (ns := [x, y, z]) F N (News.isList N hm) (.cons _ _ (.cons _ _ (.cons _ _ .nil))) (by show 3 < 64; decide) fun h' vs' ns' e F' N' hi hp hs => ?_
  have e1 : ns' = wF x y z := le_unique (hp.trans (wF_perm x y z).symm) hs (wF_sorted x y z)
  rw [e1] at hi
  exact h h' _ vs' e hi F' N'
theorem ne_same {vs vs' : List Value} {ns : List Int} {c d : Nat} {Q : Value → Shared → Prop} (N : News h₀ L s.heap news) (hm : (a, lst vs c) ∈ news) (hm' : (b, lst vs' d) ∈ news) (hi : IntsAre vs ns) (hi' : IntsAre vs' ns)
    (hu : A.units + 64 < cLine) (h : Q (.bool false) s) : wpAny (model prog w) A (compareOp .NotEq (.ref a) (.ref b)) Q E s := by
  refine ke_ne_ints (News.isList N hm) (News.isList N hm') hi hi' hu ?_
  have e : (!decide (ns = ns)) = false := by simp
  rw [e]; exact h
end
/-- a place more -/
noncomputable def pU (p : Plc) (i : Nat) (ad wad : Addr) (t0 t1 t2 : Tok) (wv : List Value) (wl : List Int) (wc : Nat) : Plc where
  ad := fun j => if j = i then ad else p.ad j
  wad := fun j => if j = i then wad else p.wad j
  lev := p.lev
  t0 := fun j => if j = i then t0 else p.t0 j
  t1 := fun j => if j = i then t1 else p.t1 j
  t2 := fun j => if j = i then t2 else p.t2 j
  wv := fun j => if j = i then wv else p.wv j
  wl := fun j => if j = i then wl else p.wl j
  wc := fun j => if j = i then wc else p.wc j
section
variable {p : Plc} {i : Nat} {ad wad : Addr} {t0 t1 t2 : Tok} {wv : List Value} {wl : List Int} {wc : Nat} {ks : List Nat}
theorem pU_v {k : Nat} (h : k ≠ i) : (pU p i ad wad t0 t1 t2 wv wl wc).v k = p.v k := by simp [pU, Plc.v, h]
theorem pU_map (h : ∀ k ∈ ks, k ≠ i) : ks.map (pU p i ad wad t0 t1 t2 wv wl wc).v = ks.map p.v := List.map_congr_left fun k hk => pU_v (h k hk)
theorem pU_at : (pU p i ad wad t0 t1 t2 wv wl wc).v i = .ref ad := by simp [pU, Plc.v]
theorem pU_o : (pU p i ad wad t0 t1 t2 wv wl wc).o i = tupObj [.int (p.lev i) t0, .int ((i / 3 : Nat) : Int) t1, .int ((i % 3 : Nat) : Int) t2, .ref wad] 0 := by simp [pU, Plc.o]
theorem pU_rows (h : ∀ k ∈ ks, k ≠ i) : rowsP (pU p i ad wad t0 t1 t2 wv wl wc) ks = rowsP p ks := by
  unfold rowsP
  induction ks with
  | nil => rfl
  | cons k r ih =>
    have hk := h k (List.mem_cons_self ..)
    rw [List.flatMap_cons, List.flatMap_cons, ih fun j hj => h j (List.mem_cons_of_mem _ hj)]
    congr 1
    simp [pU, Plc.o, hk]
theorem pU_new : rowsP (pU p i ad wad t0 t1 t2 wv wl wc) (ks ++ [i]) = rowsP (pU p i ad wad t0 t1 t2 wv wl wc) ks ++ [(ad, tupObj [.int (p.lev i) t0, .int ((i / 3 : Nat) : Int) t1, .int ((i % 3 : Nat) : Int) t2, .ref wad] 0), (wad, lst wv wc)] := by
  unfold rowsP
  rw [List.flatMap_append]
  congr 1
  simp [pU, Plc.o]
/-- one place more: the state goes on -/
theorem g2_next {cA : Addr} {lev : Nat → Int} {cl cc cl' cc' : Nat} {ow ow' : Obj} (g : G2 cA lev i ⟨ks, p, cl, cc, ow⟩) (hw : WordsOk wl) (hi : IntsAre wv wl) (ho : ∃ v, ow'.data = .cell v) (h1 : cA < ad) (h2 : cA < wad) :
    G2 cA lev (i + 1) ⟨ks ++ [i], pU p i ad wad t0 t1 t2 wv wl wc, cl', cc', ow'⟩ where
  inc := by
    have hl := g.lt
    have hinc := g.inc
    dsimp only at hl hinc ⊢
    rw [List.pairwise_append]
    exact ⟨hinc, List.pairwise_singleton .., fun a ha b hb => by rw [List.mem_singleton.mp hb]; exact hl a ha⟩
  lt := fun k hk => by
    rcases List.mem_append.mp hk with hk | hk
    · exact Nat.lt_succ_of_lt (g.lt k hk)
    · rw [List.mem_singleton.mp hk]; exact Nat.lt_succ_self _
  lev := g.lev
  wl := fun k hk => by
    rcases List.mem_append.mp hk with hk | hk
    · have := Nat.ne_of_lt (g.lt k hk)
      have h := g.wl k hk
      simpa [pU, this] using h
    · rw [List.mem_singleton.mp hk]
      simpa [pU] using hw
  wi := fun k hk => by
    rcases List.mem_append.mp hk with hk | hk
    · have := Nat.ne_of_lt (g.lt k hk)
      have h := g.wi k hk
      simpa [pU, this] using h
    · rw [List.mem_singleton.mp hk]
      simpa [pU] using hi
  ow := ho
  off := fun r hr => by
    have hne : ∀ k ∈ ks, k ≠ i := fun k hk => Nat.ne_of_lt (g.lt k hk)
    dsimp only at hr
    rw [pU_new, pU_rows hne] at hr
    rcases List.mem_append.mp hr with hr | hr
    · exact g.off r hr
    · simp only [List.mem_cons, List.not_mem_nil, or_false] at hr
      rcases hr with rfl | rfl
      · exact h1
      · exact h2
end
theorem fdiv_three {i : Nat} (hi : i < 9) : 0 ≤ (i : Int).fdiv 3 ∧ (i : Int).fdiv 3 < 3 := by
  rw [Int.fdiv_eq_ediv_of_nonneg _ (by decide)]
  lia
theorem fdiv_is (i : Nat) : (i : Int).fdiv 3 = ((i / 3 : Nat) : Int) := by
  rw [Int.fdiv_eq_ediv_of_nonneg _ (by decide)]
  (solve_by_elim (maxDepth := 5) [Nat.lt_of_lt_of_le, Nat.lt_of_le_of_lt, Nat.le_of_lt, Nat.le_trans, Nat.lt_trans, Nat.lt_succ_of_lt, Nat.lt_succ_of_le, Nat.le_succ_of_le, Nat.succ_le_of_lt, Nat.le_refl, Nat.sub_lt, Nat.sub_le, Nat.le_add_right, Nat.le_add_left, Nat.zero_le, Nat.zero_lt_succ, Nat.pos_of_ne_zero, Nat.le_of_lt_succ, Nat.ne_of_lt, Nat.ne_of_gt])
theorem fmod_is (i : Nat) : (i : Int).fmod 3 = ((i % 3 : Nat) : Int) := by
  rw [Int.fmod_eq_emod_of_nonneg _ (by decide)]
  (solve_by_elim (maxDepth := 5) [Nat.lt_of_lt_of_le, Nat.lt_of_le_of_lt, Nat.le_of_lt, Nat.le_trans, Nat.lt_trans, Nat.lt_succ_of_lt, Nat.lt_succ_of_le, Nat.le_succ_of_le, Nat.succ_le_of_lt, Nat.le_refl, Nat.sub_lt, Nat.sub_le, Nat.le_add_right, Nat.le_add_left, Nat.zero_le, Nat.zero_lt_succ, Nat.pos_of_ne_zero, Nat.le_of_lt_succ, Nat.ne_of_lt, Nat.ne_of_gt])
/-- the level as it is reckoned -/
theorem lev_is {last : Int} {la lb lc i : Nat} (ha : (la : Int) = (last.fdiv 6).fmod 2) (hb : (lb : Int) = (last.fdiv 12).fmod 2) (hc : (lc : Int) = (last.fdiv 24).fmod 3) :
    ((1 + (last.fdiv 6).fmod 2) * (i : Int).fdiv 3 + (1 + (last.fdiv 12).fmod 2) * (i : Int).fmod 3 + last.fdiv 24).fmod 3 = lv la lb lc i := by
  rw [← ha, ← hb, fdiv_is, fmod_is]
  unfold lv
  rw [Int.fmod_eq_emod_of_nonneg _ (by decide)] at hc ⊢
  have e1 : (1 + (la : Int)) * ((i / 3 : Nat) : Int) = (((1 + la) * (i / 3) : Nat) : Int) := by rw [Int.natCast_mul]; rfl
  have e2 : (1 + (lb : Int)) * ((i % 3 : Nat) : Int) = (((1 + lb) * (i % 3) : Nat) : Int) := by rw [Int.natCast_mul]; rfl
  rw [e1, e2]
  generalize (1 + la) * (i / 3) = a
  generalize (1 + lb) * (i % 3) = b
  lia
end
section
-- T7
section
variable {prog : Program} {w : World} {A : Around} {E : Value → Shared → Prop} {s : Shared} {h₀ : Heap} {L D : Addr} {m : Str → Option Value} {rest : List (Addr × Obj)} {n : Nat} {vs : List Value} {y : Value} {Q : Value → Shared → Prop}
theorem app_head (F : Fr h₀ L s.heap m) (N : News h₀ L s.heap ((D, lst vs n) :: rest)) (hne : ∀ r ∈ rest, r.1 ≠ D) (hz : vs.length < 1000)
    (h : ∀ h', Fr h₀ L h' m → News h₀ L h' ((D, lst (vs ++ [y]) (n + 1)) :: rest) → Q .none { s with heap := h' }) : wpAny (model prog w) A (call (.builtin "list.append") [.ref D, y]) Q E s := by
  refine append_K F N (Upd.head hne) (fun h' F' N' => h h' F' (by rw [List.push_toArray] at N'; exact N')) (by simp [sizeLine]; (solve_by_elim (maxDepth := 5) [Nat.lt_of_lt_of_le, Nat.lt_of_le_of_lt, Nat.le_of_lt, Nat.le_trans, Nat.lt_trans, Nat.lt_succ_of_lt, Nat.lt_succ_of_le, Nat.le_succ_of_le, Nat.succ_le_of_lt, Nat.le_refl, Nat.sub_lt, Nat.sub_le, Nat.le_add_right, Nat.le_add_left, Nat.zero_le, Nat.zero_lt_succ, Nat.pos_of_ne_zero, Nat.le_of_lt_succ, Nat.ne_of_lt, Nat.ne_of_gt]))
/-- the last of a list -/
theorem list_last {value slice : PySem.Expr} {u : Tok} {news : List (Addr × Obj)} (N : News h₀ L s.heap news) (hm : (D, lst (vs ++ [y]) n) ∈ news) (hz : vs.length < 1000) (h : Q y s)
    (hs : subscripted slice false (.ref D) (.int (-1) u) = operate [.ref D, .int (-1) u] (getItem (.ref D) (.int (-1) u)) := by with_unfolding_all rfl) (hg : ∀ r, letTemporaryGo value (.ref D) r = pure () := by intro _; with_unfolding_all rfl) :
    wpAny (model prog w) A (subscriptTail value slice (.ref D) (.int (-1) u)) Q E s :=
  kim_back N hm rfl rfl (by decide) (by rw [List.length_append, List.length_singleton]; lia) (by decide) (x := y) (by
    have e : ((-1 : Int) + ((vs ++ [y]).length : Int)).toNat = vs.length := by rw [List.length_append, List.length_singleton]; lia
    rw [e]
    simp) h hs hg
end
section
variable {w : World} {mean : ExcName → Option Value} {mg mb : Str → Option Value} {p : Plc} {lev : Nat → Int} {ks : List Nat} {i cl n : Nat} {lA dP wad : Addr} {t t0 t1 t2 : Tok} {wv : List Value} {wl : List Int} {wc : Nat} {r : List Value} {rest : List (Addr × Obj)}
theorem line_mem {k : Nat} (hinc : ks.Pairwise (· < ·)) : k ∈ lineOf lev ks ↔ k ∈ ks := (line_sorted (lev := lev) hinc).2.mem_iff
theorem inc_len : ∀ {ks : List Nat} {m : Nat}, ks.Pairwise (· < ·) → (∀ k ∈ ks, k < m) → ks.length ≤ m
  | [], _, _, _ => Nat.zero_le _
  | k :: r, m, h, hm => by
    rw [List.pairwise_cons] at h
    have hk := hm k (List.mem_cons_self ..)
    have ih := inc_len (ks := r.map (· - 1)) (m := m - 1) (by
      rw [List.pairwise_map]
      refine h.2.imp_of_mem fun {a b} ha hb hab => ?_
      have := h.1 a ha
      omega) (fun x hx => by
      obtain ⟨a, ha, rfl⟩ := List.mem_map.mp hx
      have := hm a (List.mem_cons_of_mem _ ha)
      have := h.1 a ha
      omega)
    rw [List.length_map] at ih
    rw [List.length_cons]
    omega
theorem ins_line (hlev : p.lev = lev) (hinc : ks.Pairwise (· < ·)) (hi : ∀ k ∈ ks, k < i) (h9 : i < 9) (hwi : ∀ k ∈ ks, IntsAre (p.wv k) (p.wl k)) (hrows : ∀ q ∈ rowsP p ks, q ∈ rest) (hne : ∀ q ∈ rest, q.1 ≠ lA) (hmy : (dP, tupObj (.int (lev i) t :: r) n) ∈ rest) :
    Does w mean mg mb 3 67 [.ref lA, .ref dP] [(Str.ofString "key", .ref 108)] ((lA, lst ((lineOf lev ks).map p.v) cl) :: rest) (fun v news' => v = .none ∧ news' = (lA, lst ((lineOf lev (ks ++ [i])).map (pU p i dP wad t0 t1 t2 wv wl wc).v) (cl + 1)) :: rest) := by
  have hne2 : ∀ k ∈ lineOf lev ks, k ≠ i := fun k hk => Nat.ne_of_lt (hi k ((line_mem hinc).mp hk))
  have hne3 : ∀ k ∈ ks, k ≠ i := fun k hk => Nat.ne_of_lt (hi k hk)
  have hin : (pU p i dP wad t0 t1 t2 wv wl wc).In (lineOf lev ks) rest := by
    refine (rowsP_in (p := pU p i dP wad t0 t1 t2 wv wl wc) (ks := ks) (fun k hk => by have := hi k hk; (solve_by_elim (maxDepth := 5) [Nat.lt_of_lt_of_le, Nat.lt_of_le_of_lt, Nat.le_of_lt, Nat.le_trans, Nat.lt_trans, Nat.lt_succ_of_lt, Nat.lt_succ_of_le, Nat.le_succ_of_le, Nat.succ_le_of_lt, Nat.le_refl, Nat.sub_lt, Nat.sub_le, Nat.le_add_right, Nat.le_add_left, Nat.zero_le, Nat.zero_lt_succ, Nat.pos_of_ne_zero, Nat.le_of_lt_succ, Nat.ne_of_lt, Nat.ne_of_gt])) (fun k hk => ?_) (by rw [pU_rows hne3]; exact hrows)).sub fun k hk => (line_mem hinc).mp hk
    have h := hwi k hk
    have := hne3 k hk
    simpa [pU, this] using h
  have hpl : (pU p i dP wad t0 t1 t2 wv wl wc).lev = lev := hlev
  have hls := (line_sorted (lev := lev) hinc)
  have h := insr_key (w := w) (mean := mean) (mg := mg) (mb := mb) (rest := rest) (val := (pU p i dP wad t0 t1 t2 wv wl wc).v) (key := lev) (l := lineOf lev ks) (y := i) (a := lA) (ad := dP) (c := cl) (n := n) (t := t) (r := r)
    (by have hk := keyed_plc hin; rw [hpl] at hk; exact hk)
    (by rw [List.pairwise_map]; exact hls.1.imp fun {a b} hab => by unfold lineLt at hab; lia)
    (by rw [hls.2.length_eq]; exact Nat.lt_of_le_of_lt (inc_len hinc (m := i) hi) (by (solve_by_elim (maxDepth := 5) [Nat.lt_of_lt_of_le, Nat.lt_of_le_of_lt, Nat.le_of_lt, Nat.le_trans, Nat.lt_trans, Nat.lt_succ_of_lt, Nat.lt_succ_of_le, Nat.le_succ_of_le, Nat.succ_le_of_lt, Nat.le_refl, Nat.sub_lt, Nat.sub_le, Nat.le_add_right, Nat.le_add_left, Nat.zero_le, Nat.zero_lt_succ, Nat.pos_of_ne_zero, Nat.le_of_lt_succ, Nat.ne_of_lt, Nat.ne_of_gt])))
    hne pU_at hmy
  rw [pU_map hne2] at h
  rw [lineOf_snoc]
  exact h
end
section
variable {h₀ h : Heap} {L lA cA ca wA fA dP wad I : Addr} {oI co fo ow : Obj} {lev : Nat → Int} {p : Plc} {ks : List Nat} {i cl cc : Nat} {t0 t1 t2 : Tok} {wv : List Value} {wl : List Int} {wc : Nat} {oL : Obj}
theorem led_next (hi : ∀ k ∈ ks, k < i) (hlev : p.lev = lev)
    (N : News h₀ L h ((lA, oL) :: (cA, lst (ks.map p.v ++ [.ref dP]) cc) :: (dP, tupObj [.int (lev i) t0, .int ((i / 3 : Nat) : Int) t1, .int ((i % 3 : Nat) : Int) t2, .ref wad] 0) :: (wad, lst wv wc) :: (I, oI) :: (ca, co) :: (wA, ow) :: (fA, fo) :: rowsP p ks))
    (hL : oL = lst ((lineOf lev (ks ++ [i])).map (pU p i dP wad t0 t1 t2 wv wl wc).v) cl) :
    News h₀ L h ((I, oI) :: Led2 lA cA ca wA fA co fo lev ⟨ks ++ [i], pU p i dP wad t0 t1 t2 wv wl wc, cl, cc, ow⟩) := by
  subst hL
  have hne : ∀ k ∈ ks, k ≠ i := fun k hk => Nat.ne_of_lt (hi k hk)
  refine News.sub N fun r hr => ?_
  dsimp only [Led2] at hr
  rw [pU_new, pU_rows hne, List.map_append, pU_map hne, List.map_singleton, pU_at, hlev] at hr
  revert r
  exact List.forall_mem_cons.2 ⟨.tail _ (.tail _ (.tail _ (.tail _ (.head _)))), List.forall_mem_cons.2 ⟨.head _, List.forall_mem_cons.2 ⟨.tail _ (.head _), List.forall_mem_cons.2 ⟨.tail _ (.tail _ (.tail _ (.tail _ (.tail _ (.head _))))), List.forall_mem_cons.2 ⟨.tail _ (.tail _ (.tail _ (.tail _ (.tail _ (.tail _ (.head _)))))), List.forall_mem_cons.2 ⟨.tail _ (.tail _ (.tail _ (.tail _ (.tail _ (.tail _ (.tail _ (.head _))))))), List.forall_mem_append.2 ⟨fun r h => .tail _ (.tail _ (.tail _ (.tail _ (.tail _ (.tail _ (.tail _ (.tail _ (h)))))))), List.forall_mem_cons.2 ⟨.tail _ (.tail _ (.head _)), List.forall_mem_cons.2 ⟨.tail _ (.tail _ (.tail _ (.head _))), List.forall_mem_nil _⟩⟩⟩⟩⟩⟩⟩⟩⟩
theorem led_ne (hi : ∀ k ∈ ks, k < i) (hlev : p.lev = lev) {cl0 cc0 : Nat} {ow0 : Obj} (hoff : ∀ r ∈ Led2 lA cA ca wA fA co fo lev ⟨ks, p, cl0, cc0, ow0⟩, r.1 ≠ I) (h1 : dP ≠ I) (h2 : wad ≠ I) :
    ∀ r ∈ Led2 lA cA ca wA fA co fo lev ⟨ks ++ [i], pU p i dP wad t0 t1 t2 wv wl wc, cl, cc, ow⟩, r.1 ≠ I := by
  have hne : ∀ k ∈ ks, k ≠ i := fun k hk => Nat.ne_of_lt (hi k hk)
  dsimp only [Led2] at hoff ⊢
  rw [pU_new, pU_rows hne, hlev]
  exact List.forall_mem_cons.2 ⟨hoff (lA, lst (List.map p.v (lineOf lev ks)) cl0) (.head _), List.forall_mem_cons.2 ⟨hoff (cA, lst (List.map p.v ks) cc0) (.tail _ (.head _)), List.forall_mem_cons.2 ⟨hoff _ (.tail _ (.tail _ (.head _))), List.forall_mem_cons.2 ⟨hoff (wA, ow0) (.tail _ (.tail _ (.tail _ (.head _)))), List.forall_mem_cons.2 ⟨hoff _ (.tail _ (.tail _ (.tail _ (.tail _ (.head _))))), List.forall_mem_append.2 ⟨fun r h => hoff _ (.tail _ (.tail _ (.tail _ (.tail _ (.tail _ (h)))))), List.forall_mem_cons.2 ⟨h1, List.forall_mem_cons.2 ⟨h2, List.forall_mem_nil _⟩⟩⟩⟩⟩⟩⟩⟩
end
theorem tok3 {h₀ h : Heap} {L dP : Addr} {a b c : Int} {x y z : Tok} {v : Value} {rest : List (Addr × Obj)} (N : News h₀ L h ((dP, tupObj [.int a x, .int b y, .int c z, v] 0) :: rest)) : ∃ x y z, News h₀ L h ((dP, tupObj [.int a x, .int b y, .int c z, v] 0) :: rest) := ⟨x, y, z, N⟩
end
section
-- Bk
/-- an entry of the book: a word and its place -/
noncomputable abbrev Ent := Int × Nat
theorem insL_front {y : Ent} : ∀ {l : List Ent}, (∀ e ∈ l, y.1 ≤ e.1) → insL Prod.fst y l = y :: l
  | [], _ => rfl
  | z :: r, h => by
    unfold insL
    have := h z (List.mem_cons_self ..)
    rw [if_neg (by lia)]
theorem insL_skip {y : Ent} {r : List Ent} : ∀ {lo : List Ent}, (∀ e ∈ lo, e.1 < y.1) → insL Prod.fst y (lo ++ r) = lo ++ insL Prod.fst y r
  | [], _ => rfl
  | z :: lo, h => by
    show insL Prod.fst y (z :: (lo ++ r)) = z :: (lo ++ insL Prod.fst y r)
    have hz := h z (List.mem_cons_self ..)
    conv => lhs; unfold insL
    rw [if_pos hz, insL_skip fun e he => h e (List.mem_cons_of_mem _ he)]
theorem book_ins {w : Int} {k : Nat} {lo mid hi : List Ent} (hlo : ∀ e ∈ lo, e.1 < w) (hmid : ∀ e ∈ mid, e.1 = w) (hhi : ∀ e ∈ hi, w < e.1) : insL Prod.fst ((w, k) : Ent) (lo ++ mid ++ hi) = lo ++ ((w, k) :: mid) ++ hi := by
  rw [List.append_assoc, insL_skip (y := (w, k)) hlo, insL_front (y := (w, k)), List.append_assoc]
  · rfl
  · intro e he
    rcases List.mem_append.mp he with he | he
    · have := hmid e he; show w ≤ e.1; lia
    · have := hhi e he; show w ≤ e.1; (solve_by_elim (maxDepth := 4) [Int.lt_of_lt_of_le, Int.lt_of_le_of_lt, Int.le_of_lt, Int.le_trans, Int.lt_trans, Int.le_refl, Int.not_lt.mp, Int.not_le.mp, Int.le_antisymm, Nat.le_antisymm, Nat.not_lt.mp, Nat.not_le.mp, Nat.le_of_lt, Nat.lt_of_le_of_ne, Nat.lt_of_not_le, Nat.le_of_not_lt, Int.ofNat_nonneg, Int.lt_of_not_ge, Eq.symm, Int.le_of_eq, Nat.le_of_eq])
/-- the book when the chosen ones of a word have been laid in -/
theorem book_fold {w : Int} {lo hi : List Ent} (hlo : ∀ e ∈ lo, e.1 < w) (hhi : ∀ e ∈ hi, w < e.1) : ∀ (ch : List Nat) (mid : List Ent), (∀ e ∈ mid, e.1 = w) →
    ch.foldl (fun b k => insL Prod.fst ((w, k) : Ent) b) (lo ++ mid ++ hi) = lo ++ (ch.reverse.map (fun k => (w, k)) ++ mid) ++ hi
  | [], mid, _ => by simp
  | k :: r, mid, hm => by
    rw [List.foldl_cons, book_ins hlo hm hhi, book_fold hlo hhi r ((w, k) :: mid) (fun e he => by
      rcases List.mem_cons.mp he with rfl | he
      · rfl
      · exact hm e he)]
    simp
/-- a book in order falls in two at a word that is not in it -/
theorem book_split {w : Int} : ∀ {b : List Ent}, (b.map Prod.fst).Pairwise (· ≤ ·) → (∀ e ∈ b, e.1 ≠ w) → ∃ lo hi, b = lo ++ hi ∧ (∀ e ∈ lo, e.1 < w) ∧ (∀ e ∈ hi, w < e.1)
  | [], _, _ => ⟨[], [], rfl, fun _ h => absurd h (List.not_mem_nil), fun _ h => absurd h (List.not_mem_nil)⟩
  | z :: r, h, hn => by
    rw [List.map_cons, List.pairwise_cons] at h
    have hz := hn z (List.mem_cons_self ..)
    by_cases hlt : z.1 < w
    · obtain ⟨lo, hi, e, h1, h2⟩ := book_split h.2 fun e he => hn e (List.mem_cons_of_mem _ he)
      refine ⟨z :: lo, hi, by rw [e]; rfl, fun e he => ?_, h2⟩
      rcases List.mem_cons.mp he with rfl | he
      · exact hlt
      · exact h1 e he
    · refine ⟨[], z :: r, rfl, fun _ h => absurd h (List.not_mem_nil), fun e he => ?_⟩
      rcases List.mem_cons.mp he with rfl | he
      · lia
      · have := h.1 e.1 (List.mem_map_of_mem he)
        lia
theorem book_order {w : Int} {lo hi : List Ent} {ch : List Nat} (h : ((lo ++ hi).map Prod.fst).Pairwise (· ≤ ·)) (hlo : ∀ e ∈ lo, e.1 < w) (hhi : ∀ e ∈ hi, w < e.1) :
    ((lo ++ ch.reverse.map (fun k => (w, k)) ++ hi).map Prod.fst).Pairwise (· ≤ ·) := by
  rw [List.map_append, List.pairwise_append] at h
  rw [List.map_append, List.map_append, List.pairwise_append, List.pairwise_append]
  have e : ∀ x ∈ (ch.reverse.map (fun k => ((w, k) : Ent))).map Prod.fst, x = w := by
    intro x hx
    simp only [List.map_map, List.mem_map] at hx
    obtain ⟨k, _, rfl⟩ := hx
    rfl
  have lo' : ∀ x ∈ lo.map Prod.fst, x < w := fun x hx => by
    obtain ⟨y, hy, rfl⟩ := List.mem_map.mp hx
    exact hlo y hy
  have hi' : ∀ x ∈ hi.map Prod.fst, w < x := fun x hx => by
    obtain ⟨y, hy, rfl⟩ := List.mem_map.mp hx
    exact hhi y hy
  refine ⟨⟨h.1, ?_, fun x hx y hy => ?_⟩, h.2.1, fun x hx y hy => ?_⟩
  · rw [List.pairwise_iff_getElem]
    intro i j hi2 hj2 _
    rw [e _ (List.getElem_mem hi2), e _ (List.getElem_mem hj2)]
    exact Int.le_refl _
  · have := lo' x hx; have := e y hy; lia
  · rcases List.mem_append.mp hx with hx | hx
    · exact h.2.2 x hx y hy
    · have := e x hx; have := hi' y hy; lia
end
section
-- T8
/-- an entry of the book with its tuple -/
structure E3 where
  w : Int
  k : Nat
  ad : Addr
  t : Tok
  t1 : Tok
  t2 : Tok
noncomputable abbrev E3.v (e : E3) : Value := .ref e.ad
noncomputable abbrev E3.o (e : E3) : Obj := tupObj [.int e.w e.t, .int ((e.k / 3 : Nat) : Int) e.t1, .int ((e.k % 3 : Nat) : Int) e.t2] 0
structure S3 where
  bk : List E3
  bc : Nat
  ow : Obj
  fo : Obj
noncomputable def rowsE (bk : List E3) : List (Addr × Obj) := bk.map fun e => (e.ad, e.o)
noncomputable def Led3 (bA lA cA wA fA : Addr) (lo co : Obj) (rows : List (Addr × Obj)) (σ : S3) : List (Addr × Obj) :=
  (bA, lst (σ.bk.map E3.v) σ.bc) :: (lA, lo) :: (cA, co) :: (wA, σ.ow) :: (fA, σ.fo) :: (rowsE σ.bk ++ rows)
/-- the words in turn -/
noncomputable def wordAt (d : Nat) (m : Nat) : Int := (((1 + d) * m % 7 : Nat) : Int)
theorem word_in {d m : Nat} (hd : d < 6) (h1 : 1 ≤ m) (h2 : m ≤ 6) : 1 ≤ wordAt d m ∧ wordAt d m ≤ 6 := by
  have key : ∀ d : Fin 6, ∀ m : Fin 6, 1 ≤ wordAt d.val (m.val + 1) ∧ wordAt d.val (m.val + 1) ≤ 6 := by decide +kernel
  have := key ⟨d, hd⟩ ⟨m - 1, by omega⟩
  have e : m - 1 + 1 = m := by lia
  rw [show (⟨m - 1, by lia⟩ : Fin 6).val + 1 = m from e] at this
  exact this
theorem word_ne {d m n : Nat} (hd : d < 6) (h1 : 1 ≤ m) (h2 : m ≤ 6) (h3 : 1 ≤ n) (h4 : n ≤ 6) (h : m ≠ n) : wordAt d m ≠ wordAt d n := by
  have key : ∀ d m n : Fin 6, m ≠ n → wordAt d.val (m.val + 1) ≠ wordAt d.val (n.val + 1) := by decide +kernel
  have := key ⟨d, hd⟩ ⟨m - 1, by omega⟩ ⟨n - 1, by omega⟩ (fun e => h (by have := congrArg Fin.val e; dsimp only at this; lia))
  have e : m - 1 + 1 = m := by lia
  have e' : n - 1 + 1 = n := by lia
  rw [show (⟨m - 1, by lia⟩ : Fin 6).val + 1 = m from e, show (⟨n - 1, by lia⟩ : Fin 6).val + 1 = n from e'] at this
  exact this
theorem word_all {d : Nat} (hd : d < 6) {x : Int} (h : 1 ≤ x ∧ x ≤ 6) : ∃ j, j < 6 ∧ x = wordAt d (j + 1) := by
  have key : ∀ d x : Fin 6, ∃ j : Fin 6, ((x.val + 1 : Nat) : Int) = wordAt d.val (j.val + 1) := by decide +kernel
  obtain ⟨a, ha⟩ : ∃ a : Nat, x = ((a + 1 : Nat) : Int) := ⟨(x - 1).toNat, by omega⟩
  subst ha
  obtain ⟨j, hj⟩ := key ⟨d, hd⟩ ⟨a, by omega⟩
  exact ⟨j.val, j.isLt, hj⟩
/-- the words so far, the last ahead -/
noncomputable def wsOf (d : Nat) : Nat → List Int
  | 0 => []
  | i + 1 => wordAt d (i + 1) :: wsOf d i
theorem ws_mem {d : Nat} {x : Int} : ∀ {i : Nat}, x ∈ wsOf d i ↔ ∃ j, j < i ∧ x = wordAt d (j + 1)
  | 0 => by simp [wsOf]
  | i + 1 => by
    unfold wsOf
    rw [List.mem_cons, ws_mem]
    constructor
    · rintro (h | ⟨j, hj, h⟩)
      · exact ⟨i, Nat.lt_succ_self _, h⟩
      · exact ⟨j, by (solve_by_elim (maxDepth := 4) [Nat.sub_lt_of_lt, Nat.lt_of_lt_of_le, Nat.lt_of_le_of_lt, Nat.le_of_succ_le_succ, Nat.lt_of_succ_lt_succ, Nat.succ_le_succ, Nat.add_le_add_right, Nat.add_lt_add_right, Nat.add_le_add_left, Nat.add_lt_add_left, Nat.sub_le_sub_right, Nat.lt_of_succ_lt, Nat.lt_sub_of_add_lt, Nat.add_lt_of_lt_sub, Nat.le_sub_of_add_le, Nat.add_le_of_le_sub, Nat.lt_add_of_pos_right, Nat.lt_succ_self, Nat.le_succ, Nat.le_of_lt_succ, Nat.lt_of_le_of_ne, Ne.symm, Nat.lt_irrefl, Nat.not_lt_of_le, Nat.not_le_of_lt, absurd]), h⟩
    · rintro ⟨j, hj, h⟩
      by_cases e : j = i
      · subst e; exact .inl h
      · exact .inr ⟨j, by lia, h⟩
/-- what holds of the book between the words -/
structure G3 (bA : Addr) (lev : Nat → Int) (wl : Nat → List Int) (ks : List Nat) (d : Nat) (i : Nat) (σ : S3) : Prop where
  ord : (σ.bk.map E3.w).Pairwise (· ≤ ·)
  wd : ∀ e ∈ σ.bk, e.w ∈ wsOf d i
  km : ∀ e ∈ σ.bk, e.k ∈ ks
  nd : (σ.bk.map E3.k).Nodup
  rich : Rich lev wl ks (wsOf d i) (σ.bk.map E3.k)
  ow : ∃ v, σ.ow.data = .cell v
  fo : ∃ v, σ.fo.data = .cell v
  off : ∀ e ∈ σ.bk, bA < e.ad
theorem dom_few : ∀ a b : Fin 2, ∀ c : Fin 3, ∀ v : Fin 9, ((List.range 9).filter (fun u => dom (lv a.val b.val c.val) u v.val)).length ≤ 2 := by decide +kernel
theorem inc_sublist : ∀ {ks : List Nat} {n : Nat}, ks.Pairwise (· < ·) → (∀ k ∈ ks, k < n) → ks.Sublist (List.range n) := by
  intro ks n h hn
  have e : ks = (List.range n).filter (fun k => decide (k ∈ ks)) := by
    refine perm_inc h (List.Pairwise.filter _ List.pairwise_lt_range) fun x => ?_
    simp only [List.mem_filter, List.mem_range, decide_eq_true_eq]
    exact ⟨fun hx => ⟨hn x hx, hx⟩, fun hx => hx.2⟩
  rw [e]
  exact List.filter_sublist
theorem rich_start {a b c : Nat} (ha : a < 2) (hb : b < 2) (hc : c < 3) {ks : List Nat} (hi : ks.Pairwise (· < ·)) (h9 : ∀ k ∈ ks, k < 9) {wl : Nat → List Int} (hw : ∀ k ∈ ks, WordsOk (wl k)) : Rich (lv a b c) wl ks [] [] := by
  intro v hv _
  have h1 := dom_few ⟨a, ha⟩ ⟨b, hb⟩ ⟨c, hc⟩ ⟨v, h9 v hv⟩
  have h2 : (ks.filter (fun u => dom (lv a b c) u v && !decide (u ∈ ([] : List Nat)))).length ≤ ((List.range 9).filter (fun u => dom (lv a b c) u v)).length := by
    have e : (fun u => dom (lv a b c) u v && !decide (u ∈ ([] : List Nat))) = fun u => dom (lv a b c) u v := by funext u; simp
    rw [e]
    exact ((inc_sublist hi h9).filter _).length_le
  have h3 : ((wl v).filter (fun x => !decide (x ∈ ([] : List Int)))) = wl v := by
    refine List.filter_eq_self.mpr fun x _ => ?_
    simp
  rw [h3, (hw v hv).1]
  dsimp only at h1
  lia
theorem word_is {last : Int} {ld i : Nat} (h : (ld : Int) = last.fmod 6) : ((1 + last.fmod 6) * ((i + 1 : Nat) : Int)).fmod 7 = wordAt ld (i + 1) := by
  rw [← h, Int.fmod_eq_emod_of_nonneg _ (by decide)]
  unfold wordAt
  have e : (1 + (ld : Int)) * ((i + 1 : Nat) : Int) = (((1 + ld) * (i + 1) : Nat) : Int) := by rw [Int.natCast_mul]; rfl
  rw [e]
  generalize (1 + ld) * (i + 1) = a
  (solve_by_elim (maxDepth := 5) [Nat.lt_of_lt_of_le, Nat.lt_of_le_of_lt, Nat.le_of_lt, Nat.le_trans, Nat.lt_trans, Nat.lt_succ_of_lt, Nat.lt_succ_of_le, Nat.le_succ_of_le, Nat.succ_le_of_lt, Nat.le_refl, Nat.sub_lt, Nat.sub_le, Nat.le_add_right, Nat.le_add_left, Nat.zero_le, Nat.zero_lt_succ, Nat.pos_of_ne_zero, Nat.le_of_lt_succ, Nat.ne_of_lt, Nat.ne_of_gt])
theorem all_four {P : Addr × Obj → Prop} {x1 x2 x3 x4 : Addr × Obj} {l : List (Addr × Obj)} (h1 : P x1) (h2 : P x2) (h3 : P x3) (h4 : P x4) (h : ∀ r ∈ l, P r) : ∀ r ∈ x1 :: x2 :: x3 :: x4 :: l, P r := by
  intro r hr
  simp only [List.mem_cons] at hr
  rcases hr with rfl | rfl | rfl | rfl | hr
  · exact h1
  · exact h2
  · exact h3
  · exact h4
  · exact h r hr
theorem rows_low {bA cA : Addr} {bk : List E3} {rows : List (Addr × Obj)} (h : cA < bA) (h1 : ∀ e ∈ bk, bA < e.ad) (h2 : ∀ r ∈ rows, cA < r.1) : ∀ r ∈ rowsE bk ++ rows, cA < r.1 := by
  intro r hr
  rcases List.mem_append.mp hr with hr | hr
  · obtain ⟨e, he, rfl⟩ := List.mem_map.mp hr
    exact Nat.lt_trans h (h1 e he)
  · exact h2 r hr
/-- the row of an entry's place -/
noncomputable def rowF (e : E3) (a : Addr) : Addr × Obj := (a, tupObj [.int ((e.k / 3 : Nat) : Int) e.t1, .int ((e.k % 3 : Nat) : Int) e.t2] 0)
inductive MapAtE (bk : List E3) (i : Nat) (v : Value) : Prop
  | mk (k : E3) (h1 : bk[i]? = some k) (h2 : k ∈ bk) (e : v = k.v) : MapAtE bk i v
theorem map_atE {bk : List E3} {i : Nat} {v : Value} (h : (bk.map E3.v)[i]? = some v) : MapAtE bk i v := by
  rw [List.getElem?_map] at h
  cases he : bk[i]? with
  | none => rw [he] at h; cases h
  | some e => rw [he] at h; exact ⟨e, he, List.mem_of_getElem? he, (Option.some.inj h).symm⟩
theorem zip_snoc : ∀ {bk : List E3} {as : List Addr} {e : E3} {a : Addr}, bk[as.length]? = some e → List.zipWith rowF bk (as ++ [a]) = List.zipWith rowF bk as ++ [rowF e a]
  | [], _, _, _, h => by simp at h
  | x :: r, [], e, a, h => by
    obtain rfl : x = e := by simpa using h
    simp
  | x :: r, y :: t, e, a, h => by
    show rowF x y :: List.zipWith rowF r (t ++ [a]) = _
    rw [zip_snoc (bk := r) (as := t) (e := e) (by simpa using h)]
    rfl
theorem nodup_len : ∀ {l ks : List Nat}, l.Nodup → (∀ x ∈ l, x ∈ ks) → l.length ≤ ks.length
  | [], _, _, _ => Nat.zero_le _
  | x :: r, ks, hn, hm => by
    rw [List.nodup_cons] at hn
    have hx := hm x (List.mem_cons_self ..)
    have ih := nodup_len (l := r) (ks := ks.erase x) hn.2 fun y hy => by
      have hne : y ≠ x := fun e => hn.1 (e ▸ hy)
      exact (List.mem_erase_of_ne hne).mpr (hm y (List.mem_cons_of_mem _ hy))
    rw [List.length_erase_of_mem hx] at ih
    have : 0 < ks.length := List.length_pos_of_mem hx
    rw [List.length_cons]
    omega
theorem book_len {bk : List E3} {ks : List Nat} (hn : (bk.map E3.k).Nodup) (h : ∀ e ∈ bk, e.k ∈ ks) : bk.length ≤ ks.length := by
  have := nodup_len hn (ks := ks) fun x hx => by
    obtain ⟨e, he, rfl⟩ := List.mem_map.mp hx
    exact h e he
  rwa [List.length_map] at this
end
section
-- T9
section
variable {prog : Program} {w : World} {A : Around} {E : Value → Shared → Prop} {s : Shared} {h₀ : Heap} {L : Addr} {m : Str → Option Value} {news : List (Addr × Obj)}
theorem mid_applied {sl : Addr} {u v : Tok} {Q : Int × Int × Nat → Shared → Prop} (hs : s.heap.IsSliceOf sl (.int 1 u) (.int 3 v) .none) (h : Q ((1 : Int), 1, 2) s) :
    wpAny (model prog w) A (Builtin.Slice.sliceApplied (.ref sl) (pure ((4 : Nat) : Int))) Q E s := by
  obtain ⟨os, hos, hcs, hds⟩ := id hs
  unfold Builtin.Slice.sliceApplied Builtin.Slice.sliceFields
  refine wpAny_bind (wpAny_bind (wpAny_field hos hds (x := .int 1 u) rfl (wpAny_bind (wpAny_field hos hds (x := .int 3 v) rfl (wpAny_bind (wpAny_field hos hds (x := .none) rfl (wpAny_pure ?_)))))))
  refine wpAny_bind (slicePart_none ?_)
  show wpAny _ _ (if ((1 : Int) == 0) = true then _ else _) _ _ s
  rw [if_neg (by decide)]
  refine wpAny_bind (slicePart_int (wpAny_bind (slicePart_int (wpAny_bind (wpAny_pure ?_)))))
  exact wpAny_pure h
theorem mid_item {t sl : Addr} {a b c d : Value} {u v : Tok} {Q : Value → Shared → Prop} (ht : IsTup s.heap t #[a, b, c, d]) (hs : s.heap.IsSliceOf sl (.int 1 u) (.int 3 v) .none)
    (h : Q (.ref s.heap.objs.size) { s with heap := s.heap.push { cls := .type "tuple", data := .seq #[b, c] } }) : wpAny (model prog w) A (getItem (.ref t) (.ref sl)) Q E s := by
  have hdrop : sizeOk (.seq #[b, c]) := by
    show 2 ≤ sizeLine
    decide
  obtain ⟨os, hos, hcs, hds⟩ := id hs
  have hTs : s.TypeIs (.ref sl) "slice" := ⟨os, hos, hcs⟩
  unfold getItem
  refine wpAny_holding ?_
  refine wpAny_bind (wpAny_sequenceKey ht.typeIs (by decide) ?_)
  refine wpAny_bind (wpAny_callSpecial?_slot (name := Str.ofString "__getitem__") ht.typeIs slot_tuple_getitem
    (wpAny_call_entry slot_tuple_getitem ht.typeIs entry_tuple_getitem ?_ (args_tuple_getitem _ _)))
  show wpAny _ _ (Builtin.Tuple.tupleItemsOf (.ref t) >>= _) _ _ s
  refine wpAny_bind (tupleItemsOf_ ht ?_)
  refine wpAny_bind (wpAny_typeOf hTs ?_)
  rw [if_pos (by decide)]
  refine wpAny_bind (mid_applied hs ?_)
  show wpAny _ _ (if ((1 : Int) == 0 && (1 : Int) == 1 && (2 : Nat) == 4) = true then _ else _) _ _ s
  rw [if_neg (by decide)]
  have e : ((List.range 2).filterMap fun (k : Nat) => (#[a, b, c, d] : Array Value)[((1 : Int) + (k : Int) * 1).toNat]?).toArray = #[b, c] := by rfl
  rw [e]
  first
    | exact wpAny_bind (m := Builtin.Tuple.tupleExact _) (wpAny_newObj_type (wpAny_pure ⟨_, rfl, wpAny_pure h⟩) hdrop)
    | exact wpAny_bind (m := Builtin.Tuple.tupleExact _) (wpAny_newObj_type (wpAny_bind (wpAny_pure (wpAny_pure ⟨_, rfl, wpAny_pure h⟩))) hdrop)
    | exact wpAny_bind (wpAny_bind (m := Builtin.Tuple.tupleExact _) (wpAny_newObj_type (wpAny_pure (wpAny_pure ⟨_, rfl, wpAny_pure h⟩)) hdrop))
    | exact wpAny_bind (wpAny_bind (m := Builtin.Tuple.tupleExact _) (wpAny_newObj_type (wpAny_pure ⟨_, rfl, wpAny_pure h⟩) hdrop))
/-- t[1:3] of a tuple of four -/
theorem slice_mid4 {value slice : PySem.Expr} {t : Addr} {a b c d : Value} {n : Nat} {u v : Tok} {Q : Value → Shared → Prop} (F : Fr h₀ L s.heap m) (N : News h₀ L s.heap news) (hm : (t, tupObj [a, b, c, d] n) ∈ news)
    (h : ∀ D h', Fr h₀ L h' m → News h₀ L h' ((D, tupObj [b, c] 0) :: news) → (∀ q ∈ news, q.1 < D) → Q (.ref D) { s with heap := h' })
    (hs : subscripted slice false (.ref t) (.ref s.heap.objs.size) = operate [.ref s.heap.objs.size, .ref t] (getItem (.ref t) (.ref s.heap.objs.size)) := by with_unfolding_all rfl)
    (hg : ∀ r, letTemporaryGo value (.ref t) r = pure () := by intro _; with_unfolding_all rfl) :
    wpAny (model prog w) A (subscriptTail value slice (.ref t) (.ref s.heap.objs.size)) Q E { s with heap := s.heap.push { cls := .type "slice", data := .fields #[.int 1 u, .int 3 v, .none] } } := by
  have ht : IsTup s.heap t #[a, b, c, d] := News.isTup N hm
  have ht' : IsTup (s.heap.push { cls := .type "slice", data := .fields #[.int 1 u, .int 3 v, .none] }) t #[a, b, c, d] := ht.keeps fun _ _ e => Heap.get?_push_of_some _ e
  refine subscriptTail_ops (s := { s with heap := s.heap.push { cls := .type "slice", data := .fields #[.int 1 u, .int 3 v, .none] } }) ht'.typeIs slot_tuple_getitem.lookup
    (mid_item ht' (Heap.IsSliceOf.new ..) ?_) hs hg
  have N1 := News.push (F.push { cls := .type "slice", data := .fields #[.int 1 u, .int 3 v, .none] }) (N.grown fun _ _ e => Heap.get?_push_of_some _ e) { cls := .type "tuple", data := .seq #[b, c] }
  rw [Heap.size_push] at N1
  show Q (.ref (s.heap.push _).objs.size) _
  rw [Heap.size_push]
  exact h _ _ ((F.push _).push _) N1 fun q hq => Nat.lt_succ_of_lt (Heap.lt_size (N q hq).1)
/-- t[1:] of a tuple of three -/
theorem slice_from3 {value slice : PySem.Expr} {t : Addr} {a b c : Value} {n : Nat} {u : Tok} {Q : Value → Shared → Prop} (F : Fr h₀ L s.heap m) (N : News h₀ L s.heap news) (hm : (t, tupObj [a, b, c] n) ∈ news)
    (h : ∀ D h', Fr h₀ L h' m → News h₀ L h' ((D, tupObj [b, c] 0) :: news) → (∀ q ∈ news, q.1 < D) → Q (.ref D) { s with heap := h' })
    (hs : subscripted slice false (.ref t) (.ref s.heap.objs.size) = operate [.ref s.heap.objs.size, .ref t] (getItem (.ref t) (.ref s.heap.objs.size)) := by with_unfolding_all rfl)
    (hg : ∀ r, letTemporaryGo value (.ref t) r = pure () := by intro _; with_unfolding_all rfl) :
    wpAny (model prog w) A (subscriptTail value slice (.ref t) (.ref s.heap.objs.size)) Q E { s with heap := s.heap.push { cls := .type "slice", data := .fields #[.int 1 u, .none, .none] } } := by
  have ht : IsTup s.heap t #[a, b, c] := News.isTup N hm
  exact slice_tuple_from (a := 1) F N ht (Nat.le_refl _) (by show 1 ≤ 3; decide) (fun h' F' N' => h _ h' F' N' fun q hq => Nat.lt_succ_of_lt (Heap.lt_size (N q hq).1)) hs hg (by show 3 ≤ sizeLine; decide)
end
theorem zip_addr : ∀ {bk : List E3} {as : List Addr} {r : Addr × Obj}, r ∈ List.zipWith rowF bk as → r.1 ∈ as
  | [], _, _, h => by simp at h
  | _ :: _, [], _, h => by simp at h
  | x :: b, a :: t, r, h => by
    rw [List.zipWith_cons_cons] at h
    rcases List.mem_cons.mp h with rfl | h
    · exact List.mem_cons_self ..
    · exact List.mem_cons_of_mem _ (zip_addr h)
end
section
-- T10
set_option maxHeartbeats 2000000
/-- a tuple of ints as data -/
noncomputable def tupD (ns : List Int) : PyData := .tuple (ns.map .int)
theorem eqv_tup (ns ms : List Int) : PyData.eqv (tupD ns) (tupD ms) = decide (ns = ms) := by
  simp only [tupD, PyData.eqv, ked_eqvAll]
theorem eqv_tups : ∀ l m : List (List Int), PyData.eqvAll (l.map tupD) (m.map tupD) = decide (l = m)
  | [], [] => by simp [PyData.eqvAll]
  | [], _ :: _ => by simp [PyData.eqvAll]
  | _ :: _, [] => by simp [PyData.eqvAll]
  | k :: r, j :: t => by
    simp only [List.map_cons, PyData.eqvAll, eqv_tup, eqv_tups r t]
    by_cases h : k = j <;> by_cases h' : r = t <;> simp [h, h']
theorem canLay_tup (ns : List Int) : PyData.canLay0 (tupD ns) = true := by
  simp [tupD, PyData.canLay0, canLayAll0_ints]
theorem depth_tup (ns : List Int) : PyData.depth (tupD ns) ≤ 2 := by
  have := W.depthAll_ints ns
  simp only [tupD, PyData.depth]
  lia
theorem canLay_tups : ∀ l : List (List Int), PyData.canLayAll0 (l.map tupD) = true
  | [] => by simp [PyData.canLayAll0]
  | k :: r => by simp [PyData.canLayAll0, canLay_tup, canLay_tups r]
theorem depth_tups : ∀ l : List (List Int), PyData.depthAll (l.map tupD) ≤ 2
  | [] => by simp [PyData.depthAll]
  | k :: r => by
    have h1 := depth_tup k
    have h2 := depth_tups r
    simp only [List.map_cons, PyData.depthAll]
    lia
theorem shaped_tups (l : List (List Int)) : SeqAt.shaped (.list (l.map tupD)) = true := by
  have h1 := depth_tups l
  have h2 : PyData.depth (.list (l.map tupD)) ≤ 64 := by simp only [PyData.depth]; lia
  show (PyData.canLay0 (.list (l.map tupD)) && decide (PyData.depth (.list (l.map tupD)) ≤ 64)) = true
  rw [Bool.and_eq_true]
  exact ⟨by simp only [PyData.canLay0]; exact canLay_tups l, decide_eq_true h2⟩
section
variable {h₀ h : Heap} {L : Addr} {news : List (Addr × Obj)} {ι κ : Type} {val : ι → Value} {nums : ι → List Int} {val' : κ → Value} {nums' : κ → List Int}
theorem tup_reads {v : Value} {ns : List Int} (ht : TupI news v ns []) (N : News h₀ L h news) : ∃ as, Reads h v (tupD ns) as := by
  obtain ⟨a, xs, n, rfl, hm, hi⟩ := ht.at_
  rw [List.map_nil, List.append_nil] at hm
  obtain ⟨as, hr⟩ := readsAll_ints (h := h) hi
  exact ⟨_, reads_tuple_at (N.get hm) rfl rfl hr⟩
theorem tups_readsAll (N : News h₀ L h news) : ∀ {l : List ι}, (∀ x ∈ l, TupI news (val x) (nums x) []) → ∃ as, ReadsAll h (l.map val) ((l.map nums).map tupD) as
  | [], _ => ⟨_, .nil⟩
  | x :: r, hx => by
    obtain ⟨as, h1⟩ := tup_reads (hx x (List.mem_cons_self ..)) N
    obtain ⟨bs, h2⟩ := tups_readsAll N (l := r) fun y hy => hx y (List.mem_cons_of_mem _ hy)
    exact ⟨_, .cons h1 h2⟩
theorem tups_reads {l : List ι} {a : Addr} {c : Nat} (hx : ∀ x ∈ l, TupI news (val x) (nums x) []) (hm : (a, lst (l.map val) c) ∈ news) (N : News h₀ L h news) : ∃ as, Reads h (.ref a) (.list ((l.map nums).map tupD)) as := by
  obtain ⟨as, h1⟩ := tups_readsAll N hx
  exact ⟨_, reads_list_at (N.get hm) rfl rfl h1⟩
variable {prog : Program} {w : World} {A : Around} {E : Value → Shared → Prop} {s : Shared}
theorem ne_tups {l : List ι} {l' : List κ} {a b : Addr} {c d : Nat} {Q : Value → Shared → Prop} (N : News h₀ L s.heap news) (hm : (a, lst (l.map val) c) ∈ news) (hm' : (b, lst (l'.map val') d) ∈ news)
    (hx : ∀ x ∈ l, TupI news (val x) (nums x) []) (hx' : ∀ x ∈ l', TupI news (val' x) (nums' x) [])
    (hu : A.units + 64 < cLine) (h : Q (.bool (!decide (l.map nums = l'.map nums'))) s) : wpAny (model prog w) A (compareOp .NotEq (.ref a) (.ref b)) Q E s := by
  obtain ⟨as, h1⟩ := tups_reads hx hm N
  obtain ⟨bs, h2⟩ := tups_reads hx' hm' N
  refine ne_dataH h1 h2 (shaped_tups _) (shaped_tups _) hu ?_
  simp only [PyData.eqv, eqv_tups]
  exact h
theorem notIn_tups {l : List ι} {v : Value} {ns : List Int} {a : Addr} {c : Nat} {Q : Value → Shared → Prop} (N : News h₀ L s.heap news) (hm : (a, lst (l.map val) c) ∈ news) (hx : ∀ x ∈ l, TupI news (val x) (nums x) []) (hv : TupI news v ns []) (hu : A.units + 64 < cLine)
    (h : Q (.bool (!decide (ns ∈ l.map nums))) s) : wpAny (model prog w) A (compareOp .NotIn v (.ref a)) Q E s := by
  obtain ⟨as, h1⟩ := tups_reads hx hm N
  obtain ⟨bs, h2⟩ := tup_reads hv N
  have d1 := depth_tup ns
  refine SeqAt.notIn_list_reads h1 h2 (canLay_tups _) (canLay_tup ns) ?_ ?_
  · have := Nat.min_le_right (PyData.depthAll ((l.map nums).map tupD)) (tupD ns).depth
    lia
  · have e : (((l.map nums).map tupD).any fun y => PyData.eqv y (tupD ns)) = decide (ns ∈ l.map nums) := by
      rw [List.any_map]
      have : ((fun y => PyData.eqv y (tupD ns)) ∘ tupD) = fun j => decide (j = ns) := funext fun j => eqv_tup j ns
      rw [this]
      by_cases hkj : ns ∈ l.map nums
      · rw [decide_eq_true hkj, List.any_eq_true]
        exact ⟨ns, hkj, decide_eq_true rfl⟩
      · rw [decide_eq_false hkj, List.any_eq_false]
        intro x hx hx2
        exact hkj (of_decide_eq_true hx2 ▸ hx)
    rw [e]; exact h
end
/-- row and column of a place -/
noncomputable def rc (k : Nat) : List Int := [((k / 3 : Nat) : Int), ((k % 3 : Nat) : Int)]
theorem rc_inj {k j : Nat} (h : rc k = rc j) : k = j := by
  simp only [rc, List.cons.injEq, and_true] at h
  lia
theorem rc_tup {news : List (Addr × Obj)} {a : Addr} {k n : Nat} {t1 t2 : Tok} (h : (a, tupObj [.int ((k / 3 : Nat) : Int) t1, .int ((k % 3 : Nat) : Int) t2] n) ∈ news) : TupI news (.ref a) (rc k) [] :=
  ⟨⟨a, [.int ((k / 3 : Nat) : Int) t1, .int ((k % 3 : Nat) : Int) t2], n, rfl, by rw [List.map_nil, List.append_nil]; exact h, .cons _ _ (.cons _ _ .nil)⟩⟩
theorem zip_refs : ∀ {bk : List E3} {as : List Addr}, as.length = bk.length → (bk.zip as).map (fun q => Value.ref q.2) = as.map Value.ref
  | [], [], _ => rfl
  | x :: r, y :: t, h => by
    rw [List.zip_cons_cons, List.map_cons, List.map_cons, zip_refs (bk := r) (as := t) (by simpa using h)]
  | [], _ :: _, h => by simp at h
  | _ :: _, [], h => by simp at h
theorem zip_rcs : ∀ {bk : List E3} {as : List Addr}, as.length = bk.length → (bk.zip as).map (fun q => rc q.1.k) = (bk.map E3.k).map rc
  | [], [], _ => rfl
  | x :: r, y :: t, h => by
    rw [List.zip_cons_cons, List.map_cons, List.map_cons, List.map_cons, zip_rcs (bk := r) (as := t) (by simpa using h)]
  | [], _ :: _, h => by simp at h
  | _ :: _, [], h => by simp at h
theorem zip_tups {news : List (Addr × Obj)} : ∀ {bk : List E3} {as : List Addr}, (∀ r ∈ List.zipWith rowF bk as, r ∈ news) → ∀ q ∈ bk.zip as, TupI news (.ref q.2) (rc q.1.k) []
  | [], _, _, _, hq => by simp at hq
  | _ :: _, [], _, _, hq => by simp at hq
  | x :: r, y :: t, h, q, hq => by
    rw [List.zip_cons_cons] at hq
    rw [List.zipWith_cons_cons] at h
    rcases List.mem_cons.mp hq with rfl | hq
    · exact rc_tup (h _ (List.mem_cons_self ..))
    · exact zip_tups (fun z hz => h z (List.mem_cons_of_mem _ hz)) q hq
theorem rc_in {k : Nat} {l : List Nat} : decide (rc k ∈ l.map rc) = decide (k ∈ l) := by
  by_cases h : k ∈ l
  · rw [decide_eq_true h, decide_eq_true (List.mem_map_of_mem h)]
  · rw [decide_eq_false h, decide_eq_false]
    intro h'
    obtain ⟨j, hj, e⟩ := List.mem_map.mp h'
    exact h (rc_inj e ▸ hj)
section
variable {h₀ h : Heap} {L : Addr} {a b : List (Addr × Obj)} {x : Addr × Obj}
theorem new_in (N : News h₀ L h (x :: (a ++ ([] ++ b)))) : News h₀ L h (a ++ ([] ++ (x :: b))) := News.sub N fun r hr => by
  simp only [List.mem_append, List.mem_cons, List.nil_append] at hr ⊢
  rcases hr with h | h | h <;> simp [h]
theorem new_out (N : News h₀ L h (a ++ ([] ++ (x :: b)))) : News h₀ L h (a ++ ([] ++ b)) := News.sub N fun r hr => by
  simp only [List.mem_append, List.mem_cons, List.nil_append] at hr ⊢
  rcases hr with h | h <;> simp [h]
theorem new_at : x ∈ a ++ ([] ++ (x :: b)) := List.mem_append_right _ (List.mem_cons_self ..)
end
end
section
-- T11
set_option maxHeartbeats 2000000
theorem stay_sub {lev : Nat → Int} : ∀ {n : Nat} {left : List Nat}, ∀ k ∈ stayF lev n left, k ∈ left
  | 0, left, k, h => low_sub k h
  | n + 1, left, k, h => by
    unfold stayF at h
    by_cases hb : beatF lev (lowF lev left) = []
    · rw [if_pos hb] at h; exact low_sub k h
    · rw [if_neg hb] at h
      exact (List.mem_filter.mp (stay_sub k h)).1
theorem opts_nodup {o0 o1 o2 : Option Nat} (h0 : ∀ k, o0 = some k → k / 3 = 0) (h1 : ∀ k, o1 = some k → k / 3 = 1) (h2 : ∀ k, o2 = some k → k / 3 = 2) : ([o0, o1, o2].filterMap id).Nodup := by
  cases o0 <;> cases o1 <;> cases o2 <;> simp at h0 h1 h2 ⊢ <;> lia
theorem low_nodup {lev : Nat → Int} {left : List Nat} : (lowF lev left).Nodup := by
  have e : lowF lev left = ([minF lev (left.filter (fun k => k / 3 = 0)), minF lev (left.filter (fun k => k / 3 = 1)), minF lev (left.filter (fun k => k / 3 = 2))] : List (Option Nat)).filterMap id := by
    unfold lowF
    simp only [List.map_cons, List.map_nil, List.filterMap_cons, List.filterMap_nil, id]
  rw [e]
  have key : ∀ (i k : Nat), minF lev (left.filter (fun k => k / 3 = i)) = some k → k / 3 = i := fun i k h => by
    simpa using (List.mem_filter.mp (minF_mem h).1).2
  exact opts_nodup (key 0) (key 1) (key 2)
theorem stay_nodup {lev : Nat → Int} : ∀ {n : Nat} {left : List Nat}, (stayF lev n left).Nodup
  | 0, left => low_nodup
  | n + 1, left => by
    unfold stayF
    by_cases hb : beatF lev (lowF lev left) = []
    · rw [if_pos hb]; exact low_nodup
    · rw [if_neg hb]; exact stay_nodup
noncomputable abbrev E3.ent (e : E3) : Ent := (e.w, e.k)
theorem insL_mem {ι : Type} (key : ι → Int) (y x : ι) : ∀ l : List ι, x ∈ insL key y l ↔ x = y ∨ x ∈ l
  | [] => by simp [insL]
  | z :: r => by
    unfold insL
    by_cases h : key z < key y
    · rw [if_pos h, List.mem_cons, insL_mem key y x r, List.mem_cons]
      constructor
      · rintro (h | h | h) <;> simp [h]
      · rintro (h | h | h) <;> simp [h]
    · rw [if_neg h, List.mem_cons]
theorem insL_len {ι : Type} (key : ι → Int) (y : ι) : ∀ l : List ι, (insL key y l).length = l.length + 1
  | [] => rfl
  | z :: r => by
    unfold insL
    by_cases h : key z < key y
    · rw [if_pos h, List.length_cons, insL_len key y r, List.length_cons]
    · rw [if_neg h]; rfl
theorem insL_ent (y : E3) : ∀ l : List E3, (insL E3.w y l).map E3.ent = insL Prod.fst y.ent (l.map E3.ent)
  | [] => rfl
  | z :: r => by
    rw [List.map_cons]
    unfold insL
    by_cases h : z.w < y.w
    · rw [if_pos h, if_pos (show (E3.ent z).1 < (E3.ent y).1 from h), List.map_cons, insL_ent y r]
    · rw [if_neg h, if_neg (show ¬ (E3.ent z).1 < (E3.ent y).1 from h)]
      rfl
/-- the entries of a word -/
noncomputable def entW (w : Int) (l : List Nat) : List Ent := l.map fun k => (w, k)
section
variable {w : Int} {lo hi : List Ent} {ch : List Nat} {bk : List E3} {y : E3} {j k : Nat}
theorem take_rev (hk : ch[j]? = some k) : (ch.take (j + 1)).reverse = k :: (ch.take j).reverse := by
  rw [List.take_add_one, hk]
  simp
theorem ent_step (hlo : ∀ e ∈ lo, e.1 < w) (hhi : ∀ e ∈ hi, w < e.1) (h : bk.map E3.ent = lo ++ entW w (ch.take j).reverse ++ hi) (hk : ch[j]? = some k) (hy : y.ent = (w, k)) :
    (insL E3.w y bk).map E3.ent = lo ++ entW w (ch.take (j + 1)).reverse ++ hi := by
  rw [insL_ent, hy, h, book_ins hlo (fun e he => by obtain ⟨a, _, rfl⟩ := List.mem_map.mp he; rfl) hhi, take_rev hk]
  rfl
theorem ent_fst : (bk.map E3.ent).map Prod.fst = bk.map E3.w := by
  rw [List.map_map]; rfl
theorem ent_snd : (bk.map E3.ent).map Prod.snd = bk.map E3.k := by
  rw [List.map_map]; rfl
theorem ent_order (h0 : ((lo ++ hi).map Prod.fst).Pairwise (· ≤ ·)) (hlo : ∀ e ∈ lo, e.1 < w) (hhi : ∀ e ∈ hi, w < e.1) {l : List Nat} (h : bk.map E3.ent = lo ++ entW w l.reverse ++ hi) : (bk.map E3.w).Pairwise (· ≤ ·) := by
  rw [← ent_fst, h]
  exact book_order h0 hlo hhi
theorem ent_len {l : List Nat} (h : bk.map E3.ent = lo ++ entW w l.reverse ++ hi) : bk.length = lo.length + l.length + hi.length := by
  have := congrArg List.length h
  simpa [entW, Nat.add_assoc] using this
theorem ent_cut {l : List Nat} (h : bk.map E3.ent = lo ++ entW w l.reverse ++ hi) : ∃ A M H : List E3, bk = A ++ M ++ H ∧ A.map E3.ent = lo ∧ M.map E3.ent = entW w l.reverse ∧ H.map E3.ent = hi := by
  obtain ⟨B, H, rfl, hB, hH⟩ := List.map_eq_append_iff.mp h
  obtain ⟨A, M, rfl, hA, hM⟩ := List.map_eq_append_iff.mp hB
  exact ⟨A, M, H, rfl, hA, hM, hH⟩
/-- where a key stands in a book: below it, it, above it -/
theorem at_keys {l : List Nat} (hlo : ∀ e ∈ lo, e.1 < w) (hhi : ∀ e ∈ hi, w < e.1) (h : bk.map E3.ent = lo ++ entW w l.reverse ++ hi) {i : Nat} {x : Int} (hx : (bk.map E3.w)[i]? = some x) :
    (i < lo.length → x < w) ∧ (lo.length ≤ i → i < lo.length + l.length → x = w) ∧ (lo.length + l.length ≤ i → w < x) := by
  rw [← ent_fst, h, List.getElem?_map] at hx
  cases he : (lo ++ entW w l.reverse ++ hi)[i]? with
  | none => rw [he] at hx; cases hx
  | some e =>
    rw [he] at hx
    obtain rfl : e.1 = x := Option.some.inj hx
    have hl : (entW w l.reverse).length = l.length := by simp [entW]
    refine ⟨fun h1 => ?_, fun h1 h2 => ?_, fun h1 => ?_⟩
    · rw [List.append_assoc, List.getElem?_append_left h1] at he
      exact hlo e (List.mem_of_getElem? he)
    · rw [List.getElem?_append_left (by rw [List.length_append, hl]; exact h2), List.getElem?_append_right h1] at he
      obtain ⟨a, _, rfl⟩ := List.mem_map.mp (List.mem_of_getElem? he)
      rfl
    · rw [List.getElem?_append_right (by rw [List.length_append, hl]; exact h1)] at he
      exact hhi e (List.mem_of_getElem? he)
end
theorem at_some {l : List Int} {i : Nat} (h : i < l.length) : ∃ x, l[i]? = some x := ⟨_, List.getElem?_eq_getElem h⟩
theorem bl_at {l : List Int} {x r : Int} {a n : Nat} (hn : l.length = n) (ha : a ≤ n) (h1 : ∀ i k, l[i]? = some k → i < a → k < x) (h2 : ∀ i k, l[i]? = some k → a ≤ i → x ≤ k) (h : BlI l x 0 n r r) : r = a := by
  obtain ⟨b1, _, b3, b4, b5⟩ := h
  obtain ⟨q, hq⟩ : ∃ q : Nat, r = q := ⟨r.toNat, by lia⟩
  subst hq
  by_cases e1 : q < a
  · obtain ⟨y, hy⟩ := at_some (l := l) (i := q) (by lia)
    have := h1 q y hy e1
    have := b5 q y hy (by omega) (by lia)
    lia
  · by_cases e2 : a < q
    · obtain ⟨y, hy⟩ := at_some (l := l) (i := a) (by omega)
      have := h2 a y hy (Nat.le_refl _)
      have := b4 a y hy (by (solve_by_elim (maxDepth := 5) [Nat.lt_of_lt_of_le, Nat.lt_of_le_of_lt, Nat.le_of_lt, Nat.le_trans, Nat.lt_trans, Nat.lt_succ_of_lt, Nat.lt_succ_of_le, Nat.le_succ_of_le, Nat.succ_le_of_lt, Nat.le_refl, Nat.sub_lt, Nat.sub_le, Nat.le_add_right, Nat.le_add_left, Nat.zero_le, Nat.zero_lt_succ, Nat.pos_of_ne_zero, Nat.le_of_lt_succ, Nat.ne_of_lt, Nat.ne_of_gt])) (by omega)
      lia
    · lia
theorem br_at {l : List Int} {x r : Int} {a n : Nat} (hn : l.length = n) (ha : a ≤ n) (h1 : ∀ i k, l[i]? = some k → i < a → k ≤ x) (h2 : ∀ i k, l[i]? = some k → a ≤ i → x < k) (h : BrI l x 0 n r r) : r = a := by
  obtain ⟨b1, _, b3, b4, b5⟩ := h
  obtain ⟨q, hq⟩ : ∃ q : Nat, r = q := ⟨r.toNat, by omega⟩
  subst hq
  by_cases e1 : q < a
  · obtain ⟨y, hy⟩ := at_some (l := l) (i := q) (by omega)
    have := h1 q y hy e1
    have := b5 q y hy (by omega) (by omega)
    lia
  · by_cases e2 : a < q
    · obtain ⟨y, hy⟩ := at_some (l := l) (i := a) (by omega)
      have := h2 a y hy (Nat.le_refl _)
      have := b4 a y hy (by (solve_by_elim (maxDepth := 5) [Nat.lt_of_lt_of_le, Nat.lt_of_le_of_lt, Nat.le_of_lt, Nat.le_trans, Nat.lt_trans, Nat.lt_succ_of_lt, Nat.lt_succ_of_le, Nat.le_succ_of_le, Nat.succ_le_of_lt, Nat.le_refl, Nat.sub_lt, Nat.sub_le, Nat.le_add_right, Nat.le_add_left, Nat.zero_le, Nat.zero_lt_succ, Nat.pos_of_ne_zero, Nat.le_of_lt_succ, Nat.ne_of_lt, Nat.ne_of_gt])) (by omega)
      lia
    · omega
theorem br_from {l : List Int} {r : Int} {a n : Nat} (hn : l.length = n) (ha : a ≤ n) (h1 : ∀ x ∈ l, 1 ≤ x) (h : BrI l 0 a n r r) : r = a := by
  obtain ⟨b1, _, b3, b4, b5⟩ := h
  by_cases e : (a : Int) < r
  · obtain ⟨y, hy⟩ := at_some (l := l) (i := a) (by omega)
    have := b4 a y hy (by lia) (by omega)
    have := h1 y (List.mem_of_getElem? hy)
    lia
  · lia
theorem bl_upto {l : List Int} {r : Int} {a n : Nat} (hn : l.length = n) (ha : a ≤ n) (h1 : ∀ x ∈ l, x ≤ 6) (h : BlI l 7 0 a r r) : r = a := by
  obtain ⟨b1, _, b3, b4, b5⟩ := h
  by_cases e : r < (a : Int)
  · obtain ⟨q, hq⟩ : ∃ q : Nat, r = q := ⟨r.toNat, by omega⟩
    subst hq
    obtain ⟨y, hy⟩ := at_some (l := l) (i := q) (by lia)
    have := b5 q y hy (by omega) (by omega)
    have := h1 y (List.mem_of_getElem? hy)
    lia
  · lia
theorem pick_mid (l : List Value) {a b : Nat} (h1 : a ≤ b) (h2 : b ≤ l.length) : (slicePick l.toArray (some (a : Int)) (some (b : Int)) none).toList = (l.drop a).take (b - a) := by
  rw [kmk_pick_nat l.toArray (a := a) (b := b) (by
    unfold sliceBounds
    simp only [List.size_toArray]
    simp
    lia)]
theorem cut_mid {α β : Type} {f : α → β} {A M H : List α} : (((A ++ M ++ H).map f).drop A.length).take (A.length + M.length - A.length) = M.map f := by
  rw [List.append_assoc, List.map_append, List.drop_left' (by simp), List.map_append, List.take_left' (by simp)]
section
variable {ι : Type} {f : ι → Addr → Addr × Obj} {nums : ι → List Int}
theorem zipG_snoc : ∀ {l : List ι} {as : List Addr} {e : ι} {a : Addr}, l[as.length]? = some e → List.zipWith f l (as ++ [a]) = List.zipWith f l as ++ [f e a]
  | [], _, _, _, h => by simp at h
  | x :: r, [], e, a, h => by
    obtain rfl : x = e := by simpa using h
    simp
  | x :: r, y :: t, e, a, h => by
    show f x y :: List.zipWith f r (t ++ [a]) = _
    rw [zipG_snoc (l := r) (as := t) (e := e) (by simpa using h)]
    rfl
theorem zipG_refs : ∀ {l : List ι} {as : List Addr}, as.length = l.length → (l.zip as).map (fun q => Value.ref q.2) = as.map Value.ref
  | [], [], _ => rfl
  | x :: r, y :: t, h => by
    rw [List.zip_cons_cons, List.map_cons, List.map_cons, zipG_refs (l := r) (as := t) (by simpa using h)]
  | [], _ :: _, h => by simp at h
  | _ :: _, [], h => by simp at h
theorem zipG_nums : ∀ {l : List ι} {as : List Addr}, as.length = l.length → (l.zip as).map (fun q => nums q.1) = l.map nums
  | [], [], _ => rfl
  | x :: r, y :: t, h => by
    rw [List.zip_cons_cons, List.map_cons, List.map_cons, zipG_nums (l := r) (as := t) (by simpa using h)]
  | [], _ :: _, h => by simp at h
  | _ :: _, [], h => by simp at h
theorem zipG_tups {news : List (Addr × Obj)} (hf : ∀ e a, f e a ∈ news → TupI news (.ref a) (nums e) []) : ∀ {l : List ι} {as : List Addr}, (∀ r ∈ List.zipWith f l as, r ∈ news) → ∀ q ∈ l.zip as, TupI news (.ref q.2) (nums q.1) []
  | [], _, _, _, hq => by simp at hq
  | _ :: _, [], _, _, hq => by simp at hq
  | x :: r, y :: t, h, q, hq => by
    rw [List.zip_cons_cons] at hq
    rw [List.zipWith_cons_cons] at h
    rcases List.mem_cons.mp hq with rfl | hq
    · exact hf _ _ (h _ (List.mem_cons_self ..))
    · exact zipG_tups hf (fun z hz => h z (List.mem_cons_of_mem _ hz)) q hq
theorem zipG_addr (hf : ∀ e a, (f e a).1 = a) : ∀ {l : List ι} {as : List Addr} {r : Addr × Obj}, r ∈ List.zipWith f l as → r.1 ∈ as
  | [], _, _, h => by simp at h
  | _ :: _, [], _, h => by simp at h
  | x :: b, a :: t, r, h => by
    rw [List.zipWith_cons_cons] at h
    rcases List.mem_cons.mp h with rfl | h
    · rw [hf]; exact List.mem_cons_self ..
    · exact List.mem_cons_of_mem _ (zipG_addr hf h)
end
/-- a word with row and column -/
noncomputable def wrc (w : Int) (k : Nat) : List Int := [w, ((k / 3 : Nat) : Int), ((k % 3 : Nat) : Int)]
theorem wrc_tup {news : List (Addr × Obj)} {a : Addr} {w : Int} {k n : Nat} {t t1 t2 : Tok} (h : (a, tupObj [.int w t, .int ((k / 3 : Nat) : Int) t1, .int ((k % 3 : Nat) : Int) t2] n) ∈ news) : TupI news (.ref a) (wrc w k) [] :=
  ⟨⟨a, [.int w t, .int ((k / 3 : Nat) : Int) t1, .int ((k % 3 : Nat) : Int) t2], n, rfl, by rw [List.map_nil, List.append_nil]; exact h, .cons _ _ (.cons _ _ (.cons _ _ .nil))⟩⟩
theorem keyed_bk {bk : List E3} {news : List (Addr × Obj)} (h : ∀ e ∈ bk, (e.ad, e.o) ∈ news) : Keyed news (bk.map E3.v) (bk.map E3.w) := by
  refine ⟨by simp, fun i v k hv hk => ?_⟩
  obtain ⟨e, he, hm, rfl⟩ := map_atE hv
  rw [List.getElem?_map, he] at hk
  obtain rfl : e.w = k := Option.some.inj hk
  exact ⟨_, _, _, _, rfl, h e hm⟩
section
variable {a b c ld i : Nat} {lev : Nat → Int} {wl : Nat → List Int} {ks : List Nat} {bk : List E3} {wd : Int}
/-- who asks for a word -/
noncomputable def askW (lev : Nat → Int) (wl : Nat → List Int) (ks : List Nat) (bk : List E3) (wd : Int) : List Nat := (lineOf lev ks).filter (fun k => decide (wd ∈ wl k) && !decide (k ∈ bk.map E3.k))
theorem ask_mem (g1 : ks.Pairwise (· < ·)) {k : Nat} : k ∈ askW lev wl ks bk wd ↔ k ∈ ks ∧ wd ∈ wl k ∧ k ∉ bk.map E3.k := by
  unfold askW
  rw [List.mem_filter, line_mem g1]
  simp only [Bool.and_eq_true, decide_eq_true_eq, Bool.not_eq_true', decide_eq_false_iff_not]
theorem word_turn (hlev : lev = lv a b c) (ha : a < 2) (hb : b < 2) (hc : c < 3) (g1 : ks.Pairwise (· < ·)) (g2 : ∀ k ∈ ks, k < 9) (g4 : ∀ k ∈ ks, WordsOk (wl k)) (hld : ld < 6) (hi : i < 6) (hwd : wd = wordAt ld (i + 1))
    (q5 : Rich lev wl ks (wsOf ld i) (bk.map E3.k)) :
    (chosenF lev (askW lev wl ks bk wd)).Perm (stayF lev 10 (askW lev wl ks bk wd)) ∧ (chosenF lev (askW lev wl ks bk wd)).Nodup ∧ (∀ k ∈ chosenF lev (askW lev wl ks bk wd), k ∈ askW lev wl ks bk wd) ∧ wd ∉ wsOf ld i ∧
      Rich lev wl ks (wd :: wsOf ld i) (chosenF lev (askW lev wl ks bk wd) ++ bk.map E3.k) := by
  subst hlev
  obtain ⟨h1, h2⟩ := kernel (a := a) (b := b) (c := c) ha hb hc g1 g2 (fun k => decide (wd ∈ wl k) && !decide (k ∈ bk.map E3.k))
  have hsub : ∀ k ∈ chosenF (lv a b c) (askW (lv a b c) wl ks bk wd), k ∈ askW (lv a b c) wl ks bk wd := fun k hk => stay_sub k (h1.mem_iff.mp hk)
  have hnw : wd ∉ wsOf ld i := fun h => by
    obtain ⟨j, hj, e⟩ := ws_mem.mp h
    exact word_ne hld (m := i + 1) (n := j + 1) (by lia) (by (solve_by_elim (maxDepth := 5) [Nat.lt_of_lt_of_le, Nat.lt_of_le_of_lt, Nat.le_of_lt, Nat.le_trans, Nat.lt_trans, Nat.lt_succ_of_lt, Nat.lt_succ_of_le, Nat.le_succ_of_le, Nat.succ_le_of_lt, Nat.le_refl, Nat.sub_lt, Nat.sub_le, Nat.le_add_right, Nat.le_add_left, Nat.zero_le, Nat.zero_lt_succ, Nat.pos_of_ne_zero, Nat.le_of_lt_succ, Nat.ne_of_lt, Nat.ne_of_gt])) (by lia) (by (solve_by_elim (maxDepth := 5) [Nat.lt_of_lt_of_le, Nat.lt_of_le_of_lt, Nat.le_of_lt, Nat.le_trans, Nat.lt_trans, Nat.lt_succ_of_lt, Nat.lt_succ_of_le, Nat.le_succ_of_le, Nat.succ_le_of_lt, Nat.le_refl, Nat.sub_lt, Nat.sub_le, Nat.le_add_right, Nat.le_add_left, Nat.zero_le, Nat.zero_lt_succ, Nat.pos_of_ne_zero, Nat.le_of_lt_succ, Nat.ne_of_lt, Nat.ne_of_gt])) (by lia) (hwd.symm.trans e)
  refine ⟨h1, h1.symm.nodup stay_nodup, hsub, hnw, ?_⟩
  refine rich_step q5 hnw (fun v hv => (g4 v hv).2.2.1) (fun u hu => ?_) (fun v hv hvp hwv hvM => ?_)
  · have := (ask_mem g1).mp (hsub u hu)
    exact ⟨this.1, this.2.2⟩
  · rcases h2 v ((ask_mem g1).mpr ⟨hv, hwv, hvp⟩) with h | h
    · exact absurd h hvM
    · exact h
end
theorem rich_congr {lev : Nat → Int} {wl : Nat → List Int} {ks : List Nat} {ws : List Int} {p q : List Nat} (h : ∀ k, k ∈ p ↔ k ∈ q) (R : Rich lev wl ks ws p) : Rich lev wl ks ws q := by
  intro v hv hvq
  have := R v hv (fun e => hvq ((h v).mp e))
  simp only [h] at this
  exact this
theorem ent_perm {w : Int} {lo hi : List Ent} {ch : List Nat} {bk bk2 : List E3} (h0 : bk.map E3.ent = lo ++ hi) (h : bk2.map E3.ent = lo ++ entW w ch.reverse ++ hi) : (bk2.map E3.k).Perm (ch ++ bk.map E3.k) := by
  rw [← ent_snd, ← ent_snd, h0, h, List.map_append, List.map_append, List.map_append]
  have e : (entW w ch.reverse).map Prod.snd = ch.reverse := by
    unfold entW
    rw [List.map_map]
    exact List.map_id _
  rw [e]
  refine (List.Perm.append_right _ List.perm_append_comm).trans ?_
  rw [List.append_assoc]
  exact List.Perm.append_right _ (List.reverse_perm ch)
end
section
-- T12
set_option maxHeartbeats 2000000
theorem strict_of {lev : Nat → Int} {o : List Nat} (hn : o.Nodup) (h9 : ∀ k ∈ o, k < 9) (hs : o.Pairwise (fun x y => rkF lev x ≤ rkF lev y)) : o.Pairwise (fun x y => rkF lev x < rkF lev y) := by
  have hn' : o.Pairwise (· ≠ ·) := hn
  refine (List.Pairwise.and hs hn').imp_of_mem fun {x y} hx hy h => ?_
  have : rkF lev x ≠ rkF lev y := fun e => h.2 (rk_inj (h9 x hx) (h9 y hy) e)
  have := h.1
  lia
theorem sorted_one {lev : Nat → Int} {o o' l l' : List Nat} (h : o.Perm l) (h' : o'.Perm l') (hp : l.Perm l') (hn : l.Nodup) (h9 : ∀ k ∈ l, k < 9) (hs : o.Pairwise (fun x y => rkF lev x ≤ rkF lev y)) (hs' : o'.Pairwise (fun x y => rkF lev x ≤ rkF lev y)) : o = o' := by
  have hq : o'.Perm l := h'.trans hp.symm
  refine perm_unique (R := fun x y => rkF lev x < rkF lev y) (fun a b h1 h2 => by lia) (h.trans hq.symm) ?_ ?_
  · exact strict_of (h.symm.nodup hn) (fun k hk => h9 k (h.mem_iff.mp hk)) hs
  · exact strict_of (hq.symm.nodup hn) (fun k hk => h9 k (hq.mem_iff.mp hk)) hs'
/-- the book and all else, while a word is laid in -/
noncomputable def Led4 (bA : Addr) (x1 x2 x3 x4 x5 x6 : Addr × Obj) (rows : List (Addr × Obj)) (q : List E3 × Nat) : List (Addr × Obj) := (bA, lst (q.1.map E3.v) q.2) :: x1 :: x2 :: x3 :: x4 :: x5 :: x6 :: (rowsE q.1 ++ rows)
noncomputable def G4 (bA I : Addr) (wd : Int) (lo hi : List Ent) (ch : List Nat) (j : Nat) (q : List E3 × Nat) : Prop := q.1.map E3.ent = lo ++ entW wd (ch.take j).reverse ++ hi ∧ ∀ e ∈ q.1, bA < e.ad ∧ e.ad ≠ I
theorem allLt_mem {d : Addr} : ∀ {l : List (Addr × Obj)}, AllLt d l → ∀ p ∈ l, p.1 < d
  | [], _, p, h => absurd h (List.not_mem_nil)
  | q :: r, h, p, hp => by
    rcases List.mem_cons.mp hp with rfl | hp
    · exact h.1
    · exact allLt_mem h.2 p hp
section
variable {bA I : Addr} {x0 x1 x2 x3 x4 x5 x6 : Addr × Obj} {rows : List (Addr × Obj)} {y : E3} {bk : List E3} {c c0 : Nat}
theorem rowsE_ins {r : Addr × Obj} (h : r ∈ rowsE (insL E3.w y bk)) : r = (y.ad, y.o) ∨ r ∈ rowsE bk := by
  obtain ⟨e, he, rfl⟩ := List.mem_map.mp h
  rcases (insL_mem _ _ _ _).mp he with rfl | he
  · exact .inl rfl
  · exact .inr (List.mem_map.mpr ⟨e, he, rfl⟩)
theorem led4_next : ∀ r ∈ x0 :: Led4 bA x1 x2 x3 x4 x5 x6 rows (insL E3.w y bk, c), r ∈ (bA, lst ((insL E3.w y bk).map E3.v) c) :: (y.ad, y.o) :: x0 :: x1 :: x2 :: x3 :: x4 :: x5 :: x6 :: (rowsE bk ++ rows) := 
  List.forall_mem_cons.2 ⟨.tail _ (.tail _ (.head _)), List.forall_mem_cons.2 ⟨.head _, List.forall_mem_cons.2 ⟨.tail _ (.tail _ (.tail _ (.head _))), List.forall_mem_cons.2 ⟨.tail _ (.tail _ (.tail _ (.tail _ (.head _)))), List.forall_mem_cons.2 ⟨.tail _ (.tail _ (.tail _ (.tail _ (.tail _ (.head _))))), List.forall_mem_cons.2 ⟨.tail _ (.tail _ (.tail _ (.tail _ (.tail _ (.tail _ (.head _)))))), List.forall_mem_cons.2 ⟨.tail _ (.tail _ (.tail _ (.tail _ (.tail _ (.tail _ (.tail _ (.head _))))))), List.forall_mem_cons.2 ⟨.tail _ (.tail _ (.tail _ (.tail _ (.tail _ (.tail _ (.tail _ (.tail _ (.head _)))))))), fun r h => (List.mem_append.mp h).elim (fun h => (rowsE_ins h).elim (fun e => by rw [e]; exact .tail _ (.head _)) (fun h => .tail _ (.tail _ (.tail _ (.tail _ (.tail _ (.tail _ (.tail _ (.tail _ (.tail _ (List.mem_append_left _ h))))))))))) (fun h => .tail _ (.tail _ (.tail _ (.tail _ (.tail _ (.tail _ (.tail _ (.tail _ (.tail _ (List.mem_append_right _ h))))))))))⟩⟩⟩⟩⟩⟩⟩⟩
theorem led4_ne (hoff : ∀ r ∈ Led4 bA x1 x2 x3 x4 x5 x6 rows (bk, c0), r.1 ≠ I) (h1 : y.ad ≠ I) : ∀ r ∈ Led4 bA x1 x2 x3 x4 x5 x6 rows (insL E3.w y bk, c), r.1 ≠ I := by
  obtain ⟨g0, g⟩ := List.forall_mem_cons.1 hoff
  exact List.forall_mem_cons.2 ⟨g0, List.forall_mem_cons.2 ⟨g _ (.head _), List.forall_mem_cons.2 ⟨g _ (.tail _ (.head _)), List.forall_mem_cons.2 ⟨g _ (.tail _ (.tail _ (.head _))), List.forall_mem_cons.2 ⟨g _ (.tail _ (.tail _ (.tail _ (.head _)))), List.forall_mem_cons.2 ⟨g _ (.tail _ (.tail _ (.tail _ (.tail _ (.head _))))), List.forall_mem_cons.2 ⟨g _ (.tail _ (.tail _ (.tail _ (.tail _ (.tail _ (.head _)))))), fun r h => (List.mem_append.mp h).elim (fun h => (rowsE_ins h).elim (fun e => by rw [e]; exact h1) (fun h => g r (.tail _ (.tail _ (.tail _ (.tail _ (.tail _ (.tail _ (List.mem_append_left _ h))))))))) (fun h => g r (.tail _ (.tail _ (.tail _ (.tail _ (.tail _ (.tail _ (List.mem_append_right _ h))))))))⟩⟩⟩⟩⟩⟩⟩
theorem rowsE_mem {e : E3} (h : e ∈ bk) : (e.ad, e.o) ∈ rowsE bk ++ rows := List.mem_append_left _ (List.mem_map.mpr ⟨e, h, rfl⟩)
end
noncomputable def rowW (w : Int) (tw : Tok) (p : Plc) (k : Nat) (a : Addr) : Addr × Obj := (a, tupObj [.int w tw, .int ((k / 3 : Nat) : Int) (p.t1 k), .int ((k % 3 : Nat) : Int) (p.t2 k)] 0)
theorem m_nums {w : Int} {l : List Nat} {M : List E3} (h : M.map E3.ent = entW w l) : M.map (fun e => wrc e.w e.k) = l.map (wrc w) := by
  have e : M.map (fun e => wrc e.w e.k) = (M.map E3.ent).map (fun q => wrc q.1 q.2) := by rw [List.map_map]; rfl
  rw [e, h]
  unfold entW
  rw [List.map_map]
  rfl
section
variable {bA I lA cA wA fA : Addr} {lo0 co : Obj} {lev : Nat → Int} {wl : Nat → List Int} {ks : List Nat} {ld i : Nat} {bk bk2 : List E3} {wd : Int} {lo hi : List Ent} {ch : List Nat} {bc bc2 : Nat} {owi foi ow fo : Obj}
theorem ent_words {ws : List Int} {l : List Nat} (h0 : bk.map E3.ent = lo ++ hi) (h : bk2.map E3.ent = lo ++ entW wd l.reverse ++ hi) (q2 : ∀ e ∈ bk, e.w ∈ ws) : ∀ e ∈ bk2, e.w ∈ wd :: ws := by
  have key : ∀ q ∈ lo ++ hi, q.1 ∈ ws := fun q hq => by
    rw [← h0] at hq
    obtain ⟨e, he, rfl⟩ := List.mem_map.mp hq
    exact q2 e he
  intro e he
  have hm : e.ent ∈ lo ++ entW wd l.reverse ++ hi := by rw [← h]; exact List.mem_map.mpr ⟨e, he, rfl⟩
  rcases List.mem_append.mp hm with hm | hm
  · rcases List.mem_append.mp hm with hm | hm
    · exact List.mem_cons_of_mem _ (key _ (List.mem_append_left _ hm))
    · obtain ⟨a, _, e2⟩ := List.mem_map.mp hm
      have : wd = e.w := congrArg Prod.fst e2
      rw [← this]
      exact List.mem_cons_self ..
  · exact List.mem_cons_of_mem _ (key _ (List.mem_append_right _ hm))
theorem g3_next (hwd : wd = wordAt ld (i + 1)) (h0 : bk.map E3.ent = lo ++ hi) (h : bk2.map E3.ent = lo ++ entW wd ch.reverse ++ hi) (hord : (bk2.map E3.w).Pairwise (· ≤ ·)) (q2 : ∀ e ∈ bk, e.w ∈ wsOf ld i) (q3 : ∀ e ∈ bk, e.k ∈ ks) (q4 : (bk.map E3.k).Nodup)
    (hchn : ch.Nodup) (hchs : ∀ k ∈ ch, k ∈ ks ∧ k ∉ bk.map E3.k) (hrich : Rich lev wl ks (wd :: wsOf ld i) (ch ++ bk.map E3.k)) (how : ∃ v, ow.data = .cell v) (hfo : ∃ v, fo.data = .cell v) (hoff : ∀ e ∈ bk2, bA < e.ad) : G3 bA lev wl ks ld (i + 1) ⟨bk2, bc2, ow, fo⟩ := by
  have hp := ent_perm h0 h
  refine ⟨hord, ?_, ?_, ?_, ?_, how, hfo, hoff⟩
  · have := ent_words h0 h q2
    rw [hwd] at this
    exact this
  · intro e he
    have hm : e.k ∈ ch ++ bk.map E3.k := hp.mem_iff.mp (List.mem_map.mpr ⟨e, he, rfl⟩)
    rcases List.mem_append.mp hm with hm | hm
    · exact (hchs _ hm).1
    · obtain ⟨e2, he2, e3⟩ := List.mem_map.mp hm
      rw [← e3]
      exact q3 e2 he2
  · refine hp.symm.nodup (List.nodup_append.mpr ⟨hchn, q4, fun x hx y hy e => ?_⟩)
    exact (hchs x hx).2 (e ▸ hy)
  · rw [hwd] at hrich
    exact rich_congr (fun k => hp.symm.mem_iff) hrich
theorem led3_ne {p : Plc} {x1 : Obj} (hoff : ∀ r ∈ (bA, x1) :: (lA, lo0) :: (cA, co) :: (wA, owi) :: (fA, foi) :: (rowsE bk ++ rowsP p ks), r.1 ≠ I) (h2 : ∀ e ∈ bk2, e.ad ≠ I) : ∀ r ∈ Led3 bA lA cA wA fA lo0 co (rowsP p ks) ⟨bk2, bc2, ow, fo⟩, r.1 ≠ I := by
  exact List.forall_mem_cons.2 ⟨hoff (bA, x1) (.head _), List.forall_mem_cons.2 ⟨hoff _ (.tail _ (.head _)), List.forall_mem_cons.2 ⟨hoff _ (.tail _ (.tail _ (.head _))), List.forall_mem_cons.2 ⟨hoff (wA, owi) (.tail _ (.tail _ (.tail _ (.head _)))), List.forall_mem_cons.2 ⟨hoff (fA, foi) (.tail _ (.tail _ (.tail _ (.tail _ (.head _))))), fun r h => (List.mem_append.mp h).elim (fun h => by
    obtain ⟨e, he, rfl⟩ := List.mem_map.mp h
    exact h2 e he) (fun h => hoff r (.tail _ (.tail _ (.tail _ (.tail _ (.tail _ (List.mem_append_right _ h)))))))⟩⟩⟩⟩⟩
end
theorem keys_in {ld i : Nat} (hd : ld < 6) (hi : i < 6) {bk : List E3} (h : ∀ e ∈ bk, e.w ∈ wsOf ld (i + 1)) : ∀ x ∈ bk.map E3.w, 1 ≤ x ∧ x ≤ 6 := by
  intro x hx
  obtain ⟨e, he, rfl⟩ := List.mem_map.mp hx
  obtain ⟨j, hj, e2⟩ := ws_mem.mp (h e he)
  rw [e2]
  exact word_in hd (by lia) (by (solve_by_elim (maxDepth := 5) [Nat.lt_of_lt_of_le, Nat.lt_of_le_of_lt, Nat.le_of_lt, Nat.le_trans, Nat.lt_trans, Nat.lt_succ_of_lt, Nat.lt_succ_of_le, Nat.le_succ_of_le, Nat.succ_le_of_lt, Nat.le_refl, Nat.sub_lt, Nat.sub_le, Nat.le_add_right, Nat.le_add_left, Nat.zero_le, Nat.zero_lt_succ, Nat.pos_of_ne_zero, Nat.le_of_lt_succ, Nat.ne_of_lt, Nat.ne_of_gt]))
end
section
-- T13
set_option maxHeartbeats 2000000
theorem lex_rc {a b : Nat} (ha : a < 9) (hb : b < 9) : lexLt (rc a) (rc b) = decide ((a : Int) < b) := by
  unfold rc
  by_cases h2 : ((a / 3 : Nat) : Int) = ((b / 3 : Nat) : Int)
  · rw [h2, lexLt_eq]
    by_cases h3 : ((a % 3 : Nat) : Int) = ((b % 3 : Nat) : Int)
    · rw [h3, lexLt_eq]
      symm
      apply decide_eq_false
      omega
    · rw [lexLt_ne h3]
      congr 1
      apply propext
      omega
  · rw [lexLt_ne h2]
    congr 1
    apply propext
    lia
theorem all_placed {lev : Nat → Int} {wl : Nat → List Int} {ks : List Nat} {ld : Nat} {placed : List Nat} (hd : ld < 6) (h4 : ∀ k ∈ ks, WordsOk (wl k)) (R : Rich lev wl ks (wsOf ld 6) placed) : ∀ v ∈ ks, v ∈ placed :=
  rich_end R fun v hv x hx => by
    obtain ⟨j, hj, e⟩ := word_all hd ((h4 v hv).2.2.2 x hx)
    exact ws_mem.mpr ⟨j, hj, e⟩
theorem book_end {ks : List Nat} {bk : List E3} {as : List Addr} {o : List (E3 × Addr)} (g1 : ks.Pairwise (· < ·)) (has : as.length = bk.length) (km : ∀ e ∈ bk, e.k ∈ ks) (nd : (bk.map E3.k).Nodup) (hall : ∀ v ∈ ks, v ∈ bk.map E3.k)
    (hp : o.Perm (bk.zip as)) (hs : o.Pairwise (fun x y => (x.1.k : Int) ≤ (y.1.k : Int))) : o.map (fun q => rc q.1.k) = ks.map rc := by
  have e0 : (bk.zip as).map (fun q => q.1.k) = bk.map E3.k := by
    have : (fun q : E3 × Addr => q.1.k) = E3.k ∘ Prod.fst := rfl
    rw [this, ← List.map_map, List.map_fst_zip (by lia)]
  have hpk : (o.map (fun q => q.1.k)).Perm (bk.map E3.k) := e0 ▸ hp.map _
  have hnd : (o.map (fun q => q.1.k)).Nodup := hpk.symm.nodup nd
  have hlt : (o.map (fun q => q.1.k)).Pairwise (· < ·) := by
    have h1 : (o.map (fun q => q.1.k)).Pairwise (· ≤ ·) := by
      rw [List.pairwise_map]
      exact hs.imp fun h => by lia
    exact (List.Pairwise.and h1 hnd).imp fun h => by lia
  have e : o.map (fun q => q.1.k) = ks := by
    refine perm_inc hlt g1 fun x => ?_
    rw [hpk.mem_iff]
    constructor
    · intro h
      obtain ⟨e, he, rfl⟩ := List.mem_map.mp h
      exact km e he
    · exact hall x
  rw [← e, List.map_map]
  rfl
noncomputable def rowC (p : Plc) (k : Nat) (a : Addr) : Addr × Obj := (a, tupObj [.int ((k / 3 : Nat) : Int) (p.t1 k), .int ((k % 3 : Nat) : Int) (p.t2 k)] 0)
theorem mem_zip_fst {α β : Type} : ∀ {l : List α} {m : List β} {q : α × β}, q ∈ l.zip m → q.1 ∈ l
  | [], _, _, h => by simp at h
  | _ :: _, [], _, h => by simp at h
  | x :: r, y :: t, q, h => by
    rw [List.zip_cons_cons] at h
    rcases List.mem_cons.mp h with rfl | h
    · exact List.mem_cons_self ..
    · exact List.mem_cons_of_mem _ (mem_zip_fst h)
end
section
-- Ui
set_option maxHeartbeats 8000000
theorem Ls3_mono {h₀ : Heap} {L : Addr} {own news₁ : List (Addr × Obj)} {Jn Jn' : (Str → Option Value) → List (Addr × Obj) → Prop} {s₁ s₂ : Shared} {Qr : Value → Shared → Prop} {Qb : Shared → Prop} {f : Flow}
    (hJ : ∀ m n, Jn m n → Jn' m n) (h : LoopStep3 h₀ L own news₁ Jn s₁ Qr Qb f s₂) : LoopStep3 h₀ L own news₁ Jn' s₁ Qr Qb f s₂ := LoopStep3.mono hJ h
/-- a loop over n written items, by a word that each turn keeps -/
theorem Unr.by {prog : Program} {w : World} {A : Around} {E : Value → Shared → Prop} {s : Shared} {env : Env} {h₀ : Heap} {target : Expr} {body : List Stmt} {Q : Flow → Shared → Prop} {P : Nat → Value → Prop} {fp : List Addr} {n : Nat} {m : Str → Option Value} {news : List (Addr × Obj)}
    (I : Nat → (Str → Option Value) → List (Addr × Obj) → Prop) (h0 : I 0 m news)
    (turn : ∀ i m₁ news₁, i < n → I i m₁ news₁ → ∀ v h₁ tk₁ own, P i v → (∀ p ∈ own, p.1 ∈ fp) → Fr h₀ env.locals h₁ m₁ → News h₀ env.locals h₁ (own ++ news₁) →
      wpAny (model prog w) A (assign target env v) (fun _ s₂ => wpAny (model prog w) A (execs body env)
        (LoopStep3 h₀ env.locals own news₁ (I (i + 1)) { s with heap := h₁, toks := tk₁ } (fun v s' => Q (.ret v) s') fun s' => Q .next s') E s₂) E { s with heap := h₁, toks := tk₁ })
    (done : ∀ m₁ news₁, I n m₁ news₁ → ∀ h' tk, Fr h₀ env.locals h' m₁ → News h₀ env.locals h' news₁ → Q .next { s with heap := h', toks := tk }) :
    Unr prog w A E h₀ env target body Q P fp s n 0 m news := by
  have key : ∀ k i m₁ news₁, i + k = n → I i m₁ news₁ → Unr prog w A E h₀ env target body Q P fp s k i m₁ news₁ := by
    intro k
    induction k with
    | zero => exact fun i m₁ news₁ e hI => Unr.zero (done m₁ news₁ (e ▸ hI))
    | succ k ih =>
      intro i m₁ news₁ e hI
      refine Unr.succ fun v h₁ tk₁ own hP ho F N => ?_
      refine wpAny_mono (turn i m₁ news₁ (by omega) hI v h₁ tk₁ own hP ho F N) (fun _ s₂ h₂ => wpAny_mono h₂ (fun f s₃ h₃ => ?_) fun _ _ x => x) fun _ _ x => x
      exact LoopStep3.mono (fun m' n' hI' => ih (i + 1) m' n' (by omega) hI') h₃
  exact key n 0 m news (by omega) h0
end
section
-- Te2
set_option maxHeartbeats 8000000
theorem two_at {a b v : Value} {i : Nat} (h : #[a, b][i]? = some v) : v = a ∨ v = b := by
  match i, h with
  | 0, h => exact .inl (Option.some.inj h).symm
  | 1, h => exact .inr (Option.some.inj h).symm
theorem three_at {a b c v : Value} {i : Nat} (h : #[a, b, c][i]? = some v) : v = a ∨ v = b ∨ v = c := by
  match i, h with
  | 0, h => exact .inl (Option.some.inj h).symm
  | 1, h => exact .inr (.inl (Option.some.inj h).symm)
  | 2, h => exact .inr (.inr (Option.some.inj h).symm)
section
variable (w : World) (mean : ExcName → Option Value) (mg mb : Str → Option Value)
/-- a reply that error_proto refuses -/
inductive RepA : Value → Prop
  | mk (x : Str) (t : Tok) (hok : PyData.strOk x = true) (C : ∀ ty news, DoesT w mean mg mb 3 122 [.str x t, .str (Str.ofString "a.x") ty] [] news (fun r news' => ∃ D tx', r = .ref D ∧ news' = (D, lst [.str (Str.ofString "proto") tx', .str x t] 0) :: news)) : RepA (.str x t)
/-- a code that error_reply refuses -/
inductive RepB : Value → Prop
  | mk (c : Str) (t : Tok) (hl : c.length = 3) (hok : PyData.strOk (c ++ Str.ofString " (.a.x.135.)") = true) (C : ∀ t ty news, DoesT w mean mg mb 3 122 [.str (c ++ Str.ofString " (.a.x.135.)") t, .str (Str.ofString "a.x") ty] [] news (fun r news' => ∃ D tx', r = .ref D ∧ news' = (D, lst [.str (Str.ofString "reply") tx', .str (c ++ Str.ofString " (.a.x.135.)") t] 0) :: news)) : RepB (.str c t)
variable {w mean mg mb}
theorem repA {t u : Tok} {i : Nat} {v : Value} (h : #[.str (Str.ofString "229 x2135 2)") t, .str (Str.ofString "229 (.a.x.135.!") u][i]? = some v) : RepA w mean mg mb v := by
  rcases two_at h with rfl | rfl
  · exact .mk _ _ (by decide +kernel) fun _ _ => told_noleft (by decide +kernel) (by decide +kernel) (by decide +kernel)
  · exact .mk _ _ (by decide +kernel) fun _ _ => told_noright (by decide +kernel) (by decide +kernel) (by decide +kernel) (by decide +kernel)
theorem repB {t u z : Tok} {i : Nat} {v : Value} (h : #[.str (Str.ofString "129") t, .str (Str.ofString "239") u, .str (Str.ofString "228") z][i]? = some v) : RepB w mean mg mb v := by
  rcases three_at h with rfl | rfl | rfl <;> exact .mk _ _ (by decide +kernel) (by decide +kernel) fun _ _ _ => told_code (by decide +kernel) (by decide +kernel)
end
/-- the words of a place, in the order told -/
noncomputable def xK (x y z : Int) : Nat → Int
  | 0 => x
  | 1 => y
  | _ => z
/-- the first k of them, laid in -/
noncomputable def wK (x y z : Int) : Nat → List Int
  | 0 => []
  | 1 => insR id x []
  | 2 => insR id y (insR id x [])
  | _ => wF x y z
theorem wK_next {x y z : Int} {k : Nat} (h : k < 3) : insR id (xK x y z k) (wK x y z k) = wK x y z (k + 1) := by
  match k, h with
  | 0, _ => rfl
  | 1, _ => rfl
  | 2, _ => rfl
theorem wK_sorted {x y z : Int} {k : Nat} (h : k < 3) : (wK x y z k).Pairwise (· ≤ ·) := by
  match k, h with
  | 0, _ => exact .nil
  | 1, _ => exact List.pairwise_singleton ..
  | 2, _ => exact insR_sorted (List.pairwise_singleton ..)
theorem wK_len {x y z : Int} {k : Nat} (h : k < 3) : (wK x y z k).length < 900 := by
  match k, h with
  | 0, _ => exact (by decide : 0 < 900)
  | 1, _ => exact (by decide : 1 < 900)
  | 2, _ => rw [wK, insR_len]; exact (by decide : 2 < 900)
inductive IsI (x : Int) : Value → Prop
  | mk (t : Tok) : IsI x (.int x t)
theorem xK_at {x y z : Int} {t u w : Tok} {k : Nat} {v : Value} (h : #[.int x t, .int y u, .int z w][k]? = some v) : IsI (xK x y z k) v := by
  match k, h with
  | 0, h => exact Option.some.inj h ▸ .mk _
  | 1, h => exact Option.some.inj h ▸ .mk _
  | 2, h => exact Option.some.inj h ▸ .mk _
/-- the ledger when k words are laid in -/
inductive Wd3 (lW wA : Addr) (RW : List (Addr × Obj)) (x y z : Int) : (Str → Option Value) → Nat → (Str → Option Value) → List (Addr × Obj) → Prop
  | mk (m : Str → Option Value) (k : Nat) (vs : List Value) (ow : Obj) (c : Option Value) (h : IntsAre vs (wK x y z k)) (hd : ow.data = .cell c) : Wd3 lW wA RW x y z m k m ((lW, lst vs k) :: (wA, ow) :: RW)
theorem chg_keep2 {h₀ h : Heap} {L D : Addr} {l l' : List (Addr × Obj)} {o : Obj} (N : News h₀ L h (Chg l D o)) (hs : ∀ r, r ∈ l' → r ∈ l) (hn : ∀ r ∈ l', r.1 ≠ D) : News h₀ L h ((D, o) :: l') := chg_keep N fun r hr => ⟨hs r hr, hn r hr⟩
end
section
-- Gl3
theorem comp_localM {M : Model} {A : Around} {E : Value → Shared → Prop} {s : Shared} {h₀ : Heap} {L C : Addr} {news : List (Addr × Obj)} {scope : Scope} {cl : List (Str × Addr)} {env : Env} {x : Str} {pos : Pos} {v : Value} {o : Obj} {m : Str → Option Value} {Q : Value → Shared → Prop}
    (N : News h₀ L s.heap news) (hn : NsIs o m) (hv : ∀ u, some v = some u → m x = some u) (hm : (C, o) ∈ news) (h : Q v s)
    (hk : (compEnvC scope cl C env).scope.kind = .function) (hx : (compEnvC scope cl C env).kindOf x = some .local) (hb : (x == ("__debug__" : Str)) = false := by decide) :
    wpAny M A (eval (.Name x pos) (compEnvC scope cl C env)) Q E s := comp_local N hm hn hv h hk hx hb
end
section
-- Un
theorem rstUn : True := by
  w_top off
  trivial
set_option maxHeartbeats 8000000
section
variable {prog : Program} {w : World} {A : Around} {E : Value → Shared → Prop} {s : Shared} {env : Env}
theorem unpackItems_few {t : Addr} {x : Value} {Q : List Value → Shared → Prop} (hh : A.handled = none) (ht : IsTup s.heap t #[x])
    (hQ : ∀ h₁ h' tk e, Heap.ExtBut s.heap.objs.size s.heap h₁ → Heap.NewExc h₁ h' e "ValueError" → E (.ref e) { s with heap := h', toks := tk }) : wpAny (model prog w) A (unpackItems (.ref t) 2 none) Q E s := by
  have hlt : t ≠ s.heap.objs.size := by obtain ⟨o, ho, _⟩ := ht; exact Nat.ne_of_lt (Heap.lt_size ho)
  unfold unpackItems
  refine wpAny_bind ?_
  unfold notIterableAtAll
  refine wpAny_bind (wpAny_specialOf ht.typeIs slot_tuple_iter.lookup ?_)
  refine wpAny_pure ?_
  simp only [Bool.false_eq_true, if_false]
  refine wpAny_bind (wpAny_holding (iter_tuple ht ?_))
  refine wpAny_bind (wpAny_holding ?_)
  show wpAny _ _ (pyNext _ >>= _) _ _ _
  refine wpAny_bind (next_tuple_item (i := 0) (x := x) ⟨_, Heap.get?_push_size _ rfl, rfl, rfl⟩ (ht.push _) (by simp) fun h₁ hit₁ hs₁ => ?_)
  have ht₁ : IsTup h₁ t #[x] := (ht.push _).extBut hs₁.extBut hlt
  refine wpAny_bind (wpAny_holding ?_)
  show wpAny _ _ (pyNext _ >>= _) _ _ _
  refine wpAny_bind (next_tuple_end hh hit₁ ht₁ (by simp) fun h₂ he₂ => ?_)
  refine wpAny_pure (wpAny_pure ?_)
  simp only [List.length_cons, List.length_nil, Nat.zero_add, Nat.reduceLT, if_true]
  refine wpAny_bind (wpAny_rule (wpAny_bind ?_))
  have hk : ∀ h' tk e, Heap.NewExc h₂ h' e "ValueError" → E (.ref e) { s with heap := h', toks := tk } := fun h' tk e hx =>
    hQ h₂ h' tk e (fun b o hb e => he₂ b o hb (hs₁.extBut b o hb (Heap.get?_push_of_some _ e))) hx
  exact_raiseError plainExc_ValueError hh hk
theorem unpackItems_many {t : Addr} {x y z : Value} {Q : List Value → Shared → Prop} (hh : A.handled = none) (ht : IsTup s.heap t #[x, y, z])
    (hQ : ∀ h₁ h' tk e, Heap.ExtBut s.heap.objs.size s.heap h₁ → Heap.NewExc h₁ h' e "ValueError" → E (.ref e) { s with heap := h', toks := tk }) : wpAny (model prog w) A (unpackItems (.ref t) 2 none) Q E s := by
  have hlt : t ≠ s.heap.objs.size := by obtain ⟨o, ho, _⟩ := ht; exact Nat.ne_of_lt (Heap.lt_size ho)
  unfold unpackItems
  refine wpAny_bind ?_
  unfold notIterableAtAll
  refine wpAny_bind (wpAny_specialOf ht.typeIs slot_tuple_iter.lookup ?_)
  refine wpAny_pure ?_
  simp only [Bool.false_eq_true, if_false]
  refine wpAny_bind (wpAny_holding (iter_tuple ht ?_))
  refine wpAny_bind (wpAny_holding (draw_tuple hlt 2 0 _ _ ⟨_, Heap.get?_push_size _ rfl, rfl, rfl⟩ (ht.push _) (by simp) fun h₁ hit₁ hs₁ => ?_))
  have ht₁ : IsTup h₁ t #[x, y, z] := (ht.push _).extBut hs₁.extBut hlt
  rw [if_neg (by simp)]
  refine wpAny_bind (wpAny_holding (next_tuple_item hit₁ ht₁ (x := z) (by simp) fun h₂ hit₂ hs₂ => ?_))
  simp only [Option.isSome_some, if_true]
  refine wpAny_bind (wpAny_rule (wpAny_bind ?_))
  have hk : ∀ h' tk e, Heap.NewExc h₂ h' e "ValueError" → E (.ref e) { s with heap := h', toks := tk } := fun h' tk e hx =>
    hQ h₂ h' tk e (fun b o hb e => hs₂.extBut b o hb (hs₁.extBut b o hb (Heap.get?_push_of_some _ e))) hx
  exact_raiseError plainExc_ValueError hh hk
theorem assign_bad {h₀ : Heap} {L : Addr} {m : Str → Option Value} {news : List (Addr × Obj)} {elts : List Expr} {k} {pos : Pos} {t : Addr} {Q : Unit → Shared → Prop} {items : Array Value} (F : Fr h₀ L s.heap m) (N : News h₀ L s.heap news) (ht : IsTup s.heap t items)
    (hh : A.handled = none) (hn : (assignEach elts env).length = 2) (hstar : (assignEach elts env).findIdx? (·.1) = none) (hbad : (∃ x, items = #[x]) ∨ (∃ x y z, items = #[x, y, z]))
    (h : ∀ h₁ h' tk e, Fr h₀ L h₁ m → News h₀ L h₁ news → Heap.NewExc h₁ h' e "ValueError" → E (.ref e) { s with heap := h', toks := tk }) :
    wpAny (model prog w) A (assign (.Tuple elts k pos) env (.ref t)) Q E s := by
  rw [assign_Tuple]
  refine wpAny_bind (wpAny_standAt ?_)
  unfold unpack
  rw [hn, hstar]
  have hk : ∀ h₁ h' tk e, Heap.ExtBut s.heap.objs.size s.heap h₁ → Heap.NewExc h₁ h' e "ValueError" → E (.ref e) { s with heap := h', toks := tk } := fun h₁ h' tk e he hx =>
    h h₁ h' tk e (F.extBut he (Nat.le_refl _)) (fun p hp => ⟨he _ _ (Nat.ne_of_lt (Heap.lt_size (N p hp).1)) (N p hp).1, (N p hp).2⟩) hx
  rcases hbad with ⟨x, rfl⟩ | ⟨x, y, z, rfl⟩
  · exact wpAny_bind (wpAny_holding (unpackItems_few hh ht hk))
  · exact wpAny_bind (wpAny_holding (unpackItems_many hh ht hk))
end
end
section
-- B6
theorem rstB6 : True := by
  w_top off
  trivial
set_option maxHeartbeats 2000000
theorem bl_none {w : World} {mean : ExcName → Option Value} {mg mb : Str → Option Value} {news : List (Addr × Obj)} {a : Addr} {n : Nat} :
    Does w mean mg mb 3 101 [.ref a] [] ((a, lst [.none, .none] n) :: news) (fun r news' => (∃ t, r = .str (Str.ofString "C") t) ∧ news' = (a, lst [.none, .none] n) :: news) := by
  (((unfold Does); (intro dp un gd cn cs fa ccd cl outer A₀ base h₀ L m s Q E B F X N T hk hdp hun hret); (refine wpAny_call ?_); (k_dflt (refine' code_def ?k1 ?k2 ?k3 ?k4 ?k5 ?kA ?kF ?kK ?k6 ?k7 ?k8 ?k9 ?kB ?_ ?c2 ?c3 ?c4 ?c5; (case kA => exact rfl); (case kF => exact rfl); (case kK => assumption); (case k1 => k_asm); (case k2 => k_asm); (case k3 => k_asm); (case k4 => k_asm); (case k5 => k_asm); (case k6 => k_is); (case k7 => k_is); (case k8 => ktr_room); (case k9 => first | exact BindsTo.of_eq rfl | exact binds_K (by k_in) rfl (by k_is) rfl rfl rfl | (refine' kp_binds ?kx ?ke; (case kx => k_in); (case ke => exact fun _ => rfl))); (case c5 => decide); (case kB => exact locs rfl); (case c2 => exact rfl); (case c3 => exact rfl); (case c4 => exact rfl); k_whole; intro g' L' h' FG' F' N' B' X' T'; (try dsimp only)))); (refine wpAny_noRaise ?_); (try k_fold))
  ((repeat' (first | (k_unfold; (try clear ze zq); (try dsimp only)) | (k_end; wrow_close) | ((fail_if_success (fail_if_success (with_reducible refine wpAny_execs_cons ?_))); ((try ((fail_if_success (fail_if_success k_fold)); (with_reducible refine foldQ ?_); intro zq ze)); (try k_gentoks); (with_reducible refine wpAny_execs_cons ?_); (try dsimp only); ((fail_if_success (fail_if_success k_fold)); (with_reducible refine foldQ ?_); intro zq ze))) | ((with_reducible show wpAny _ _ (eval (.Name _ _) _) _ _ _); (k_dflt (refine nameL (by k_asm) (by exact rfl) ?_ rfl rfl (by decide)); k_whole)) | walk1 | (dsimp only; walk1) | (leave1; (try dsimp only)))) <;> (try ((fail_if_success (fail_if_success k_fold)); (with_reducible refine foldQ ?_); intro zq ze)))
  exact hret _ _ _ _ (by k_asm) (by k_asm) ⟨⟨_, rfl⟩, rfl⟩
end
section
-- Ra
theorem rstRa : True := by
  w_top off
  trivial
set_option maxHeartbeats 8000000
section
variable {M : Model} {A : Around} {E : Value → Shared → Prop} {s : Shared}
/-- a fresh exception noted in its own frame: its other fields stay -/
theorem note_new {base : Heap} {env : Env} {outer : List Env} {L e : Addr} {oe : Obj} {vs : Array Value} {Q : Unit → Shared → Prop}
    (hfr : A.frames = some (env :: outer)) (hl : s.heap.FunFrames base (env :: outer)) (hf : env.frame = some L)
    (he : s.heap.get? e = some oe) (hkb : base.StaysIn s.heap) (hen : base.get? e = none) (hd : oe.data = .fields vs) (h1 : vs[1]? = some .none)
    (h : ∀ h' T oe' oT ts, base.StaysIn h' → s.heap.UpToSlots h' → h'.get? e = some oe' → oe'.cls = oe.cls → oe'.data = .fields (vs.setIfInBounds 1 (.ref T)) → base.get? T = none → T ≠ e → h'.get? T = some oT → oT.data = .fields ts → 3 < ts.size → Q () { s with heap := h' }) :
    wpAny M A (noteFrame (.ref e) env) Q E s := by
  have hene : e ∉ (env :: outer).filterMap (·.frame) := fun hm => by
    obtain ⟨_, o, ho, hnf⟩ := hl.mem hm
    rw [he] at ho
    obtain rfl := Option.some.inj ho
    exact hnf vs hd
  unfold noteFrame
  simp only [hf]
  refine wpAny_bind (wpAny_field he hd h1 ?_)
  rw [if_neg (by decide)]
  refine wpAny_bind (wpAny_frameOf_fun hfr hl hf fun h₁ hs₁ => ?_)
  refine wpAny_bind (wpAny_entryPlaceOf fun pl hpl => ?_)
  unfold EntryCells.newEntry newFields
  refine wpAny_bind (wpAny_newObj_type ?_ (hpl.sizeOk5 _ _ _ _ _))
  have he₁ : h₁.get? e = some oe := (hs₁.2.1 e hene).trans he
  have kb₁ : base.StaysIn h₁ := fun b o hbo => (hs₁.2.1 b fun hm => by rw [(hl.mem hm).1] at hbo; cases hbo).trans (hkb b o hbo)
  have hsz : 1 < vs.size := (Array.getElem?_eq_some_iff.mp h1).1
  have hTe : h₁.objs.size ≠ e := Nat.ne_of_gt (Heap.lt_size he₁)
  refine wpAny_setField (Heap.get?_push_of_some _ he₁) hd hsz ?_
  have keep : ∀ (nt : Obj) b o, b ≠ e → h₁.get? b = some o → ((h₁.push nt).update e (Obj.mapFields (·.setIfInBounds 1 (Value.ref h₁.objs.size)))).get? b = some o := fun nt b o hbe hb => by
    rw [Heap.get?_update_other _ _ (Ne.symm hbe)]
    exact Heap.get?_push_of_some _ hb
  refine h _ h₁.objs.size _ _ _ (fun b o hbo => keep _ b o (fun q => by rw [q, hen] at hbo; cases hbo) (kb₁ b o hbo)) (fun b o hb hnf => ?_)
    (Heap.get?_update_self _ (Heap.get?_push_of_some _ he₁) (Obj.isFreed_of_fields (Obj.data_mapFields hd (·.setIfInBounds 1 (Value.ref h₁.objs.size)))))
    (Obj.cls_mapFields _ _) (Obj.data_mapFields hd _) kb₁.fresh hTe ((Heap.get?_update_other _ _ (Ne.symm hTe)).trans (Heap.get?_push_size h₁ rfl)) rfl ?_
  · obtain ⟨sl, hs⟩ := hs₁.2.2 b o hb
    exact ⟨sl, keep _ b _ (fun q => by rw [q, he] at hb; obtain rfl := Option.some.inj hb; exact hnf vs hd) hs⟩
  · simp only [List.size_toArray, List.length_append, List.length_cons, List.length_nil]
    omega
end
theorem fly_off {B h : Heap} {T : Addr} {oT : Obj} {ts : Array Value} (hT : h.get? T = some oT) (hdT : oT.data = .fields ts) (hnT : B.get? T = none) (kB : B.StaysIn h) :
    B.StaysIn (h.update T (Obj.mapFields (·.setIfInBounds 3 .none))) ∧ h.UpToSlots (h.update T (Obj.mapFields (·.setIfInBounds 3 .none))) ∧ (∀ b, b ≠ T → (h.update T (Obj.mapFields (·.setIfInBounds 3 .none))).get? b = h.get? b) ∧
      ∃ o', (h.update T (Obj.mapFields (·.setIfInBounds 3 .none))).get? T = some o' ∧ o'.data = .fields (ts.setIfInBounds 3 .none) := by
  have other : ∀ b, b ≠ T → (h.update T (Obj.mapFields (·.setIfInBounds 3 .none))).get? b = h.get? b := fun b hb => Heap.get?_update_other _ _ (Ne.symm hb)
  refine ⟨fun b o hb => (other b fun q => by rw [q, hnT] at hb; cases hb).trans (kB b o hb), fun b o hb hn => ⟨o.slots, ?_⟩, other, _, Heap.get?_update_self _ hT (Obj.isFreed_of_fields (Obj.data_mapFields hdT _)), Obj.data_mapFields hdT _⟩
  exact (other b fun q => by rw [q, hT] at hb; obtain rfl := Option.some.inj hb; exact hn ts hdT).trans hb
section
variable {prog : Program} {w : World} {A₀ : Around} {E : Value → Shared → Prop} {s' : Shared} {base g G : Heap} {outer : List Env} {L a e : Addr} {m : Str → Option Value} {name : Str} {scope : Scope} {cd : Value}
  {b₀ : Stmt} {suite : List Stmt} {pos p1 p2 tpos : Pos} {kk : Nat} {rest : List ExceptHandler} {Q : Flow → Shared → Prop} {news : List (Addr × Obj)} {KF : Frag}
  {p : Program} {loose : List Str} {mean : ExcName → Option Value} {mg mb : Str → Option Value} {x1 x2 : Str} {X T1 T2 : String} {b1 b2 : Bool}
/-- an exception of the frame's own, met by a clause of two classes -/
theorem caught_here (hx : Heap.NewExc G s'.heap e X) (F : Fr g L G m) (N : News g L G news) (K : Below A₀ base outer g) (XB : KF.In base) (TB : Top p loose mean mg mb base) (D : KtsDicts (outer.filterMap (·.frame)) g)
    (ex1 : nsIn KF mainGlobals x1 = some none) (hv1 : bootBuiltins x1 = some (.type T1)) (hn1 : x1 ≠ "__name__") (ex2 : nsIn KF mainGlobals x2 = some none) (hv2 : bootBuiltins x2 = some (.type T2)) (hn2 : x2 ≠ "__name__")
    (hexc1 : isSubtype (.type T1) (.type "BaseException") = pure true) (hnt1 : isSubtype (.type ((Manifest.find? T1).elim "type" fun x => x.metatype)) (.type "tuple") = pure false)
    (hexc2 : isSubtype (.type T2) (.type "BaseException") = pure true) (hnt2 : isSubtype (.type ((Manifest.find? T2).elim "type" fun x => x.metatype)) (.type "tuple") = pure false)
    (hsub1 : isSubtype (.type X) (.type T1) = pure b1) (hsub2 : isSubtype (.type X) (.type T2) = pure b2) (hb : (b1 || b2) = true)
    (k : ∀ h' g' oe ws, KtsTurn (outer.filterMap (·.frame)) g g' → Fr g' L h' m → News g' L h' news → h'.get? e = some oe → oe.data = .fields ws → ws[2]? = some .none → Below A₀ base outer g' → KF.In g' → Top p loose mean mg mb g' → KtsDicts (outer.filterMap (·.frame)) g' →
      wpAny (model prog w) ((A₀.deeper (envOf name scope L a cd)).mark (some (.ref e))) (execs (b₀ :: suite) (envOf name scope L a cd)) Q E { s' with heap := h' })
    (hk : scope.kind = .function := by rfl) (hxk1 : (envOf name scope L a cd).kindOf x1 = some .globalImplicit := by rfl) (hd1 : (x1 == ("__debug__" : Str)) = false := by decide)
    (hxk2 : (envOf name scope L a cd).kindOf x2 = some .globalImplicit := by rfl) (hd2 : (x2 == ("__debug__" : Str)) = false := by decide)
    (hE : PassesOwnAt (model prog w) ((A₀.deeper (envOf name scope L a cd)).mark (some (.ref e))) (A₀.deeper (envOf name scope L a cd)) (envOf name scope L a cd) E := by passes_own) :
    wpAny (model prog w) (A₀.deeper (envOf name scope L a cd)) (noteFrame (.ref e) (envOf name scope L a cd))
      (fun _ s₂ => wpAny (model prog w) (A₀.deeper (envOf name scope L a cd)) (setFlight (.ref e) none) (fun _ s₃ =>
        wpAny (model prog w) (A₀.deeper (envOf name scope L a cd)) (handleBy (.ref e) (envOf name scope L a cd) (.ExceptHandler (some (.Tuple [.Name x1 p1, .Name x2 p2] kk tpos)) none (b₀ :: suite) pos :: rest)) Q E s₃) E s₂) E s' := by
  have K' := K.push (name := name) (a := a) (cd := cd) F hk
  obtain ⟨fs, hfs⟩ : ∃ fs, fs = (envOf name scope L a cd :: outer).filterMap (·.frame) := ⟨_, rfl⟩
  have hin : ∀ env ∈ (envOf name scope L a cd :: outer), ∀ b, env.frame = some b → b ∈ fs := fun env he b hb => hfs ▸ List.mem_filterMap.mpr ⟨env, he, hb⟩
  obtain ⟨B, hB⟩ : ∃ B, B = hideAll G fs := ⟨_, rfl⟩
  have ofB : ∀ b o, B.get? b = some o → G.get? b = some o := fun b o q => of_hideAll fs (hB ▸ q)
  have hBG : ∀ b o, G.get? b = some o → b ∉ (envOf name scope L a cd :: outer).filterMap (·.frame) → B.get? b = some o := fun b o q nm => by rw [hB]; exact hideAll_get _ q (hfs ▸ nm)
  have hff : G.FunFrames B (envOf name scope L a cd :: outer) := by rw [hB]; exact funFrames_hide K'.frames hin
  have hff' : s'.heap.FunFrames B (envOf name scope L a cd :: outer) := hff.of_keeps fun b o hb _ => ⟨o, hx.keeps b o hb, rfl⟩
  have hnl : ∀ q ∈ news, B.get? q.1 = some q.2 := fun q hq => hBG _ _ (N q hq).1 fun hm => by
    obtain ⟨env, he, hf⟩ := List.mem_filterMap.mp hm
    rcases List.mem_cons.mp he with rfl | he
    · exact (N q hq).2.1 (Option.some.inj hf).symm
    · obtain ⟨o, ho, _⟩ := (K.frames.mem (List.mem_filterMap.mpr ⟨env, he, hf⟩)).2
      rw [(N q hq).2.2] at ho; cases ho
  obtain ⟨ob, tp, he, hcls, hd⟩ := hx.there
  have heB : B.get? e = none := by
    cases q : B.get? e with
    | none => rfl
    | some o => have := ofB e o q; rw [hx.new] at this; cases this
  refine note_new (base := B) (Around.frames_deeper K.stack) hff' rfl he (fun b o q => hx.keeps b o (ofB b o q)) heB hd rfl fun h₁ T oe oT ts kB sm he₁ hc₁ hd₁ hnT hTe hT hdT hsz => ?_
  have sm₁ : G.UpToSlots h₁ := (Heap.UpToSlots.of_keeps hx.keeps).trans sm
  refine wpAny_setFlight_none (s := { s' with heap := h₁ }) he₁ hd₁ (by simp) hT hdT hsz ?_
  obtain ⟨k₂, sm₂, ot₂, oT₂, hT₂, hdT₂⟩ := fly_off hT hdT hnT kB
  generalize h₁.update T (Obj.mapFields (·.setIfInBounds 3 .none)) = h₂ at k₂ sm₂ ot₂ hT₂ ⊢
  have he₂ : h₂.get? e = some oe := (ot₂ e (Ne.symm hTe)).trans he₁
  obtain ⟨g₂, _, F₂, K₂⟩ := kts_ground K F hBG k₂ (sm₁.trans sm₂)
  have X₂ : KF.In g₂ := XB.keeps K₂.stays
  have P₂ : TopRead p loose mg mb g₂ := topRead_of (TB.keeps K₂.stays)
  refine wpAny_handleBy_tup2 (T1 := T1) (T2 := T2) hexc1 hnt1 hexc2 hnt2 hsub1 hsub2 ?_
  refine Tuple_ (spliced_more (name_B (s := { s' with heap := h₂ }) F₂ X₂ P₂ ex1 hv1 hn1 (spliced_more (name_B F₂ X₂ P₂ ex2 hv2 hn2 (spliced_none ?_) hk hxk2 hd2)) hk hxk1 hd1))
  refine wpAny_newObj_type ⟨_, rfl, IsTup.new _ _, ⟨oe, Heap.get?_push_of_some _ he₂, hc₁.trans hcls⟩, ?_⟩
  rw [if_pos hb]
  obtain ⟨h₃, hh₃⟩ : ∃ h₃, h₃ = h₂.push { cls := .type "tuple", dict := none, data := .seq [Value.type T1, .type T2].toArray } := ⟨_, rfl⟩
  have kp : ∀ b o, h₂.get? b = some o → h₃.get? b = some o := fun b o q => by rw [hh₃]; exact Heap.get?_push_of_some _ q
  have k₃ : B.StaysIn h₃ := fun b o q => kp b o (k₂ b o q)
  have sm₃ : h₂.UpToSlots h₃ := Heap.UpToSlots.of_keeps kp
  refine wpAny_setFlight_none (s := { s' with heap := h₂.push { cls := .type "tuple", dict := none, data := .seq [Value.type T1, .type T2].toArray } }) (Heap.get?_push_of_some _ he₂) hd₁ (by simp) (Heap.get?_push_of_some _ hT₂) hdT₂ (by rw [Array.size_setIfInBounds]; exact hsz) ?_
  have hT₃ := kp _ _ hT₂
  have he₃ := kp _ _ he₂
  rw [← hh₃]
  obtain ⟨k₄, sm₄, ot₄, _⟩ := fly_off hT₃ hdT₂ hnT k₃
  generalize h₃.update T (Obj.mapFields (·.setIfInBounds 3 .none)) = h₄ at k₄ sm₄ ot₄ ⊢
  have he₄ : h₄.get? e = some oe := (ot₄ e (Ne.symm hTe)).trans he₃
  obtain ⟨g₄, T₄, F₄, K₄⟩ := kts_ground K F hBG k₄ (((sm₁.trans sm₂).trans sm₃).trans sm₄)
  exact wpAny_passesOwnAt hE (k h₄ g₄ oe _ T₄ F₄ (fun q hq => ⟨k₄ _ _ (hnl q hq), (N q hq).2.1, T₄.none_ _ (N q hq).2.2⟩) he₄ hd₁ (by simp) K₄ (XB.keeps K₄.stays) (TB.keeps K₄.stays) (D.turn T₄))
end
theorem entry_unchain : entryFor table "proto.unchain" = some Builtin.«proto.unchain» := entryFor_of_tree (by kernel_rfl)
/-- an exception made while another is handled -/
structure Made2 (h h' : Heap) (e2 : Addr) (cls : Value) (args : List Value) : Prop where
  keeps : ∀ b o, h.get? b = some o → h'.get? b = some o
  new : h.get? e2 = none
  there : ∃ t oe ws ot n, h'.get? e2 = some oe ∧ oe.cls = cls ∧ oe.data = .fields ws ∧ ws[0]? = some (.ref t) ∧ ws[1]? = some .none ∧ h.get? t = none ∧ h'.get? t = some ot ∧ ot.cls = .type "tuple" ∧ ot.data = .seq args.toArray n
section
variable {prog : Program} {w : World} {A : Around} {E : Value → Shared → Prop} {s : Shared} {env : Env} {e : Addr} {oe : Obj} {ws : Array Value} {x : Str} {msg : Str} {k1 k2 : Nat} {np cp cpos np2 pos : Pos}
theorem raise_none {cls newId initId : String} (FC : ExcCallFacts cls newId initId) (FR : ExcRaiseFacts cls) {Q : Flow → Shared → Prop} (hh : A.handled = some (.ref e)) (he : s.heap.get? e = some oe) (hd : oe.data = .fields ws) (h2 : ws[2]? = some .none)
    (hn : ∀ Q' : Value → Shared → Prop, Q' (.type cls) s → wpAny (model prog w) A (eval (.Name x np) env) Q' E s)
    (h : ∀ h' e2 tk tk', Made2 s.heap h' e2 (.type cls) [.str msg tk] → E (.ref e2) { s with heap := h', toks := tk' }) :
    wpAny (model prog w) A (exec (.Raise (some (.Call (.Name x np) [.Constant (.str msg) k1 cp] [] cpos)) (some (.Constant .none k2 np2)) pos) env) Q E s := by
  rw [arm_exec_Raise]
  show wpAny _ A (do standAt pos; raiseStmt env (some (do let v ← eval (.Call (.Name x np) [.Constant (.str msg) k1 cp] [] cpos) env; standAt pos; pure v)) (some (do let v ← eval (.Constant .none k2 np2) env; standAt pos; pure v))) Q E s
  refine wpAny_bind (wpAny_standAt ?_)
  unfold raiseStmt
  refine wpAny_bind (wpAny_bind ?_)
  refine wpAny_Call_ofName (hn _ ?_)
  refine callWith_excType rfl ?_
  refine Calls.evalArgs_plain ?_
  refine spliced_more (Calls.Constant_str (spliced_none ?_))
  obtain ⟨hp, g, d, tk, os⟩ := s
  refine wpAny_call_exc FC (hrest := by show 1 ≤ sizeLine; decide) fun h₁ e2 hm => ?_
  refine wpAny_bind (wpAny_standAt (wpAny_pure ?_))
  obtain ⟨t, he2, htn, ht⟩ := hm.there
  refine wpAny_bind (wpAny_holding (wpAny_bind (Constant_none (wpAny_bind (wpAny_standAt (wpAny_pure ?_))))))
  refine wpAny_bind (wpAny_pure ?_)
  refine wpAny_bind (wpAny_holding ?_)
  have hsub := FR.isExc
  have hmeta := FR.plainMeta
  unfold excFromValue isExcClass
  repeat (first | refine wpAny_loadPart he2 ?_ | wp_step)
  have hee : e ≠ e2 := fun q => by have := hm.new; rw [← q] at this; rw [show hp.get? e = some oe from he] at this; cases this
  have hte2 : t ≠ e2 := fun q => by
    rw [q] at ht
    rw [he2] at ht
    cases ht
  obtain ⟨H, hH⟩ : ∃ H, H = (h₁.update e2 (Obj.mapFields fun x => x.setIfInBounds 3 Value.none)).update e2 (Obj.mapFields fun x => x.setIfInBounds 4 (Value.bool true)) := ⟨_, rfl⟩
  rw [← hH]
  have oth : ∀ b, b ≠ e2 → H.get? b = h₁.get? b := fun b hb => by rw [hH, Heap.get?_update_other _ _ (Ne.symm hb), Heap.get?_update_other _ _ (Ne.symm hb)]
  have heH : H.get? e = some oe := (oth e hee).trans (hm.keeps _ _ he)
  have he2H : H.get? e2 = some { cls := .type cls, data := .fields #[.ref t, .none, .none, .none, .bool true, .none] } := by
    have u1 := Heap.get?_update_self (Obj.mapFields fun x => x.setIfInBounds 3 Value.none) he2 rfl
    have u2 := Heap.get?_update_self (Obj.mapFields fun x => x.setIfInBounds 4 (Value.bool true)) u1 rfl
    rw [hH, u2]
    rfl
  unfold raiseNew
  refine wpAny_bind (wpAny_handled ?_)
  rw [hh]
  dsimp only
  rw [if_pos (show (Value.ref e != Value.ref e2) = true from by simp [hee])]
  refine wpAny_bind (wpAny_holding (wpAny_runValue (codeAny_builtin entry_unchain ?_)))
  unfold Builtin.«proto.unchain»
  dsimp only
  refine wpAny_bind (wpAny_field heH hd h2 ?_)
  rw [if_pos (by decide)]
  first
    | refine wpAny_bind (wpAny_pure (wpAny_pure ?_))
    | refine wpAny_pure (wpAny_pure ?_)
    | refine wpAny_bind (wpAny_pure (wpAny_bind (wpAny_pure (wpAny_pure ?_))))
    | skip
  show wpAny _ _ (do setField (.ref e2) 2 (.ref e); throw (.ref e2)) _ _ _
  refine wpAny_bind (wpAny_setField he2H rfl (by show 2 < 6; decide) (wpAny_throw ?_))
  refine h _ e2 tk (tk + 1) ⟨fun b o hb => ?_, hm.new, t, _, _, _, 0, Heap.get?_update_self _ he2H rfl, rfl, rfl, rfl, rfl, htn, (Heap.get?_update_other _ _ (Ne.symm hte2)).trans ((oth t hte2).trans ht), rfl, rfl⟩
  have hbe : b ≠ e2 := fun q => by have := hm.new; rw [← q] at this; rw [show hp.get? b = some o from hb] at this; cases this
  exact (Heap.get?_update_other _ _ (Ne.symm hbe)).trans ((oth b hbe).trans (hm.keeps _ _ hb))
end
section
variable {M : Model} {A : Around} {E : Value → Shared → Prop} {s' : Shared} {base g h : Heap} {outer : List Env} {L a e : Addr} {m : Str → Option Value} {name : Str} {scope : Scope} {cd : Value} {Q : Unit → Shared → Prop} {news : List (Addr × Obj)}
theorem leave_made2 {cls : Value} {vs : List Value} (K : Below A base outer g) (hx : Made2 h s'.heap e cls vs) (F : Fr g L h m) (N : News g L h news)
    (hQ : ∀ h' t, RaisedS base g outer e cls t vs news h' → RaisedK base outer e cls t vs news h' → g.UpToSlots h' → Q () { s' with heap := h' }) (hk : scope.kind = .function := by rfl) :
    wpAny M (A.deeper (envOf name scope L a cd)) (leaving (envOf name scope L a cd) (.ref e)) Q E s' := by
  have K' := K.push (name := name) (a := a) (cd := cd) F hk
  obtain ⟨fs, hfs⟩ : ∃ fs, fs = (envOf name scope L a cd :: outer).filterMap (·.frame) := ⟨_, rfl⟩
  have hin : ∀ env ∈ (envOf name scope L a cd :: outer), ∀ b, env.frame = some b → b ∈ fs := fun env he b hb => hfs ▸ List.mem_filterMap.mpr ⟨env, he, hb⟩
  obtain ⟨B, hB⟩ : ∃ B, B = hideAll h fs := ⟨_, rfl⟩
  have ofB : ∀ b o, B.get? b = some o → h.get? b = some o := fun b o q => of_hideAll fs (hB ▸ q)
  have noB : ∀ b, h.get? b = none → B.get? b = none := fun b hb => by
    cases q : B.get? b with
    | none => rfl
    | some o => have := ofB b o q; rw [hb] at this; cases this
  have toB : ∀ b o, h.get? b = some o → b ∉ fs → B.get? b = some o := fun b o q nm => by rw [hB]; exact hideAll_get _ q nm
  have hff : h.FunFrames B (envOf name scope L a cd :: outer) := by rw [hB]; exact funFrames_hide K'.frames hin
  have st : base.StaysIn B := fun b o q => toB b o (K'.stays b o q) fun hm => by
    rw [hfs] at hm
    rw [(K'.frames.mem hm).1] at q; cases q
  have sg : ∀ b o, g.get? b = some o → b ∉ outer.filterMap (·.frame) → B.get? b = some o := fun b o q nm => toB b o (F.keep b o q) fun hm => by
    rw [hfs] at hm
    rcases kts_mem hm with z | z
    · rw [z, kts_self F] at q
      cases q
    · exact nm z
  have hl : ∀ q ∈ news, B.get? q.1 = some q.2 ∧ g.get? q.1 = none ∧ base.get? q.1 = none := fun q hq => by
    refine ⟨toB _ _ (N q hq).1 fun hm => ?_, (N q hq).2.2, fresh_of_stays K.stays (N q hq).2.2⟩
    rw [hfs] at hm
    obtain ⟨env, he, hf⟩ := List.mem_filterMap.mp hm
    rcases List.mem_cons.mp he with rfl | he
    · exact (N q hq).2.1 (Option.some.inj hf).symm
    · obtain ⟨o, ho, _⟩ := (K.frames.mem (List.mem_filterMap.mpr ⟨env, he, hf⟩)).2
      rw [(N q hq).2.2] at ho; cases ho
  obtain ⟨t, oe, ws, ot, n, he, hc, hd, h0, h1, htn, hot, hoc, hod⟩ := hx.there
  refine wpAny_leaving_firstW (a0 := .ref t) K'.stack (hff.of_keeps fun b o hb _ => ⟨o, hx.keeps b o hb, rfl⟩) rfl he (fun b o q => hx.keeps b o (ofB b o q)) (noB e hx.new) hd h1 h0 fun h' hL => ?_
  obtain ⟨k1, ⟨_, _, k2⟩, k3, k4⟩ := hL
  rw [hc] at k3
  have k4' : s'.heap.UpToSlots h' := k4
  have R : RaisedS base g outer e cls t vs news h' := ⟨⟨B, st, sg, hl, ⟨k1, noB e hx.new, k2, k3⟩, noB t htn⟩, Heap.TupAt.of_slots ⟨ot, n, hot, hoc, hod⟩ k4'⟩
  exact hQ h' t R R.toK (((Heap.UpToSlots.of_keeps F.keep).trans (Heap.UpToSlots.of_keeps hx.keeps)).trans k4')
end
theorem turn_smooth {fs : List Addr} {g g₅ h : Heap} (T : KtsTurn fs g g₅) (U : g₅.UpToSlots h) : g.UpToSlots h := fun b o e hn => by
  obtain ⟨sl, hs⟩ := T.up e
  obtain ⟨sl2, h2⟩ := U b { o with slots := sl } hs hn
  exact ⟨sl2, h2⟩
theorem turn_back {base g g₅ h : Heap} {l : List Env} {e t : Addr} {cls : Value} {vs : List Value} {news : List (Addr × Obj)} (T : KtsTurn (l.filterMap (·.frame)) g g₅) (R : RaisedS base g₅ l e cls t vs news h) : RaisedS base g l e cls t vs news h := by
  obtain ⟨⟨B, hB, hBG, hl, hfl, hnew⟩, htup⟩ := R
  refine ⟨⟨B, hB, fun b o q nm => hBG b o (T.other b o q nm) nm, fun q hq => ⟨(hl q hq).1, ?_, (hl q hq).2.2⟩, hfl, hnew⟩, htup⟩
  cases e' : g.get? q.1 with
  | none => rfl
  | some o =>
    obtain ⟨sl, hs⟩ := T.up e'
    rw [(hl q hq).2.1] at hs
    cases hs
end
section
-- B9
theorem rstB9 : True := by
  w_top off
  trivial
set_option maxHeartbeats 2000000
theorem unj1 {w : World} {mean : ExcName → Option Value} {mg mb : Str → Option Value} {news : List (Addr × Obj)} {a : Addr} {n : Nat} {x : Str} {t : Tok} :
    DoesT w mean mg mb 3 129 [.ref a] [] ((a, tupObj [.str x t] n) :: news) (fun r news' => r = .bool true) := by
  ((unfold DoesT); (intro dp un gd cn cs fa ccd cl A₀ h₀ L m s Q E B F X N T hk hdp hun hret); (refine wpAny_call ?_); (k_dflt (refine' code_told ?k1 ?k2 ?k3 ?k4 ?k5 ?kA ?kF ?kK ?k6 ?k7 ?k8 ?k9 ?kB ?_ ?c2 ?c3 ?c4 ?c5; (case kA => exact rfl); (case kF => exact rfl); (case kK => assumption); (case k1 => k_asm); (case k2 => k_asm); (case k3 => k_asm); (case k4 => k_asm); (case k5 => k_asm); (case k6 => k_is); (case k7 => k_is); (case k8 => ktr_room); (case k9 => exact BindsTo.of_eq rfl); (case kB => exact locs rfl); (case c2 => exact rfl); (case c3 => exact rfl); (case c4 => exact rfl); (case c5 => decide); k_whole; intro g' L' h' FG' F' N' B' X' T' D'; (try dsimp only); (try k_lift B'); (try k_fold))))
  ((repeat' (first | (k_unfold; (try clear ze zq); (try dsimp only)) | (k_end; wrow_close) | ((fail_if_success (fail_if_success (with_reducible refine wpAny_execs_cons ?_))); ((try ((fail_if_success (fail_if_success k_fold)); (with_reducible refine foldQ ?_); intro zq ze)); (try k_gentoks); (with_reducible refine wpAny_execs_cons ?_); (try dsimp only); ((fail_if_success (fail_if_success k_fold)); (with_reducible refine foldQ ?_); intro zq ze))) | ((with_reducible show wpAny _ _ (eval (.Name _ _) _) _ _ _); (k_dflt (refine nameL (by k_asm) (by exact rfl) ?_ rfl rfl (by decide)); k_whole)) | walk1 | (dsimp only; walk1) | (leave1; (try dsimp only)))) <;> (try ((fail_if_success (fail_if_success k_fold)); (with_reducible refine foldQ ?_); intro zq ze)))
  ((refine Held.mk ?_); (refine wpAny_call ?_); (k_dflt (refine' code_defS ?k1 ?k2 ?k3 ?k4 ?k5 ?XB ?TB ?D ?T0 ?kA ?k6 ?k7 ?k8 ?k9 ?kB ?_ ?cK ?c2 ?c3 ?c4 ?c5; (case kA => exact rfl); (case k2 => k_asm); (case k1 => k_asm); (case XB => assumption); (case TB => assumption); (case D => assumption); (case T0 => first | assumption | exact KtsTurn.refl); (case k3 => k_asm); (case k4 => k_asm); (case k5 => k_asm); (case k6 => k_is); (case k7 => k_is); (case k8 => ktr_room); (case k9 => first | exact BindsTo.of_eq rfl | exact binds_K (by k_in) rfl (by k_is) rfl rfl rfl | (refine' kp_binds ?kx ?ke; (case kx => k_in); (case ke => exact fun _ => rfl))); (case kB => exact locs rfl); (case cK => exact rfl); (case c2 => exact rfl); (case c3 => exact rfl); (case c4 => exact rfl); (case c5 => decide); k_whole; intro g2 L2 h2 FG2 F2 N2 B2 X2 T2 D2; (try dsimp only); (try k_lift B2); (try k_fold))))
  ((repeat' (first | (k_unfold; (try clear ze zq); (try dsimp only)) | (k_end; wrow_close) | ((fail_if_success (fail_if_success (with_reducible refine wpAny_execs_cons ?_))); ((try ((fail_if_success (fail_if_success k_fold)); (with_reducible refine foldQ ?_); intro zq ze)); (try k_gentoks); (with_reducible refine wpAny_execs_cons ?_); (try dsimp only); ((fail_if_success (fail_if_success k_fold)); (with_reducible refine foldQ ?_); intro zq ze))) | ((with_reducible show wpAny _ _ (eval (.Name _ _) _) _ _ _); (k_dflt (refine nameL (by k_asm) (by exact rfl) ?_ rfl rfl (by decide)); k_whole)) | ((k_here; (with_reducible show wpAny _ _ (assign (Expr.Tuple _ _ _) _ (Value.ref _)) _ _ _); k_dflt (refine' assign_bad ?F ?N ?T ?k1 ?k2 ?k3 ?kb ?_; (case F => k_asm); (case N => k_asm); (case T => exact News.isTup (by k_asm) (by k_mem)); (case k1 => exact rfl); (case k2 => exact rfl); (case k3 => exact rfl); (case kb => first | exact .inl ⟨_, rfl⟩ | exact .inr ⟨_, _, _, rfl⟩); k_whole); intro _ _ _ _ _ _ _; (try k_sweep))) | walk1 | (dsimp only; walk1) | (leave1; (try dsimp only)))) <;> (try ((fail_if_success (fail_if_success k_fold)); (with_reducible refine foldQ ?_); intro zq ze)))
  rename_i h₁ h5 tk5 e5 F5 N5 X5
  refine caught_here (T1 := "TypeError") (T2 := "ValueError") (X := "ValueError") (b1 := false) (b2 := true) X5 F5 N5 B2 X T D2 (by k_is) PyProof.Rows.Boot.«TypeError» (by decide) (by k_is) PyProof.Rows.Boot.«ValueError» (by decide)
    PySem.F.isExc_TypeError PySem.F.notTuple_TypeError PySem.F.isExc_ValueError PySem.F.notTuple_ValueError (by rw [isSubtype_type]; kernel_rfl) (by kts_sub) rfl ?_
  intro h6 g6 oe ws T6 F6 N6 he6 hd6 hw6 K6 X6 P6 D6
  clear F5 N5 X5
  ((repeat' (first | (k_unfold; (try clear ze zq); (try dsimp only)) | (k_end; wrow_close) | ((fail_if_success (fail_if_success (with_reducible refine wpAny_execs_cons ?_))); ((try ((fail_if_success (fail_if_success k_fold)); (with_reducible refine foldQ ?_); intro zq ze)); (try k_gentoks); (with_reducible refine wpAny_execs_cons ?_); (try dsimp only); ((fail_if_success (fail_if_success k_fold)); (with_reducible refine foldQ ?_); intro zq ze))) | walk1 | (dsimp only; walk1) | (leave1; (try dsimp only)))) <;> (try ((fail_if_success (fail_if_success k_fold)); (with_reducible refine foldQ ?_); intro zq ze)))
  refine raise_none PySem.F.excCall_TypeError PySem.F.excRaise_TypeError rfl he6 hd6 hw6 (fun Q' hq => name_B F6 X6 (topRead_of P6) (by k_is) PyProof.Rows.Boot.«TypeError» (by decide) hq rfl rfl (by decide)) ?_
  intro h7 e7 tk7 tk7' M7
  k_unfold
  (try dsimp only)
  refine leave_made2 K6 M7 F6 N6 ?_
  intro h8 t8 R8 _ U8
  replace R8 := turn_back T6 R8
  replace U8 := turn_smooth T6 U8
  clear T6 F6 N6 K6 X6 P6 D6 M7 he6
  ((repeat' (first | (k_unfold; (try clear ze zq); (try dsimp only)) | (k_end; wrow_close) | ((fail_if_success (fail_if_success (with_reducible refine wpAny_execs_cons ?_))); ((try ((fail_if_success (fail_if_success k_fold)); (with_reducible refine foldQ ?_); intro zq ze)); (try k_gentoks); (with_reducible refine wpAny_execs_cons ?_); (try dsimp only); ((fail_if_success (fail_if_success k_fold)); (with_reducible refine foldQ ?_); intro zq ze))) | ((with_reducible show wpAny _ _ (eval (.Name _ _) _) _ _ _); (k_dflt (refine nameL (by k_asm) (by exact rfl) ?_ rfl rfl (by decide)); k_whole)) | ((k_here; (with_reducible show wpAny _ _ (call (Value.type "str") [Value.ref _]) _ _ _); k_dflt (refine' str_own ?N ?FX ?G ?U ?hs ?q ?_; (case G => assumption); (case N => assumption); (case FX => k_in); (case U => ktr_units); (case hs => k_is); (case q => kts_isx); k_whole))) | walk1 | (dsimp only; walk1) | (leave1; (try dsimp only)))) <;> (try ((fail_if_success (fail_if_success k_fold)); (with_reducible refine foldQ ?_); intro zq ze)))
  exact hret _ _ _ _ (by k_asm) (by k_asm) (congrArg Value.bool (beq_self_eq_true _))
theorem unj3 {w : World} {mean : ExcName → Option Value} {mg mb : Str → Option Value} {news : List (Addr × Obj)} {a : Addr} {n : Nat} {x y z : Str} {t u v : Tok} :
    DoesT w mean mg mb 3 129 [.ref a] [] ((a, tupObj [.str x t, .str y u, .str z v] n) :: news) (fun r news' => r = .bool true) := by
  ((unfold DoesT); (intro dp un gd cn cs fa ccd cl A₀ h₀ L m s Q E B F X N T hk hdp hun hret); (refine wpAny_call ?_); (k_dflt (refine' code_told ?k1 ?k2 ?k3 ?k4 ?k5 ?kA ?kF ?kK ?k6 ?k7 ?k8 ?k9 ?kB ?_ ?c2 ?c3 ?c4 ?c5; (case kA => exact rfl); (case kF => exact rfl); (case kK => assumption); (case k1 => k_asm); (case k2 => k_asm); (case k3 => k_asm); (case k4 => k_asm); (case k5 => k_asm); (case k6 => k_is); (case k7 => k_is); (case k8 => ktr_room); (case k9 => exact BindsTo.of_eq rfl); (case kB => exact locs rfl); (case c2 => exact rfl); (case c3 => exact rfl); (case c4 => exact rfl); (case c5 => decide); k_whole; intro g' L' h' FG' F' N' B' X' T' D'; (try dsimp only); (try k_lift B'); (try k_fold))))
  ((repeat' (first | (k_unfold; (try clear ze zq); (try dsimp only)) | (k_end; wrow_close) | ((fail_if_success (fail_if_success (with_reducible refine wpAny_execs_cons ?_))); ((try ((fail_if_success (fail_if_success k_fold)); (with_reducible refine foldQ ?_); intro zq ze)); (try k_gentoks); (with_reducible refine wpAny_execs_cons ?_); (try dsimp only); ((fail_if_success (fail_if_success k_fold)); (with_reducible refine foldQ ?_); intro zq ze))) | ((with_reducible show wpAny _ _ (eval (.Name _ _) _) _ _ _); (k_dflt (refine nameL (by k_asm) (by exact rfl) ?_ rfl rfl (by decide)); k_whole)) | walk1 | (dsimp only; walk1) | (leave1; (try dsimp only)))) <;> (try ((fail_if_success (fail_if_success k_fold)); (with_reducible refine foldQ ?_); intro zq ze)))
  ((refine Held.mk ?_); (refine wpAny_call ?_); (k_dflt (refine' code_defS ?k1 ?k2 ?k3 ?k4 ?k5 ?XB ?TB ?D ?T0 ?kA ?k6 ?k7 ?k8 ?k9 ?kB ?_ ?cK ?c2 ?c3 ?c4 ?c5; (case kA => exact rfl); (case k2 => k_asm); (case k1 => k_asm); (case XB => assumption); (case TB => assumption); (case D => assumption); (case T0 => first | assumption | exact KtsTurn.refl); (case k3 => k_asm); (case k4 => k_asm); (case k5 => k_asm); (case k6 => k_is); (case k7 => k_is); (case k8 => ktr_room); (case k9 => first | exact BindsTo.of_eq rfl | exact binds_K (by k_in) rfl (by k_is) rfl rfl rfl | (refine' kp_binds ?kx ?ke; (case kx => k_in); (case ke => exact fun _ => rfl))); (case kB => exact locs rfl); (case cK => exact rfl); (case c2 => exact rfl); (case c3 => exact rfl); (case c4 => exact rfl); (case c5 => decide); k_whole; intro g2 L2 h2 FG2 F2 N2 B2 X2 T2 D2; (try dsimp only); (try k_lift B2); (try k_fold))))
  ((repeat' (first | (k_unfold; (try clear ze zq); (try dsimp only)) | (k_end; wrow_close) | ((fail_if_success (fail_if_success (with_reducible refine wpAny_execs_cons ?_))); ((try ((fail_if_success (fail_if_success k_fold)); (with_reducible refine foldQ ?_); intro zq ze)); (try k_gentoks); (with_reducible refine wpAny_execs_cons ?_); (try dsimp only); ((fail_if_success (fail_if_success k_fold)); (with_reducible refine foldQ ?_); intro zq ze))) | ((with_reducible show wpAny _ _ (eval (.Name _ _) _) _ _ _); (k_dflt (refine nameL (by k_asm) (by exact rfl) ?_ rfl rfl (by decide)); k_whole)) | ((k_here; (with_reducible show wpAny _ _ (assign (Expr.Tuple _ _ _) _ (Value.ref _)) _ _ _); k_dflt (refine' assign_bad ?F ?N ?T ?k1 ?k2 ?k3 ?kb ?_; (case F => k_asm); (case N => k_asm); (case T => exact News.isTup (by k_asm) (by k_mem)); (case k1 => exact rfl); (case k2 => exact rfl); (case k3 => exact rfl); (case kb => first | exact .inl ⟨_, rfl⟩ | exact .inr ⟨_, _, _, rfl⟩); k_whole); intro _ _ _ _ _ _ _; (try k_sweep))) | walk1 | (dsimp only; walk1) | (leave1; (try dsimp only)))) <;> (try ((fail_if_success (fail_if_success k_fold)); (with_reducible refine foldQ ?_); intro zq ze)))
  rename_i h₁ h5 tk5 e5 F5 N5 X5
  refine caught_here (T1 := "TypeError") (T2 := "ValueError") (X := "ValueError") (b1 := false) (b2 := true) X5 F5 N5 B2 X T D2 (by k_is) PyProof.Rows.Boot.«TypeError» (by decide) (by k_is) PyProof.Rows.Boot.«ValueError» (by decide)
    PySem.F.isExc_TypeError PySem.F.notTuple_TypeError PySem.F.isExc_ValueError PySem.F.notTuple_ValueError (by rw [isSubtype_type]; kernel_rfl) (by kts_sub) rfl ?_
  intro h6 g6 oe ws T6 F6 N6 he6 hd6 hw6 K6 X6 P6 D6
  clear F5 N5 X5
  ((repeat' (first | (k_unfold; (try clear ze zq); (try dsimp only)) | (k_end; wrow_close) | ((fail_if_success (fail_if_success (with_reducible refine wpAny_execs_cons ?_))); ((try ((fail_if_success (fail_if_success k_fold)); (with_reducible refine foldQ ?_); intro zq ze)); (try k_gentoks); (with_reducible refine wpAny_execs_cons ?_); (try dsimp only); ((fail_if_success (fail_if_success k_fold)); (with_reducible refine foldQ ?_); intro zq ze))) | walk1 | (dsimp only; walk1) | (leave1; (try dsimp only)))) <;> (try ((fail_if_success (fail_if_success k_fold)); (with_reducible refine foldQ ?_); intro zq ze)))
  refine raise_none PySem.F.excCall_TypeError PySem.F.excRaise_TypeError rfl he6 hd6 hw6 (fun Q' hq => name_B F6 X6 (topRead_of P6) (by k_is) PyProof.Rows.Boot.«TypeError» (by decide) hq rfl rfl (by decide)) ?_
  intro h7 e7 tk7 tk7' M7
  k_unfold
  (try dsimp only)
  refine leave_made2 K6 M7 F6 N6 ?_
  intro h8 t8 R8 _ U8
  replace R8 := turn_back T6 R8
  replace U8 := turn_smooth T6 U8
  clear T6 F6 N6 K6 X6 P6 D6 M7 he6
  ((repeat' (first | (k_unfold; (try clear ze zq); (try dsimp only)) | (k_end; wrow_close) | ((fail_if_success (fail_if_success (with_reducible refine wpAny_execs_cons ?_))); ((try ((fail_if_success (fail_if_success k_fold)); (with_reducible refine foldQ ?_); intro zq ze)); (try k_gentoks); (with_reducible refine wpAny_execs_cons ?_); (try dsimp only); ((fail_if_success (fail_if_success k_fold)); (with_reducible refine foldQ ?_); intro zq ze))) | ((with_reducible show wpAny _ _ (eval (.Name _ _) _) _ _ _); (k_dflt (refine nameL (by k_asm) (by exact rfl) ?_ rfl rfl (by decide)); k_whole)) | ((k_here; (with_reducible show wpAny _ _ (call (Value.type "str") [Value.ref _]) _ _ _); k_dflt (refine' str_own ?N ?FX ?G ?U ?hs ?q ?_; (case G => assumption); (case N => assumption); (case FX => k_in); (case U => ktr_units); (case hs => k_is); (case q => kts_isx); k_whole))) | walk1 | (dsimp only; walk1) | (leave1; (try dsimp only)))) <;> (try ((fail_if_success (fail_if_success k_fold)); (with_reducible refine foldQ ?_); intro zq ze)))
  exact hret _ _ _ _ (by k_asm) (by k_asm) (congrArg Value.bool (beq_self_eq_true _))
end
-- B7
theorem rstB7 : True := by
  w_top off
  trivial
set_option maxHeartbeats 2000000
local macro_rules | `(tactic| walk_at "eval ListComp") => `(tactic| (refine Held.out ?_))
local macro_rules | `(tactic| walk_at "CompEnd") => `(tactic| (refine Held.out ?_))
local macro_rules | `(tactic| walk_at "call builtin:list.pop") => `(tactic| (refine Held.out ?_))
local macro_rules | `(tactic| walk_at "call builtin:list.append") => `(tactic| (refine Held.out ?_))
local macro_rules | `(tactic| walk_at "compareOp NotEq ref ref") => `(tactic| (refine Held.out ?_))
local macro_rules | `(tactic| walk_at "subscriptTail Name Name ref int") => `(tactic| (refine Held.out ?_))
local macro_rules | `(tactic| walk_at "subscriptTail Name Subscript ref int") => `(tactic| (refine Held.out ?_))
local macro_rules | `(tactic| walk_at "call builtin:min") => `(tactic| (refine Held.out ?_))
local macro_rules | `(tactic| walk_at "call builtin:sorted") => `(tactic| (refine Held.out ?_))
local macro_rules | `(tactic| walk_at "compareOp Gt ref ref") => `(tactic| (refine Held.out ?_))
local macro_rules | `(tactic| walk_at "compareOp NotIn ref ref") => `(tactic| (refine Held.out ?_))
inductive AdrOf : Addr → Addr → Addr → Addr → Addr → Addr → Addr → Addr → Addr → Prop
  | mk (A : Adr) : AdrOf A.ak A.tr A.D (A.t 0) (A.t 1) (A.t 2) (A.q 0) (A.q 1) (A.q 2)
theorem adrOf (ak tr D t0 t1 t2 q0 q1 q2 : Addr) : AdrOf ak tr D t0 t1 t2 q0 q1 q2 := AdrOf.mk ⟨ak, tr, D, (fun j => match j with | 0 => t0 | 1 => t1 | _ => t2), (fun j => match j with | 0 => q0 | 1 => q1 | _ => q2)⟩
theorem chosen {w : World} {mean : ExcName → Option Value} {mg mb : Str → Option Value} {news : List (Addr × Obj)} {p : Plc} {ks : List Nat} {a : Addr} {n : Nat}
    (hp : p.In ks news) (hl : ks.length ≤ 9) :
    Does w mean mg mb 20 141 [.ref a] [] ((a, lst (ks.map p.v) n) :: news) (fun r news' => ∃ D c, r = .ref D ∧ news' = (D, lst ((chosenF p.lev ks).map p.v) c) :: (a, lst (ks.map p.v) n) :: news ∧ ∀ q ∈ news, q.1 < D) := by
  have hsl : sizeLine = 2 ^ 24 := by decide
  ((unfold Does); (intro dp un gd cn cs fa ccd cl outer A₀ base h₀ L m s Q E B F X N T hk hdp hun hret); (refine wpAny_call ?_); (k_dflt (refine' code_defC ?k1 ?k2 ?k3 ?k4 ?k5 ?kA ?kF ?kK ?k6 ?k7 ?k8 ?k9 ?kB ?kD ?_ ?c2 ?c3 ?c4; (case kA => exact rfl); (case kF => exact rfl); (case kK => assumption); (case k1 => k_asm); (case k2 => k_asm); (case k3 => k_asm); (case k4 => k_asm); (case k5 => k_asm); (case k6 => k_is); (case k7 => k_is); (case k8 => ktr_room); (case k9 => exact BindsTo.of_eq rfl); (case kB => exact rfl); (case kD => decide +kernel); (case c2 => exact rfl); (case c3 => exact rfl); (case c4 => exact rfl); k_whole; intro g' L' h' tk' cells' FG' F' N' Y' B' X' T' l1; (try k_lt l1); (have hY := PyProof.Rows.CellsAre.one Y'; obtain ⟨oc1, hE1, dc1⟩ := hY; subst hE1; clear Y'); (try simp only [List.cons_append, List.nil_append] at N'); (try dsimp only); (try k_lift B'));); ((refine wpAny_noRaise ?_); (try k_fold)))
  have hcell : oc1.data = .cell (some (.ref a)) := dc1.trans (by with_unfolding_all rfl)
  ((repeat' (first | (k_unfold; (try clear ze zq); (try dsimp only)) | (k_end; wrow_close) | ((fail_if_success (fail_if_success (with_reducible refine wpAny_execs_cons ?_))); ((try ((fail_if_success (fail_if_success k_fold)); (with_reducible refine foldQ ?_); intro zq ze)); (try k_gentoks); (with_reducible refine wpAny_execs_cons ?_); (try dsimp only); ((fail_if_success (fail_if_success k_fold)); (with_reducible refine foldQ ?_); intro zq ze))) | walk1 | (dsimp only; walk1) | (leave1; (try dsimp only)))) <;> (try ((fail_if_success (fail_if_success k_fold)); (with_reducible refine foldQ ?_); intro zq ze)))
  ((refine' comp_cellA (h₀ := g') ?hsw ?hL ?hy ?hp ?hclos ?hcf ?hpc ?hkind ?hnames ?hx ?_ ?hs); ((case hsw => with_unfolding_all rfl)); ((case hL => rfl)); ((case hy => rfl)); ((case hp => rfl)); ((case hclos => rfl)); ((case hcf => exact fun _ _ => rfl)); ((case hpc => exact fun _ => rfl)); ((case hkind => rfl)); ((case hnames => decide)); ((case hx => rfl)); ((case hs => intro _; rfl)))
  ((repeat' (first | (k_unfold; (try clear ze zq); (try dsimp only)) | (k_end; wrow_close) | ((with_reducible show wpAny _ _ (eval (.Name _ _) _) _ _ _); first | ((k_dflt (first | refine comp_local (by k_asm) (by k_mem) (by assumption) (by assumption) ?_ rfl rfl | refine comp_localM (by k_asm) (by assumption) (by assumption) (by simp only [List.mem_append, List.mem_cons, true_or, or_true]) ?_ rfl rfl | refine lcf_cell (by k_asm) rfl (by k_mem) (by assumption) ?_ rfl rfl | refine lcf_free (by k_asm) rfl (by k_mem) (by assumption) ?_ rfl rfl))) | (k_dflt (refine nameL (by k_asm) (by exact rfl) ?_ rfl rfl (by decide)); k_whole)) | walk1 | (dsimp only; walk1) | (leave1; (try dsimp only)))) <;> (try ((fail_if_success (fail_if_success k_fold)); (with_reducible refine foldQ ?_); intro zq ze)))
  refine Held.mk ?_
  refine compAt_range (fun i ys extra => ∃ qs : List (Addr × Nat), (qs.length = i ∧ (qs.map (·.1)).Pairwise (· < ·) ∧ (∀ q ∈ qs, ∀ r ∈ (L' + 1, oc1) :: (a, lst (ks.map p.v) n) :: news, r.1 < q.1)) ∧ ys = qs.map (fun q => .ref q.1) ∧ extra = qs.zipIdx.map (fun q => (q.1.1, lst ((ks.filter (fun k => k / 3 = q.2)).map p.v) q.1.2)))
    rfl (by assumption) (by decide) (n := 3) (by decide) (by decide) (by k_asm) (by k_asm) ⟨[], ⟨rfl, .nil, fun q hq => absurd hq (List.not_mem_nil)⟩, rfl, rfl⟩ ?turn ?done
  case turn =>
    rintro C D I oI i t' ys c extra pl own h tk E' hi hI0_ hI1_
    refine glet3 ys extra pl ?_
    intro gl_
    obtain ⟨qs, ⟨hqs, hq1, hq2⟩, rfl, rfl⟩ := hI0_
    obtain ⟨o, om, oc, rfl, hns, hoc⟩ := hI1_
    k_unfold
    clear gl_
    intro hown F9 N9
    try ((fail_if_success (fail_if_success k_fold)); (with_reducible refine foldQ ?_); intro zq ze)
    ((repeat' (first | (k_unfold; (try clear ze zq); (try dsimp only)) | (k_end; wrow_close) | walk1 | (dsimp only; walk1) | (leave1; (try dsimp only)))) <;> (try ((fail_if_success (fail_if_success k_fold)); (with_reducible refine foldQ ?_); intro zq ze)))
    ((refine Held.mk ?_); (refine' comp_plain (h₀ := g') (L := L') ?hclos ?hcell ?hkind ?hnames ?hx ?_ ?hs); ((case hclos => rfl)); ((case hcell => decide)); ((case hkind => rfl)); ((case hnames => decide)); ((case hx => rfl)); ((case hs => intro _; rfl)))
    ((repeat' (first | (k_unfold; (try clear ze zq); (try dsimp only)) | (k_end; wrow_close) | ((with_reducible show wpAny _ _ (eval (.Name _ _) _) _ _ _); first | ((k_dflt (first | refine comp_local (by k_asm) (by k_mem) (by assumption) (by assumption) ?_ rfl rfl | refine comp_localM (by k_asm) (by assumption) (by assumption) (by simp only [List.mem_append, List.mem_cons, true_or, or_true]) ?_ rfl rfl | refine lcf_cell (by k_asm) rfl (by k_mem) (by assumption) ?_ rfl rfl | refine lcf_free (by k_asm) rfl (by k_mem) (by assumption) ?_ rfl rfl))) | (k_dflt (refine nameL (by k_asm) (by exact rfl) ?_ rfl rfl (by decide)); k_whole)) | walk1 | (dsimp only; walk1) | (leave1; (try dsimp only)))) <;> (try ((fail_if_success (fail_if_success k_fold)); (with_reducible refine foldQ ?_); intro zq ze)))
    refine Held.mk ?_
    refine' compAt_list (vs := ks.map p.v) (fun i2 ys extra => ys = ((ks.take i2).filter (fun k => k / 3 = i)).map p.v ∧ extra = []) rfl ?hm ?hsz ?hF ?hN ⟨rfl, rfl⟩ ?turn2 ?done2
    (((case hF => k_asm)); ((case hN => k_asm)); ((case hm => k_mem)))
    case hsz => rw [List.length_map]; lia
    case turn2 =>
      rintro C2 D2 I2 oI2 i2 v2 ys2 c2 extra2 pl2 own2 h10 tk10 E2 hv2 hI0_ hI1_
      refine glet4 v2 ys2 extra2 pl2 ?_
      intro gl_
      obtain ⟨rfl, rfl⟩ := hI0_
      obtain ⟨o2, om2, rfl, hns2, hm2⟩ := hI1_
      obtain ⟨k, hk, hkm, rfl⟩ := map_at hv2
      k_unfold
      clear gl_
      intro hown2 F10 N10
      try ((fail_if_success (fail_if_success k_fold)); (with_reducible refine foldQ ?_); intro zq ze)
      have hkn := (hp k hkm).2.1
      ((repeat' (first | (k_unfold; (try clear ze zq); (try dsimp only)) | (k_end; wrow_close) | ((with_reducible show wpAny _ _ (eval (.Name _ _) _) _ _ _); first | ((k_dflt (first | refine comp_local (by k_asm) (by k_mem) (by assumption) (by assumption) ?_ rfl rfl | refine comp_localM (by k_asm) (by assumption) (by assumption) (by simp only [List.mem_append, List.mem_cons, true_or, or_true]) ?_ rfl rfl | refine lcf_cell (by k_asm) rfl (by k_mem) (by assumption) ?_ rfl rfl | refine lcf_free (by k_asm) rfl (by k_mem) (by assumption) ?_ rfl rfl))) | (k_dflt (refine nameL (by k_asm) (by exact rfl) ?_ rfl rfl (by decide)); k_whole)) | ((with_reducible show wpAny _ _ (subscriptTail (.Name _ _) (.Constant _ _ _) (.ref _) (.int _ _)) _ _ _); ((first | refine tup_item (by k_asm) (mem_up hkn (by (intro q hq; (try dsimp only); repeat (first | exact hq | apply List.mem_append_right | apply List.mem_cons_of_mem)))) (by decide) (by decide) rfl ?_ | refine tup_item (by k_asm) (mem_up hkn2 (by (intro q hq; (try dsimp only); repeat (first | exact hq | apply List.mem_append_right | apply List.mem_cons_of_mem)))) (by decide) (by decide) rfl ?_ | refine list_item (by k_asm) (mem_up hkl (by (intro q hq; (try dsimp only); repeat (first | exact hq | apply List.mem_append_right | apply List.mem_cons_of_mem)))) (by decide) (by decide) rfl ?_))) | walk1 | (dsimp only; walk1) | (leave1; (try dsimp only)))) <;> (try ((fail_if_success (fail_if_success k_fold)); (with_reducible refine foldQ ?_); intro zq ze)))
      · refine Held.mk ?_
        exact CompEnd.none (by k_asm) (by k_asm) ⟨filt_yes hk (decide_eq_true (by lia)), rfl⟩
      · refine Held.mk ?_
        exact CompEnd.none (by k_asm) (by k_asm) ⟨filt_no hk (decide_eq_false (by lia)), rfl⟩
    case done2 =>
      rintro D2 h10 tk10 ys2 c2 extra2 hI0_
      refine glet2 ys2 extra2 ?_
      intro gl_
      obtain ⟨rfl, rfl⟩ := hI0_
      k_unfold
      clear gl_
      intro F10 N10 hlt10 hne10
      try ((fail_if_success (fail_if_success k_fold)); (with_reducible refine foldQ ?_); intro zq ze)
      rw [filt_end] at N10
      refine CompEnd.one F10 N10 hlt10 ?_
      refine ⟨qs ++ [(D2, c2)], ⟨by rw [List.length_append, hqs]; rfl, ?_, ?_⟩, by rw [List.map_append]; rfl, ?_⟩
      · rw [List.map_append, List.pairwise_append]
        refine ⟨hq1, List.pairwise_singleton .., fun x hx y hy => ?_⟩
        obtain ⟨q, hq, rfl⟩ := List.mem_map.mp hx
        rw [List.mem_singleton.mp hy]
        obtain ⟨j, hj⟩ := List.getElem?_of_mem hq
        exact hlt10 (q.1, lst ((ks.filter (fun k => decide (k / 3 = j))).map p.v) q.2) (List.mem_append_right _ (List.mem_append_left _ (zip_mem (q := q) (G := fun j => (ks.filter (fun k => decide (k / 3 = j))).map p.v) hj)))
      · intro q hq r hr
        rcases List.mem_append.mp hq with hq | hq
        · exact hq2 q hq r hr
        · rw [List.mem_singleton.mp hq]
          exact hlt10 r (List.mem_append_right _ (List.mem_append_right _ hr))
      exact (qs_snoc (q := (D2, c2)) (G := fun j => (ks.filter (fun k => decide (k / 3 = j))).map p.v) hqs).symm
  case done =>
    rintro D h10 tk10 ys c extra hI0_
    refine glet2 ys extra ?_
    intro gl_
    obtain ⟨qs, ⟨hqs, hq1, hq2⟩, rfl, rfl⟩ := hI0_
    k_unfold
    clear gl_
    intro F10 N10 hlt10 hne10
    try ((fail_if_success (fail_if_success k_fold)); (with_reducible refine foldQ ?_); intro zq ze)
    obtain ⟨q0, c0, q1, c1, q2, c2, rfl⟩ := three_of hqs
    simp only [List.zipIdx_cons, List.zipIdx_nil, List.map_cons, List.map_nil, List.cons_append, List.nil_append, Nat.zero_add, Nat.reduceAdd, List.mem_cons, forall_eq_or_imp] at N10 hne10
    simp only [List.map_cons, List.map_nil, List.pairwise_cons, List.mem_cons, forall_eq_or_imp, List.not_mem_nil, false_imp_iff, implies_true, and_true] at hq1 hq2
    ((repeat' (first | (k_unfold; (try clear ze zq); (try dsimp only)) | (k_end; wrow_close) | ((fail_if_success (fail_if_success (with_reducible refine wpAny_execs_cons ?_))); ((try ((fail_if_success (fail_if_success k_fold)); (with_reducible refine foldQ ?_); intro zq ze)); (try k_gentoks); (with_reducible refine wpAny_execs_cons ?_); (try dsimp only); ((fail_if_success (fail_if_success k_fold)); (with_reducible refine foldQ ?_); intro zq ze))) | walk1 | (dsimp only; walk1) | (leave1; (try dsimp only)))) <;> (try ((fail_if_success (fail_if_success k_fold)); (with_reducible refine foldQ ?_); intro zq ze)))
    rename_i t0 h_1 l1_1 t1 h_2 l1_2 t2 h_3 l1_3 trk h_4 F_4 N_4 l1_4 h_5 tk_5 ak h_6 l1_6 h_7 F_7 N_7
    have hAd := adrOf ak trk D t0 t1 t2 q0 q1 q2
    induction hAd with
    | mk A =>
    have hOk : A.Ok ((L' + 1, oc1) :: (a, lst (ks.map p.v) n) :: news) := by
      have z0 := kst_ltOf l1_1.2.2.2.2.2.2
      have z1 := kst_ltOf l1_2.2.2.2.2.2.2.2
      have z2 := kst_ltOf l1_3.2.2.2.2.2.2.2.2
      have z3 := kst_ltOf l1_6.2.2.2.2.2.2.2.2.2.2
      exact ok_of hq1.1 hq1.2.1 hq2 hne10 l1_1 l1_2 l1_3 l1_4 l1_6 z0 z1 z2 z3
    refine Held.mk ?_
    with_unfolding_all
      refine' ksw_while (σ := CS) (LedC A p c 0 ((L' + 1, oc1) :: (a, lst (ks.map p.v) n) :: news)) (fun _ => []) (fun _ => True) [Str.ofString "i", Str.ofString "place", Str.ofString "tray"]
        (fun σ => GoodC ks σ.S ∧ IntsAre σ.avs (σ.S.as.map (fun i : Nat => (i : Int))) ∧ RunC p.lev ks σ.S) (fun σ => muC σ.S) ⟨startC ks, [.int 0 tk_5, .int 1 (tk_5 + 1), .int 2 (tk_5 + 1 + 1)], (fun j => match j with | 0 => c0 | 1 => c1 | _ => c2), fun _ => 0, 0⟩ (by k_asm) (by exact N_7) trivial ?ps ?P ?turn ?hE
    case hE => exact PassesOwn.never
    case ps => exact fun _ h => absurd h (List.not_mem_nil)
    case P => exact ⟨good_start hl, .cons _ _ (.cons _ _ (.cons _ _ .nil)), run_start hl⟩
    case turn =>
      rintro ⟨S, avs, cq, ct, ca⟩ u h9 tk9 _ ⟨hG, hA, hR⟩ F9 N9
      dsimp only [kstB] at hG hA hR F9
      ((repeat' (first | (k_unfold; (try clear ze zq); (try dsimp only)) | (k_end; wrow_close) | ((with_reducible show wpAny _ _ (eval (.Name _ _) _) _ _ _); first | ((k_dflt (first | refine comp_local (by k_asm) (by k_mem) (by assumption) (by assumption) ?_ rfl rfl | refine comp_localM (by k_asm) (by assumption) (by assumption) (by simp only [List.mem_append, List.mem_cons, true_or, or_true]) ?_ rfl rfl | refine lcf_cell (by k_asm) rfl (by k_mem) (by assumption) ?_ rfl rfl | refine lcf_free (by k_asm) rfl (by k_mem) (by assumption) ?_ rfl rfl))) | (k_dflt (refine nameL (by k_asm) (by exact rfl) ?_ rfl rfl (by decide)); k_whole)) | walk1 | (dsimp only; walk1) | (leave1; (try dsimp only)))) <;> (try ((fail_if_success (fail_if_success k_fold)); (with_reducible refine foldQ ?_); intro zq ze)))
      refine Held.mk ?_
      refine ne_ints_nil (by k_asm) (List.mem_cons_of_mem _ LedC.ak) (List.mem_cons_self ..) hA (by ktr_units) ?_
      rcases List.eq_nil_or_concat S.as with has | ⟨as, i, has⟩
      · have e0 : decide (S.as.map (fun i : Nat => (i : Int)) = []) = true := by rw [has]; rfl
        rw [e0]
        simp only [Bool.not_true]
        have hO := run_end hR has
        ((repeat' (first | (k_unfold; (try clear ze zq); (try dsimp only)) | (k_end; wrow_close) | ((fail_if_success (fail_if_success (with_reducible refine wpAny_execs_cons ?_))); ((try ((fail_if_success (fail_if_success k_fold)); (with_reducible refine foldQ ?_); intro zq ze)); (try k_gentoks); (with_reducible refine wpAny_execs_cons ?_); (try dsimp only); ((fail_if_success (fail_if_success k_fold)); (with_reducible refine foldQ ?_); intro zq ze))) | walk1 | (dsimp only; walk1) | (leave1; (try dsimp only)))) <;> (try ((fail_if_success (fail_if_success k_fold)); (with_reducible refine foldQ ?_); intro zq ze)))
        ((refine Held.mk ?_); (refine' comp_plain (h₀ := g') (L := L') ?hclos ?hcell ?hkind ?hnames ?hx ?_ ?hs); ((case hclos => rfl)); ((case hcell => decide)); ((case hkind => rfl)); ((case hnames => decide)); ((case hx => rfl)); ((case hs => intro _; rfl)))
        ((repeat' (first | (k_unfold; (try clear ze zq); (try dsimp only)) | (k_end; wrow_close) | ((with_reducible show wpAny _ _ (eval (.Name _ _) _) _ _ _); first | ((k_dflt (first | refine comp_local (by k_asm) (by k_mem) (by assumption) (by assumption) ?_ rfl rfl | refine comp_localM (by k_asm) (by assumption) (by assumption) (by simp only [List.mem_append, List.mem_cons, true_or, or_true]) ?_ rfl rfl | refine lcf_cell (by k_asm) rfl (by k_mem) (by assumption) ?_ rfl rfl | refine lcf_free (by k_asm) rfl (by k_mem) (by assumption) ?_ rfl rfl))) | (k_dflt (refine nameL (by k_asm) (by exact rfl) ?_ rfl rfl (by decide)); k_whole)) | walk1 | (dsimp only; walk1) | (leave1; (try dsimp only)))) <;> (try ((fail_if_success (fail_if_success k_fold)); (with_reducible refine foldQ ?_); intro zq ze)))
        refine Held.mk ?_
        rename News _ _ _ _ => N9
        have N10 := News.sub N9 (fun r hr => List.mem_cons_of_mem _ hr)
        clear N9
        refine' compAt_list (l := A.tr) (vs := [.ref (A.t 0), .ref (A.t 1), .ref (A.t 2)]) (c := 0) (fun i2 ys extra => ys = (([S.t 0, S.t 1, S.t 2].take i2).filterMap List.head?).map p.v ∧ extra = []) rfl ?hm ?hsz ?hF ?hN ⟨rfl, rfl⟩ ?turn3 ?done3
        case hF => k_asm
        case hN => exact N10
        case hm => exact LedC.tr
        case hsz => show 3 ≤ sizeLine; rw [hsl]; decide
        case turn3 =>
          rintro C2 D2 I2 oI2 i2 v2 ys2 c2 extra2 pl2 own2 h11 tk11 E2 hv2 hI0_ hI1_
          refine glet4 v2 ys2 extra2 pl2 ?_
          intro gl_
          obtain ⟨rfl, rfl⟩ := hI0_
          obtain ⟨o2, om2, rfl, hns2, hm2⟩ := hI1_
          obtain ⟨hi2, rfl⟩ := at_three_inv (f := fun j => .ref (A.t j)) hv2
          k_unfold
          clear gl_
          intro hown2 F11 N11
          try ((fail_if_success (fail_if_success k_fold)); (with_reducible refine foldQ ?_); intro zq ze)
          have hkl := LedC.t (A := A) (p := p) (c := c) (d := 0) (base := (L' + 1, oc1) :: (a, lst (ks.map p.v) n) :: news) (σ := ⟨S, avs, cq, ct, ca⟩) hi2
          have hkp := (hp.sub (fun k hk => (hG.t i2 hi2 k hk).1)).mono (news' := LedC A p c 0 ((L' + 1, oc1) :: (a, lst (ks.map p.v) n) :: news) ⟨S, avs, cq, ct, ca⟩) (fun q hq => LedC.tl (List.mem_cons_of_mem _ (List.mem_cons_of_mem _ hq)))
          dsimp only at hkl
          ((repeat' (first | (k_unfold; (try clear ze zq); (try dsimp only)) | (k_end; wrow_close) | ((with_reducible show wpAny _ _ (eval (.Name _ _) _) _ _ _); first | ((k_dflt (first | refine comp_local (by k_asm) (by k_mem) (by assumption) (by assumption) ?_ rfl rfl | refine comp_localM (by k_asm) (by assumption) (by assumption) (by simp only [List.mem_append, List.mem_cons, true_or, or_true]) ?_ rfl rfl | refine lcf_cell (by k_asm) rfl (by k_mem) (by assumption) ?_ rfl rfl | refine lcf_free (by k_asm) rfl (by k_mem) (by assumption) ?_ rfl rfl))) | (k_dflt (refine nameL (by k_asm) (by exact rfl) ?_ rfl rfl (by decide)); k_whole)) | walk1 | (dsimp only; walk1) | (leave1; (try dsimp only)))) <;> (try ((fail_if_success (fail_if_success k_fold)); (with_reducible refine foldQ ?_); intro zq ze)))
          refine Held.mk ?_
          refine ne_plcs (ks := S.t i2) (js := []) (by k_asm) (mem_up hkl (by (intro q hq; (try dsimp only); repeat (first | exact hq | apply List.mem_append_right | apply List.mem_cons_of_mem)))) (List.mem_cons_self ..) (hkp.mono (by (intro q hq; (try dsimp only); repeat (first | exact hq | apply List.mem_append_right | apply List.mem_cons_of_mem)))) (fun _ h => absurd h (List.not_mem_nil)) (by ktr_units) ?_
          cases hT : S.t i2 with
          | nil =>
            simp only [decide_true, Bool.not_true]
            ((repeat' (first | (k_unfold; (try clear ze zq); (try dsimp only)) | (k_end; wrow_close) | walk1 | (dsimp only; walk1) | (leave1; (try dsimp only)))) <;> (try ((fail_if_success (fail_if_success k_fold)); (with_reducible refine foldQ ?_); intro zq ze)))
            refine Held.mk ?_
            refine CompEnd.none (by k_asm) (News.sub (by k_asm) (fun r hr => List.mem_cons_of_mem _ hr)) ?_
            exact ⟨head_no hi2 hT, rfl⟩
          | cons k r =>
            have e1 : (!decide (k :: r = [])) = true := rfl
            rw [e1]
            rw [hT] at hkl
            ((repeat' (first | (k_unfold; (try clear ze zq); (try dsimp only)) | (k_end; wrow_close) | ((with_reducible show wpAny _ _ (eval (.Name _ _) _) _ _ _); first | ((k_dflt (first | refine comp_local (by k_asm) (by k_mem) (by assumption) (by assumption) ?_ rfl rfl | refine comp_localM (by k_asm) (by assumption) (by assumption) (by simp only [List.mem_append, List.mem_cons, true_or, or_true]) ?_ rfl rfl | refine lcf_cell (by k_asm) rfl (by k_mem) (by assumption) ?_ rfl rfl | refine lcf_free (by k_asm) rfl (by k_mem) (by assumption) ?_ rfl rfl))) | (k_dflt (refine nameL (by k_asm) (by exact rfl) ?_ rfl rfl (by decide)); k_whole)) | ((with_reducible show wpAny _ _ (subscriptTail (.Name _ _) (.Constant _ _ _) (.ref _) (.int _ _)) _ _ _); ((first | refine tup_item (by k_asm) (mem_up hkn (by (intro q hq; (try dsimp only); repeat (first | exact hq | apply List.mem_append_right | apply List.mem_cons_of_mem)))) (by decide) (by decide) rfl ?_ | refine tup_item (by k_asm) (mem_up hkn2 (by (intro q hq; (try dsimp only); repeat (first | exact hq | apply List.mem_append_right | apply List.mem_cons_of_mem)))) (by decide) (by decide) rfl ?_ | refine list_item (by k_asm) (mem_up hkl (by (intro q hq; (try dsimp only); repeat (first | exact hq | apply List.mem_append_right | apply List.mem_cons_of_mem)))) (by decide) (by decide) rfl ?_))) | walk1 | (dsimp only; walk1) | (leave1; (try dsimp only)))) <;> (try ((fail_if_success (fail_if_success k_fold)); (with_reducible refine foldQ ?_); intro zq ze)))
            refine Held.mk ?_
            refine CompEnd.none (by k_asm) (News.sub (by k_asm) (fun r hr => List.mem_cons_of_mem _ hr)) ?_
            exact ⟨head_yes hi2 hT, rfl⟩
        case done3 =>
          rintro D3 h11 tk11 ys3 c3 extra3 hI0_
          refine glet2 ys3 extra3 ?_
          intro gl_
          obtain ⟨rfl, rfl⟩ := hI0_
          k_unfold
          clear gl_
          intro F11 N11 hlt11 hne11
          try ((fail_if_success (fail_if_success k_fold)); (with_reducible refine foldQ ?_); intro zq ze)
          ((repeat' (first | (k_unfold; (try clear ze zq); (try dsimp only)) | (k_end; wrow_close) | walk1 | (dsimp only; walk1) | (leave1; (try dsimp only)))) <;> (try ((fail_if_success (fail_if_success k_fold)); (with_reducible refine foldQ ?_); intro zq ze)))
          exact hret _ _ _ _ (by k_asm) (News.keep (by k_asm) (fun r hr => LedC.tl (List.mem_cons_of_mem _ hr))) ⟨_, _, rfl, by rw [← hO]; rfl, fun q hq => hlt11 q (LedC.tl (List.mem_cons_of_mem _ (List.mem_cons_of_mem _ hq)))⟩
      · rw [List.concat_eq_append] at has
        have e0 : decide (S.as.map (fun i : Nat => (i : Int)) = []) = false := by rw [has]; simp
        rw [e0]
        simp only [Bool.not_false]
        rw [has, List.map_append] at hA
        obtain ⟨avs, ti, eA, hA2⟩ := ints_snoc hA
        subst eA
        clear hA
        have hA := hA2
        clear hA2
        have hi : i < 3 := hG.as i (by rw [has]; exact List.mem_append_right _ (List.mem_singleton.mpr rfl))
        have hal : avs.length < 1000 := by
          have h1 := hA.length
          have h2 := hG.ln
          rw [has, List.length_append] at h2
          rw [List.length_map] at h1
          lia
        have hln : S.as.length = as.length + 1 := by rw [has, List.length_append]; rfl
        rename News _ _ _ _ => N9
        have N10 := open1 hi (News.sub N9 (fun r hr => List.mem_cons_of_mem _ hr))
        clear N9
        dsimp only at N10
        ((repeat' (first | (k_unfold; (try clear ze zq); (try dsimp only)) | (k_end; wrow_close) | ((fail_if_success (fail_if_success (with_reducible refine wpAny_execs_cons ?_))); ((try ((fail_if_success (fail_if_success k_fold)); (with_reducible refine foldQ ?_); intro zq ze)); (try k_gentoks); (with_reducible refine wpAny_execs_cons ?_); (try dsimp only); ((fail_if_success (fail_if_success k_fold)); (with_reducible refine foldQ ?_); intro zq ze))) | ((with_reducible show wpAny _ _ (eval (.Name _ _) _) _ _ _); first | ((k_dflt (first | refine comp_local (by k_asm) (by k_mem) (by assumption) (by assumption) ?_ rfl rfl | refine comp_localM (by k_asm) (by assumption) (by assumption) (by simp only [List.mem_append, List.mem_cons, true_or, or_true]) ?_ rfl rfl | refine lcf_cell (by k_asm) rfl (by k_mem) (by assumption) ?_ rfl rfl | refine lcf_free (by k_asm) rfl (by k_mem) (by assumption) ?_ rfl rfl))) | (k_dflt (refine nameL (by k_asm) (by exact rfl) ?_ rfl rfl (by decide)); k_whole)) | walk1 | (dsimp only; walk1) | (leave1; (try dsimp only)))) <;> (try ((fail_if_success (fail_if_success k_fold)); (with_reducible refine foldQ ?_); intro zq ze)))
        refine Held.mk ?_
        refine pop_end (vs := avs) (y := .int (i : Int) ti) (by k_asm) N10 (List.mem_cons_self ..) hal ?_
        intro h11 F11 N11
        replace N11 := chg_keep (l' := (A.q i, lst ((S.q i).map p.v) (cq i)) :: rest1 A i (LedC A p c 0 ((L' + 1, oc1) :: (a, lst (ks.map p.v) n) :: news) ⟨S, avs ++ [.int (i : Int) ti], cq, ct, ca⟩)) N11 (fun r hr => by
          refine ⟨List.mem_cons_of_mem _ hr, ?_⟩
          rcases List.mem_cons.mp hr with rfl | hr
          · exact (hOk.qa i hi).1
          · exact (rest1_ne r hr).1)
        clear N10
        have hD := rest1_in (A := A) (i := i) (LedC.D (A := A) (p := p) (c := c) (d := 0) (base := (L' + 1, oc1) :: (a, lst (ks.map p.v) n) :: news) (σ := ⟨S, avs ++ [.int (i : Int) ti], cq, ct, ca⟩)) hOk.a2.2 (hOk.qa i hi).2.2.symm
        have hTr := rest1_in (A := A) (i := i) (LedC.tr (A := A) (p := p) (c := c) (d := 0) (base := (L' + 1, oc1) :: (a, lst (ks.map p.v) n) :: news) (σ := ⟨S, avs ++ [.int (i : Int) ti], cq, ct, ca⟩)) hOk.a2.1 (hOk.qa i hi).2.1.symm
        have hbase : ∀ r ∈ news, r ∈ rest1 A i (LedC A p c 0 ((L' + 1, oc1) :: (a, lst (ks.map p.v) n) :: news) ⟨S, avs ++ [.int (i : Int) ti], cq, ct, ca⟩) := fun r hr =>
          have hb := List.mem_cons_of_mem (L' + 1, oc1) (List.mem_cons_of_mem (a, lst (ks.map p.v) n) hr)
          rest1_in (LedC.tl hb) (hOk.b r hb i hi).2.2 (hOk.b r hb i hi).1
        ((repeat' (first | (k_unfold; (try clear ze zq); (try dsimp only)) | (k_end; wrow_close) | ((fail_if_success (fail_if_success (with_reducible refine wpAny_execs_cons ?_))); ((try ((fail_if_success (fail_if_success k_fold)); (with_reducible refine foldQ ?_); intro zq ze)); (try k_gentoks); (with_reducible refine wpAny_execs_cons ?_); (try dsimp only); ((fail_if_success (fail_if_success k_fold)); (with_reducible refine foldQ ?_); intro zq ze))) | ((with_reducible show wpAny _ _ (eval (.Name _ _) _) _ _ _); first | ((k_dflt (first | refine comp_local (by k_asm) (by k_mem) (by assumption) (by assumption) ?_ rfl rfl | refine comp_localM (by k_asm) (by assumption) (by assumption) (by simp only [List.mem_append, List.mem_cons, true_or, or_true]) ?_ rfl rfl | refine lcf_cell (by k_asm) rfl (by k_mem) (by assumption) ?_ rfl rfl | refine lcf_free (by k_asm) rfl (by k_mem) (by assumption) ?_ rfl rfl))) | (k_dflt (refine nameL (by k_asm) (by exact rfl) ?_ rfl rfl (by decide)); k_whole)) | walk1 | (dsimp only; walk1) | (leave1; (try dsimp only)))) <;> (try ((fail_if_success (fail_if_success k_fold)); (with_reducible refine foldQ ?_); intro zq ze)))
        refine Held.mk ?_
        refine list_item (by k_asm) (List.mem_cons_of_mem _ (List.mem_cons_of_mem _ hD)) (by (solve_by_elim (maxDepth := 5) [Nat.lt_of_lt_of_le, Nat.lt_of_le_of_lt, Nat.le_of_lt, Nat.le_trans, Nat.lt_trans, Nat.lt_succ_of_lt, Nat.lt_succ_of_le, Nat.le_succ_of_le, Nat.succ_le_of_lt, Nat.le_refl, Nat.sub_lt, Nat.sub_le, Nat.le_add_right, Nat.le_add_left, Nat.zero_le, Nat.zero_lt_succ, Nat.pos_of_ne_zero, Nat.le_of_lt_succ, Nat.ne_of_lt, Nat.ne_of_gt])) (by lia) (at_three (f := fun j => Value.ref (A.q j)) hi) ?_
        ((repeat' (first | (k_unfold; (try clear ze zq); (try dsimp only)) | (k_end; wrow_close) | walk1 | (dsimp only; walk1) | (leave1; (try dsimp only)))) <;> (try ((fail_if_success (fail_if_success k_fold)); (with_reducible refine foldQ ?_); intro zq ze)))
        refine Held.mk ?_
        refine ne_plcs (ks := S.q i) (js := []) (by k_asm) (List.mem_cons_of_mem _ (List.mem_cons_of_mem _ (List.mem_cons_self ..))) (List.mem_cons_self ..) ((hp.sub (fun k hk => (hG.q i hi k hk).1)).mono (fun r hr => List.mem_cons_of_mem _ (List.mem_cons_of_mem _ (List.mem_cons_of_mem _ (hbase r hr))))) (fun _ h => absurd h (List.not_mem_nil)) (by ktr_units) ?_
        cases hq : S.q i with
        | nil =>
          simp only [decide_true, Bool.not_true]
          ((repeat' (first | (k_unfold; (try clear ze zq); (try dsimp only)) | (k_end; wrow_close) | walk1 | (dsimp only; walk1) | (leave1; (try dsimp only)))) <;> (try ((fail_if_success (fail_if_success k_fold)); (with_reducible refine foldQ ?_); intro zq ze)))
          refine Held.mk ?_
          refine ksw_end ⟨{ S with as := as }, avs, cq, ct, ca + 1⟩ (by k_asm) (by k_asm) (fun r hr => List.mem_cons_of_mem _ (back1 (σ := ⟨S, avs ++ [.int (i : Int) ti], cq, ct, ca⟩) hi hOk r hr)) trivial (fun _ h => absurd h (List.not_mem_nil)) (by ksw_same) ?_ ?_
          · exact ⟨good_nil hG has, hA, run_step hR has (step_nil hq) (by simp only [muC]; lia)⟩
          · simp only [muC]; omega
        | cons k rq =>
          have e1 : (!decide (k :: rq = [])) = true := rfl
          rw [e1]
          have hkk := hG.q i hi k (by rw [hq]; exact List.mem_cons_self ..)
          have hrl : rq.length < 1000 := by have := hG.sz i hi; rw [hq, List.length_cons] at this; lia
          rename News _ _ _ _ => N12
          replace N12 := News.sub N12 (fun r hr => List.mem_cons_of_mem _ hr)
          rw [hq] at N12
          ((repeat' (first | (k_unfold; (try clear ze zq); (try dsimp only)) | (k_end; wrow_close) | ((fail_if_success (fail_if_success (with_reducible refine wpAny_execs_cons ?_))); ((try ((fail_if_success (fail_if_success k_fold)); (with_reducible refine foldQ ?_); intro zq ze)); (try k_gentoks); (with_reducible refine wpAny_execs_cons ?_); (try dsimp only); ((fail_if_success (fail_if_success k_fold)); (with_reducible refine foldQ ?_); intro zq ze))) | ((with_reducible show wpAny _ _ (eval (.Name _ _) _) _ _ _); first | ((k_dflt (first | refine comp_local (by k_asm) (by k_mem) (by assumption) (by assumption) ?_ rfl rfl | refine comp_localM (by k_asm) (by assumption) (by assumption) (by simp only [List.mem_append, List.mem_cons, true_or, or_true]) ?_ rfl rfl | refine lcf_cell (by k_asm) rfl (by k_mem) (by assumption) ?_ rfl rfl | refine lcf_free (by k_asm) rfl (by k_mem) (by assumption) ?_ rfl rfl))) | (k_dflt (refine nameL (by k_asm) (by exact rfl) ?_ rfl rfl (by decide)); k_whole)) | walk1 | (dsimp only; walk1) | (leave1; (try dsimp only)))) <;> (try ((fail_if_success (fail_if_success k_fold)); (with_reducible refine foldQ ?_); intro zq ze)))
          refine Held.mk ?_
          refine list_item (by k_asm) (List.mem_cons_of_mem _ (List.mem_cons_of_mem _ hD)) (by (solve_by_elim (maxDepth := 5) [Nat.lt_of_lt_of_le, Nat.lt_of_le_of_lt, Nat.le_of_lt, Nat.le_trans, Nat.lt_trans, Nat.lt_succ_of_lt, Nat.lt_succ_of_le, Nat.le_succ_of_le, Nat.succ_le_of_lt, Nat.le_refl, Nat.sub_lt, Nat.sub_le, Nat.le_add_right, Nat.le_add_left, Nat.zero_le, Nat.zero_lt_succ, Nat.pos_of_ne_zero, Nat.le_of_lt_succ, Nat.ne_of_lt, Nat.ne_of_gt])) (by lia) (at_three (f := fun j => Value.ref (A.q j)) hi) ?_
          ((repeat' (first | (k_unfold; (try clear ze zq); (try dsimp only)) | (k_end; wrow_close) | walk1 | (dsimp only; walk1) | (leave1; (try dsimp only)))) <;> (try ((fail_if_success (fail_if_success k_fold)); (with_reducible refine foldQ ?_); intro zq ze)))
          refine Held.mk ?_
          refine pop_first (y := p.v k) (vs := rq.map p.v) (n := cq i) (by k_asm) (by k_asm) (List.mem_cons_of_mem _ (List.mem_cons_self ..)) (by rw [List.length_map]; exact hrl) ?_
          intro h13 F13 N13
          replace N13 := chg_keep (l' := (A.ak, lst avs (ca + 1)) :: rest1 A i (LedC A p c 0 ((L' + 1, oc1) :: (a, lst (ks.map p.v) n) :: news) ⟨S, avs ++ [.int (i : Int) ti], cq, ct, ca⟩)) N13 (fun r hr => by
            rcases List.mem_cons.mp hr with rfl | hr
            · exact ⟨List.mem_cons_self .., (hOk.qa i hi).1.symm⟩
            · exact ⟨List.mem_cons_of_mem _ (List.mem_cons_of_mem _ hr), (rest1_ne r hr).2⟩)
          have hkn := hbase _ (hp k hkk.1).2.1
          have hj : k % 3 < 3 := Nat.mod_lt _ (by decide)
          ((repeat' (first | (k_unfold; (try clear ze zq); (try dsimp only)) | (k_end; wrow_close) | ((fail_if_success (fail_if_success (with_reducible refine wpAny_execs_cons ?_))); ((try ((fail_if_success (fail_if_success k_fold)); (with_reducible refine foldQ ?_); intro zq ze)); (try k_gentoks); (with_reducible refine wpAny_execs_cons ?_); (try dsimp only); ((fail_if_success (fail_if_success k_fold)); (with_reducible refine foldQ ?_); intro zq ze))) | ((with_reducible show wpAny _ _ (eval (.Name _ _) _) _ _ _); first | ((k_dflt (first | refine comp_local (by k_asm) (by k_mem) (by assumption) (by assumption) ?_ rfl rfl | refine comp_localM (by k_asm) (by assumption) (by assumption) (by simp only [List.mem_append, List.mem_cons, true_or, or_true]) ?_ rfl rfl | refine lcf_cell (by k_asm) rfl (by k_mem) (by assumption) ?_ rfl rfl | refine lcf_free (by k_asm) rfl (by k_mem) (by assumption) ?_ rfl rfl))) | (k_dflt (refine nameL (by k_asm) (by exact rfl) ?_ rfl rfl (by decide)); k_whole)) | ((with_reducible show wpAny _ _ (subscriptTail (.Name _ _) (.Constant _ _ _) (.ref _) (.int _ _)) _ _ _); ((first | refine tup_item (by k_asm) (mem_up hkn (by (intro q hq; (try dsimp only); repeat (first | exact hq | apply List.mem_append_right | apply List.mem_cons_of_mem)))) (by decide) (by decide) rfl ?_ | refine tup_item (by k_asm) (mem_up hkn2 (by (intro q hq; (try dsimp only); repeat (first | exact hq | apply List.mem_append_right | apply List.mem_cons_of_mem)))) (by decide) (by decide) rfl ?_ | refine list_item (by k_asm) (mem_up hkl (by (intro q hq; (try dsimp only); repeat (first | exact hq | apply List.mem_append_right | apply List.mem_cons_of_mem)))) (by decide) (by decide) rfl ?_))) | walk1 | (dsimp only; walk1) | (leave1; (try dsimp only)))) <;> (try ((fail_if_success (fail_if_success k_fold)); (with_reducible refine foldQ ?_); intro zq ze)))
          refine Held.mk ?_
          refine list_item (by k_asm) (List.mem_cons_of_mem _ (List.mem_cons_of_mem _ hTr)) (by (solve_by_elim (maxDepth := 5) [Nat.lt_of_lt_of_le, Nat.lt_of_le_of_lt, Nat.le_of_lt, Nat.le_trans, Nat.lt_trans, Nat.lt_succ_of_lt, Nat.lt_succ_of_le, Nat.le_succ_of_le, Nat.succ_le_of_lt, Nat.le_refl, Nat.sub_lt, Nat.sub_le, Nat.le_add_right, Nat.le_add_left, Nat.zero_le, Nat.zero_lt_succ, Nat.pos_of_ne_zero, Nat.le_of_lt_succ, Nat.ne_of_lt, Nat.ne_of_gt])) (by lia) (at_three (f := fun j => Value.ref (A.t j)) hj) ?_
          ((repeat' (first | (k_unfold; (try clear ze zq); (try dsimp only)) | (k_end; wrow_close) | ((fail_if_success (fail_if_success (with_reducible refine wpAny_execs_cons ?_))); ((try ((fail_if_success (fail_if_success k_fold)); (with_reducible refine foldQ ?_); intro zq ze)); (try k_gentoks); (with_reducible refine wpAny_execs_cons ?_); (try dsimp only); ((fail_if_success (fail_if_success k_fold)); (with_reducible refine foldQ ?_); intro zq ze))) | ((with_reducible show wpAny _ _ (eval (.Name _ _) _) _ _ _); first | ((k_dflt (first | refine comp_local (by k_asm) (by k_mem) (by assumption) (by assumption) ?_ rfl rfl | refine comp_localM (by k_asm) (by assumption) (by assumption) (by simp only [List.mem_append, List.mem_cons, true_or, or_true]) ?_ rfl rfl | refine lcf_cell (by k_asm) rfl (by k_mem) (by assumption) ?_ rfl rfl | refine lcf_free (by k_asm) rfl (by k_mem) (by assumption) ?_ rfl rfl))) | (k_dflt (refine nameL (by k_asm) (by exact rfl) ?_ rfl rfl (by decide)); k_whole)) | walk1 | (dsimp only; walk1) | (leave1; (try dsimp only)))) <;> (try ((fail_if_success (fail_if_success k_fold)); (with_reducible refine foldQ ?_); intro zq ze)))
          rename News _ _ _ _ => N14
          replace N14 := open2 (j := k % 3) (rest1_in (A := A) (i := i) (LedC.t (A := A) (p := p) (c := c) (d := 0) (base := (L' + 1, oc1) :: (a, lst (ks.map p.v) n) :: news) (σ := ⟨S, avs ++ [.int (i : Int) ti], cq, ct, ca⟩) hj) (hOk.ta _ hj).1 (hOk.qt i _ hi hj).symm) N14
          dsimp only at N14
          have hbase2 : ∀ r ∈ news, r ∈ (A.q i, lst (rq.map p.v) (cq i + 1)) :: (A.ak, lst avs (ca + 1)) :: rest2 A (k % 3) (rest1 A i (LedC A p c 0 ((L' + 1, oc1) :: (a, lst (ks.map p.v) n) :: news) ⟨S, avs ++ [.int (i : Int) ti], cq, ct, ca⟩)) := fun r hr =>
            List.mem_cons_of_mem _ (List.mem_cons_of_mem _ (rest2_in (hbase r hr) (hOk.b r (List.mem_cons_of_mem _ (List.mem_cons_of_mem _ hr)) _ hj).2.1))
          have hne2 : ∀ r ∈ (A.q i, lst (rq.map p.v) (cq i + 1)) :: (A.ak, lst avs (ca + 1)) :: rest2 A (k % 3) (rest1 A i (LedC A p c 0 ((L' + 1, oc1) :: (a, lst (ks.map p.v) n) :: news) ⟨S, avs ++ [.int (i : Int) ti], cq, ct, ca⟩)), r.1 ≠ A.t (k % 3) := by
            intro r hr
            rcases List.mem_cons.mp hr with rfl | hr
            · exact hOk.qt i _ hi hj
            · rcases List.mem_cons.mp hr with rfl | hr
              · exact (hOk.ta _ hj).1.symm
              · exact rest2_ne r hr
          have h1t := hG.one _ hj
          have hC := insr_key (w := w) (mean := mean) (mg := mg) (mb := mb) (val := p.v) (key := p.lev) (l := S.t (k % 3)) (y := k) (a := A.t (k % 3)) (ad := p.ad k) (c := ct (k % 3)) (n := 0) (t := p.t0 k)
            (keyed_plc ((hp.sub (fun x hx => (hG.t _ hj x hx).1)).mono hbase2)) (sorted_short (by rw [List.length_map]; exact h1t)) (by lia) hne2 rfl (hbase2 _ (hp k hkk.1).2.1)
          ((refine Held.mk ?_); (first | refine' Does.use hC ?k1 ?k2 ?k3 ?k4 ?k5 ?kK ?kd ?ku ?_ | refine' Does.use (hC _) ?k1 ?k2 ?k3 ?k4 ?k5 ?kK ?kd ?ku ?_); ((case k1 => k_asm)); ((case k2 => k_asm)); ((case k3 => k_asm)); ((case k4 => k_asm)); ((case k5 => k_asm)); ((case kK => first | exact rfl | assumption)); ((case kd => ktr_room)); ((case ku => ktr_units)); (clear hC); (intro r9 news9 h9 tk9 F9 N9 ho9); ((try dsimp only at ho9)))
          obtain ⟨ev, e2⟩ := ho9
          subst ev e2
          have hin : ∀ x ∈ S.t (k % 3), x ∈ ks ∧ x % 3 = k % 3 := fun x hx => hG.t _ hj x hx
          rcases short_cases h1t with hT | ⟨x, hT⟩
          · have hins : insR p.lev k (S.t (k % 3)) = [k] := by rw [hT]; rfl
            rw [hins] at N9
            have hmu : muC ⟨put S.q i rq, put S.t (k % 3) [k], as⟩ < muC S := by
              have := muC_put (as := as) (t := put S.t (k % 3) [k]) hi hq
              lia
            ((repeat' (first | (k_unfold; (try clear ze zq); (try dsimp only)) | (k_end; wrow_close) | ((fail_if_success (fail_if_success (with_reducible refine wpAny_execs_cons ?_))); ((try ((fail_if_success (fail_if_success k_fold)); (with_reducible refine foldQ ?_); intro zq ze)); (try k_gentoks); (with_reducible refine wpAny_execs_cons ?_); (try dsimp only); ((fail_if_success (fail_if_success k_fold)); (with_reducible refine foldQ ?_); intro zq ze))) | ((with_reducible show wpAny _ _ (eval (.Name _ _) _) _ _ _); first | ((k_dflt (first | refine comp_local (by k_asm) (by k_mem) (by assumption) (by assumption) ?_ rfl rfl | refine comp_localM (by k_asm) (by assumption) (by assumption) (by simp only [List.mem_append, List.mem_cons, true_or, or_true]) ?_ rfl rfl | refine lcf_cell (by k_asm) rfl (by k_mem) (by assumption) ?_ rfl rfl | refine lcf_free (by k_asm) rfl (by k_mem) (by assumption) ?_ rfl rfl))) | (k_dflt (refine nameL (by k_asm) (by exact rfl) ?_ rfl rfl (by decide)); k_whole)) | ((with_reducible show wpAny _ _ (call (.builtin "len") [.ref _]) _ _ _); (k_dflt (refine kx_len (by k_asm) (by first | assumption | k_mem) (by omega) ?_); intro _ _)) | walk1 | (dsimp only; walk1) | (leave1; (try dsimp only)))) <;> (try ((fail_if_success (fail_if_success k_fold)); (with_reducible refine foldQ ?_); intro zq ze)))
            refine Held.mk ?_
            refine ksw_end ⟨⟨put S.q i rq, put S.t (k % 3) [k], as⟩, avs, updN cq i (cq i + 1), updN ct (k % 3) (ct (k % 3) + 1), ca + 1⟩ (by k_asm) (by k_asm) (fun r hr => back3 (back2 (σ := ⟨S, avs ++ [.int (i : Int) ti], cq, ct, ca⟩) hi hj hOk r hr)) trivial (fun _ h => absurd h (List.not_mem_nil)) (by ksw_same) ?_ ?_
            · refine ⟨good_put hG hi has hq (fun x hx => ?_) (Nat.le_refl _) (.inl rfl), hA, run_step hR has (step_one hq hins) hmu⟩
              rw [List.mem_singleton.mp hx]
              exact ⟨hkk.1, rfl⟩
            · exact hmu
          · obtain ⟨u1, v1, hins', hu1, hv1⟩ := insR_two (lev := p.lev) (k := k) (x := x)
            have hins : insR p.lev k (S.t (k % 3)) = [u1, v1] := by rw [hT]; exact hins'
            have hx := hin x (by rw [hT]; exact List.mem_singleton.mpr rfl)
            have hu : u1 ∈ ks ∧ u1 % 3 = k % 3 := by rcases hu1 with rfl | rfl <;> first | exact hx | exact ⟨hkk.1, rfl⟩
            have hv : v1 ∈ ks ∧ v1 % 3 = k % 3 := by rcases hv1 with rfl | rfl <;> first | exact hx | exact ⟨hkk.1, rfl⟩
            rw [hins] at N9
            clear hkn
            have hkn := hbase2 _ (hp u1 hu.1).2.1
            ((repeat' (first | (k_unfold; (try clear ze zq); (try dsimp only)) | (k_end; wrow_close) | ((fail_if_success (fail_if_success (with_reducible refine wpAny_execs_cons ?_))); ((try ((fail_if_success (fail_if_success k_fold)); (with_reducible refine foldQ ?_); intro zq ze)); (try k_gentoks); (with_reducible refine wpAny_execs_cons ?_); (try dsimp only); ((fail_if_success (fail_if_success k_fold)); (with_reducible refine foldQ ?_); intro zq ze))) | ((with_reducible show wpAny _ _ (eval (.Name _ _) _) _ _ _); first | ((k_dflt (first | refine comp_local (by k_asm) (by k_mem) (by assumption) (by assumption) ?_ rfl rfl | refine comp_localM (by k_asm) (by assumption) (by assumption) (by simp only [List.mem_append, List.mem_cons, true_or, or_true]) ?_ rfl rfl | refine lcf_cell (by k_asm) rfl (by k_mem) (by assumption) ?_ rfl rfl | refine lcf_free (by k_asm) rfl (by k_mem) (by assumption) ?_ rfl rfl))) | (k_dflt (refine nameL (by k_asm) (by exact rfl) ?_ rfl rfl (by decide)); k_whole)) | ((with_reducible show wpAny _ _ (call (.builtin "len") [.ref _]) _ _ _); (k_dflt (refine kx_len (by k_asm) (by first | assumption | k_mem) (by omega) ?_); intro _ _)) | walk1 | (dsimp only; walk1) | (leave1; (try dsimp only)))) <;> (try ((fail_if_success (fail_if_success k_fold)); (with_reducible refine foldQ ?_); intro zq ze)))
            refine Held.mk ?_
            have hmu : muC ⟨put S.q i rq, put S.t (k % 3) [v1], as ++ [u1 / 3]⟩ < muC S := by
              have := muC_put (as := as ++ [u1 / 3]) (t := put S.t (k % 3) [v1]) hi hq
              rw [List.length_append, List.length_singleton] at this
              lia
            refine pop_first (y := p.v u1) (vs := [p.v v1]) (by k_asm) (by k_asm) (List.mem_cons_self ..) (by show 1 < 1000; decide) ?_
            intro h15 F15 N15
            replace N15 := chg_keep (l' := (A.q i, lst (rq.map p.v) (cq i + 1)) :: (A.ak, lst avs (ca + 1)) :: rest2 A (k % 3) (rest1 A i (LedC A p c 0 ((L' + 1, oc1) :: (a, lst (ks.map p.v) n) :: news) ⟨S, avs ++ [.int (i : Int) ti], cq, ct, ca⟩))) N15 (fun r hr => ⟨List.mem_cons_of_mem _ hr, hne2 r hr⟩)
            ((repeat' (first | (k_unfold; (try clear ze zq); (try dsimp only)) | (k_end; wrow_close) | ((with_reducible show wpAny _ _ (subscriptTail (.Name _ _) (.Constant _ _ _) (.ref _) (.int _ _)) _ _ _); ((first | refine tup_item (by k_asm) (mem_up hkn (by (intro q hq; (try dsimp only); repeat (first | exact hq | apply List.mem_append_right | apply List.mem_cons_of_mem)))) (by decide) (by decide) rfl ?_ | refine tup_item (by k_asm) (mem_up hkn2 (by (intro q hq; (try dsimp only); repeat (first | exact hq | apply List.mem_append_right | apply List.mem_cons_of_mem)))) (by decide) (by decide) rfl ?_ | refine list_item (by k_asm) (mem_up hkl (by (intro q hq; (try dsimp only); repeat (first | exact hq | apply List.mem_append_right | apply List.mem_cons_of_mem)))) (by decide) (by decide) rfl ?_))) | walk1 | (dsimp only; walk1) | (leave1; (try dsimp only)))) <;> (try ((fail_if_success (fail_if_success k_fold)); (with_reducible refine foldQ ?_); intro zq ze)))
            refine Held.mk ?_
            refine app_end (vs := avs) (by k_asm) (by k_asm) (List.mem_cons_of_mem _ (List.mem_cons_of_mem _ (List.mem_cons_self ..))) hal ?_
            intro h16 cn16 F16 N16
            replace N16 := chg_keep (l' := (A.t (k % 3), lst [p.v v1] (ct (k % 3) + 1 + 1)) :: (A.q i, lst (rq.map p.v) (cq i + 1)) :: rest2 A (k % 3) (rest1 A i (LedC A p c 0 ((L' + 1, oc1) :: (a, lst (ks.map p.v) n) :: news) ⟨S, avs ++ [.int (i : Int) ti], cq, ct, ca⟩))) N16 (fun r hr => by
              rcases List.mem_cons.mp hr with rfl | hr
              · exact ⟨List.mem_cons_self .., (hOk.ta _ hj).1⟩
              · rcases List.mem_cons.mp hr with rfl | hr
                · exact ⟨List.mem_cons_of_mem _ (List.mem_cons_self ..), (hOk.qa i hi).1⟩
                · exact ⟨List.mem_cons_of_mem _ (List.mem_cons_of_mem _ (List.mem_cons_of_mem _ hr)), (rest1_ne r (rest2_sub r hr)).1⟩)
            ((repeat' (first | (k_unfold; (try clear ze zq); (try dsimp only)) | (k_end; wrow_close) | walk1 | (dsimp only; walk1) | (leave1; (try dsimp only)))) <;> (try ((fail_if_success (fail_if_success k_fold)); (with_reducible refine foldQ ?_); intro zq ze)))
            refine Held.mk ?_
            refine ksw_end ⟨⟨put S.q i rq, put S.t (k % 3) [v1], as ++ [u1 / 3]⟩, avs ++ [.int ((u1 / 3 : Nat) : Int) (p.t1 u1)], updN cq i (cq i + 1), updN ct (k % 3) (ct (k % 3) + 1 + 1), cn16⟩ (by k_asm) (by k_asm) (fun r hr => back4 (back2 (σ := ⟨S, avs ++ [.int (i : Int) ti], cq, ct, ca⟩) hi hj hOk r hr)) trivial (fun _ h => absurd h (List.not_mem_nil)) (by ksw_same) ?_ ?_
            · have hu3 : u1 / 3 < 3 := by have := (hp u1 hu.1).1; lia
              refine ⟨good_put hG hi has hq (fun x hx => ?_) (Nat.le_refl _) (.inr ⟨u1 / 3, hu3, rfl⟩), ?_, run_step hR has (step_two hq hins) hmu⟩
              · rw [List.mem_singleton.mp hx]
                exact hv
              · dsimp only
                rw [List.map_append]
                exact hA.append (.cons _ _ .nil)
            · exact hmu
-- B8
theorem rstB8 : True := by
  w_top off
  trivial
set_option maxHeartbeats 10000000
local macro_rules | `(tactic| walk_at "memk") => `(tactic| (with_reducible first | exact List.mem_cons_self | (refine List.mem_cons_of_mem _ ?_; walk_at "memk") | (refine List.mem_append_right _ ?_; walk_at "memk")))
local macro_rules | `(tactic| walk_at "subt") => `(tactic| (with_reducible first | exact sub_self | exact sub_lf | (refine sub_tl ?_; walk_at "subt") | (refine sub_tr ?_; walk_at "subt")))
local macro_rules | `(tactic| walk_at "subs") => `(tactic| (first | (with_reducible exact sub_nil) | ((with_reducible refine sub_cons ?_ ?_); (focus (walk_at "memk")); walk_at "subs") | walk_at "subt" | ((with_reducible refine sub_app ?_ ?_); (focus (walk_at "subt")); walk_at "subs")))
local macro_rules | `(tactic| walk_at "subscriptTail Name Slice ref ref") => `(tactic| with_reducible refine hSl ?_)
section
local macro_rules | `(tactic| walk_at "storeName") => `(tactic| with_reducible refine hSt ?_)
inductive QFun : Addr → Addr → Addr → Nat → Nat → Nat → Prop
  | mk (qa : Nat → Addr) (qc : Nat → Nat) : QFun (qa 0) (qa 1) (qa 2) (qc 0) (qc 1) (qc 2)
theorem qFun (q0 q1 q2 : Addr) (c0 c1 c2 : Nat) : QFun q0 q1 q2 c0 c1 c2 := QFun.mk (fun j => match j with | 0 => q0 | 1 => q1 | _ => q2) (fun j => match j with | 0 => c0 | 1 => c1 | _ => c2)
theorem stay {w : World} {mean : ExcName → Option Value} {mg mb : Str → Option Value} {news : List (Addr × Obj)} {p : Plc} {ks : List Nat} {a : Addr} {n : Nat}
    (hp : p.In ks news) (hl : ks.length ≤ 9) :
    Does w mean mg mb 20 146 [.ref a] [] ((a, lst (ks.map p.v) n) :: news) (fun r news' => ∃ D c, r = .ref D ∧ news' = (D, lst ((stayF p.lev 10 ks).map p.v) c) :: (a, lst (ks.map p.v) n) :: news) := by
  have hsl : sizeLine = 2 ^ 24 := by decide
  ((unfold Does); (intro dp un gd cn cs fa ccd cl outer A₀ base h₀ L m s Q E B F X N T hk hdp hun hret); (refine wpAny_call ?_); (k_dflt (refine' code_defC ?k1 ?k2 ?k3 ?k4 ?k5 ?kA ?kF ?kK ?k6 ?k7 ?k8 ?k9 ?kB ?kD ?_ ?c2 ?c3 ?c4; (case kA => exact rfl); (case kF => exact rfl); (case kK => assumption); (case k1 => k_asm); (case k2 => k_asm); (case k3 => k_asm); (case k4 => k_asm); (case k5 => k_asm); (case k6 => k_is); (case k7 => k_is); (case k8 => ktr_room); (case k9 => exact BindsTo.of_eq rfl); (case kB => exact rfl); (case kD => decide +kernel); (case c2 => exact rfl); (case c3 => exact rfl); (case c4 => exact rfl); k_whole; intro g' L' h' tk' cells' FG' F' N' Y' B' X' T' l1; (try k_lt l1); (have hY := PyProof.Rows.CellsAre.three Y'; obtain ⟨oc1, oc2, oc3, hE1, dc1, dc2, dc3⟩ := hY; subst hE1; clear Y'); (try simp only [List.cons_append, List.nil_append] at N'); (try dsimp only); (try k_lift B'));); ((refine wpAny_noRaise ?_); (try k_fold)))
  have hc1 : oc1.data = .cell none := dc1.trans (by with_unfolding_all rfl)
  have hc2 : oc2.data = .cell none := dc2.trans (by with_unfolding_all rfl)
  have hc3 : oc3.data = .cell none := dc3.trans (by with_unfolding_all rfl)
  clear dc1 dc2 dc3
  have hbase : ∀ r ∈ (a, lst (ks.map p.v) n) :: news, r.1 < L' := fun r hr => by
    rcases List.mem_cons.mp hr with rfl | hr
    · exact l1.1
    · exact kst_ltOf l1.2 r hr
  have hoff := off3_below hbase
  ((repeat' (first | (k_unfold; (try clear ze zq); (try dsimp only)) | (k_end; wrow_close) | ((fail_if_success (fail_if_success (with_reducible refine wpAny_execs_cons ?_))); ((try ((fail_if_success (fail_if_success k_fold)); (with_reducible refine foldQ ?_); intro zq ze)); (try k_gentoks); (with_reducible refine wpAny_execs_cons ?_); (try dsimp only); ((fail_if_success (fail_if_success k_fold)); (with_reducible refine foldQ ?_); intro zq ze))) | ((with_reducible show wpAny _ _ (eval (.Name _ _) _) _ _ _); first | ((k_dflt (first | refine comp_local (by k_asm) (by k_mem) (by assumption) (by assumption) ?_ rfl rfl | refine comp_localM (by k_asm) (by assumption) (by assumption) (by simp only [List.mem_append, List.mem_cons, true_or, or_true]) ?_ rfl rfl | refine lcf_cell (by k_asm) rfl (by k_mem) (by assumption) ?_ rfl rfl | refine lcf_free (by k_asm) rfl (by k_mem) (by assumption) ?_ rfl rfl))) | (k_dflt (refine nameL (by k_asm) (by exact rfl) ?_ rfl rfl (by decide)); k_whole)) | walk1 | (dsimp only; walk1) | (leave1; (try dsimp only)))) <;> (try ((fail_if_success (fail_if_success k_fold)); (with_reducible refine foldQ ?_); intro zq ze)))
  refine Held.mk ?_
  k_dflt (refine' kmk_slice_lit (zs := ks.map p.v) ?sF ?sN ?sl ?sp ?sq ?se ?_ ?ss ?st ?sz; (case sF => k_asm); (case sN => k_asm); (case sl => kmk_list); (case sp => kmk_part); (case sq => kmk_part); (case se => exact slice_all _); (case ss => with_unfolding_all rfl); (case st => kmk_pure); (case sz => rw [List.size_toArray, List.length_map]; lia))
  intro la h8 F8 N8 l8
  (try k_lt l8)
  ((repeat' (first | (k_unfold; (try clear ze zq); (try dsimp only)) | (k_end; wrow_close) | walk1 | (dsimp only; walk1) | (leave1; (try dsimp only)))) <;> (try ((fail_if_success (fail_if_success k_fold)); (with_reducible refine foldQ ?_); intro zq ze)))
  rename_i lb h_1 l1_1 lc h_2 l1_2 tD h_3 l1_3 h_4 F_4 N_4
  have hro : Off3 L' ((lc, lst [] 0) :: (lb, lst [.none] 0) :: (la, lst (ks.map p.v) 0) :: (a, lst (ks.map p.v) n) :: news) :=
    .cons l1_2.2.2.1 (.cons l1_1.2.1 (.cons l8.1 hoff))
  refine Held.mk ?_
  refine store_cell (by k_asm) N_4 rfl (by k_mem) hc3 ?_
  intro h9 o1 F9 N9 d1
  replace N9 := st3_1 (o1 := oc3) (o2 := oc2) (o3 := oc1) (rest := (lc, lst [] 0) :: (lb, lst [.none] 0) :: (la, lst (ks.map p.v) 0) :: (a, lst (ks.map p.v) n) :: news) hro (by intro r hr; simp only [St3, List.mem_cons] at hr ⊢; grind) N9
  clear N_4
  ((repeat' (first | (k_unfold; (try clear ze zq); (try dsimp only)) | (k_end; wrow_close) | walk1 | (dsimp only; walk1) | (leave1; (try dsimp only)))) <;> (try ((fail_if_success (fail_if_success k_fold)); (with_reducible refine foldQ ?_); intro zq ze)))
  refine Held.mk ?_
  refine store_cell (by k_asm) N9 rfl St3.c2 hc2 ?_
  intro h10 o2 F10 N10 d2
  replace N10 := st3_2 hro (fun _ h => h) N10
  clear N9
  ((repeat' (first | (k_unfold; (try clear ze zq); (try dsimp only)) | (k_end; wrow_close) | walk1 | (dsimp only; walk1) | (leave1; (try dsimp only)))) <;> (try ((fail_if_success (fail_if_success k_fold)); (with_reducible refine foldQ ?_); intro zq ze)))
  refine Held.mk ?_
  refine store_cell (by k_asm) N10 rfl St3.c3 hc1 ?_
  intro h11 o3 F11 N11 d3
  replace N11 := st3_3 hro (fun _ h => h) N11
  clear N10
  ((repeat' (first | (k_unfold; (try clear ze zq); (try dsimp only)) | (k_end; wrow_close) | ((fail_if_success (fail_if_success (with_reducible refine wpAny_execs_cons ?_))); ((try ((fail_if_success (fail_if_success k_fold)); (with_reducible refine foldQ ?_); intro zq ze)); (try k_gentoks); (with_reducible refine wpAny_execs_cons ?_); (try dsimp only); ((fail_if_success (fail_if_success k_fold)); (with_reducible refine foldQ ?_); intro zq ze))) | walk1 | (dsimp only; walk1) | (leave1; (try dsimp only)))) <;> (try ((fail_if_success (fail_if_success k_fold)); (with_reducible refine foldQ ?_); intro zq ze)))
  have hla : L' + 1 + 1 + 1 < la := l8.1
  have hlb : L' + 1 + 1 + 1 < lb := l1_1.2.1
  have hlc : L' + 1 + 1 + 1 < lc := l1_2.2.2.1
  refine Held.mk ?_
  with_unfolding_all
    refine' ksw_while (σ := SS) (LedS L' p ((a, lst (ks.map p.v) n) :: news)) (fun _ => []) (fun _ => True) [Str.ofString "rows"]
      (fun σ => GoodS L' ks σ ∧ RunS p.lev ks σ) muS ⟨ks, [], none, la, lb, lc, 0, 0, 0, o1, o2, o3⟩ (by k_asm) (by exact N11) trivial ?ps ?P ?turn ?hE
  case hE => exact PassesOwn.never
  case ps => exact fun _ h => absurd h (List.not_mem_nil)
  case P => exact ⟨⟨d1, d2, d3, hla, hlb, hlc, fun _ h => h, (fun _ h => absurd h (List.not_mem_nil)), (fun l h => by cases h), hl, Nat.zero_le _⟩, (fun h => by cases h), fun _ => ⟨10, by dsimp only; lia, rfl⟩⟩
  clear d1 d2 d3 hla hlb hlc N11 F11 F10 F9 hro
  case turn =>
    rintro ⟨left, low, bt, la, lb, lc, ca, cb, cc, o1, o2, o3⟩ u h9 tk9 _ ⟨hG, hR⟩ F9 N9
    obtain ⟨d1, d2, d3, ha1, ha2, ha3, hleft, hlow, hbt, hn1, hn2⟩ := hG
    dsimp only [kstB] at hR F9 d1 d2 d3 ha1 ha2 ha3 hleft hlow hbt hn1 hn2
    unfold LedS St3 at N9
    dsimp only at N9
    ((repeat' (first | (k_unfold; (try clear ze zq); (try dsimp only)) | (k_end; wrow_close) | ((with_reducible show wpAny _ _ (eval (.Name _ _) _) _ _ _); first | ((k_dflt (first | refine comp_local (by k_asm) (by k_mem) (by assumption) (by assumption) ?_ rfl rfl | refine comp_localM (by k_asm) (by assumption) (by assumption) (by simp only [List.mem_append, List.mem_cons, true_or, or_true]) ?_ rfl rfl | refine lcf_cell (by k_asm) rfl (by k_mem) (by assumption) ?_ rfl rfl | refine lcf_free (by k_asm) rfl (by k_mem) (by assumption) ?_ rfl rfl))) | (k_dflt (refine nameL (by k_asm) (by exact rfl) ?_ rfl rfl (by decide)); k_whole)) | walk1 | (dsimp only; walk1) | (leave1; (try dsimp only)))) <;> (try ((fail_if_success (fail_if_success k_fold)); (with_reducible refine foldQ ?_); intro zq ze)))
    refine Held.mk ?_
    refine ne_bvals (bt := bt) (c := cb) (by k_asm) (by k_mem) (List.mem_cons_self ..) (fun l hbl => (hp.sub (hbt l hbl)).mono (by (intro q hq; (try dsimp only); repeat (first | exact hq | apply List.mem_append_right | apply List.mem_cons_of_mem)))) (by ktr_units) ?_
    by_cases hb : bt = some []
    · have e0 : (!decide (bt = some [])) = false := by rw [hb]; rfl
      rw [e0]
      ((repeat' (first | (k_unfold; (try clear ze zq); (try dsimp only)) | (k_end; wrow_close) | ((fail_if_success (fail_if_success (with_reducible refine wpAny_execs_cons ?_))); ((try ((fail_if_success (fail_if_success k_fold)); (with_reducible refine foldQ ?_); intro zq ze)); (try k_gentoks); (with_reducible refine wpAny_execs_cons ?_); (try dsimp only); ((fail_if_success (fail_if_success k_fold)); (with_reducible refine foldQ ?_); intro zq ze))) | ((with_reducible show wpAny _ _ (eval (.Name _ _) _) _ _ _); first | ((k_dflt (first | refine comp_local (by k_asm) (by k_mem) (by assumption) (by assumption) ?_ rfl rfl | refine comp_localM (by k_asm) (by assumption) (by assumption) (by simp only [List.mem_append, List.mem_cons, true_or, or_true]) ?_ rfl rfl | refine lcf_cell (by k_asm) rfl (by k_mem) (by assumption) ?_ rfl rfl | refine lcf_free (by k_asm) rfl (by k_mem) (by assumption) ?_ rfl rfl))) | (k_dflt (refine nameL (by k_asm) (by exact rfl) ?_ rfl rfl (by decide)); k_whole)) | walk1 | (dsimp only; walk1) | (leave1; (try dsimp only)))) <;> (try ((fail_if_success (fail_if_success k_fold)); (with_reducible refine foldQ ?_); intro zq ze)))
      have hlo := hR.1 hb
      dsimp only at hlo
      subst hlo
      exact hret (.ref lc) ((lc, lst ((stayF p.lev 10 ks).map p.v) cc) :: (a, lst (ks.map p.v) n) :: news) _ _ (by k_asm) (News.sub (by k_asm) (by (first | ((try unfold St3); (try dsimp only); walk_at "subs") | (intro r hr; (try unfold St3 at hr); (try dsimp only at hr ⊢); (repeat (rcases List.mem_cons.mp hr with rfl | hr; focus (simp only [List.mem_cons, List.mem_append, eq_self, true_or, or_true]))); (repeat (first | exact hr | exact absurd hr List.not_mem_nil | apply List.mem_append_right | apply List.mem_cons_of_mem)))))) ⟨lc, cc, rfl, rfl⟩
    · have e0 : (!decide (bt = some [])) = true := by simp [hb]
      rw [e0]
      ((repeat' (first | (k_unfold; (try clear ze zq); (try dsimp only)) | (k_end; wrow_close) | ((fail_if_success (fail_if_success (with_reducible refine wpAny_execs_cons ?_))); ((try ((fail_if_success (fail_if_success k_fold)); (with_reducible refine foldQ ?_); intro zq ze)); (try k_gentoks); (with_reducible refine wpAny_execs_cons ?_); (try dsimp only); ((fail_if_success (fail_if_success k_fold)); (with_reducible refine foldQ ?_); intro zq ze))) | walk1 | (dsimp only; walk1) | (leave1; (try dsimp only)))) <;> (try ((fail_if_success (fail_if_success k_fold)); (with_reducible refine foldQ ?_); intro zq ze)))
      ((refine' comp_cellA (h₀ := g') ?hsw ?hL ?hy ?hp ?hclos ?hcf ?hpc ?hkind ?hnames ?hx ?_ ?hs); ((case hsw => with_unfolding_all rfl)); ((case hL => rfl)); ((case hy => rfl)); ((case hp => rfl)); ((case hclos => rfl)); ((case hcf => exact fun _ _ => rfl)); ((case hpc => exact fun _ => rfl)); ((case hkind => rfl)); ((case hnames => decide)); ((case hx => rfl)); ((case hs => intro _; rfl)))
      ((repeat' (first | (k_unfold; (try clear ze zq); (try dsimp only)) | (k_end; wrow_close) | ((with_reducible show wpAny _ _ (eval (.Name _ _) _) _ _ _); first | ((k_dflt (first | refine comp_local (by k_asm) (by k_mem) (by assumption) (by assumption) ?_ rfl rfl | refine comp_localM (by k_asm) (by assumption) (by assumption) (by simp only [List.mem_append, List.mem_cons, true_or, or_true]) ?_ rfl rfl | refine lcf_cell (by k_asm) rfl (by k_mem) (by assumption) ?_ rfl rfl | refine lcf_free (by k_asm) rfl (by k_mem) (by assumption) ?_ rfl rfl))) | (k_dflt (refine nameL (by k_asm) (by exact rfl) ?_ rfl rfl (by decide)); k_whole)) | walk1 | (dsimp only; walk1) | (leave1; (try dsimp only)))) <;> (try ((fail_if_success (fail_if_success k_fold)); (with_reducible refine foldQ ?_); intro zq ze)))
      refine Held.mk ?_
      refine compAt_range (fun i ys extra => ∃ qs : List (Addr × Nat), qs.length = i ∧ ys = qs.map (fun q => .ref q.1) ∧ extra = qs.zipIdx.map (fun q => (q.1.1, lst ((left.filter (fun k => k / 3 = q.2)).map p.v) q.1.2)))
        rfl (by assumption) (by decide) (n := 3) (by decide) (by decide) (by k_asm) (by k_asm) ⟨[], rfl, rfl, rfl⟩ ?turn ?done
      case turn =>
        rintro C D I oI i t' ys c extra pl own h tk E' hi hI0_ hI1_
        refine glet3 ys extra pl ?_
        intro gl_
        obtain ⟨qs, hqs, rfl, rfl⟩ := hI0_
        obtain ⟨o, om, oc, rfl, hns, hoc⟩ := hI1_
        k_unfold
        clear gl_
        intro hown F10 N10
        try ((fail_if_success (fail_if_success k_fold)); (with_reducible refine foldQ ?_); intro zq ze)
        ((repeat' (first | (k_unfold; (try clear ze zq); (try dsimp only)) | (k_end; wrow_close) | walk1 | (dsimp only; walk1) | (leave1; (try dsimp only)))) <;> (try ((fail_if_success (fail_if_success k_fold)); (with_reducible refine foldQ ?_); intro zq ze)))
        ((refine Held.mk ?_); (refine' comp_plain (h₀ := g') (L := L') ?hclos ?hcell ?hkind ?hnames ?hx ?_ ?hs); ((case hclos => rfl)); ((case hcell => decide)); ((case hkind => rfl)); ((case hnames => decide)); ((case hx => rfl)); ((case hs => intro _; rfl)))
        ((repeat' (first | (k_unfold; (try clear ze zq); (try dsimp only)) | (k_end; wrow_close) | ((with_reducible show wpAny _ _ (eval (.Name _ _) _) _ _ _); first | ((k_dflt (first | refine comp_local (by k_asm) (by k_mem) (by assumption) (by assumption) ?_ rfl rfl | refine comp_localM (by k_asm) (by assumption) (by assumption) (by simp only [List.mem_append, List.mem_cons, true_or, or_true]) ?_ rfl rfl | refine lcf_cell (by k_asm) rfl (by k_mem) (by assumption) ?_ rfl rfl | refine lcf_free (by k_asm) rfl (by k_mem) (by assumption) ?_ rfl rfl))) | (k_dflt (refine nameL (by k_asm) (by exact rfl) ?_ rfl rfl (by decide)); k_whole)) | walk1 | (dsimp only; walk1) | (leave1; (try dsimp only)))) <;> (try ((fail_if_success (fail_if_success k_fold)); (with_reducible refine foldQ ?_); intro zq ze)))
        refine Held.mk ?_
        refine' compAt_list (vs := left.map p.v) (fun i2 ys extra => ys = ((left.take i2).filter (fun k => k / 3 = i)).map p.v ∧ extra = []) rfl ?hm ?hsz ?hF ?hN ⟨rfl, rfl⟩ ?turn2 ?done2
        (((case hF => k_asm)); ((case hN => k_asm)); ((case hm => k_mem)))
        case hsz => rw [List.length_map]; lia
        case turn2 =>
          rintro C2 D2 I2 oI2 i2 v2 ys2 c2 extra2 pl2 own2 h10 tk10 E2 hv2 hI0_ hI1_
          refine glet4 v2 ys2 extra2 pl2 ?_
          intro gl_
          obtain ⟨rfl, rfl⟩ := hI0_
          obtain ⟨o2, om2, rfl, hns2, hm2⟩ := hI1_
          obtain ⟨k, hk, hkm, rfl⟩ := map_at hv2
          k_unfold
          clear gl_
          intro hown2 F11 N11
          try ((fail_if_success (fail_if_success k_fold)); (with_reducible refine foldQ ?_); intro zq ze)
          have hkn := (hp k (hleft k hkm)).2.1
          ((repeat' (first | (k_unfold; (try clear ze zq); (try dsimp only)) | (k_end; wrow_close) | ((with_reducible show wpAny _ _ (eval (.Name _ _) _) _ _ _); first | ((k_dflt (first | refine comp_local (by k_asm) (by k_mem) (by assumption) (by assumption) ?_ rfl rfl | refine comp_localM (by k_asm) (by assumption) (by assumption) (by simp only [List.mem_append, List.mem_cons, true_or, or_true]) ?_ rfl rfl | refine lcf_cell (by k_asm) rfl (by k_mem) (by assumption) ?_ rfl rfl | refine lcf_free (by k_asm) rfl (by k_mem) (by assumption) ?_ rfl rfl))) | (k_dflt (refine nameL (by k_asm) (by exact rfl) ?_ rfl rfl (by decide)); k_whole)) | ((with_reducible show wpAny _ _ (subscriptTail (.Name _ _) (.Constant _ _ _) (.ref _) (.int _ _)) _ _ _); ((first | refine tup_item (by k_asm) (mem_up hkn (by (intro q hq; (try dsimp only); repeat (first | exact hq | apply List.mem_append_right | apply List.mem_cons_of_mem)))) (by decide) (by decide) rfl ?_ | refine tup_item (by k_asm) (mem_up hkn2 (by (intro q hq; (try dsimp only); repeat (first | exact hq | apply List.mem_append_right | apply List.mem_cons_of_mem)))) (by decide) (by decide) rfl ?_ | refine list_item (by k_asm) (mem_up hkl (by (intro q hq; (try dsimp only); repeat (first | exact hq | apply List.mem_append_right | apply List.mem_cons_of_mem)))) (by decide) (by decide) rfl ?_))) | walk1 | (dsimp only; walk1) | (leave1; (try dsimp only)))) <;> (try ((fail_if_success (fail_if_success k_fold)); (with_reducible refine foldQ ?_); intro zq ze)))
          · refine Held.mk ?_
            refine CompEnd.none (by k_asm) (by k_asm) ?_
            exact ⟨filt_yes hk (decide_eq_true (by lia)), rfl⟩
          · refine Held.mk ?_
            refine CompEnd.none (by k_asm) (by k_asm) ?_
            exact ⟨filt_no hk (decide_eq_false (by lia)), rfl⟩
        case done2 =>
          rintro D2 h10 tk10 ys2 c2 extra2 hI0_
          refine glet2 ys2 extra2 ?_
          intro gl_
          obtain ⟨rfl, rfl⟩ := hI0_
          k_unfold
          clear gl_
          intro F11 N11 hlt10 hne10
          try ((fail_if_success (fail_if_success k_fold)); (with_reducible refine foldQ ?_); intro zq ze)
          rw [filt_end] at N11
          refine CompEnd.one F11 N11 hlt10 ?_
          refine ⟨qs ++ [(D2, c2)], by rw [List.length_append, hqs]; rfl, by rw [List.map_append]; rfl, ?_⟩
          exact (qs_snoc (q := (D2, c2)) (G := fun j => (left.filter (fun k => decide (k / 3 = j))).map p.v) hqs).symm
      case done =>
        rintro D h10 tk10 ys c extra hI0_
        refine glet2 ys extra ?_
        intro gl_
        obtain ⟨qs, hqs, rfl, rfl⟩ := hI0_
        k_unfold
        clear gl_
        intro F10 N10 hlt10 hne10
        try ((fail_if_success (fail_if_success k_fold)); (with_reducible refine foldQ ?_); intro zq ze)
        obtain ⟨q0, c0, q1, c1, q2, c2, rfl⟩ := three_of hqs
        simp only [List.zipIdx_cons, List.zipIdx_nil, List.map_cons, List.map_nil, List.cons_append, List.nil_append, Nat.zero_add, Nat.reduceAdd] at N10
        ((repeat' (first | (k_unfold; (try clear ze zq); (try dsimp only)) | (k_end; wrow_close) | ((fail_if_success (fail_if_success (with_reducible refine wpAny_execs_cons ?_))); ((try ((fail_if_success (fail_if_success k_fold)); (with_reducible refine foldQ ?_); intro zq ze)); (try k_gentoks); (with_reducible refine wpAny_execs_cons ?_); (try dsimp only); ((fail_if_success (fail_if_success k_fold)); (with_reducible refine foldQ ?_); intro zq ze))) | walk1 | (dsimp only; walk1) | (leave1; (try dsimp only)))) <;> (try ((fail_if_success (fail_if_success k_fold)); (with_reducible refine foldQ ?_); intro zq ze)))
        ((refine Held.mk ?_); (refine' comp_plain (h₀ := g') (L := L') ?hclos ?hcell ?hkind ?hnames ?hx ?_ ?hs); ((case hclos => rfl)); ((case hcell => decide)); ((case hkind => rfl)); ((case hnames => decide)); ((case hx => rfl)); ((case hs => intro _; rfl)))
        ((repeat' (first | (k_unfold; (try clear ze zq); (try dsimp only)) | (k_end; wrow_close) | ((with_reducible show wpAny _ _ (eval (.Name _ _) _) _ _ _); first | ((k_dflt (first | refine comp_local (by k_asm) (by k_mem) (by assumption) (by assumption) ?_ rfl rfl | refine comp_localM (by k_asm) (by assumption) (by assumption) (by simp only [List.mem_append, List.mem_cons, true_or, or_true]) ?_ rfl rfl | refine lcf_cell (by k_asm) rfl (by k_mem) (by assumption) ?_ rfl rfl | refine lcf_free (by k_asm) rfl (by k_mem) (by assumption) ?_ rfl rfl))) | (k_dflt (refine nameL (by k_asm) (by exact rfl) ?_ rfl rfl (by decide)); k_whole)) | walk1 | (dsimp only; walk1) | (leave1; (try dsimp only)))) <;> (try ((fail_if_success (fail_if_success k_fold)); (with_reducible refine foldQ ?_); intro zq ze)))
        refine Held.mk ?_
        have hlp : p.In left news := hp.sub hleft
        have hf9 : ∀ i, p.In (left.filter (fun k => decide (k / 3 = i))) news := fun i => hlp.sub (fun k hk => (List.mem_filter.mp hk).1)
        refine' compAt_list (l := D) (vs := [.ref q0, .ref q1, .ref q2]) (c := c) (fun i2 ys extra => ys = (([left.filter (fun k => decide (k / 3 = 0)), left.filter (fun k => decide (k / 3 = 1)), left.filter (fun k => decide (k / 3 = 2))].take i2).filterMap (minF p.lev)).map p.v ∧ extra = []) rfl ?hm ?hsz ?hF ?hN ⟨rfl, rfl⟩ ?turn3 ?done3
        (((case hF => k_asm)); ((case hN => k_asm)); ((case hm => k_mem)))
        case hsz => show 3 ≤ sizeLine; rw [hsl]; decide
        case turn3 =>
          rintro C2 D2 I2 oI2 i2 v2 ys2 c3 extra2 pl2 own2 h11 tk11 E2 hv2 hI0_ hI1_
          refine glet3 ys2 extra2 pl2 ?_
          intro gl_
          obtain ⟨rfl, rfl⟩ := hI0_
          obtain ⟨o2, om2, rfl, hns2, hm2⟩ := hI1_
          k_unfold
          clear gl_
          intro hown2 F11 N11
          try ((fail_if_success (fail_if_success k_fold)); (with_reducible refine foldQ ?_); intro zq ze)
          have hQf := qFun q0 q1 q2 c0 c1 c2
          induction hQf with
          | mk qa qc =>
          obtain ⟨hi2, rfl⟩ := at_three_inv (f := fun j => .ref (qa j)) hv2
          have hqm := three_mem (f := fun j => (qa j, lst ((left.filter (fun k => decide (k / 3 = j))).map p.v) (qc j))) hi2
          ((repeat' (first | (k_unfold; (try clear ze zq); (try dsimp only)) | (k_end; wrow_close) | ((with_reducible show wpAny _ _ (eval (.Name _ _) _) _ _ _); first | ((k_dflt (first | refine comp_local (by k_asm) (by k_mem) (by assumption) (by assumption) ?_ rfl rfl | refine comp_localM (by k_asm) (by assumption) (by assumption) (by simp only [List.mem_append, List.mem_cons, true_or, or_true]) ?_ rfl rfl | refine lcf_cell (by k_asm) rfl (by k_mem) (by assumption) ?_ rfl rfl | refine lcf_free (by k_asm) rfl (by k_mem) (by assumption) ?_ rfl rfl))) | (k_dflt (refine nameL (by k_asm) (by exact rfl) ?_ rfl rfl (by decide)); k_whole)) | walk1 | (dsimp only; walk1) | (leave1; (try dsimp only)))) <;> (try ((fail_if_success (fail_if_success k_fold)); (with_reducible refine foldQ ?_); intro zq ze)))
          refine Held.mk ?_
          refine ne_plcs (ks := left.filter (fun k => decide (k / 3 = i2))) (js := []) (by k_asm) (mem_up hqm (by (first | ((try unfold St3); (try dsimp only); walk_at "subs") | (intro r hr; (try unfold St3 at hr); (try dsimp only at hr ⊢); (repeat (rcases List.mem_cons.mp hr with rfl | hr; focus (simp only [List.mem_cons, List.mem_append, eq_self, true_or, or_true]))); (repeat (first | exact hr | exact absurd hr List.not_mem_nil | apply List.mem_append_right | apply List.mem_cons_of_mem)))))) (List.mem_cons_self ..) ((hf9 i2).mono (by (intro q hq; (try dsimp only); repeat (first | exact hq | apply List.mem_append_right | apply List.mem_cons_of_mem)))) (fun _ h => absurd h (List.not_mem_nil)) (by ktr_units) ?_
          by_cases hfi : left.filter (fun k => decide (k / 3 = i2)) = []
          · have e0 : (!decide (left.filter (fun k => decide (k / 3 = i2)) = [])) = false := by rw [hfi]; rfl
            rw [e0]
            ((repeat' (first | (k_unfold; (try clear ze zq); (try dsimp only)) | (k_end; wrow_close) | walk1 | (dsimp only; walk1) | (leave1; (try dsimp only)))) <;> (try ((fail_if_success (fail_if_success k_fold)); (with_reducible refine foldQ ?_); intro zq ze)))
            refine Held.mk ?_
            refine CompEnd.none (by k_asm) (News.sub (by k_asm) (fun r hr => List.mem_cons_of_mem _ hr)) ?_
            exact ⟨low_none (f := fun j => left.filter (fun k => decide (k / 3 = j))) hi2 hfi, rfl⟩
          · have e0 : (!decide (left.filter (fun k => decide (k / 3 = i2)) = [])) = true := by simp [hfi]
            rw [e0]
            ((repeat' (first | (k_unfold; (try clear ze zq); (try dsimp only)) | (k_end; wrow_close) | ((with_reducible show wpAny _ _ (eval (.Name _ _) _) _ _ _); first | ((k_dflt (first | refine comp_local (by k_asm) (by k_mem) (by assumption) (by assumption) ?_ rfl rfl | refine comp_localM (by k_asm) (by assumption) (by assumption) (by simp only [List.mem_append, List.mem_cons, true_or, or_true]) ?_ rfl rfl | refine lcf_cell (by k_asm) rfl (by k_mem) (by assumption) ?_ rfl rfl | refine lcf_free (by k_asm) rfl (by k_mem) (by assumption) ?_ rfl rfl))) | (k_dflt (refine nameL (by k_asm) (by exact rfl) ?_ rfl rfl (by decide)); k_whole)) | walk1 | (dsimp only; walk1) | (leave1; (try dsimp only)))) <;> (try ((fail_if_success (fail_if_success k_fold)); (with_reducible refine foldQ ?_); intro zq ze)))
            refine Held.mk ?_
            refine min_plcs (ks := left.filter (fun k => decide (k / 3 = i2))) rfl (by k_asm) (by k_asm) (mem_up hqm (by (first | ((try unfold St3); (try dsimp only); walk_at "subs") | (intro r hr; (try unfold St3 at hr); (try dsimp only at hr ⊢); (repeat (rcases List.mem_cons.mp hr with rfl | hr; focus (simp only [List.mem_cons, List.mem_append, eq_self, true_or, or_true]))); (repeat (first | exact hr | exact absurd hr List.not_mem_nil | apply List.mem_append_right | apply List.mem_cons_of_mem)))))) hfi ((hf9 i2).mono (by (intro q hq; (try dsimp only); repeat (first | exact hq | apply List.mem_append_right | apply List.mem_cons_of_mem)))) (by ktr_units) ?_
            intro k h12 tk12 hk1 hk2 F12 N12
            ((repeat' (first | (k_unfold; (try clear ze zq); (try dsimp only)) | (k_end; wrow_close) | walk1 | (dsimp only; walk1) | (leave1; (try dsimp only)))) <;> (try ((fail_if_success (fail_if_success k_fold)); (with_reducible refine foldQ ?_); intro zq ze)))
            refine Held.mk ?_
            refine CompEnd.none (by k_asm) (News.sub (by k_asm) (fun r hr => List.mem_cons_of_mem _ hr)) ?_
            exact ⟨low_step (f := fun j => left.filter (fun k => decide (k / 3 = j))) hi2 (minF_is (fun j hj => (hf9 i2 j hj).1) hk1 hk2), rfl⟩
        case done3 =>
          rintro D3 h11 tk11 ys3 c3 extra3 hI0_
          refine glet2 ys3 extra3 ?_
          intro gl_
          obtain ⟨rfl, rfl⟩ := hI0_
          k_unfold
          clear gl_
          intro F11 N11 hlt11 hne11
          try ((fail_if_success (fail_if_success k_fold)); (with_reducible refine foldQ ?_); intro zq ze)
          have hD3 : L' + 1 + 1 + 1 < D3 := hlt11 (L' + 1 + 1 + 1, o3) (by simp only [List.mem_cons, true_or, or_true])
          replace N11 : News g' L' h11 ((D3, lst ((lowF p.lev left).map p.v) c3) :: _) := N11
          replace N11 : News g' L' h11 ((D3, lst ((lowF p.lev left).map p.v) c3) :: (L' + 1 + 1 + 1, o3) :: (L' + 1 + 1, o2) :: (L' + 1, o1) :: (lb, lst (bvals p bt) cb) :: (la, lst (left.map p.v) ca) :: (a, lst (ks.map p.v) n) :: news) := News.sub N11 (by (first | ((try unfold St3); (try dsimp only); walk_at "subs") | (intro r hr; (try unfold St3 at hr); (try dsimp only at hr ⊢); (repeat (rcases List.mem_cons.mp hr with rfl | hr; focus (simp only [List.mem_cons, List.mem_append, eq_self, true_or, or_true]))); (repeat (first | exact hr | exact absurd hr List.not_mem_nil | apply List.mem_append_right | apply List.mem_cons_of_mem)))))
          clear hlt11 hne11
          ((repeat' (first | (k_unfold; (try clear ze zq); (try dsimp only)) | (k_end; wrow_close) | walk1 | (dsimp only; walk1) | (leave1; (try dsimp only)))) <;> (try ((fail_if_success (fail_if_success k_fold)); (with_reducible refine foldQ ?_); intro zq ze)))
          refine Held.mk ?_
          have hr3 : Off3 L' ((D3, lst ((lowF p.lev left).map p.v) c3) :: (lb, lst (bvals p bt) cb) :: (la, lst (left.map p.v) ca) :: (a, lst (ks.map p.v) n) :: news) := .cons hD3 (.cons ha2 (.cons ha1 hoff))
          refine store_cell (by k_asm) N11 rfl (by k_mem) d3 ?_
          intro h12 o3' F12 N12 d3'
          replace N12 := st3_3 (o1 := o1) (o2 := o2) (o3 := o3) hr3 (by (first | ((try unfold St3); (try dsimp only); walk_at "subs") | (intro r hr; (try unfold St3 at hr); (try dsimp only at hr ⊢); (repeat (rcases List.mem_cons.mp hr with rfl | hr; focus (simp only [List.mem_cons, List.mem_append, eq_self, true_or, or_true]))); (repeat (first | exact hr | exact absurd hr List.not_mem_nil | apply List.mem_append_right | apply List.mem_cons_of_mem))))) N12
          unfold St3 at N12
          clear N11
          obtain ⟨lowv, hlowv⟩ : ∃ lowv, lowv = lowF p.lev left := ⟨_, rfl⟩
          rw [← hlowv] at N12 hr3
          have hlw : p.In lowv news := hlp.sub (by rw [hlowv]; exact low_sub)
          have hlwl : lowv.length ≤ 3 := by rw [hlowv]; exact low_len
          ((repeat' (first | (k_unfold; (try clear ze zq); (try dsimp only)) | (k_end; wrow_close) | ((fail_if_success (fail_if_success (with_reducible refine wpAny_execs_cons ?_))); ((try ((fail_if_success (fail_if_success k_fold)); (with_reducible refine foldQ ?_); intro zq ze)); (try k_gentoks); (with_reducible refine wpAny_execs_cons ?_); (try dsimp only); ((fail_if_success (fail_if_success k_fold)); (with_reducible refine foldQ ?_); intro zq ze))) | walk1 | (dsimp only; walk1) | (leave1; (try dsimp only)))) <;> (try ((fail_if_success (fail_if_success k_fold)); (with_reducible refine foldQ ?_); intro zq ze)))
          ((refine Held.mk ?_); (refine' comp_cell (h₀ := g') (L := L') ?hclos ?hcf ?hpc ?hkind ?hnames ?hx ?_ ?hs); ((case hclos => rfl)); ((case hcf => exact fun _ _ => rfl)); ((case hpc => exact fun _ => rfl)); ((case hkind => rfl)); ((case hnames => decide)); ((case hx => rfl)); ((case hs => intro _; rfl)))
          ((repeat' (first | (k_unfold; (try clear ze zq); (try dsimp only)) | (k_end; wrow_close) | ((with_reducible show wpAny _ _ (eval (.Name _ _) _) _ _ _); first | ((k_dflt (first | refine comp_local (by k_asm) (by k_mem) (by assumption) (by assumption) ?_ rfl rfl | refine comp_localM (by k_asm) (by assumption) (by assumption) (by simp only [List.mem_append, List.mem_cons, true_or, or_true]) ?_ rfl rfl | refine lcf_cell (by k_asm) rfl (by k_mem) (by assumption) ?_ rfl rfl | refine lcf_free (by k_asm) rfl (by k_mem) (by assumption) ?_ rfl rfl))) | (k_dflt (refine nameL (by k_asm) (by exact rfl) ?_ rfl rfl (by decide)); k_whole)) | walk1 | (dsimp only; walk1) | (leave1; (try dsimp only)))) <;> (try ((fail_if_success (fail_if_success k_fold)); (with_reducible refine foldQ ?_); intro zq ze)))
          refine Held.mk ?_
          refine' compAt_list (l := D3) (vs := lowv.map p.v) (c := c3) (fun i4 ys extra => ys = ((lowv.take i4).filter (fun k => !decide (lowv.filter (fun j => decide (j % 3 = k % 3) && decide (rkF p.lev k < rkF p.lev j)) = []))).map p.v ∧ extra = []) rfl ?hm ?hsz ?hF ?hN ⟨rfl, rfl⟩ ?turn4 ?done4
          (((case hF => k_asm)); ((case hN => k_asm)); ((case hm => k_mem)))
          case hsz => rw [List.length_map]; lia
          case turn4 =>
            rintro C4 D4 I4 oI4 i4 v4 ys4 c4 extra4 pl4 own4 h13 tk13 E4 hv4 hI0_ hI1_
            refine glet4 v4 ys4 extra4 pl4 ?_
            intro gl_
            obtain ⟨rfl, rfl⟩ := hI0_
            obtain ⟨o4, om4, oc4, rfl, hns4, hoc4⟩ := hI1_
            obtain ⟨k, hk4, hkm4, rfl⟩ := map_at hv4
            k_unfold
            clear gl_
            intro hown4 F13 N13
            try ((fail_if_success (fail_if_success k_fold)); (with_reducible refine foldQ ?_); intro zq ze)
            have hkn2 := (hlw k hkm4).2.1
            have hk1 := hlw.one hkm4
            ((repeat' (first | (k_unfold; (try clear ze zq); (try dsimp only)) | (k_end; wrow_close) | walk1 | (dsimp only; walk1) | (leave1; (try dsimp only)))) <;> (try ((fail_if_success (fail_if_success k_fold)); (with_reducible refine foldQ ?_); intro zq ze)))
            ((refine Held.mk ?_); (refine' comp_plain (h₀ := g') (L := L') ?hclos ?hcell ?hkind ?hnames ?hx ?_ ?hs); ((case hclos => rfl)); ((case hcell => decide)); ((case hkind => rfl)); ((case hnames => decide)); ((case hx => rfl)); ((case hs => intro _; rfl)))
            ((repeat' (first | (k_unfold; (try clear ze zq); (try dsimp only)) | (k_end; wrow_close) | ((with_reducible show wpAny _ _ (eval (.Name _ _) _) _ _ _); first | ((k_dflt (first | refine comp_local (by k_asm) (by k_mem) (by assumption) (by assumption) ?_ rfl rfl | refine comp_localM (by k_asm) (by assumption) (by assumption) (by simp only [List.mem_append, List.mem_cons, true_or, or_true]) ?_ rfl rfl | refine lcf_cell (by k_asm) rfl (by k_mem) (by assumption) ?_ rfl rfl | refine lcf_free (by k_asm) rfl (by k_mem) (by assumption) ?_ rfl rfl))) | (k_dflt (refine nameL (by k_asm) (by exact rfl) ?_ rfl rfl (by decide)); k_whole)) | walk1 | (dsimp only; walk1) | (leave1; (try dsimp only)))) <;> (try ((fail_if_success (fail_if_success k_fold)); (with_reducible refine foldQ ?_); intro zq ze)))
            refine Held.mk ?_
            refine' compAt_list (l := D3) (vs := lowv.map p.v) (c := c3) (fun i5 ys extra => ys = ((lowv.take i5).filter (fun j => decide (j % 3 = k % 3) && decide (rkF p.lev k < rkF p.lev j))).map p.v ∧ extra = []) rfl ?hm ?hsz ?hF ?hN ⟨rfl, rfl⟩ ?turn5 ?done5
            (((case hF => k_asm)); ((case hN => k_asm)); ((case hm => k_mem)))
            case hsz => rw [List.length_map]; omega
            case turn5 =>
              rintro C5 D5 I5 oI5 i5 v5 ys5 c5 extra5 pl5 own5 h14 tk14 E5 hv5 hI0_ hI1_
              refine glet4 v5 ys5 extra5 pl5 ?_
              intro gl_
              obtain ⟨rfl, rfl⟩ := hI0_
              obtain ⟨o5, om5, rfl, hns5, hm5⟩ := hI1_
              obtain ⟨j, hk5, hkm5, rfl⟩ := map_at hv5
              k_unfold
              clear gl_
              intro hown5 F14 N14
              try ((fail_if_success (fail_if_success k_fold)); (with_reducible refine foldQ ?_); intro zq ze)
              have hkn := (hlw j hkm5).2.1
              have hj1 := hlw.one hkm5
              ((repeat' (first | (k_unfold; (try clear ze zq); (try dsimp only)) | (k_end; wrow_close) | ((with_reducible show wpAny _ _ (eval (.Name _ _) _) _ _ _); first | ((k_dflt (first | refine comp_local (by k_asm) (by k_mem) (by assumption) (by assumption) ?_ rfl rfl | refine comp_localM (by k_asm) (by assumption) (by assumption) (by simp only [List.mem_append, List.mem_cons, true_or, or_true]) ?_ rfl rfl | refine lcf_cell (by k_asm) rfl (by k_mem) (by assumption) ?_ rfl rfl | refine lcf_free (by k_asm) rfl (by k_mem) (by assumption) ?_ rfl rfl))) | (k_dflt (refine nameL (by k_asm) (by exact rfl) ?_ rfl rfl (by decide)); k_whole)) | ((with_reducible show wpAny _ _ (subscriptTail (.Name _ _) (.Constant _ _ _) (.ref _) (.int _ _)) _ _ _); ((first | refine tup_item (by k_asm) (mem_up hkn (by (intro q hq; (try dsimp only); repeat (first | exact hq | apply List.mem_append_right | apply List.mem_cons_of_mem)))) (by decide) (by decide) rfl ?_ | refine tup_item (by k_asm) (mem_up hkn2 (by (intro q hq; (try dsimp only); repeat (first | exact hq | apply List.mem_append_right | apply List.mem_cons_of_mem)))) (by decide) (by decide) rfl ?_ | refine list_item (by k_asm) (mem_up hkl (by (intro q hq; (try dsimp only); repeat (first | exact hq | apply List.mem_append_right | apply List.mem_cons_of_mem)))) (by decide) (by decide) rfl ?_))) | walk1 | (dsimp only; walk1) | (leave1; (try dsimp only)))) <;> (try ((fail_if_success (fail_if_success k_fold)); (with_reducible refine foldQ ?_); intro zq ze)))
              · refine Held.mk ?_
                refine gt_plcs (k := j) (j := k) (by k_asm) (hj1.mono (by (intro q hq; (try dsimp only); repeat (first | exact hq | apply List.mem_append_right | apply List.mem_cons_of_mem)))) (hk1.mono (by (intro q hq; (try dsimp only); repeat (first | exact hq | apply List.mem_append_right | apply List.mem_cons_of_mem)))) (by ktr_units) ?_
                by_cases hlt : rkF p.lev k < rkF p.lev j
                · rw [decide_eq_true hlt]
                  ((repeat' (first | (k_unfold; (try clear ze zq); (try dsimp only)) | (k_end; wrow_close) | ((with_reducible show wpAny _ _ (eval (.Name _ _) _) _ _ _); first | ((k_dflt (first | refine comp_local (by k_asm) (by k_mem) (by assumption) (by assumption) ?_ rfl rfl | refine comp_localM (by k_asm) (by assumption) (by assumption) (by simp only [List.mem_append, List.mem_cons, true_or, or_true]) ?_ rfl rfl | refine lcf_cell (by k_asm) rfl (by k_mem) (by assumption) ?_ rfl rfl | refine lcf_free (by k_asm) rfl (by k_mem) (by assumption) ?_ rfl rfl))) | (k_dflt (refine nameL (by k_asm) (by exact rfl) ?_ rfl rfl (by decide)); k_whole)) | walk1 | (dsimp only; walk1) | (leave1; (try dsimp only)))) <;> (try ((fail_if_success (fail_if_success k_fold)); (with_reducible refine foldQ ?_); intro zq ze)))
                  refine Held.mk ?_
                  refine CompEnd.none (by k_asm) (by k_asm) ?_
                  exact ⟨filt_yes hk5 (by rw [decide_eq_true hlt, Bool.and_true]; exact decide_eq_true (by lia)), rfl⟩
                · rw [decide_eq_false hlt]
                  ((repeat' (first | (k_unfold; (try clear ze zq); (try dsimp only)) | (k_end; wrow_close) | walk1 | (dsimp only; walk1) | (leave1; (try dsimp only)))) <;> (try ((fail_if_success (fail_if_success k_fold)); (with_reducible refine foldQ ?_); intro zq ze)))
                  refine Held.mk ?_
                  refine CompEnd.none (by k_asm) (by k_asm) ?_
                  exact ⟨filt_no hk5 (by rw [decide_eq_false hlt, Bool.and_false]), rfl⟩
              · refine Held.mk ?_
                refine CompEnd.none (by k_asm) (by k_asm) ?_
                exact ⟨filt_no hk5 (by rw [decide_eq_false (by lia : ¬ j % 3 = k % 3), Bool.false_and]), rfl⟩
            case done5 =>
              rintro D5 h14 tk14 ys5 c5 extra5 hI0_
              refine glet2 ys5 extra5 ?_
              intro gl_
              obtain ⟨rfl, rfl⟩ := hI0_
              k_unfold
              clear gl_
              intro F14 N14 hlt14 hne14
              try ((fail_if_success (fail_if_success k_fold)); (with_reducible refine foldQ ?_); intro zq ze)
              rw [filt_end] at N14
              ((repeat' (first | (k_unfold; (try clear ze zq); (try dsimp only)) | (k_end; wrow_close) | walk1 | (dsimp only; walk1) | (leave1; (try dsimp only)))) <;> (try ((fail_if_success (fail_if_success k_fold)); (with_reducible refine foldQ ?_); intro zq ze)))
              refine Held.mk ?_
              refine ne_plcs (ks := lowv.filter (fun j => decide (j % 3 = k % 3) && decide (rkF p.lev k < rkF p.lev j))) (js := []) (c := c5) (by k_asm) (List.mem_cons_of_mem _ (List.mem_cons_self ..)) (List.mem_cons_self ..) ((hlw.sub (fun x hx => (List.mem_filter.mp hx).1)).mono (by (intro q hq; (try dsimp only); repeat (first | exact hq | apply List.mem_append_right | apply List.mem_cons_of_mem)))) (fun _ h => absurd h (List.not_mem_nil)) (by ktr_units) ?_
              by_cases hbk : lowv.filter (fun j => decide (j % 3 = k % 3) && decide (rkF p.lev k < rkF p.lev j)) = []
              · rw [decide_eq_true hbk, Bool.not_true]
                ((repeat' (first | (k_unfold; (try clear ze zq); (try dsimp only)) | (k_end; wrow_close) | walk1 | (dsimp only; walk1) | (leave1; (try dsimp only)))) <;> (try ((fail_if_success (fail_if_success k_fold)); (with_reducible refine foldQ ?_); intro zq ze)))
                refine Held.mk ?_
                refine CompEnd.none (by k_asm) (News.sub (by k_asm) (by intro r hr; exact List.mem_cons_of_mem _ (List.mem_cons_of_mem _ hr))) ?_
                exact ⟨filt_no hk4 (by rw [decide_eq_true hbk]; rfl), rfl⟩
              · rw [decide_eq_false hbk, Bool.not_false]
                rename News _ _ _ _ => N15
                replace N15 := News.sub N15 (fun r hr => List.mem_cons_of_mem _ (List.mem_cons_of_mem _ hr))
                rw [List.nil_append] at N15
                ((repeat' (first | (k_unfold; (try clear ze zq); (try dsimp only)) | (k_end; wrow_close) | ((with_reducible show wpAny _ _ (eval (.Name _ _) _) _ _ _); first | ((k_dflt (first | refine comp_local (by k_asm) (by k_mem) (by assumption) (by assumption) ?_ rfl rfl | refine comp_localM (by k_asm) (by assumption) (by assumption) (by simp only [List.mem_append, List.mem_cons, true_or, or_true]) ?_ rfl rfl | refine lcf_cell (by k_asm) rfl (by k_mem) (by assumption) ?_ rfl rfl | refine lcf_free (by k_asm) rfl (by k_mem) (by assumption) ?_ rfl rfl))) | (k_dflt (refine nameL (by k_asm) (by exact rfl) ?_ rfl rfl (by decide)); k_whole)) | walk1 | (dsimp only; walk1) | (leave1; (try dsimp only)))) <;> (try ((fail_if_success (fail_if_success k_fold)); (with_reducible refine foldQ ?_); intro zq ze)))
                refine Held.mk ?_
                refine CompEnd.none (by k_asm) (by k_asm) ?_
                exact ⟨filt_yes hk4 (by rw [decide_eq_false hbk]; rfl), rfl⟩
          case done4 =>
            rintro D4 h13 tk13 ys4 c4 extra4 hI0_
            refine glet2 ys4 extra4 ?_
            intro gl_
            obtain ⟨rfl, rfl⟩ := hI0_
            k_unfold
            clear gl_
            intro F13 N13 hlt13 hne13
            try ((fail_if_success (fail_if_success k_fold)); (with_reducible refine foldQ ?_); intro zq ze)
            rw [filt_end] at N13
            have hD4 : L' + 1 + 1 + 1 < D4 := hlt13 (L' + 1 + 1 + 1, o3') (by simp only [List.mem_cons, true_or, or_true])
            obtain ⟨bv, hbv⟩ : ∃ bv, bv = beatF p.lev lowv := ⟨_, rfl⟩
            replace N13 : News g' L' h13 ((D4, lst ((beatF p.lev lowv).map p.v) c4) :: _) := N13
            rw [← hbv] at N13
            clear hlt13 hne13
            have hbw : p.In bv news := hlw.sub (by rw [hbv]; exact fun x hx => (List.mem_filter.mp hx).1)
            have hr4 : Off3 L' ((D4, lst (bv.map p.v) c4) :: (D3, lst (lowv.map p.v) c3) :: (la, lst (left.map p.v) ca) :: (a, lst (ks.map p.v) n) :: news) := .cons hD4 (.cons hD3 (.cons ha1 hoff))
            ((repeat' (first | (k_unfold; (try clear ze zq); (try dsimp only)) | (k_end; wrow_close) | walk1 | (dsimp only; walk1) | (leave1; (try dsimp only)))) <;> (try ((fail_if_success (fail_if_success k_fold)); (with_reducible refine foldQ ?_); intro zq ze)))
            refine Held.mk ?_
            refine store_cell (by k_asm) (by k_asm) rfl (by k_mem) d2 ?_
            intro h14 o2' F14 N14 d2'
            replace N14 := st3_2 (o1 := o1) (o2 := o2) (o3 := o3') hr4 (by (first | ((try unfold St3); (try dsimp only); walk_at "subs") | (intro r hr; (try unfold St3 at hr); (try dsimp only at hr ⊢); (repeat (rcases List.mem_cons.mp hr with rfl | hr; focus (simp only [List.mem_cons, List.mem_append, eq_self, true_or, or_true]))); (repeat (first | exact hr | exact absurd hr List.not_mem_nil | apply List.mem_append_right | apply List.mem_cons_of_mem))))) N14
            unfold St3 at N14
            ((repeat' (first | (k_unfold; (try clear ze zq); (try dsimp only)) | (k_end; wrow_close) | ((fail_if_success (fail_if_success (with_reducible refine wpAny_execs_cons ?_))); ((try ((fail_if_success (fail_if_success k_fold)); (with_reducible refine foldQ ?_); intro zq ze)); (try k_gentoks); (with_reducible refine wpAny_execs_cons ?_); (try dsimp only); ((fail_if_success (fail_if_success k_fold)); (with_reducible refine foldQ ?_); intro zq ze))) | walk1 | (dsimp only; walk1) | (leave1; (try dsimp only)))) <;> (try ((fail_if_success (fail_if_success k_fold)); (with_reducible refine foldQ ?_); intro zq ze)))
            ((refine Held.mk ?_); (refine' comp_plain (h₀ := g') (L := L') ?hclos ?hcell ?hkind ?hnames ?hx ?_ ?hs); ((case hclos => rfl)); ((case hcell => decide)); ((case hkind => rfl)); ((case hnames => decide)); ((case hx => rfl)); ((case hs => intro _; rfl)))
            ((repeat' (first | (k_unfold; (try clear ze zq); (try dsimp only)) | (k_end; wrow_close) | ((with_reducible show wpAny _ _ (eval (.Name _ _) _) _ _ _); first | ((k_dflt (first | refine comp_local (by k_asm) (by k_mem) (by assumption) (by assumption) ?_ rfl rfl | refine comp_localM (by k_asm) (by assumption) (by assumption) (by simp only [List.mem_append, List.mem_cons, true_or, or_true]) ?_ rfl rfl | refine lcf_cell (by k_asm) rfl (by k_mem) (by assumption) ?_ rfl rfl | refine lcf_free (by k_asm) rfl (by k_mem) (by assumption) ?_ rfl rfl))) | (k_dflt (refine nameL (by k_asm) (by exact rfl) ?_ rfl rfl (by decide)); k_whole)) | walk1 | (dsimp only; walk1) | (leave1; (try dsimp only)))) <;> (try ((fail_if_success (fail_if_success k_fold)); (with_reducible refine foldQ ?_); intro zq ze)))
            refine Held.mk ?_
            refine' compAt_list (l := la) (vs := left.map p.v) (c := ca) (fun i6 ys extra => ys = ((left.take i6).filter (fun k => !decide (k ∈ bv))).map p.v ∧ extra = []) rfl ?hm ?hsz ?hF ?hN ⟨rfl, rfl⟩ ?turn6 ?done6
            (((case hF => k_asm)); ((case hN => k_asm)); ((case hm => k_mem)))
            case hsz => rw [List.length_map]; lia
            case turn6 =>
              rintro C6 D6 I6 oI6 i6 v6 ys6 c6 extra6 pl6 own6 h15 tk15 E6 hv6 hI0_ hI1_
              refine glet4 v6 ys6 extra6 pl6 ?_
              intro gl_
              obtain ⟨rfl, rfl⟩ := hI0_
              obtain ⟨o6, om6, rfl, hns6, hm6⟩ := hI1_
              obtain ⟨k, hk6, hkm6, rfl⟩ := map_at hv6
              k_unfold
              clear gl_
              intro hown6 F15 N15
              try ((fail_if_success (fail_if_success k_fold)); (with_reducible refine foldQ ?_); intro zq ze)
              ((repeat' (first | (k_unfold; (try clear ze zq); (try dsimp only)) | (k_end; wrow_close) | ((with_reducible show wpAny _ _ (eval (.Name _ _) _) _ _ _); first | ((k_dflt (first | refine comp_local (by k_asm) (by k_mem) (by assumption) (by assumption) ?_ rfl rfl | refine comp_localM (by k_asm) (by assumption) (by assumption) (by simp only [List.mem_append, List.mem_cons, true_or, or_true]) ?_ rfl rfl | refine lcf_cell (by k_asm) rfl (by k_mem) (by assumption) ?_ rfl rfl | refine lcf_free (by k_asm) rfl (by k_mem) (by assumption) ?_ rfl rfl))) | (k_dflt (refine nameL (by k_asm) (by exact rfl) ?_ rfl rfl (by decide)); k_whole)) | walk1 | (dsimp only; walk1) | (leave1; (try dsimp only)))) <;> (try ((fail_if_success (fail_if_success k_fold)); (with_reducible refine foldQ ?_); intro zq ze)))
              refine Held.mk ?_
              refine notIn_plcs (js := bv) (k := k) (c := c4) (by k_asm) (by k_mem) (hbw.mono (by (intro q hq; (try dsimp only); repeat (first | exact hq | apply List.mem_append_right | apply List.mem_cons_of_mem)))) ((hlp.one hkm6).mono (by (intro q hq; (try dsimp only); repeat (first | exact hq | apply List.mem_append_right | apply List.mem_cons_of_mem)))) (by ktr_units) ?_
              by_cases hkb : k ∈ bv
              · rw [decide_eq_true hkb, Bool.not_true]
                ((repeat' (first | (k_unfold; (try clear ze zq); (try dsimp only)) | (k_end; wrow_close) | walk1 | (dsimp only; walk1) | (leave1; (try dsimp only)))) <;> (try ((fail_if_success (fail_if_success k_fold)); (with_reducible refine foldQ ?_); intro zq ze)))
                refine Held.mk ?_
                refine CompEnd.none (by k_asm) (by k_asm) ?_
                exact ⟨filt_no hk6 (by rw [decide_eq_true hkb]; rfl), rfl⟩
              · rw [decide_eq_false hkb, Bool.not_false]
                ((repeat' (first | (k_unfold; (try clear ze zq); (try dsimp only)) | (k_end; wrow_close) | ((with_reducible show wpAny _ _ (eval (.Name _ _) _) _ _ _); first | ((k_dflt (first | refine comp_local (by k_asm) (by k_mem) (by assumption) (by assumption) ?_ rfl rfl | refine comp_localM (by k_asm) (by assumption) (by assumption) (by simp only [List.mem_append, List.mem_cons, true_or, or_true]) ?_ rfl rfl | refine lcf_cell (by k_asm) rfl (by k_mem) (by assumption) ?_ rfl rfl | refine lcf_free (by k_asm) rfl (by k_mem) (by assumption) ?_ rfl rfl))) | (k_dflt (refine nameL (by k_asm) (by exact rfl) ?_ rfl rfl (by decide)); k_whole)) | walk1 | (dsimp only; walk1) | (leave1; (try dsimp only)))) <;> (try ((fail_if_success (fail_if_success k_fold)); (with_reducible refine foldQ ?_); intro zq ze)))
                refine Held.mk ?_
                refine CompEnd.none (by k_asm) (by k_asm) ?_
                exact ⟨filt_yes hk6 (by rw [decide_eq_false hkb]; rfl), rfl⟩
            case done6 =>
              rintro D6 h15 tk15 ys6 c6 extra6 hI0_
              refine glet2 ys6 extra6 ?_
              intro gl_
              obtain ⟨rfl, rfl⟩ := hI0_
              k_unfold
              clear gl_
              intro F15 N15 hlt15 hne15
              try ((fail_if_success (fail_if_success k_fold)); (with_reducible refine foldQ ?_); intro zq ze)
              rw [filt_end] at N15
              have hD6 : L' + 1 + 1 + 1 < D6 := hlt15 (L' + 1 + 1 + 1, o3') (by simp only [List.mem_cons, true_or, or_true])
              have hr6 : Off3 L' ((D3, lst (lowv.map p.v) c3) :: (D4, lst (bv.map p.v) c4) :: (D6, lst ((left.filter (fun k => !decide (k ∈ bv))).map p.v) c6) :: (a, lst (ks.map p.v) n) :: news) := .cons hD3 (.cons hD4 (.cons hD6 hoff))
              clear hlt15 hne15
              ((repeat' (first | (k_unfold; (try clear ze zq); (try dsimp only)) | (k_end; wrow_close) | walk1 | (dsimp only; walk1) | (leave1; (try dsimp only)))) <;> (try ((fail_if_success (fail_if_success k_fold)); (with_reducible refine foldQ ?_); intro zq ze)))
              refine Held.mk ?_
              refine store_cell (by k_asm) (by k_asm) rfl (by k_mem) d1 ?_
              intro h16 o1' F16 N16 d1'
              replace N16 := st3_1 (o1 := o1) (o2 := o2') (o3 := o3') hr6 (by (first | ((try unfold St3); (try dsimp only); walk_at "subs") | (intro r hr; (try unfold St3 at hr); (try dsimp only at hr ⊢); (repeat (rcases List.mem_cons.mp hr with rfl | hr; focus (simp only [List.mem_cons, List.mem_append, eq_self, true_or, or_true]))); (repeat (first | exact hr | exact absurd hr List.not_mem_nil | apply List.mem_append_right | apply List.mem_cons_of_mem))))) N16
              ((repeat' (first | (k_unfold; (try clear ze zq); (try dsimp only)) | (k_end; wrow_close) | walk1 | (dsimp only; walk1) | (leave1; (try dsimp only)))) <;> (try ((fail_if_success (fail_if_success k_fold)); (with_reducible refine foldQ ?_); intro zq ze)))
              refine Held.mk ?_
              refine ksw_end ⟨left.filter (fun k => !decide (k ∈ bv)), lowv, some bv, D6, D4, D3, c6, c4, c3, o1', o2', o3'⟩ (by k_asm) (by k_asm) (fun r hr => hr) trivial (fun _ h => absurd h (List.not_mem_nil)) (by ksw_same) ?_ ?_
              · refine ⟨⟨d1', d2', d3', hD6, hD4, hD3, fun k hk => hleft k (List.mem_filter.mp hk).1, fun k hk => hleft k (low_sub k (by rw [← hlowv]; exact hk)), fun l hl k hk => ?_, Nat.le_trans (List.length_filter_le ..) hn1, by dsimp only; lia⟩, fun h => ?_, fun h => ?_⟩
                · obtain rfl := Option.some.inj hl
                  rw [hbv] at hk
                  exact hleft k (low_sub k (by rw [← hlowv]; exact (List.mem_filter.mp hk).1))
                · obtain ⟨nn, hn, hst⟩ := hR.2 hb
                  have hbe : beatF p.lev (lowF p.lev left) = [] := by rw [← hlowv, ← hbv]; exact Option.some.inj h
                  dsimp only
                  rw [hlowv]
                  exact stay_end hst hbe
                · obtain ⟨nn, hn, hst⟩ := hR.2 hb
                  have hbe : beatF p.lev (lowF p.lev left) ≠ [] := by rw [← hlowv, ← hbv]; exact fun e => h (by dsimp only; rw [e])
                  have := (stay_next hn hst hbe).2
                  rw [← hlowv, ← hbv] at this
                  exact this
              · obtain ⟨nn, hn, hst⟩ := hR.2 hb
                unfold muS
                dsimp only
                rw [if_neg hb]
                by_cases hbe : bv = []
                · rw [if_pos (show some bv = some [] by rw [hbe])]
                  have := List.length_filter_le (fun k => !decide (k ∈ bv)) left
                  lia
                · rw [if_neg (by simp [hbe])]
                  have hbe' : beatF p.lev (lowF p.lev left) ≠ [] := by rw [← hlowv, ← hbv]; exact hbe
                  have h1 := (stay_next hn hst hbe').1
                  have h2 : (left.filter (fun k => !decide (k ∈ bv))).length < left.length := by rw [hbv, hlowv]; exact h1
                  clear h1
                  lia
end
section
-- W6j
theorem rstW6j : True := by
  w_top off
  trivial
set_option maxHeartbeats 2000000
local macro_rules | `(tactic| walk_at "compareOp NotEq str str") => `(tactic| (refine Held.out ?_))
local macro_rules | `(tactic| walk_at "exec Assign cons IfExp") => `(tactic| (refine Held.out ?_))
local macro_rules | `(tactic| walk_at "subscriptTail List") => `(tactic| (refine Held.out ?_))
local macro_rules | `(tactic| walk_at "LoopStep3") => `(tactic| (refine Held.out ?_))
local macro_rules | `(tactic| walk_at "storeName") => `(tactic| with_reducible refine hWord ?_)
local macro_rules | `(tactic| walk_at "subscriptTail Name UnaryOp") => `(tactic| (refine Held.out ?_))
local macro_rules | `(tactic| walk_at "storeName") => `(tactic| with_reducible refine hFull ?_)
local macro_rules | `(tactic| walk_at "exec Assign cons ListComp") => `(tactic| with_reducible refine hAsk ?_)
theorem letM {h₀ h : Heap} {L : Addr} {m : Str → Option Value} {P : Prop} (F : Fr h₀ L h m) (k : let m' := m; Fr h₀ L h m' → P) : P := k F
theorem post_true (l : List Int) : PySem.Challenge.rw_wy0021_01.row.claim.post [PySem.W.ofPy (PySem.PyData.list (List.map PySem.PyData.int l))] (PySem.W.WData.bool true) [PySem.W.ofPy (PySem.PyData.list (List.map PySem.PyData.int l))] = true :=
  postW_of (by wrow_shape) (by wtm_val) (beq_self_eq_true _)
set_option maxHeartbeats 0 in
theorem w3 : PySem.Challenge.rw_wy0021_01.Holds := by
  refine h0.hd ?_
  k_go0
  (all_goals try k_fold)
  ((repeat' (first | (k_unfold; (try clear ze zq); (try dsimp only)) | (k_end; wrow_close) | ((fail_if_success (fail_if_success (with_reducible refine wpAny_execs_cons ?_))); ((try ((fail_if_success (fail_if_success k_fold)); (with_reducible refine foldQ ?_); intro zq ze)); (try k_gentoks); (with_reducible refine wpAny_execs_cons ?_); (try dsimp only); ((fail_if_success (fail_if_success k_fold)); (with_reducible refine foldQ ?_); intro zq ze))) | walk1 | (dsimp only; walk1) | (leave1; (try dsimp only)))) <;> (try ((fail_if_success (fail_if_success k_fold)); (with_reducible refine foldQ ?_); intro zq ze)))
  rename_i W0 S0 S1 mg mb G0 Y0 fa0 of0 pm0 doc0 ho0 hg0 KX0 XX0 V0 GL0 T0 B0 TE0 TW0 wa1 wo1 M0 wa2 wa3 hcd0 ns hs0 hlay0 hLy hr1 hl2 wl1 wl2 sl vs wl3 hL ra ww1 r0 hI hrw hcond hcond2 K0 hD0 h1 tk1 ow of1 dw df X0c ca hh5 l1a hh3 F1 N1
  have hn63 : ns.length ≤ 63 := by omega
  have hvl : vs.length = ns.length := hI.length
  ((refine Held.mk ?_); (rename Fr _ _ _ _ => Ff); (with_unfolding_all refine' for_fr Ff ?fx ?fp ?_ ?fs ?fE); ((case fx => rfl)); ((case fp => rfl)); ((case fs => intro _; rfl)); ((case fE => first | exact PassesOwn.never | passes_own)))
  ((repeat' (first | (k_unfold; (try clear ze zq); (try dsimp only)) | (k_end; wrow_close) | ((with_reducible show wpAny _ _ (eval (.Name _ _) _) _ _ _); first | ((k_dflt (first | refine comp_local (by k_asm) (by k_mem) (by assumption) (by assumption) ?_ rfl rfl | refine comp_localM (by k_asm) (by assumption) (by assumption) (by simp only [List.mem_append, List.mem_cons, true_or, or_true]) ?_ rfl rfl | refine lcf_cell (by k_asm) rfl (by k_mem) (by assumption) ?_ rfl rfl | refine lcf_free (by k_asm) rfl (by k_mem) (by assumption) ?_ rfl rfl))) | (k_dflt (refine nameL (by k_asm) (by exact rfl) ?_ rfl rfl (by decide)); k_whole)) | ((with_reducible show wpAny _ _ (call (.builtin "len") [.ref _]) _ _ _); (k_dflt (refine kx_len (by k_asm) (by first | assumption | k_mem) (by omega) ?_); intro _ _)) | (((with_reducible show wpAny _ _ (callWith _ (Value.builtin _) [_] _ _) _ _ _); refine callWith_method1 ?_)) | walk1 | (dsimp only; walk1) | (leave1; (try dsimp only)))) <;> (try ((fail_if_success (fail_if_success k_fold)); (with_reducible refine foldQ ?_); intro zq ze)))
  refine Held.mk ?_
  refine for_rangeS (n := ns.length) (σ := List Value × List Int × Nat) (fun q => (ca, lst q.1 q.2.2) :: [(S1.heap.objs.size + 1 + 1, ow), (S1.heap.objs.size + 1, of1)]) (fun _ => []) [] (fun _ q => IntsAre q.1 q.2.1 ∧ q.2.1.length = 10) (_, [35, 170, 270, 639, 376, 103, 211, 56, 543, 2], 0)
    rfl (by assumption) (small_nat (by omega)) (size_nat _) (by k_asm) (by k_asm) (fun _ h => absurd h (List.not_mem_nil)) ⟨.cons _ _ (.cons _ _ (.cons _ _ (.cons _ _ (.cons _ _ (.cons _ _ (.cons _ _ (.cons _ _ (.cons _ _ (.cons _ _ .nil))))))))), rfl⟩ ?turn ?done
  case turn =>
    rintro i t' ⟨cv, cz, cc⟩ u h9 tk9 I oI hi ⟨hP1, hP2⟩ hoff F9 N9
    dsimp only [kstB] at hP1 hP2 F9 N9
    have o1 : ca ≠ I := hoff _ (.head _)
    have o2 : S1.heap.objs.size + 1 + 1 ≠ I := hoff _ (.tail _ (.head _))
    have o3 : S1.heap.objs.size + 1 ≠ I := hoff _ (.tail _ (.tail _ (.head _)))
    ((repeat' (first | (k_unfold; (try clear ze zq); (try dsimp only)) | (k_end; wrow_close) | ((fail_if_success (fail_if_success (with_reducible refine wpAny_execs_cons ?_))); ((try ((fail_if_success (fail_if_success k_fold)); (with_reducible refine foldQ ?_); intro zq ze)); (try k_gentoks); (with_reducible refine wpAny_execs_cons ?_); (try dsimp only); ((fail_if_success (fail_if_success k_fold)); (with_reducible refine foldQ ?_); intro zq ze))) | ((with_reducible show wpAny _ _ (eval (.Name _ _) _) _ _ _); first | ((k_dflt (first | refine comp_local (by k_asm) (by k_mem) (by assumption) (by assumption) ?_ rfl rfl | refine comp_localM (by k_asm) (by assumption) (by assumption) (by simp only [List.mem_append, List.mem_cons, true_or, or_true]) ?_ rfl rfl | refine lcf_cell (by k_asm) rfl (by k_mem) (by assumption) ?_ rfl rfl | refine lcf_free (by k_asm) rfl (by k_mem) (by assumption) ?_ rfl rfl))) | (k_dflt (refine nameL (by k_asm) (by exact rfl) ?_ rfl rfl (by decide)); k_whole)) | walk1 | (dsimp only; walk1) | (leave1; (try dsimp only)))) <;> (try ((fail_if_success (fail_if_success k_fold)); (with_reducible refine foldQ ?_); intro zq ze)))
    refine Held.mk ?_
    refine (fun (sx : _) (hsx : ns[i]? = some sx) => ?_) _ (List.getElem?_eq_getElem hi)
    refine old_item (by k_asm) hL hI (by omega) (by omega) (x := sx) (by rw [show ((0 : Int) + (i : Int) * 1).toNat = i by omega]; exact hsx) ?_
    intro ts
    ((repeat' (first | (k_unfold; (try clear ze zq); (try dsimp only)) | (k_end; wrow_close) | walk1 | (dsimp only; walk1) | (leave1; (try dsimp only)))) <;> (try ((fail_if_success (fail_if_success k_fold)); (with_reducible refine foldQ ?_); intro zq ze)))
    have hi0 : 0 ≤ ((0 : Int) + (i : Int) * 1).fmod 10 := Int.fmod_nonneg_of_pos _ (by decide)
    have hi1 : ((0 : Int) + (i : Int) * 1).fmod 10 < 10 := Int.fmod_lt_of_pos _ (by decide)
    have hlz : cv.length = 10 := hP1.length.trans hP2
    have hi2 : (((0 : Int) + (i : Int) * 1).fmod 10).toNat < cv.length := by omega
    refine' ki_set ?kF ?kN hi0 (Int.lt_trans hi1 (by decide)) ?ke ?kU ?_
    (case kF => k_asm)
    (case kN => k_asm)
    (case ke => (rw [List.toList_toArray]; exact setL_some _ hi2))
    (case kU => exact Upd.tail (Ne.symm o1) (Upd.head (fun p hp => by
      rcases List.mem_cons.mp hp with rfl | hp
      · exact Nat.ne_of_lt l1a.1
      · rw [List.mem_singleton.mp hp]; exact Nat.ne_of_lt l1a.2)))
    intro h' F' N'
    ((repeat' (first | (k_unfold; (try clear ze zq); (try dsimp only)) | (k_end; wrow_close) | walk1 | (dsimp only; walk1) | (leave1; (try dsimp only)))) <;> (try ((fail_if_success (fail_if_success k_fold)); (with_reducible refine foldQ ?_); intro zq ze)))
    refine ForS.next (cv.set _ _, cz.set _ _, cc) (by assumption) (by assumption) ?_ (fun _ h => absurd h (List.not_mem_nil)) ?_ ⟨ints_set hP1 _ _ _, by rw [List.length_set]; exact hP2⟩
    · intro p hp
      rcases List.mem_cons.mp hp with rfl | hp
      · exact o1
      · exact hoff p (List.mem_cons_of_mem _ hp)
    · intro z hz _ _
      with_unfolding_all exact if_neg hz
  case done =>
    rintro ⟨cv, cz, cc⟩ u h9 tk9 ⟨hP1, hP2⟩ F9 N9
    dsimp only [kstB] at hP1 hP2 F9 N9
    ((repeat' (first | (k_unfold; (try clear ze zq); (try dsimp only)) | (k_end; wrow_close) | ((fail_if_success (fail_if_success (with_reducible refine wpAny_execs_cons ?_))); ((try ((fail_if_success (fail_if_success k_fold)); (with_reducible refine foldQ ?_); intro zq ze)); (try k_gentoks); (with_reducible refine wpAny_execs_cons ?_); (try dsimp only); ((fail_if_success (fail_if_success k_fold)); (with_reducible refine foldQ ?_); intro zq ze))) | ((with_reducible show wpAny _ _ (eval (.Name _ _) _) _ _ _); first | ((k_dflt (first | refine comp_local (by k_asm) (by k_mem) (by assumption) (by assumption) ?_ rfl rfl | refine comp_localM (by k_asm) (by assumption) (by assumption) (by simp only [List.mem_append, List.mem_cons, true_or, or_true]) ?_ rfl rfl | refine lcf_cell (by k_asm) rfl (by k_mem) (by assumption) ?_ rfl rfl | refine lcf_free (by k_asm) rfl (by k_mem) (by assumption) ?_ rfl rfl))) | (k_dflt (refine nameL (by k_asm) (by exact rfl) ?_ rfl rfl (by decide)); k_whole)) | ((with_reducible show wpAny _ _ (subscriptTail (.Name _ _) (.Constant _ _ _) (.ref _) (.int _ _)) _ _ _); ((first | refine tup_item (by k_asm) (mem_up hkn (by (intro q hq; (try dsimp only); repeat (first | exact hq | apply List.mem_append_right | apply List.mem_cons_of_mem)))) (by decide) (by decide) rfl ?_ | refine tup_item (by k_asm) (mem_up hkn2 (by (intro q hq; (try dsimp only); repeat (first | exact hq | apply List.mem_append_right | apply List.mem_cons_of_mem)))) (by decide) (by decide) rfl ?_ | refine list_item (by k_asm) (mem_up hkl (by (intro q hq; (try dsimp only); repeat (first | exact hq | apply List.mem_append_right | apply List.mem_cons_of_mem)))) (by decide) (by decide) rfl ?_))) | walk1 | (dsimp only; walk1) | (leave1; (try dsimp only)))) <;> (try ((fail_if_success (fail_if_success k_fold)); (with_reducible refine foldQ ?_); intro zq ze)))
    ((refine Held.mk ?_); (rename Fr _ _ _ _ => Ff); (with_unfolding_all refine' for_fr Ff ?fx ?fp ?_ ?fs ?fE); ((case fx => rfl)); ((case fp => rfl)); ((case fs => intro _; rfl)); ((case fE => first | exact PassesOwn.never | passes_own)))
    ((repeat' (first | (k_unfold; (try clear ze zq); (try dsimp only)) | (k_end; wrow_close) | ((with_reducible show wpAny _ _ (eval (.Name _ _) _) _ _ _); first | ((k_dflt (first | refine comp_local (by k_asm) (by k_mem) (by assumption) (by assumption) ?_ rfl rfl | refine comp_localM (by k_asm) (by assumption) (by assumption) (by simp only [List.mem_append, List.mem_cons, true_or, or_true]) ?_ rfl rfl | refine lcf_cell (by k_asm) rfl (by k_mem) (by assumption) ?_ rfl rfl | refine lcf_free (by k_asm) rfl (by k_mem) (by assumption) ?_ rfl rfl))) | (k_dflt (refine nameL (by k_asm) (by exact rfl) ?_ rfl rfl (by decide)); k_whole)) | walk1 | (dsimp only; walk1) | (leave1; (try dsimp only)))) <;> (try ((fail_if_success (fail_if_success k_fold)); (with_reducible refine foldQ ?_); intro zq ze)))
    rename_i t_9 lA h_1 l1_1 cA h_2 l1_2 Dx h_3 l1_3 h_4 F_4 N_4 h_5 h_6 h_6b F_7 N_7 h_8 tk_8 r1_8 r2_8 r3_8 hr_8 F_8 N_8 hk_8
    have c0 : 0 < cz.length := by omega
    refine (fun (last : _) (hlast : last = cz.getD (Int.toNat 9) 0) => ?_) _ rfl
    rw [← hlast] at F_8 N_8
    clear hlast
    refine (fun (la : Nat) (hla : (la : Int) = (last.fdiv 6).fmod 2) => ?_) (((last.fdiv 6).fmod 2).toNat) (Int.toNat_of_nonneg (Int.fmod_nonneg_of_pos _ (by decide)))
    refine (fun (lb : Nat) (hlb : (lb : Int) = (last.fdiv 12).fmod 2) => ?_) (((last.fdiv 12).fmod 2).toNat) (Int.toNat_of_nonneg (Int.fmod_nonneg_of_pos _ (by decide)))
    refine (fun (lc : Nat) (hlc : (lc : Int) = (last.fdiv 24).fmod 3) => ?_) (((last.fdiv 24).fmod 3).toNat) (Int.toNat_of_nonneg (Int.fmod_nonneg_of_pos _ (by decide)))
    refine (fun (lev : Nat → Int) (hlev : lev = lv la lb lc) => ?_) _ rfl
    have hB0 : Below callerA S1.heap [] S1.heap := ⟨rfl, fun _ _ e => e, trivial⟩
    have dw' : ∃ v, of1.data = .cell v := ⟨_, df⟩
    have df' : ow.data = .cell none := dw.trans (by with_unfolding_all rfl)
    refine Held.mk ?_
    refine for_rangeS (n := 9) (Led2 lA cA ca (S1.heap.objs.size + 1) (S1.heap.objs.size + 1 + 1) (lst cv cc) ow lev) (fun _ => []) [Str.ofString "cell", Str.ofString "i", Str.ofString "j", Str.ofString "left", Str.ofString "drawn", Str.ofString "figures", Str.ofString "kind", Str.ofString "row", Str.ofString "column", Str.ofString "end", Str.ofString "text", Str.ofString "front", Str.ofString "reply", Str.ofString "told", Str.ofString "words"] (G2 cA lev) ⟨[], ⟨fun _ => (0 : Nat), fun _ => (0 : Nat), lev, fun _ => (0 : Nat), fun _ => (0 : Nat), fun _ => (0 : Nat), fun _ => [], fun _ => [], fun _ => 0⟩, 0, 0, of1⟩
      rfl (by assumption) (by decide) (by decide) (by k_asm) (News.sub N_8 (fun r hr => List.mem_cons_of_mem _ ?subs)) (fun _ h => absurd h (List.not_mem_nil)) ⟨.nil, fun _ h => absurd h (List.not_mem_nil), rfl, fun _ h => absurd h (List.not_mem_nil), fun _ h => absurd h (List.not_mem_nil), dw', fun _ h => absurd h (List.not_mem_nil)⟩ ?turn2 ?done2
    case subs =>
      simp only [Led2, rowsP, lineOf, List.foldl_nil, List.map_nil, List.flatMap_nil, List.mem_cons, List.not_mem_nil, or_false] at hr ⊢
      rcases hr with h | h | h | h | h <;> simp only [h, true_or, or_true]
    case turn2 =>
      rintro i t' ⟨ks, p, cl, ccm, ow'⟩ u9 h9 tk9 I oI hi ⟨g1, g2, g3, g4, g5, g6, g7⟩ hoff F9 N9
      dsimp only [kstB] at g1 g2 g3 g4 g5 g6 g7 F9 N9
      dsimp only [Led2] at N9 hoff
      have e0 : (0 : Int) + (i : Int) * 1 = (i : Int) := by omega
      rw [e0] at F9
      refine letM F9 ?_
      clear F9
      intro mz2 F9
      ((repeat' (first | (k_unfold; (try clear ze zq); (try dsimp only)) | (k_end; wrow_close) | ((fail_if_success (fail_if_success (with_reducible refine wpAny_execs_cons ?_))); ((try ((fail_if_success (fail_if_success k_fold)); (with_reducible refine foldQ ?_); intro zq ze)); (try k_gentoks); (with_reducible refine wpAny_execs_cons ?_); (try dsimp only); ((fail_if_success (fail_if_success k_fold)); (with_reducible refine foldQ ?_); intro zq ze))) | ((with_reducible show wpAny _ _ (eval (.Name _ _) _) _ _ _); first | ((k_dflt (first | refine comp_local (by k_asm) (by k_mem) (by assumption) (by assumption) ?_ rfl rfl | refine comp_localM (by k_asm) (by assumption) (by assumption) (by simp only [List.mem_append, List.mem_cons, true_or, or_true]) ?_ rfl rfl | refine lcf_cell (by k_asm) rfl (by k_mem) (by assumption) ?_ rfl rfl | refine lcf_free (by k_asm) rfl (by k_mem) (by assumption) ?_ rfl rfl))) | (k_dflt (refine nameL (by k_asm) (by exact rfl) ?_ rfl rfl (by decide)); k_whole)) | walk1 | (dsimp only; walk1) | (leave1; (try dsimp only)))) <;> (try ((fail_if_success (fail_if_success k_fold)); (with_reducible refine foldQ ?_); intro zq ze)))
      refine Held.mk ?_
      refine (fun (cell : _) (hcell : cz[i]? = some cell) => ?_) _ (List.getElem?_eq_getElem (by omega))
      obtain ⟨ct, hct⟩ := hP1.get _ _ hcell
      refine list_item (by k_asm) (by k_mem) (by omega) (by omega) (x := .int cell ct) (by rw [Int.toNat_natCast]; exact hct) ?_
      ((repeat' (first | (k_unfold; (try clear ze zq); (try dsimp only)) | (k_end; wrow_close) | ((fail_if_success (fail_if_success (with_reducible refine wpAny_execs_cons ?_))); ((try ((fail_if_success (fail_if_success k_fold)); (with_reducible refine foldQ ?_); intro zq ze)); (try k_gentoks); (with_reducible refine wpAny_execs_cons ?_); (try dsimp only); ((fail_if_success (fail_if_success k_fold)); (with_reducible refine foldQ ?_); intro zq ze))) | ((with_reducible show wpAny _ _ (eval (.Name _ _) _) _ _ _); first | ((k_dflt (first | refine comp_local (by k_asm) (by k_mem) (by assumption) (by assumption) ?_ rfl rfl | refine comp_localM (by k_asm) (by assumption) (by assumption) (by simp only [List.mem_append, List.mem_cons, true_or, or_true]) ?_ rfl rfl | refine lcf_cell (by k_asm) rfl (by k_mem) (by assumption) ?_ rfl rfl | refine lcf_free (by k_asm) rfl (by k_mem) (by assumption) ?_ rfl rfl))) | (k_dflt (refine nameL (by k_asm) (by exact rfl) ?_ rfl rfl (by decide)); k_whole)) | (((with_reducible show wpAny _ _ (callWith _ (Value.builtin _) [_] _ _) _ _ _); refine callWith_method1 ?_)) | walk1 | (dsimp only; walk1) | (leave1; (try dsimp only)))) <;> (try ((fail_if_success (fail_if_success k_fold)); (with_reducible refine foldQ ?_); intro zq ze)))
      obtain ⟨da, hda, hda6, hdn⟩ := fmod_nat (x := cell) (m := 6) (by decide)
      obtain ⟨db, hdb, hdb5, hdbn⟩ := fmod_nat (x := cell.fdiv 6) (m := 5) (by decide)
      obtain ⟨dc, hdc, hdc4, hdcn⟩ := fmod_nat (x := cell.fdiv 30) (m := 4) (by decide)
      obtain ⟨x1, x2, x3, hx1, hx2, hx3, hT3⟩ := drawn_ok (a := da) (b := db) (c := dc) (by omega) (by omega) (by omega)
      have hsix : ∀ t1 t2 t3 t4 t5 t6 : Tok, IntsAre [.int 1 t1, .int 2 t2, .int 3 t3, .int 4 t4, .int 5 t5, .int 6 t6] six := fun _ _ _ _ _ _ => .cons _ _ (.cons _ _ (.cons _ _ (.cons _ _ (.cons _ _ (.cons _ _ .nil)))))
      refine Held.mk ?_
      obtain ⟨tx1, htx1⟩ := (hsix _ _ _ _ _ _).get _ _ hx1
      refine pop_at (y := .int x1 tx1) (by k_asm) (by k_asm) (by omega) (by rw [hdn]; exact htx1) (by show 6 < 1000; decide) (by k_upd) ?_
      intro h10 F10 N10
      rw [hdn] at N10
      ((repeat' (first | (k_unfold; (try clear ze zq); (try dsimp only)) | (k_end; wrow_close) | ((with_reducible show wpAny _ _ (eval (.Name _ _) _) _ _ _); first | ((k_dflt (first | refine comp_local (by k_asm) (by k_mem) (by assumption) (by assumption) ?_ rfl rfl | refine comp_localM (by k_asm) (by assumption) (by assumption) (by simp only [List.mem_append, List.mem_cons, true_or, or_true]) ?_ rfl rfl | refine lcf_cell (by k_asm) rfl (by k_mem) (by assumption) ?_ rfl rfl | refine lcf_free (by k_asm) rfl (by k_mem) (by assumption) ?_ rfl rfl))) | (k_dflt (refine nameL (by k_asm) (by exact rfl) ?_ rfl rfl (by decide)); k_whole)) | (((with_reducible show wpAny _ _ (callWith _ (Value.builtin _) [_] _ _) _ _ _); refine callWith_method1 ?_)) | walk1 | (dsimp only; walk1) | (leave1; (try dsimp only)))) <;> (try ((fail_if_success (fail_if_success k_fold)); (with_reducible refine foldQ ?_); intro zq ze)))
      refine Held.mk ?_
      obtain ⟨tx2, htx2⟩ := (ints_erase (hsix _ _ _ _ _ _) da).get _ _ hx2
      refine pop_at (y := .int x2 tx2) (by k_asm) (by k_asm) (by omega) (by rw [hdbn]; exact htx2) (Nat.lt_of_le_of_lt (List.length_eraseIdx_le ..) (by show 6 < 1000; decide)) (by k_upd) ?_
      intro h11 F11 N11
      rw [hdbn] at N11
      ((repeat' (first | (k_unfold; (try clear ze zq); (try dsimp only)) | (k_end; wrow_close) | ((with_reducible show wpAny _ _ (eval (.Name _ _) _) _ _ _); first | ((k_dflt (first | refine comp_local (by k_asm) (by k_mem) (by assumption) (by assumption) ?_ rfl rfl | refine comp_localM (by k_asm) (by assumption) (by assumption) (by simp only [List.mem_append, List.mem_cons, true_or, or_true]) ?_ rfl rfl | refine lcf_cell (by k_asm) rfl (by k_mem) (by assumption) ?_ rfl rfl | refine lcf_free (by k_asm) rfl (by k_mem) (by assumption) ?_ rfl rfl))) | (k_dflt (refine nameL (by k_asm) (by exact rfl) ?_ rfl rfl (by decide)); k_whole)) | (((with_reducible show wpAny _ _ (callWith _ (Value.builtin _) [_] _ _) _ _ _); refine callWith_method1 ?_)) | walk1 | (dsimp only; walk1) | (leave1; (try dsimp only)))) <;> (try ((fail_if_success (fail_if_success k_fold)); (with_reducible refine foldQ ?_); intro zq ze)))
      refine Held.mk ?_
      obtain ⟨tx3, htx3⟩ := (ints_erase (ints_erase (hsix _ _ _ _ _ _) da) db).get _ _ hx3
      refine pop_at (y := .int x3 tx3) (by k_asm) (by k_asm) (by omega) (by rw [hdcn]; exact htx3) (Nat.lt_of_le_of_lt (List.length_eraseIdx_le ..) (Nat.lt_of_le_of_lt (List.length_eraseIdx_le ..) (by show 6 < 1000; decide))) (by k_upd) ?_
      intro h12 F12 N12
      rw [hdcn] at N12
      ((repeat' (first | (k_unfold; (try clear ze zq); (try dsimp only)) | (k_end; wrow_close) | ((fail_if_success (fail_if_success (with_reducible refine wpAny_execs_cons ?_))); ((try ((fail_if_success (fail_if_success k_fold)); (with_reducible refine foldQ ?_); intro zq ze)); (try k_gentoks); (with_reducible refine wpAny_execs_cons ?_); (try dsimp only); ((fail_if_success (fail_if_success k_fold)); (with_reducible refine foldQ ?_); intro zq ze))) | (((with_reducible show wpAny _ _ (callWith _ (Value.builtin _) [_] _ _) _ _ _); refine callWith_method1 ?_)) | walk1 | (dsimp only; walk1) | (leave1; (try dsimp only)))) <;> (try ((fail_if_success (fail_if_success k_fold)); (with_reducible refine foldQ ?_); intro zq ze)))
      rename_i dA h_12 l1_12 h_13 F_13 N_13
      replace N_13 := News.sub N_13 (fun r hr => by
        rcases List.mem_cons.mp hr with h | hr
        · rw [h]; exact List.mem_cons_self ..
        · exact List.mem_cons_of_mem _ (List.mem_cons_of_mem _ (List.mem_cons_of_mem _ hr)))
      clear htx3
      refine Held.mk ?_
      refine' comp_plain (h₀ := S1.heap) (L := S1.heap.objs.size) ?hclos ?hcell ?hkind ?hnames ?hx ?_ ?hs
      (case hclos => rfl)
      (case hcell => decide)
      (case hkind => rfl)
      (case hnames => decide)
      (case hx => rfl)
      (case hs => intro _; rfl)
      ((repeat' (first | (k_unfold; (try clear ze zq); (try dsimp only)) | (k_end; wrow_close) | ((with_reducible show wpAny _ _ (eval (.Name _ _) _) _ _ _); first | ((k_dflt (first | refine comp_local (by k_asm) (by k_mem) (by assumption) (by assumption) ?_ rfl rfl | refine comp_localM (by k_asm) (by assumption) (by assumption) (by simp only [List.mem_append, List.mem_cons, true_or, or_true]) ?_ rfl rfl | refine lcf_cell (by k_asm) rfl (by k_mem) (by assumption) ?_ rfl rfl | refine lcf_free (by k_asm) rfl (by k_mem) (by assumption) ?_ rfl rfl))) | (k_dflt (refine nameL (by k_asm) (by exact rfl) ?_ rfl rfl (by decide)); k_whole)) | walk1 | (dsimp only; walk1) | (leave1; (try dsimp only)))) <;> (try ((fail_if_success (fail_if_success k_fold)); (with_reducible refine foldQ ?_); intro zq ze)))
      refine Held.mk ?_
      refine' compAt_list (vs := [.int x1 tx1, .int x2 tx2, .int x3 tx3]) (c := 0) (fun i2 ys extra => StrsAre ys ([dg x1, dg x2, dg x3].take i2) ∧ extra = []) rfl ?hm ?hsz ?hF ?hN ⟨.nil, rfl⟩ ?turn3 ?done3
      (((case hF => k_asm)); ((case hN => k_asm)); ((case hm => k_mem)))
      case hsz => show 3 ≤ sizeLine; decide
      case turn3 =>
        rintro C2 D2 I2 oI2 i2 v2 ys2 c2 extra2 pl2 own2 h10 tk10 E2 hv2 hI0_ hI1_
        refine glet4 v2 ys2 extra2 pl2 ?_
        intro gl_
        obtain ⟨hys2, rfl⟩ := hI0_
        obtain ⟨o2, om2, rfl, hns2, hm2⟩ := hI1_
        obtain ⟨x, t, rfl, hd2, hx16⟩ := digit_at hT3 hv2
        k_unfold
        clear gl_
        intro hown2 F10 N10
        try ((fail_if_success (fail_if_success k_fold)); (with_reducible refine foldQ ?_); intro zq ze)
        ((repeat' (first | (k_unfold; (try clear ze zq); (try dsimp only)) | (k_end; wrow_close) | ((with_reducible show wpAny _ _ (eval (.Name _ _) _) _ _ _); first | ((k_dflt (first | refine comp_local (by k_asm) (by k_mem) (by assumption) (by assumption) ?_ rfl rfl | refine comp_localM (by k_asm) (by assumption) (by assumption) (by simp only [List.mem_append, List.mem_cons, true_or, or_true]) ?_ rfl rfl | refine lcf_cell (by k_asm) rfl (by k_mem) (by assumption) ?_ rfl rfl | refine lcf_free (by k_asm) rfl (by k_mem) (by assumption) ?_ rfl rfl))) | (k_dflt (refine nameL (by k_asm) (by exact rfl) ?_ rfl rfl (by decide)); k_whole)) | ((with_reducible show @ite _ _ _ _ _); (first | refine iteN (by (first | decide | (simp only [beq_iff_eq, decide_eq_true_eq, List.mem_cons, List.not_mem_nil, or_false]; omega))) ?_ | refine iteY (by (first | decide | (simp only [beq_iff_eq, decide_eq_true_eq, List.mem_cons, List.not_mem_nil, or_false]; omega))) ?_)) | (((with_reducible show wpAny _ _ (callWith _ (Value.builtin _) [_] _ _) _ _ _); refine callWith_method1 ?_)) | walk1 | (dsimp only; walk1) | (leave1; (try dsimp only)))) <;> (try ((fail_if_success (fail_if_success k_fold)); (with_reducible refine foldQ ?_); intro zq ze)))
        refine Held.mk ?_
        exact CompEnd.none (by k_asm) (by k_asm) ⟨strs_snoc hys2 hd2, rfl⟩
      case done3 =>
        rintro D2 h10 tk10 ys2 c2 extra2 hI0_
        refine glet2 ys2 extra2 ?_
        intro gl_
        obtain ⟨hys2, rfl⟩ := hI0_
        k_unfold
        clear gl_
        intro F10 N10 hlt10 hne10
        try ((fail_if_success (fail_if_success k_fold)); (with_reducible refine foldQ ?_); intro zq ze)
        ((repeat' (first | (k_unfold; (try clear ze zq); (try dsimp only)) | (k_end; wrow_close) | walk1 | (dsimp only; walk1) | (leave1; (try dsimp only)))) <;> (try ((fail_if_success (fail_if_success k_fold)); (with_reducible refine foldQ ?_); intro zq ze)))
        refine join_listC (items := ys2.toArray) (ys := [dg x1, dg x2, dg x3]) (News.isList (by k_asm) (List.mem_cons_self ..)) hys2 (by decide) ?jn ?_
        case jn =>
          have z1 := dg_len hT3.x1
          have z2 := dg_len hT3.y1
          have z3 := dg_len hT3.z1
          simp only [List.map_cons, List.map_nil, List.sum_cons, List.sum_nil, List.length_cons, List.length_nil]
          omega
        intro tf tkf
        have hfo := fig_ok hT3
        refine (fun (fig : _) (hfig : fig = figS x1 x2 x3) => ?_) _ rfl
        rw [← hfig] at hfo
        rw [show Txt.join (Str.ofString "") [dg x1, dg x2, dg x3] = fig from hfig.symm]
        have hfl := hfo.len
        have hff := free_fig hfo hT3
        have N_11 := News.sub (l' := (dA, lst [Value.int x1 tx1, Value.int x2 tx2, Value.int x3 tx3] 0) :: (I, oI) :: (lA, lst (List.map p.v (lineOf lev ks)) cl) :: (cA, lst (List.map p.v ks) ccm) :: (ca, lst cv cc) :: (S1.heap.objs.size + 1, ow') :: (S1.heap.objs.size + 1 + 1, ow) :: rowsP p ks) N10 (fun r hr => List.mem_cons_of_mem _ hr)
        clear N10 hlt10 hne10
        obtain ⟨kd, hkd, hkd10, hkdn⟩ := fmod_nat (x := cell.fdiv 120) (m := 10) (by decide)
        have hk10 : kd < 10 := by omega
        ((repeat' (first | (k_unfold; (try clear ze zq); (try dsimp only)) | (k_end; wrow_close) | ((fail_if_success (fail_if_success (with_reducible refine wpAny_execs_cons ?_))); ((try ((fail_if_success (fail_if_success k_fold)); (with_reducible refine foldQ ?_); intro zq ze)); (try k_gentoks); (with_reducible refine wpAny_execs_cons ?_); (try dsimp only); ((fail_if_success (fail_if_success k_fold)); (with_reducible refine foldQ ?_); intro zq ze))) | ((with_reducible show wpAny _ _ (eval (.Name _ _) _) _ _ _); first | ((k_dflt (first | refine comp_local (by k_asm) (by k_mem) (by assumption) (by assumption) ?_ rfl rfl | refine comp_localM (by k_asm) (by assumption) (by assumption) (by simp only [List.mem_append, List.mem_cons, true_or, or_true]) ?_ rfl rfl | refine lcf_cell (by k_asm) rfl (by k_mem) (by assumption) ?_ rfl rfl | refine lcf_free (by k_asm) rfl (by k_mem) (by assumption) ?_ rfl rfl))) | (k_dflt (refine nameL (by k_asm) (by exact rfl) ?_ rfl rfl (by decide)); k_whole)) | walk1 | (dsimp only; walk1) | (leave1; (try dsimp only)))) <;> (try ((fail_if_success (fail_if_success k_fold)); (with_reducible refine foldQ ?_); intro zq ze)))
        refine Held.mk ?_
        rename Fr _ _ _ _ => F15
        rename News _ _ _ _ => N15
        rw [← hkd] at F15
        clear hkdn hkd10 hkd
        refine wpAny_Assign_Name ?_
        refine cut_eval F15 N15 (fun v => OptV (rowO kd i) v) ?row ?_
        case row =>
          by_cases h4 : kd = 4
          · subst h4
            ((repeat' (first | (k_unfold; (try clear ze zq); (try dsimp only)) | (k_end; wrow_close) | ((with_reducible show wpAny _ _ (eval (.Name _ _) _) _ _ _); first | ((k_dflt (first | refine comp_local (by k_asm) (by k_mem) (by assumption) (by assumption) ?_ rfl rfl | refine comp_localM (by k_asm) (by assumption) (by assumption) (by simp only [List.mem_append, List.mem_cons, true_or, or_true]) ?_ rfl rfl | refine lcf_cell (by k_asm) rfl (by k_mem) (by assumption) ?_ rfl rfl | refine lcf_free (by k_asm) rfl (by k_mem) (by assumption) ?_ rfl rfl))) | (k_dflt (refine nameL (by k_asm) (by exact rfl) ?_ rfl rfl (by decide)); k_whole)) | ((with_reducible show @ite _ _ _ _ _); (first | refine iteN (by (first | decide | (simp only [beq_iff_eq, decide_eq_true_eq, List.mem_cons, List.not_mem_nil, or_false]; omega))) ?_ | refine iteY (by (first | decide | (simp only [beq_iff_eq, decide_eq_true_eq, List.mem_cons, List.not_mem_nil, or_false]; omega))) ?_)) | walk1 | (dsimp only; walk1) | (leave1; (try dsimp only)))) <;> (try ((fail_if_success (fail_if_success k_fold)); (with_reducible refine foldQ ?_); intro zq ze)))
            exact Cut.mk ⟨_, rfl⟩ (by k_asm) (by k_asm)
          · by_cases h5 : kd = 5 ∨ kd = 6
            · have hO : OptV (rowO kd i) .none := by
                unfold rowO
                rw [if_neg h4, if_pos h5]
                exact rfl
              ((repeat' (first | (k_unfold; (try clear ze zq); (try dsimp only)) | (k_end; wrow_close) | ((with_reducible show wpAny _ _ (eval (.Name _ _) _) _ _ _); first | ((k_dflt (first | refine comp_local (by k_asm) (by k_mem) (by assumption) (by assumption) ?_ rfl rfl | refine comp_localM (by k_asm) (by assumption) (by assumption) (by simp only [List.mem_append, List.mem_cons, true_or, or_true]) ?_ rfl rfl | refine lcf_cell (by k_asm) rfl (by k_mem) (by assumption) ?_ rfl rfl | refine lcf_free (by k_asm) rfl (by k_mem) (by assumption) ?_ rfl rfl))) | (k_dflt (refine nameL (by k_asm) (by exact rfl) ?_ rfl rfl (by decide)); k_whole)) | ((with_reducible show @ite _ _ _ _ _); (first | refine iteN (by (first | decide | (simp only [beq_iff_eq, decide_eq_true_eq, List.mem_cons, List.not_mem_nil, or_false]; omega))) ?_ | refine iteY (by (first | decide | (simp only [beq_iff_eq, decide_eq_true_eq, List.mem_cons, List.not_mem_nil, or_false]; omega))) ?_)) | ((with_reducible show wpAny _ _ (compareOp .In (.int _ _) (.ref _)) _ _ _); (k_dflt (refine int_in_tup (by k_asm) (by k_mem) (by first | exact .cons _ _ (.cons _ _ .nil) | exact .cons _ _ (.cons _ _ (.cons _ _ (.cons _ _ .nil)))) (by first | decide | ktr_units) ?_))) | walk1 | (dsimp only; walk1) | (leave1; (try dsimp only)))) <;> (try ((fail_if_success (fail_if_success k_fold)); (with_reducible refine foldQ ?_); intro zq ze)))
              exact Cut.mk hO (by k_asm) (News.sub (by k_asm) (fun r hr => List.mem_cons_of_mem _ hr))
            · have hO : ∀ t, OptV (rowO kd i) (.str (S.one (97 + i / 3)) t) := fun t => by
                unfold rowO
                rw [if_neg h4, if_neg h5]
                exact ⟨t, rfl⟩
              ((repeat' (first | (k_unfold; (try clear ze zq); (try dsimp only)) | (k_end; wrow_close) | ((with_reducible show wpAny _ _ (eval (.Name _ _) _) _ _ _); first | ((k_dflt (first | refine comp_local (by k_asm) (by k_mem) (by assumption) (by assumption) ?_ rfl rfl | refine comp_localM (by k_asm) (by assumption) (by assumption) (by simp only [List.mem_append, List.mem_cons, true_or, or_true]) ?_ rfl rfl | refine lcf_cell (by k_asm) rfl (by k_mem) (by assumption) ?_ rfl rfl | refine lcf_free (by k_asm) rfl (by k_mem) (by assumption) ?_ rfl rfl))) | (k_dflt (refine nameL (by k_asm) (by exact rfl) ?_ rfl rfl (by decide)); k_whole)) | ((with_reducible show @ite _ _ _ _ _); (first | refine iteN (by (first | decide | (simp only [beq_iff_eq, decide_eq_true_eq, List.mem_cons, List.not_mem_nil, or_false]; omega))) ?_ | refine iteY (by (first | decide | (simp only [beq_iff_eq, decide_eq_true_eq, List.mem_cons, List.not_mem_nil, or_false]; omega))) ?_)) | ((with_reducible show wpAny _ _ (compareOp .In (.int _ _) (.ref _)) _ _ _); (k_dflt (refine int_in_tup (by k_asm) (by k_mem) (by first | exact .cons _ _ (.cons _ _ .nil) | exact .cons _ _ (.cons _ _ (.cons _ _ (.cons _ _ .nil)))) (by first | decide | ktr_units) ?_))) | walk1 | (dsimp only; walk1) | (leave1; (try dsimp only)))) <;> (try ((fail_if_success (fail_if_success k_fold)); (with_reducible refine foldQ ?_); intro zq ze)))
              rw [row_is hi]
              exact Cut.mk (hO _) (by k_asm) (News.sub (by k_asm) (fun r hr => List.mem_cons_of_mem _ hr))
        intro vrow h16 tk16 hrow F16 N16
        clear F15 N15
        ((repeat' (first | (k_unfold; (try clear ze zq); (try dsimp only)) | (k_end; wrow_close) | ((fail_if_success (fail_if_success (with_reducible refine wpAny_execs_cons ?_))); ((try ((fail_if_success (fail_if_success k_fold)); (with_reducible refine foldQ ?_); intro zq ze)); (try k_gentoks); (with_reducible refine wpAny_execs_cons ?_); (try dsimp only); ((fail_if_success (fail_if_success k_fold)); (with_reducible refine foldQ ?_); intro zq ze))) | walk1 | (dsimp only; walk1) | (leave1; (try dsimp only)))) <;> (try ((fail_if_success (fail_if_success k_fold)); (with_reducible refine foldQ ?_); intro zq ze)))
        refine Held.mk ?_
        refine (fun (cS : _) (hcS : cS = colS kd i) => ?_) _ rfl
        rename Fr _ _ _ _ => F17
        rename News _ _ _ _ => N17
        refine wpAny_Assign_Name ?_
        refine cut_eval F17 N17 (fun v => ∃ t, v = .str cS t) ?col ?_
        case col =>
          by_cases h4 : kd = 4
          · subst h4
            ((repeat' (first | (k_unfold; (try clear ze zq); (try dsimp only)) | (k_end; wrow_close) | ((with_reducible show wpAny _ _ (eval (.Name _ _) _) _ _ _); first | ((k_dflt (first | refine comp_local (by k_asm) (by k_mem) (by assumption) (by assumption) ?_ rfl rfl | refine comp_localM (by k_asm) (by assumption) (by assumption) (by simp only [List.mem_append, List.mem_cons, true_or, or_true]) ?_ rfl rfl | refine lcf_cell (by k_asm) rfl (by k_mem) (by assumption) ?_ rfl rfl | refine lcf_free (by k_asm) rfl (by k_mem) (by assumption) ?_ rfl rfl))) | (k_dflt (refine nameL (by k_asm) (by exact rfl) ?_ rfl rfl (by decide)); k_whole)) | ((with_reducible show @ite _ _ _ _ _); (first | refine iteN (by (first | decide | (simp only [beq_iff_eq, decide_eq_true_eq, List.mem_cons, List.not_mem_nil, or_false]; omega))) ?_ | refine iteY (by (first | decide | (simp only [beq_iff_eq, decide_eq_true_eq, List.mem_cons, List.not_mem_nil, or_false]; omega))) ?_)) | walk1 | (dsimp only; walk1) | (leave1; (try dsimp only)))) <;> (try ((fail_if_success (fail_if_success k_fold)); (with_reducible refine foldQ ?_); intro zq ze)))
            exact Cut.mk ⟨_, by rw [hcS]; rfl⟩ (by k_asm) (by k_asm)
          · have hO : S.one (120 + i % 3) = cS := by
              rw [hcS]
              unfold colS
              rw [if_neg h4]
            ((repeat' (first | (k_unfold; (try clear ze zq); (try dsimp only)) | (k_end; wrow_close) | ((with_reducible show wpAny _ _ (eval (.Name _ _) _) _ _ _); first | ((k_dflt (first | refine comp_local (by k_asm) (by k_mem) (by assumption) (by assumption) ?_ rfl rfl | refine comp_localM (by k_asm) (by assumption) (by assumption) (by simp only [List.mem_append, List.mem_cons, true_or, or_true]) ?_ rfl rfl | refine lcf_cell (by k_asm) rfl (by k_mem) (by assumption) ?_ rfl rfl | refine lcf_free (by k_asm) rfl (by k_mem) (by assumption) ?_ rfl rfl))) | (k_dflt (refine nameL (by k_asm) (by exact rfl) ?_ rfl rfl (by decide)); k_whole)) | ((with_reducible show @ite _ _ _ _ _); (first | refine iteN (by (first | decide | (simp only [beq_iff_eq, decide_eq_true_eq, List.mem_cons, List.not_mem_nil, or_false]; omega))) ?_ | refine iteY (by (first | decide | (simp only [beq_iff_eq, decide_eq_true_eq, List.mem_cons, List.not_mem_nil, or_false]; omega))) ?_)) | walk1 | (dsimp only; walk1) | (leave1; (try dsimp only)))) <;> (try ((fail_if_success (fail_if_success k_fold)); (with_reducible refine foldQ ?_); intro zq ze)))
            rw [col_is hi, hO]
            exact Cut.mk ⟨_, rfl⟩ (by k_asm) (by k_asm)
        rintro _ h18 tk18 ⟨tC, rfl⟩ F18 N18
        clear F17 N17
        ((repeat' (first | (k_unfold; (try clear ze zq); (try dsimp only)) | (k_end; wrow_close) | ((fail_if_success (fail_if_success (with_reducible refine wpAny_execs_cons ?_))); ((try ((fail_if_success (fail_if_success k_fold)); (with_reducible refine foldQ ?_); intro zq ze)); (try k_gentoks); (with_reducible refine wpAny_execs_cons ?_); (try dsimp only); ((fail_if_success (fail_if_success k_fold)); (with_reducible refine foldQ ?_); intro zq ze))) | ((with_reducible show wpAny _ _ (eval (.Name _ _) _) _ _ _); first | ((k_dflt (first | refine comp_local (by k_asm) (by k_mem) (by assumption) (by assumption) ?_ rfl rfl | refine comp_localM (by k_asm) (by assumption) (by assumption) (by simp only [List.mem_append, List.mem_cons, true_or, or_true]) ?_ rfl rfl | refine lcf_cell (by k_asm) rfl (by k_mem) (by assumption) ?_ rfl rfl | refine lcf_free (by k_asm) rfl (by k_mem) (by assumption) ?_ rfl rfl))) | (k_dflt (refine nameL (by k_asm) (by exact rfl) ?_ rfl rfl (by decide)); k_whole)) | walk1 | (dsimp only; walk1) | (leave1; (try dsimp only)))) <;> (try ((fail_if_success (fail_if_success k_fold)); (with_reducible refine foldQ ?_); intro zq ze)))
        refine Held.mk ?_
        refine list_item_ex (by k_asm) (by k_mem) (by omega) (by omega) (end_at hk10) ?_
        intro vend hend
        rename News _ _ _ _ => N19
        replace N19 := News.sub N19 (fun r hr => List.mem_cons_of_mem _ hr)
        ((repeat' (first | (k_unfold; (try clear ze zq); (try dsimp only)) | (k_end; wrow_close) | ((fail_if_success (fail_if_success (with_reducible refine wpAny_execs_cons ?_))); ((try ((fail_if_success (fail_if_success k_fold)); (with_reducible refine foldQ ?_); intro zq ze)); (try k_gentoks); (with_reducible refine wpAny_execs_cons ?_); (try dsimp only); ((fail_if_success (fail_if_success k_fold)); (with_reducible refine foldQ ?_); intro zq ze))) | ((with_reducible show wpAny _ _ (eval (.Name _ _) _) _ _ _); first | ((k_dflt (first | refine comp_local (by k_asm) (by k_mem) (by assumption) (by assumption) ?_ rfl rfl | refine comp_localM (by k_asm) (by assumption) (by assumption) (by simp only [List.mem_append, List.mem_cons, true_or, or_true]) ?_ rfl rfl | refine lcf_cell (by k_asm) rfl (by k_mem) (by assumption) ?_ rfl rfl | refine lcf_free (by k_asm) rfl (by k_mem) (by assumption) ?_ rfl rfl))) | (k_dflt (refine nameL (by k_asm) (by exact rfl) ?_ rfl rfl (by decide)); k_whole)) | ((with_reducible show wpAny _ _ (compareOp .In (.int _ _) (.ref _)) _ _ _); (k_dflt (refine int_in_tup (by k_asm) (by k_mem) (by first | exact .cons _ _ (.cons _ _ .nil) | exact .cons _ _ (.cons _ _ (.cons _ _ (.cons _ _ .nil)))) (by first | decide | ktr_units) ?_))) | walk1 | (dsimp only; walk1) | (leave1; (try dsimp only)))) <;> (try ((fail_if_success (fail_if_success k_fold)); (with_reducible refine foldQ ?_); intro zq ze)))
        refine Held.mk ?_
        refine' Does.use (joined_any (w := W0) (mean := ExcName.means S0.heap) (mg := mg) (mb := mb) (news := (dA, lst [Value.int x1 tx1, Value.int x2 tx2, Value.int x3 tx3] 0) :: (I, oI) :: (lA, lst (List.map p.v (lineOf lev ks)) cl) :: (cA, lst (List.map p.v ks) ccm) :: (ca, lst cv cc) :: (S1.heap.objs.size + 1, ow') :: (S1.heap.objs.size + 1 + 1, ow) :: rowsP p ks) (n := 0) (x0 := some (Str.ofString "")) (x2 := some cS) (x3 := some fig) (decide ((kd : Int) ∈ ([1, 3, 6, 8] : List Int))) ?h0 hrow ?h2 ?h3 hend ?hl) hB0 (by k_asm) KX0 ?hN T0 rfl ?kd ?ku ?_
        (case hN => exact News.pick1 (by k_asm) (fun r hr => by (repeat (first | exact hr | apply List.mem_cons_of_mem))))
        (case h0 => exact ⟨_, rfl⟩)
        (case h2 => exact ⟨_, rfl⟩)
        (case h3 => exact ⟨_, rfl⟩)
        (case hl => exact len_five (by decide) row_len (by rw [hcS]; exact Nat.le_trans col_len (by decide)) (by show fig.length ≤ 20; rw [hfl]; decide) end_len)
        (case kd => first | decide | ktr_room)
        (case ku => first | decide | ktr_units)
        intro r20 news20 h20 tk20 F20 N20 ho20
        obtain ⟨ho20, rfl⟩ := ho20
        replace N20 := News.sub N20 (fun r hr => List.mem_cons_of_mem _ hr)
        obtain ⟨tT, rfl⟩ := text_is hk10 (by rw [hcS] at ho20; exact ho20)
        clear ho20
        refine (fun (T : _) (hT : T = Str.join dot (psOf kd i fig)) => ?_) _ rfl
        rw [← hT]
        have hlt0 : T.length ≤ 11 := by
          rw [hT]
          exact (ps_len hk10 hfl).2
        ((repeat' (first | (k_unfold; (try clear ze zq); (try dsimp only)) | (k_end; wrow_close) | ((fail_if_success (fail_if_success (with_reducible refine wpAny_execs_cons ?_))); ((try ((fail_if_success (fail_if_success k_fold)); (with_reducible refine foldQ ?_); intro zq ze)); (try k_gentoks); (with_reducible refine wpAny_execs_cons ?_); (try dsimp only); ((fail_if_success (fail_if_success k_fold)); (with_reducible refine foldQ ?_); intro zq ze))) | walk1 | (dsimp only; walk1) | (leave1; (try dsimp only)))) <;> (try ((fail_if_success (fail_if_success k_fold)); (with_reducible refine foldQ ?_); intro zq ze)))
        refine Held.mk ?_
        refine (fun (fS : _) (hfS : fS = frontS kd i) => ?_) _ rfl
        rename Fr _ _ _ _ => F21
        rename News _ _ _ _ => N21
        refine wpAny_Assign_Name ?_
        refine cut_eval F21 N21 (fun v => ∃ t, v = .str fS t) ?front ?_
        case front =>
          by_cases h5 : kd = 5
          · subst h5
            ((repeat' (first | (k_unfold; (try clear ze zq); (try dsimp only)) | (k_end; wrow_close) | ((with_reducible show wpAny _ _ (eval (.Name _ _) _) _ _ _); first | ((k_dflt (first | refine comp_local (by k_asm) (by k_mem) (by assumption) (by assumption) ?_ rfl rfl | refine comp_localM (by k_asm) (by assumption) (by assumption) (by simp only [List.mem_append, List.mem_cons, true_or, or_true]) ?_ rfl rfl | refine lcf_cell (by k_asm) rfl (by k_mem) (by assumption) ?_ rfl rfl | refine lcf_free (by k_asm) rfl (by k_mem) (by assumption) ?_ rfl rfl))) | (k_dflt (refine nameL (by k_asm) (by exact rfl) ?_ rfl rfl (by decide)); k_whole)) | ((with_reducible show @ite _ _ _ _ _); (first | refine iteN (by (first | decide | (simp only [beq_iff_eq, decide_eq_true_eq, List.mem_cons, List.not_mem_nil, or_false]; omega))) ?_ | refine iteY (by (first | decide | (simp only [beq_iff_eq, decide_eq_true_eq, List.mem_cons, List.not_mem_nil, or_false]; omega))) ?_)) | walk1 | (dsimp only; walk1) | (leave1; (try dsimp only)))) <;> (try ((fail_if_success (fail_if_success k_fold)); (with_reducible refine foldQ ?_); intro zq ze)))
            exact Cut.mk ⟨_, by rw [hfS]; rfl⟩ (by k_asm) (by k_asm)
          · by_cases h6 : kd = 6
            · subst h6
              ((repeat' (first | (k_unfold; (try clear ze zq); (try dsimp only)) | (k_end; wrow_close) | ((with_reducible show wpAny _ _ (eval (.Name _ _) _) _ _ _); first | ((k_dflt (first | refine comp_local (by k_asm) (by k_mem) (by assumption) (by assumption) ?_ rfl rfl | refine comp_localM (by k_asm) (by assumption) (by assumption) (by simp only [List.mem_append, List.mem_cons, true_or, or_true]) ?_ rfl rfl | refine lcf_cell (by k_asm) rfl (by k_mem) (by assumption) ?_ rfl rfl | refine lcf_free (by k_asm) rfl (by k_mem) (by assumption) ?_ rfl rfl))) | (k_dflt (refine nameL (by k_asm) (by exact rfl) ?_ rfl rfl (by decide)); k_whole)) | ((with_reducible show @ite _ _ _ _ _); (first | refine iteN (by (first | decide | (simp only [beq_iff_eq, decide_eq_true_eq, List.mem_cons, List.not_mem_nil, or_false]; omega))) ?_ | refine iteY (by (first | decide | (simp only [beq_iff_eq, decide_eq_true_eq, List.mem_cons, List.not_mem_nil, or_false]; omega))) ?_)) | walk1 | (dsimp only; walk1) | (leave1; (try dsimp only)))) <;> (try ((fail_if_success (fail_if_success k_fold)); (with_reducible refine foldQ ?_); intro zq ze)))
              exact Cut.mk ⟨_, by rw [hfS]; rfl⟩ (by k_asm) (by k_asm)
            · obtain ⟨rS, hrS, hrl⟩ : ∃ c, rowO kd i = some c ∧ c.length ≤ 1 := row_some h5 h6
              have hO : dot ++ rS = fS := by
                rw [hfS]
                unfold frontS
                rw [if_neg h5, if_neg h6, hrS]
                rfl
              rw [hrS] at hrow
              obtain ⟨tr, rfl⟩ := hrow
              ((repeat' (first | (k_unfold; (try clear ze zq); (try dsimp only)) | (k_end; wrow_close) | ((with_reducible show wpAny _ _ (eval (.Name _ _) _) _ _ _); first | ((k_dflt (first | refine comp_local (by k_asm) (by k_mem) (by assumption) (by assumption) ?_ rfl rfl | refine comp_localM (by k_asm) (by assumption) (by assumption) (by simp only [List.mem_append, List.mem_cons, true_or, or_true]) ?_ rfl rfl | refine lcf_cell (by k_asm) rfl (by k_mem) (by assumption) ?_ rfl rfl | refine lcf_free (by k_asm) rfl (by k_mem) (by assumption) ?_ rfl rfl))) | (k_dflt (refine nameL (by k_asm) (by exact rfl) ?_ rfl rfl (by decide)); k_whole)) | ((with_reducible show @ite _ _ _ _ _); (first | refine iteN (by (first | decide | (simp only [beq_iff_eq, decide_eq_true_eq, List.mem_cons, List.not_mem_nil, or_false]; omega))) ?_ | refine iteY (by (first | decide | (simp only [beq_iff_eq, decide_eq_true_eq, List.mem_cons, List.not_mem_nil, or_false]; omega))) ?_)) | walk1 | (dsimp only; walk1) | (leave1; (try dsimp only)))) <;> (try ((fail_if_success (fail_if_success k_fold)); (with_reducible refine foldQ ?_); intro zq ze)))
              rw [show Str.ofString "." ++ rS = fS from hO]
              exact Cut.mk ⟨_, rfl⟩ (by k_asm) (by k_asm)
        rintro _ h22 tk22 ⟨tF, rfl⟩ F22 N22
        clear F21 N21
        have hfl2 : fS.length ≤ 2 := by rw [hfS]; exact front_len
        have hcl2 : cS.length ≤ 1 := by rw [hcS]; exact col_len
        ((repeat' (first | (k_unfold; (try clear ze zq); (try dsimp only)) | (k_end; wrow_close) | ((fail_if_success (fail_if_success (with_reducible refine wpAny_execs_cons ?_))); ((try ((fail_if_success (fail_if_success k_fold)); (with_reducible refine foldQ ?_); intro zq ze)); (try k_gentoks); (with_reducible refine wpAny_execs_cons ?_); (try dsimp only); ((fail_if_success (fail_if_success k_fold)); (with_reducible refine foldQ ?_); intro zq ze))) | ((with_reducible show wpAny _ _ (eval (.Name _ _) _) _ _ _); first | ((k_dflt (first | refine comp_local (by k_asm) (by k_mem) (by assumption) (by assumption) ?_ rfl rfl | refine comp_localM (by k_asm) (by assumption) (by assumption) (by simp only [List.mem_append, List.mem_cons, true_or, or_true]) ?_ rfl rfl | refine lcf_cell (by k_asm) rfl (by k_mem) (by assumption) ?_ rfl rfl | refine lcf_free (by k_asm) rfl (by k_mem) (by assumption) ?_ rfl rfl))) | (k_dflt (refine nameL (by k_asm) (by exact rfl) ?_ rfl rfl (by decide)); k_whole)) | walk1 | (dsimp only; walk1) | (leave1; (try dsimp only)))) <;> (try ((fail_if_success (fail_if_success k_fold)); (with_reducible refine foldQ ?_); intro zq ze)))
        refine Held.mk ?_
        refine (fun (lS : _) (hlS : lS = lastS kd) => ?_) _ rfl
        have hll2 : lS.length ≤ 3 := by rw [hlS]; exact last_len
        refine list_item_ex (P := fun v => ∃ t, v = .str lS t) (by k_asm) (by k_mem) (by omega) (by omega) (by rw [hlS]; exact last_at hk10) ?_
        rintro _ ⟨tL, rfl⟩
        rename News _ _ _ _ => N23
        replace N23 := News.sub N23 (fun r hr => List.mem_cons_of_mem _ hr)
        ((repeat' (first | (k_unfold; (try clear ze zq); (try dsimp only)) | (k_end; wrow_close) | walk1 | (dsimp only; walk1) | (leave1; (try dsimp only)))) <;> (try ((fail_if_success (fail_if_success k_fold)); (with_reducible refine foldQ ?_); intro zq ze)))
        refine Held.mk ?_
        refine ne_str_f (by rw [hT, hfS, hcS, hlS]; exact side_is hk10) ?_
        ((repeat' (first | (k_unfold; (try clear ze zq); (try dsimp only)) | (k_end; wrow_close) | ((fail_if_success (fail_if_success (with_reducible refine wpAny_execs_cons ?_))); ((try ((fail_if_success (fail_if_success k_fold)); (with_reducible refine foldQ ?_); intro zq ze)); (try k_gentoks); (with_reducible refine wpAny_execs_cons ?_); (try dsimp only); ((fail_if_success (fail_if_success k_fold)); (with_reducible refine foldQ ?_); intro zq ze))) | ((with_reducible show wpAny _ _ (eval (.Name _ _) _) _ _ _); first | ((k_dflt (first | refine comp_local (by k_asm) (by k_mem) (by assumption) (by assumption) ?_ rfl rfl | refine comp_localM (by k_asm) (by assumption) (by assumption) (by simp only [List.mem_append, List.mem_cons, true_or, or_true]) ?_ rfl rfl | refine lcf_cell (by k_asm) rfl (by k_mem) (by assumption) ?_ rfl rfl | refine lcf_free (by k_asm) rfl (by k_mem) (by assumption) ?_ rfl rfl))) | (k_dflt (refine nameL (by k_asm) (by exact rfl) ?_ rfl rfl (by decide)); k_whole)) | ((with_reducible show @ite _ _ _ _ _); (first | refine iteN (by (first | decide | (simp only [beq_iff_eq, decide_eq_true_eq, List.mem_cons, List.not_mem_nil, or_false]; omega))) ?_ | refine iteY (by (first | decide | (simp only [beq_iff_eq, decide_eq_true_eq, List.mem_cons, List.not_mem_nil, or_false]; omega))) ?_)) | (((with_reducible show wpAny _ _ (callWith _ (Value.builtin _) [_] _ _) _ _ _); refine callWith_method1 ?_)) | walk1 | (dsimp only; walk1) | (leave1; (try dsimp only)))) <;> (try ((fail_if_success (fail_if_success k_fold)); (with_reducible refine foldQ ?_); intro zq ze)))
        refine SC.replaceA (by first | omega | ((show @Ne Nat _ _); omega)) (by first | omega | ((show @Ne Nat _ _); omega)) (by first | omega | ((show @Ne Nat _ _); omega)) ?rl ?_ (booked_in (KX0.keeps (Fr.keep (by k_asm))))
        case rl =>
          have h1 : (T.length + 1) * (Txt.item (Str.ofString "|.") (((i : Int) + cell.fdiv 1200).fmod 2)).length ≤ (T.length + 1) * 1 := Nat.mul_le_mul_left _ (Nat.le_of_eq rfl)
          omega
        intro tR kR
        obtain ⟨z, hz2, hze⟩ := sign_is (x := (i : Int) + cell.fdiv 1200)
        rw [hze, hT, repl (ps_ne hk10) (ps_free hk10 hi hff)]
        refine (fun (J : _) (hJ : J = Str.join (S.one z) (psOf kd i fig)) => ?_) _ rfl
        rw [← hJ]
        have hlz : J.length ≤ 11 := by rw [hJ]; exact (ps_len hk10 hfl).2
        ((repeat' (first | (k_unfold; (try clear ze zq); (try dsimp only)) | (k_end; wrow_close) | ((fail_if_success (fail_if_success (with_reducible refine wpAny_execs_cons ?_))); ((try ((fail_if_success (fail_if_success k_fold)); (with_reducible refine foldQ ?_); intro zq ze)); (try k_gentoks); (with_reducible refine wpAny_execs_cons ?_); (try dsimp only); ((fail_if_success (fail_if_success k_fold)); (with_reducible refine foldQ ?_); intro zq ze))) | ((with_reducible show wpAny _ _ (eval (.Name _ _) _) _ _ _); first | ((k_dflt (first | refine comp_local (by k_asm) (by k_mem) (by assumption) (by assumption) ?_ rfl rfl | refine comp_localM (by k_asm) (by assumption) (by assumption) (by simp only [List.mem_append, List.mem_cons, true_or, or_true]) ?_ rfl rfl | refine lcf_cell (by k_asm) rfl (by k_mem) (by assumption) ?_ rfl rfl | refine lcf_free (by k_asm) rfl (by k_mem) (by assumption) ?_ rfl rfl))) | (k_dflt (refine nameL (by k_asm) (by exact rfl) ?_ rfl rfl (by decide)); k_whole)) | walk1 | (dsimp only; walk1) | (leave1; (try dsimp only)))) <;> (try ((fail_if_success (fail_if_success k_fold)); (with_reducible refine foldQ ?_); intro zq ze)))
        refine Held.mk ?_
        refine' Does.use (bl_pair (w := W0) (mean := ExcName.means S0.heap) (mg := mg) (mb := mb) (n := 0) (x := some (S.one (97 + i / 3))) (y := some (S.one (120 + i % 3))) ?hm ⟨_, congrArg (Value.str · _) (row_is hi)⟩ ⟨_, congrArg (Value.str · _) (col_is hi)⟩ (by show 1 + 1 < 1000; decide)) hB0 (by k_asm) KX0 ?hN T0 rfl ?kd ?ku ?_
        (case hN => k_asm)
        (case hm => k_mem)
        (case kd => first | decide | ktr_room)
        (case ku => first | decide | ktr_units)
        intro r24 news24 h24 tk24 F24 N24 ho24
        obtain ⟨⟨tN, rfl⟩, rfl⟩ := ho24
        replace N24 := News.sub N24 (fun r hr => List.mem_cons_of_mem _ hr)
        refine (fun (nm : _) (hnm : nm = S.one (97 + i / 3) ++ dot ++ S.one (120 + i % 3)) => ?_) _ rfl
        rw [show joinS (some (S.one (97 + i / 3))) (some (S.one (120 + i % 3))) = nm from hnm.symm]
        by_cases h6 : kd < 6
        · have hC := fun (tx ty : Tok) (news : List (Addr × Obj)) => (by rw [hJ]; exact told_yes h6 hi hz2 hfo hT3 : DoesT W0 (ExcName.means S0.heap) mg mb 3 122 [.str (rpl J) tx, .str nm ty] [] news (fun r news' => ∃ D tp, r = .ref D ∧ news' = (D, tupObj [.str nm ty, .int (100 * x1 + 10 * x2 + x3) tp] 0) :: news))
          ((repeat' (first | (k_unfold; (try clear ze zq); (try dsimp only)) | (k_end; wrow_close) | walk1 | (dsimp only; walk1) | (leave1; (try dsimp only)))) <;> (try ((fail_if_success (fail_if_success k_fold)); (with_reducible refine foldQ ?_); intro zq ze)))
          refine Held.mk ?_
          refine DoesT.use (hC _ _ _) hB0 (by k_asm) KX0 (by k_asm) T0 rfl (by first | decide | ktr_room) (by first | decide | ktr_units) ?_
          clear hC
          intro r26 news26 h26 tk26 F26 N26 ho26
          obtain ⟨dT, tp, rfl, rfl⟩ := ho26
          ((repeat' (first | (k_unfold; (try clear ze zq); (try dsimp only)) | (k_end; wrow_close) | ((fail_if_success (fail_if_success (with_reducible refine wpAny_execs_cons ?_))); ((try ((fail_if_success (fail_if_success k_fold)); (with_reducible refine foldQ ?_); intro zq ze)); (try k_gentoks); (with_reducible refine wpAny_execs_cons ?_); (try dsimp only); ((fail_if_success (fail_if_success k_fold)); (with_reducible refine foldQ ?_); intro zq ze))) | ((with_reducible show wpAny _ _ (eval (.Name _ _) _) _ _ _); first | ((k_dflt (first | refine comp_local (by k_asm) (by k_mem) (by assumption) (by assumption) ?_ rfl rfl | refine comp_localM (by k_asm) (by assumption) (by assumption) (by simp only [List.mem_append, List.mem_cons, true_or, or_true]) ?_ rfl rfl | refine lcf_cell (by k_asm) rfl (by k_mem) (by assumption) ?_ rfl rfl | refine lcf_free (by k_asm) rfl (by k_mem) (by assumption) ?_ rfl rfl))) | (k_dflt (refine nameL (by k_asm) (by exact rfl) ?_ rfl rfl (by decide)); k_whole)) | ((with_reducible show @ite _ _ _ _ _); (first | refine iteN (by (first | decide | (simp only [beq_iff_eq, decide_eq_true_eq, List.mem_cons, List.not_mem_nil, or_false]; omega))) ?_ | refine iteY (by (first | decide | (simp only [beq_iff_eq, decide_eq_true_eq, List.mem_cons, List.not_mem_nil, or_false]; omega))) ?_)) | walk1 | (dsimp only; walk1) | (leave1; (try dsimp only)))) <;> (try ((fail_if_success (fail_if_success k_fold)); (with_reducible refine foldQ ?_); intro zq ze)))
          refine Held.mk ?_
          refine KIN.call_text hfo.num (by omega) ?_
          ((repeat' (first | (k_unfold; (try clear ze zq); (try dsimp only)) | (k_end; wrow_close) | walk1 | (dsimp only; walk1) | (leave1; (try dsimp only)))) <;> (try ((fail_if_success (fail_if_success k_fold)); (with_reducible refine foldQ ?_); intro zq ze)))
          refine Held.mk ?_
          rename News _ _ _ _ => N28
          rw [row_is hi, col_is hi, show S.one (97 + i / 3) ++ Str.ofString "." ++ S.one (120 + i % 3) = nm from hnm.symm] at N28
          have hnmo : PyData.strOk nm = true := by
            rw [hnm]
            exact ok_app (ok_app (ok_one (by omega)) (ok_one (by decide))) (ok_one (by omega))
          refine ne_pair hnmo N28 (by k_mem) (by k_mem) (by first | decide | ktr_units) ?_
          replace N28 := News.sub N28 (fun r hr => List.mem_cons_of_mem _ hr)
          ((repeat' (first | (k_unfold; (try clear ze zq); (try dsimp only)) | (k_end; wrow_close) | ((fail_if_success (fail_if_success (with_reducible refine wpAny_execs_cons ?_))); ((try ((fail_if_success (fail_if_success k_fold)); (with_reducible refine foldQ ?_); intro zq ze)); (try k_gentoks); (with_reducible refine wpAny_execs_cons ?_); (try dsimp only); ((fail_if_success (fail_if_success k_fold)); (with_reducible refine foldQ ?_); intro zq ze))) | ((with_reducible show wpAny _ _ (eval (.Name _ _) _) _ _ _); first | ((k_dflt (first | refine comp_local (by k_asm) (by k_mem) (by assumption) (by assumption) ?_ rfl rfl | refine comp_localM (by k_asm) (by assumption) (by assumption) (by simp only [List.mem_append, List.mem_cons, true_or, or_true]) ?_ rfl rfl | refine lcf_cell (by k_asm) rfl (by k_mem) (by assumption) ?_ rfl rfl | refine lcf_free (by k_asm) rfl (by k_mem) (by assumption) ?_ rfl rfl))) | (k_dflt (refine nameL (by k_asm) (by exact rfl) ?_ rfl rfl (by decide)); k_whole)) | ((with_reducible show @ite _ _ _ _ _); (first | refine iteN (by (first | decide | (simp only [beq_iff_eq, decide_eq_true_eq, List.mem_cons, List.not_mem_nil, or_false]; omega))) ?_ | refine iteY (by (first | decide | (simp only [beq_iff_eq, decide_eq_true_eq, List.mem_cons, List.not_mem_nil, or_false]; omega))) ?_)) | walk1 | (dsimp only; walk1) | (leave1; (try dsimp only)))) <;> (try ((fail_if_success (fail_if_success k_fold)); (with_reducible refine foldQ ?_); intro zq ze)))
          refine Held.mk ?_
          rename Fr _ _ _ _ => F29
          with_unfolding_all
            refine' For_unrF F29 ?_ ?ks ?kE
          (case ks => intro _; with_unfolding_all rfl)
          (case kE => first | exact PassesOwn.never | passes_own)
          ((repeat' (first | (k_unfold; (try clear ze zq); (try dsimp only)) | (k_end; wrow_close) | ((with_reducible show wpAny _ _ (eval (.Name _ _) _) _ _ _); first | ((k_dflt (first | refine comp_local (by k_asm) (by k_mem) (by assumption) (by assumption) ?_ rfl rfl | refine comp_localM (by k_asm) (by assumption) (by assumption) (by simp only [List.mem_append, List.mem_cons, true_or, or_true]) ?_ rfl rfl | refine lcf_cell (by k_asm) rfl (by k_mem) (by assumption) ?_ rfl rfl | refine lcf_free (by k_asm) rfl (by k_mem) (by assumption) ?_ rfl rfl))) | (k_dflt (refine nameL (by k_asm) (by exact rfl) ?_ rfl rfl (by decide)); k_whole)) | walk1 | (dsimp only; walk1) | (leave1; (try dsimp only)))) <;> (try ((fail_if_success (fail_if_success k_fold)); (with_reducible refine foldQ ?_); intro zq ze)))
          refine Held.mk ?_
          rename_i lW h_30 l1_30 h_31 dW h_32 F_32 N_32 l1_32
          rw [(dig hT3).1, (dig hT3).2.1, (dig hT3).2.2] at N_32
          have hwT : IsTup _ dW _ := News.isTup N_32 (List.mem_cons_self ..)
          have hwL := News.ne_locals N_32 (List.mem_cons_self ..)
          obtain ⟨gw, hgw⟩ := g6
          have hwW : lW ≠ S1.heap.objs.size + 1 := Nat.ne_of_gt l1_30.2.2.2.2.2.2.1
          have hcn := fun (a : Addr) (o : Obj) hm hd => ne_cell (a := a) (o := o) (b := S1.heap.objs.size + 1) N_32 hm (by k_mem) hgw hd
          have hRWn := all_seven (P := fun r => r.1 ≠ S1.heap.objs.size + 1 ∧ r.1 ≠ lW) (l := rowsP p ks)
            (x1 := (dT, tupObj [Value.str nm tN, Value.int (100 * x1 + 10 * x2 + x3) tp] 0)) ⟨hcn dT (tupObj [Value.str nm tN, Value.int (100 * x1 + 10 * x2 + x3) tp] 0) (by k_mem) (fun _ h => nomatch h), Nat.ne_of_lt l1_30.1⟩
            (x2 := (dA, lst [Value.int x1 tx1, Value.int x2 tx2, Value.int x3 tx3] 0)) ⟨hcn dA (lst [Value.int x1 tx1, Value.int x2 tx2, Value.int x3 tx3] 0) (by k_mem) (fun _ h => nomatch h), Nat.ne_of_lt l1_30.2.1⟩
            (x3 := (I, oI)) ⟨fun e => hoff _ (.tail _ (.tail _ (.tail _ (.head _)))) e.symm, Nat.ne_of_lt l1_30.2.2.1⟩
            (x4 := (lA, lst (List.map p.v (lineOf lev ks)) cl)) ⟨hcn lA (lst (List.map p.v (lineOf lev ks)) cl) (by k_mem) (fun _ h => nomatch h), Nat.ne_of_lt l1_30.2.2.2.1⟩
            (x5 := (cA, lst (List.map p.v ks) ccm)) ⟨hcn cA (lst (List.map p.v ks) ccm) (by k_mem) (fun _ h => nomatch h), Nat.ne_of_lt l1_30.2.2.2.2.1⟩
            (x6 := (ca, lst cv cc)) ⟨hcn ca (lst cv cc) (by k_mem) (fun _ h => nomatch h), Nat.ne_of_lt l1_30.2.2.2.2.2.1⟩
            (x7 := (S1.heap.objs.size + 1 + 1, ow)) ⟨Nat.succ_ne_self _, Nat.ne_of_lt l1_30.2.2.2.2.2.2.2.1⟩
            (fun r hr => ⟨Nat.ne_of_gt (Nat.lt_trans l1_2.2.2.2 (g7 r hr)), Nat.ne_of_lt (kst_ltOf l1_30.2.2.2.2.2.2.2.2 r hr)⟩)
          refine (fun (RW : _) (hRW : RW = (dT, tupObj [Value.str nm tN, Value.int (100 * x1 + 10 * x2 + x3) tp] 0) :: (dA, lst [Value.int x1 tx1, Value.int x2 tx2, Value.int x3 tx3] 0) :: (I, oI) :: (lA, lst (List.map p.v (lineOf lev ks)) cl) :: (cA, lst (List.map p.v ks) ccm) :: (ca, lst cv cc) :: (S1.heap.objs.size + 1 + 1, ow) :: rowsP p ks) => ?_) _ rfl
          replace hRWn : ∀ r ∈ RW, r.1 ≠ S1.heap.objs.size + 1 ∧ r.1 ≠ lW := by
            rw [hRW]
            exact hRWn
          have N_33 : News _ _ _ ((lW, lst [] 0) :: (S1.heap.objs.size + 1, ow') :: RW) := News.sub N_32 (fun r hr => by
            rw [hRW] at hr
            revert r
            walk_at "subs")
          refine Iter_tuple_unr rfl hwT (by k_asm) N_33 hwL ?_
          refine Unr.by (n := 3) (Wd3 lW (S1.heap.objs.size + 1) RW x1 x2 x3 _) (.mk _ 0 [] ow' gw .nil hgw) ?turn3w ?done3w
          case turn3w =>
            rintro kW mW nW hkW hIW v1 hh1 tkk1 own1 hv1
            refine glet3 mW nW v1 ?_
            intro gl_
            cases hIW with
            | mk vs0 ow0 c0 hvs0 how0 =>
            have hv1' := xK_at hv1
            cases hv1' with
            | mk tt1 =>
            k_unmd
            k_unfold
            clear gl_
            intro hown1 Fw1 Nw1
            have hon1 : ∀ r ∈ own1 ++ RW, r.1 ≠ S1.heap.objs.size + 1 ∧ r.1 ≠ lW := own_ne hRWn hown1 l1_32 (Heap.lt_size (N_32 _ (List.mem_cons_self ..)).1) l1_30.2.2.2.2.2.2.1
            replace Nw1 := own_in Nw1
            ((repeat' (first | (k_unfold; (try clear ze zq); (try dsimp only)) | (k_end; wrow_close) | walk1 | (dsimp only; walk1) | (leave1; (try dsimp only)))) <;> (try ((fail_if_success (fail_if_success k_fold)); (with_reducible refine foldQ ?_); intro zq ze)))
            refine Held.mk ?_
            refine store_cell (by k_asm) Nw1 rfl (List.mem_cons_of_mem _ (List.mem_cons_self ..)) how0 ?_
            intro hc1 ow1 Fc1 Nc1 how1
            replace Nc1 := chg_word Nc1 hwW (fun r hr => (hon1 r hr).1)
            clear Nw1 Fw1
            ((repeat' (first | (k_unfold; (try clear ze zq); (try dsimp only)) | (k_end; wrow_close) | ((fail_if_success (fail_if_success (with_reducible refine wpAny_execs_cons ?_))); ((try ((fail_if_success (fail_if_success k_fold)); (with_reducible refine foldQ ?_); intro zq ze)); (try k_gentoks); (with_reducible refine wpAny_execs_cons ?_); (try dsimp only); ((fail_if_success (fail_if_success k_fold)); (with_reducible refine foldQ ?_); intro zq ze))) | ((with_reducible show wpAny _ _ (eval (.Name _ _) _) _ _ _); first | ((k_dflt (first | refine comp_local (by k_asm) (by k_mem) (by assumption) (by assumption) ?_ rfl rfl | refine comp_localM (by k_asm) (by assumption) (by assumption) (by simp only [List.mem_append, List.mem_cons, true_or, or_true]) ?_ rfl rfl | refine lcf_cell (by k_asm) rfl (by k_mem) (by assumption) ?_ rfl rfl | refine lcf_free (by k_asm) rfl (by k_mem) (by assumption) ?_ rfl rfl))) | (k_dflt (refine nameL (by k_asm) (by exact rfl) ?_ rfl rfl (by decide)); k_whole)) | walk1 | (dsimp only; walk1) | (leave1; (try dsimp only)))) <;> (try ((fail_if_success (fail_if_success k_fold)); (with_reducible refine foldQ ?_); intro zq ze)))
            refine Held.mk ?_
            refine' Does.use (insr_int (w := W0) (mean := ExcName.means S0.heap) (mg := mg) (mb := mb) (rest := (S1.heap.objs.size + 1, ow1) :: (own1 ++ RW)) (vs := vs0) hvs0 (wK_sorted hkW) (wK_len hkW) ?hne) hB0 (by k_asm) KX0 ?hN T0 rfl ?kd ?ku ?_
            (case hN => k_asm)
            (case hne => exact ne_of_rest hwW (fun r hr => (hon1 r hr).2))
            (case kd => first | decide | ktr_room)
            (case ku => first | decide | ktr_units)
            intro rr1 nn1 hr1 tr1 Fr1 Nr1 ho1
            obtain ⟨rfl, vw1, hvw1, rfl⟩ := ho1
            ((repeat' (first | (k_unfold; (try clear ze zq); (try dsimp only)) | (k_end; wrow_close) | walk1 | (dsimp only; walk1) | (leave1; (try dsimp only)))) <;> (try ((fail_if_success (fail_if_success k_fold)); (with_reducible refine foldQ ?_); intro zq ze)))
            refine Held.mk ?_
            exact LoopStep3.next (LoopStep2.intro (news₂ := (lW, lst vw1 _) :: (S1.heap.objs.size + 1, ow1) :: RW) (by k_asm) (own_out (by k_asm)) rfl (.mk _ _ vw1 ow1 _ (wK_next hkW ▸ hvw1) how1))
          rintro m40 nw40 hI40
          refine glet2 m40 nw40 ?_
          intro gl_
          cases hI40 with
          | mk vw3 ow3 c40 hvw3 how3 =>
          k_unmd
          k_unfold
          clear gl_
          intro h_40 tk_40 F_40 N_40
          refine (fun (port : _) (hpt : port = 100 * x1 + 10 * x2 + x3) => ?_) _ rfl
          rw [hRW, ← hpt] at N_40
          clear N_33 hRWn
          have hport : 0 ≤ port ∧ port < 1000 := by
            have h1 := hT3.x1
            have h2 := hT3.y1
            have h3 := hT3.z1
            omega
          have hback : Str.ofString (toString port) = fig := by rw [hpt]; exact hfo.back
          clear hpt
          ((repeat' (first | (k_unfold; (try clear ze zq); (try dsimp only)) | (k_end; wrow_close) | ((fail_if_success (fail_if_success (with_reducible refine wpAny_execs_cons ?_))); ((try ((fail_if_success (fail_if_success k_fold)); (with_reducible refine foldQ ?_); intro zq ze)); (try k_gentoks); (with_reducible refine wpAny_execs_cons ?_); (try dsimp only); ((fail_if_success (fail_if_success k_fold)); (with_reducible refine foldQ ?_); intro zq ze))) | ((with_reducible show wpAny _ _ (eval (.Name _ _) _) _ _ _); first | ((k_dflt (first | refine comp_local (by k_asm) (by k_mem) (by assumption) (by assumption) ?_ rfl rfl | refine comp_localM (by k_asm) (by assumption) (by assumption) (by simp only [List.mem_append, List.mem_cons, true_or, or_true]) ?_ rfl rfl | refine lcf_cell (by k_asm) rfl (by k_mem) (by assumption) ?_ rfl rfl | refine lcf_free (by k_asm) rfl (by k_mem) (by assumption) ?_ rfl rfl))) | (k_dflt (refine nameL (by k_asm) (by exact rfl) ?_ rfl rfl (by decide)); k_whole)) | (((with_reducible show wpAny _ _ (callWith _ (Value.builtin _) [_] _ _) _ _ _); refine callWith_method1 ?_)) | walk1 | (dsimp only; walk1) | (leave1; (try dsimp only)))) <;> (try ((fail_if_success (fail_if_success k_fold)); (with_reducible refine foldQ ?_); intro zq ze)))
          refine Held.mk ?_
          refine ne_str_f hback ?_
          ((repeat' (first | (k_unfold; (try clear ze zq); (try dsimp only)) | (k_end; wrow_close) | ((with_reducible show wpAny _ _ (eval (.Name _ _) _) _ _ _); first | ((k_dflt (first | refine comp_local (by k_asm) (by k_mem) (by assumption) (by assumption) ?_ rfl rfl | refine comp_localM (by k_asm) (by assumption) (by assumption) (by simp only [List.mem_append, List.mem_cons, true_or, or_true]) ?_ rfl rfl | refine lcf_cell (by k_asm) rfl (by k_mem) (by assumption) ?_ rfl rfl | refine lcf_free (by k_asm) rfl (by k_mem) (by assumption) ?_ rfl rfl))) | (k_dflt (refine nameL (by k_asm) (by exact rfl) ?_ rfl rfl (by decide)); k_whole)) | ((with_reducible show @ite _ _ _ _ _); (first | refine iteN (by (first | decide | (simp only [beq_iff_eq, decide_eq_true_eq, List.mem_cons, List.not_mem_nil, or_false]; omega))) ?_ | refine iteY (by (first | decide | (simp only [beq_iff_eq, decide_eq_true_eq, List.mem_cons, List.not_mem_nil, or_false]; omega))) ?_)) | (((with_reducible show wpAny _ _ (callWith _ (Value.builtin _) [_] _ _) _ _ _); refine callWith_method1 ?_)) | walk1 | (dsimp only; walk1) | (leave1; (try dsimp only)))) <;> (try ((fail_if_success (fail_if_success k_fold)); (with_reducible refine foldQ ?_); intro zq ze)))
          refine Held.mk ?_
          refine sorted_three (by k_asm) (by k_asm) (by k_mem) ?_
          intro h_42 dS vs42 e42 hi42 F42 N42
          ((repeat' (first | (k_unfold; (try clear ze zq); (try dsimp only)) | (k_end; wrow_close) | walk1 | (dsimp only; walk1) | (leave1; (try dsimp only)))) <;> (try ((fail_if_success (fail_if_success k_fold)); (with_reducible refine foldQ ?_); intro zq ze)))
          refine Held.mk ?_
          refine ne_same (by k_asm) (by k_mem) (by k_mem) (show IntsAre vw3 (wF x1 x2 x3) from hvw3) hi42 (by first | decide | ktr_units) ?_
          replace N42 := News.sub N42 (fun r hr => List.mem_cons_of_mem _ hr)
          have hb1 : 0 ≤ (last.fdiv 6).fmod 2 ∧ (last.fdiv 6).fmod 2 < 2 := ⟨Int.fmod_nonneg_of_pos _ (by decide), Int.fmod_lt_of_pos _ (by decide)⟩
          have hb2 : 0 ≤ (last.fdiv 12).fmod 2 ∧ (last.fdiv 12).fmod 2 < 2 := ⟨Int.fmod_nonneg_of_pos _ (by decide), Int.fmod_lt_of_pos _ (by decide)⟩
          have hbi : 0 ≤ (i : Int).fdiv 3 ∧ (i : Int).fdiv 3 < 3 := fdiv_three hi
          have hbj : 0 ≤ (i : Int).fmod 3 ∧ (i : Int).fmod 3 < 3 := ⟨Int.fmod_nonneg_of_pos _ (by decide), Int.fmod_lt_of_pos _ (by decide)⟩
          ((repeat' (first | (k_unfold; (try clear ze zq); (try dsimp only)) | (k_end; wrow_close) | ((fail_if_success (fail_if_success (with_reducible refine wpAny_execs_cons ?_))); ((try ((fail_if_success (fail_if_success k_fold)); (with_reducible refine foldQ ?_); intro zq ze)); (try k_gentoks); (with_reducible refine wpAny_execs_cons ?_); (try dsimp only); ((fail_if_success (fail_if_success k_fold)); (with_reducible refine foldQ ?_); intro zq ze))) | ((with_reducible show wpAny _ _ (eval (.Name _ _) _) _ _ _); first | ((k_dflt (first | refine comp_local (by k_asm) (by k_mem) (by assumption) (by assumption) ?_ rfl rfl | refine comp_localM (by k_asm) (by assumption) (by assumption) (by simp only [List.mem_append, List.mem_cons, true_or, or_true]) ?_ rfl rfl | refine lcf_cell (by k_asm) rfl (by k_mem) (by assumption) ?_ rfl rfl | refine lcf_free (by k_asm) rfl (by k_mem) (by assumption) ?_ rfl rfl))) | (k_dflt (refine nameL (by k_asm) (by exact rfl) ?_ rfl rfl (by decide)); k_whole)) | ((with_reducible show @ite _ _ _ _ _); (first | refine iteN (by (first | decide | (simp only [beq_iff_eq, decide_eq_true_eq, List.mem_cons, List.not_mem_nil, or_false]; omega))) ?_ | refine iteY (by (first | decide | (simp only [beq_iff_eq, decide_eq_true_eq, List.mem_cons, List.not_mem_nil, or_false]; omega))) ?_)) | ((with_reducible show wpAny _ _ (binaryOp .Mult (.int _ _) (.int _ _)) _ _ _); (refine mul_int ?_ (PySem.IntMulOk.of_left (PySem.intBits_le_64 (by omega) (by omega))))) | (((with_reducible show wpAny _ _ (callWith _ (Value.builtin _) [_] _ _) _ _ _); refine callWith_method1 ?_)) | walk1 | (dsimp only; walk1) | (leave1; (try dsimp only)))) <;> (try ((fail_if_success (fail_if_success k_fold)); (with_reducible refine foldQ ?_); intro zq ze)))
          refine Held.mk ?_
          rename_i dP h_44 F_44 N_44 l1_44
          rw [lev_is hla hlb hlc, ← hlev, fdiv_is, fmod_is] at N_44
          obtain ⟨ta, tb, tc, N_44⟩ := tok3 N_44
          have N_45 : News S1.heap _ h_44 ((cA, lst (List.map p.v ks) ccm) :: (lA, lst (List.map p.v (lineOf lev ks)) cl) :: (dP, tupObj [.int (lev i) ta, .int ((i / 3 : Nat) : Int) tb, .int ((i % 3 : Nat) : Int) tc, .ref lW] 0) :: (lW, lst vw3 3) :: (I, oI) :: (ca, lst cv cc) :: (S1.heap.objs.size + 1, ow3) :: (S1.heap.objs.size + 1 + 1, ow) :: rowsP p ks) := News.sub N_44 (by first | ((try dsimp only); walk_at "subs") | (intro r hr; simp only [List.mem_cons] at hr ⊢; rcases hr with h | h | h | h | h | h | h | h | h <;> simp only [h, true_or, or_true]))
          have hksl : ks.length ≤ 9 := Nat.le_trans (inc_len g1 g2) (Nat.le_of_lt hi)
          have hcAlA : lA ≠ cA := Nat.ne_of_lt l1_2.1
          have hncA : ∀ r ∈ (lA, lst (List.map p.v (lineOf lev ks)) cl) :: (dP, tupObj [.int (lev i) ta, .int ((i / 3 : Nat) : Int) tb, .int ((i % 3 : Nat) : Int) tc, .ref lW] 0) :: (lW, lst vw3 3) :: (I, oI) :: (ca, lst cv cc) :: (S1.heap.objs.size + 1, ow3) :: (S1.heap.objs.size + 1 + 1, ow) :: rowsP p ks, r.1 ≠ cA :=
            neC hcAlA (neC (Nat.ne_of_gt l1_44.2.2.2.2.2.2.1) (neC (Nat.ne_of_gt l1_30.2.2.2.2.1) (neC (fun e => hoff _ (.tail _ (.head _)) e.symm) (neC (Nat.ne_of_lt l1_2.2.1) (neC (Nat.ne_of_lt l1_2.2.2.2) (neC (Nat.ne_of_lt l1_2.2.2.1) (fun r hr => Nat.ne_of_gt (g7 r hr))))))))
          refine app_head (by k_asm) N_45 hncA (by rw [List.length_map]; omega) ?_
          intro h_46 F_46 N_46
          clear N_45
          ((repeat' (first | (k_unfold; (try clear ze zq); (try dsimp only)) | (k_end; wrow_close) | ((fail_if_success (fail_if_success (with_reducible refine wpAny_execs_cons ?_))); ((try ((fail_if_success (fail_if_success k_fold)); (with_reducible refine foldQ ?_); intro zq ze)); (try k_gentoks); (with_reducible refine wpAny_execs_cons ?_); (try dsimp only); ((fail_if_success (fail_if_success k_fold)); (with_reducible refine foldQ ?_); intro zq ze))) | ((with_reducible show wpAny _ _ (eval (.Name _ _) _) _ _ _); first | ((k_dflt (first | refine comp_local (by k_asm) (by k_mem) (by assumption) (by assumption) ?_ rfl rfl | refine comp_localM (by k_asm) (by assumption) (by assumption) (by simp only [List.mem_append, List.mem_cons, true_or, or_true]) ?_ rfl rfl | refine lcf_cell (by k_asm) rfl (by k_mem) (by assumption) ?_ rfl rfl | refine lcf_free (by k_asm) rfl (by k_mem) (by assumption) ?_ rfl rfl))) | (k_dflt (refine nameL (by k_asm) (by exact rfl) ?_ rfl rfl (by decide)); k_whole)) | walk1 | (dsimp only; walk1) | (leave1; (try dsimp only)))) <;> (try ((fail_if_success (fail_if_success k_fold)); (with_reducible refine foldQ ?_); intro zq ze)))
          refine Held.mk ?_
          refine list_last (by k_asm) (by k_mem) (by rw [List.length_map]; omega) ?_
          ((repeat' (first | (k_unfold; (try clear ze zq); (try dsimp only)) | (k_end; wrow_close) | ((with_reducible show wpAny _ _ (eval (.Name _ _) _) _ _ _); first | ((k_dflt (first | refine comp_local (by k_asm) (by k_mem) (by assumption) (by assumption) ?_ rfl rfl | refine comp_localM (by k_asm) (by assumption) (by assumption) (by simp only [List.mem_append, List.mem_cons, true_or, or_true]) ?_ rfl rfl | refine lcf_cell (by k_asm) rfl (by k_mem) (by assumption) ?_ rfl rfl | refine lcf_free (by k_asm) rfl (by k_mem) (by assumption) ?_ rfl rfl))) | (k_dflt (refine nameL (by k_asm) (by exact rfl) ?_ rfl rfl (by decide)); k_whole)) | walk1 | (dsimp only; walk1) | (leave1; (try dsimp only)))) <;> (try ((fail_if_success (fail_if_success k_fold)); (with_reducible refine foldQ ?_); intro zq ze)))
          refine Held.mk ?_
          have hnlA : ∀ r ∈ (cA, lst (List.map p.v ks ++ [.ref dP]) (ccm + 1)) :: (dP, tupObj [.int (lev i) ta, .int ((i / 3 : Nat) : Int) tb, .int ((i % 3 : Nat) : Int) tc, .ref lW] 0) :: (lW, lst vw3 3) :: (I, oI) :: (ca, lst cv cc) :: (S1.heap.objs.size + 1, ow3) :: (S1.heap.objs.size + 1 + 1, ow) :: rowsP p ks, r.1 ≠ lA :=
            neC (Ne.symm hcAlA) (neC (Nat.ne_of_gt l1_44.2.2.2.2.2.1) (neC (Nat.ne_of_gt l1_30.2.2.2.1) (neC (fun e => hoff _ (.head _) e.symm) (neC (Nat.ne_of_lt l1_1.1) (neC (Nat.ne_of_lt l1_1.2.2) (neC (Nat.ne_of_lt l1_1.2.1) (fun r hr => Nat.ne_of_gt (Nat.lt_trans l1_2.1 (g7 r hr)))))))))
          refine' Does.use (ins_line (w := W0) (mean := ExcName.means S0.heap) (mg := mg) (mb := mb) (p := p) (lev := lev) (ks := ks) (i := i) (cl := cl) (n := 0) (lA := lA) (dP := dP) (t := ta) (wad := lW) (t0 := ta) (t1 := tb) (t2 := tc) (wv := vw3) (wl := wF x1 x2 x3) (wc := 3) (rest := (cA, lst (List.map p.v ks ++ [.ref dP]) (ccm + 1)) :: (dP, tupObj [.int (lev i) ta, .int ((i / 3 : Nat) : Int) tb, .int ((i % 3 : Nat) : Int) tc, .ref lW] 0) :: (lW, lst vw3 3) :: (I, oI) :: (ca, lst cv cc) :: (S1.heap.objs.size + 1, ow3) :: (S1.heap.objs.size + 1 + 1, ow) :: rowsP p ks) g3 g1 g2 hi g5 ?hro hnlA (List.mem_cons_of_mem _ (List.mem_cons_self ..))) hB0 (by k_asm) KX0 ?hN T0 rfl ?kd ?ku ?_
          (case hro => exact fun q hq => by (repeat (first | exact hq | apply List.mem_cons_of_mem)))
          (case hN => exact News.sub N_46 (by first | ((try dsimp only); walk_at "subs") | (intro r hr; simp only [List.mem_cons] at hr ⊢; rcases hr with h | h | h | h | h | h | h | h | h <;> simp only [h, true_or, or_true])))
          (case kd => first | decide | ktr_room)
          (case ku => first | decide | ktr_units)
          intro r48 news48 h48 tk48 F48 N48 ho48
          obtain ⟨rfl, rfl⟩ := ho48
          ((repeat' (first | (k_unfold; (try clear ze zq); (try dsimp only)) | (k_end; wrow_close) | ((with_reducible show @ite _ _ _ _ _); (first | refine iteN (by (first | decide | (simp only [beq_iff_eq, decide_eq_true_eq, List.mem_cons, List.not_mem_nil, or_false]; omega))) ?_ | refine iteY (by (first | decide | (simp only [beq_iff_eq, decide_eq_true_eq, List.mem_cons, List.not_mem_nil, or_false]; omega))) ?_)) | walk1 | (dsimp only; walk1) | (leave1; (try dsimp only)))) <;> (try ((fail_if_success (fail_if_success k_fold)); (with_reducible refine foldQ ?_); intro zq ze)))
          refine Held.mk ?_
          refine ForS.next ⟨ks ++ [i], pU p i dP lW ta tb tc vw3 (wF x1 x2 x3) 3, cl + 1, ccm + 1, ow3⟩ (by k_asm) (led_next g2 g3 (by k_asm) rfl) (led_ne g2 g3 hoff (Nat.ne_of_gt l1_44.2.2.2.2.1) (Nat.ne_of_gt l1_30.2.2.1)) (fun _ h => absurd h (List.not_mem_nil)) ?same (g2_next (cl := cl) (cc := ccm) ⟨g1, g2, g3, g4, g5, ⟨gw, hgw⟩, g7⟩ (wF_ok hT3) hvw3 ⟨_, how3⟩ l1_44.2.2.2.2.2.2.1 l1_30.2.2.2.2.1)
          case same => (dsimp only [mz2]; kst_same)
        · have hC := fun (tx ty : Tok) (news : List (Addr × Obj)) => (by rw [hJ]; exact told_no (Nat.le_of_not_lt h6) hk10 hi hz2 hfo hT3 : DoesT W0 (ExcName.means S0.heap) mg mb 3 122 [.str (rpl J) tx, .str nm ty] [] news (fun r news' => ∃ D tx', r = .ref D ∧ news' = (D, lst [.str (Str.ofString "proto") tx', .str (rpl J) tx] 0) :: news))
          ((repeat' (first | (k_unfold; (try clear ze zq); (try dsimp only)) | (k_end; wrow_close) | walk1 | (dsimp only; walk1) | (leave1; (try dsimp only)))) <;> (try ((fail_if_success (fail_if_success k_fold)); (with_reducible refine foldQ ?_); intro zq ze)))
          refine Held.mk ?_
          refine DoesT.use (hC _ _ _) hB0 (by k_asm) KX0 (by k_asm) T0 rfl (by first | decide | ktr_room) (by first | decide | ktr_units) ?_
          clear hC
          intro r26 news26 h26 tk26 F26 N26 ho26
          obtain ⟨dT, tp, rfl, rfl⟩ := ho26
          have hok : PyData.strOk (rpl J) = true := by
            rw [hJ]
            exact ok_rpl (ok_join (by omega) fun p hp => (ps_free hk10 hi hff p hp).2.2.2)
          ((repeat' (first | (k_unfold; (try clear ze zq); (try dsimp only)) | (k_end; wrow_close) | ((fail_if_success (fail_if_success (with_reducible refine wpAny_execs_cons ?_))); ((try ((fail_if_success (fail_if_success k_fold)); (with_reducible refine foldQ ?_); intro zq ze)); (try k_gentoks); (with_reducible refine wpAny_execs_cons ?_); (try dsimp only); ((fail_if_success (fail_if_success k_fold)); (with_reducible refine foldQ ?_); intro zq ze))) | ((with_reducible show wpAny _ _ (eval (.Name _ _) _) _ _ _); first | ((k_dflt (first | refine comp_local (by k_asm) (by k_mem) (by assumption) (by assumption) ?_ rfl rfl | refine comp_localM (by k_asm) (by assumption) (by assumption) (by simp only [List.mem_append, List.mem_cons, true_or, or_true]) ?_ rfl rfl | refine lcf_cell (by k_asm) rfl (by k_mem) (by assumption) ?_ rfl rfl | refine lcf_free (by k_asm) rfl (by k_mem) (by assumption) ?_ rfl rfl))) | (k_dflt (refine nameL (by k_asm) (by exact rfl) ?_ rfl rfl (by decide)); k_whole)) | ((with_reducible show @ite _ _ _ _ _); (first | refine iteN (by (first | decide | (simp only [beq_iff_eq, decide_eq_true_eq, List.mem_cons, List.not_mem_nil, or_false]; omega))) ?_ | refine iteY (by (first | decide | (simp only [beq_iff_eq, decide_eq_true_eq, List.mem_cons, List.not_mem_nil, or_false]; omega))) ?_)) | walk1 | (dsimp only; walk1) | (leave1; (try dsimp only)))) <;> (try ((fail_if_success (fail_if_success k_fold)); (with_reducible refine foldQ ?_); intro zq ze)))
          refine Held.mk ?_
          refine ne_two (x := Str.ofString "proto") (by decide +kernel) hok (by k_asm) (by k_mem) (by k_mem) (by first | decide | ktr_units) ?_
          ((repeat' (first | (k_unfold; (try clear ze zq); (try dsimp only)) | (k_end; wrow_close) | ((fail_if_success (fail_if_success (with_reducible refine wpAny_execs_cons ?_))); ((try ((fail_if_success (fail_if_success k_fold)); (with_reducible refine foldQ ?_); intro zq ze)); (try k_gentoks); (with_reducible refine wpAny_execs_cons ?_); (try dsimp only); ((fail_if_success (fail_if_success k_fold)); (with_reducible refine foldQ ?_); intro zq ze))) | ((with_reducible show wpAny _ _ (eval (.Name _ _) _) _ _ _); first | ((k_dflt (first | refine comp_local (by k_asm) (by k_mem) (by assumption) (by assumption) ?_ rfl rfl | refine comp_localM (by k_asm) (by assumption) (by assumption) (by simp only [List.mem_append, List.mem_cons, true_or, or_true]) ?_ rfl rfl | refine lcf_cell (by k_asm) rfl (by k_mem) (by assumption) ?_ rfl rfl | refine lcf_free (by k_asm) rfl (by k_mem) (by assumption) ?_ rfl rfl))) | (k_dflt (refine nameL (by k_asm) (by exact rfl) ?_ rfl rfl (by decide)); k_whole)) | ((with_reducible show @ite _ _ _ _ _); (first | refine iteN (by (first | decide | (simp only [beq_iff_eq, decide_eq_true_eq, List.mem_cons, List.not_mem_nil, or_false]; omega))) ?_ | refine iteY (by (first | decide | (simp only [beq_iff_eq, decide_eq_true_eq, List.mem_cons, List.not_mem_nil, or_false]; omega))) ?_)) | walk1 | (dsimp only; walk1) | (leave1; (try dsimp only)))) <;> (try ((fail_if_success (fail_if_success k_fold)); (with_reducible refine foldQ ?_); intro zq ze)))
          refine Held.mk ?_
          refine ForS.next ⟨ks, p, cl, ccm, ow'⟩ (by k_asm) (News.sub (by k_asm) (fun r hr => by (repeat (first | exact hr | apply List.mem_cons_of_mem)))) hoff (fun _ h => absurd h (List.not_mem_nil)) ?same2 ⟨g1, fun k hk => Nat.lt_succ_of_lt (g2 k hk), g3, g4, g5, g6, g7⟩
          case same2 => (dsimp only [mz2]; kst_same)
    case done2 =>
      rintro ⟨ks, p, cl, ccm, ow'⟩ u9 h9 tk9 ⟨g1, g2, g3, g4, g5, g6, g7⟩ F9 N9
      dsimp only [kstB] at g1 g2 g3 g4 g5 g6 g7 F9 N9
      dsimp only [Led2] at N9
      have hksl : ks.length ≤ 9 := inc_len g1 g2
      generalize bindL _ _ = mR at F9
      refine letM F9 ?_
      clear F9
      intro mz3 F9
      ((repeat' (first | (k_unfold; (try clear ze zq); (try dsimp only)) | (k_end; wrow_close) | ((fail_if_success (fail_if_success (with_reducible refine wpAny_execs_cons ?_))); ((try ((fail_if_success (fail_if_success k_fold)); (with_reducible refine foldQ ?_); intro zq ze)); (try k_gentoks); (with_reducible refine wpAny_execs_cons ?_); (try dsimp only); ((fail_if_success (fail_if_success k_fold)); (with_reducible refine foldQ ?_); intro zq ze))) | ((with_reducible show wpAny _ _ (eval (.Name _ _) _) _ _ _); first | ((k_dflt (first | refine comp_local (by k_asm) (by k_mem) (by assumption) (by assumption) ?_ rfl rfl | refine comp_localM (by k_asm) (by assumption) (by assumption) (by simp only [List.mem_append, List.mem_cons, true_or, or_true]) ?_ rfl rfl | refine lcf_cell (by k_asm) rfl (by k_mem) (by assumption) ?_ rfl rfl | refine lcf_free (by k_asm) rfl (by k_mem) (by assumption) ?_ rfl rfl))) | (k_dflt (refine nameL (by k_asm) (by exact rfl) ?_ rfl rfl (by decide)); k_whole)) | (((with_reducible show wpAny _ _ (callWith _ (Value.builtin _) [_] _ _) _ _ _); refine callWith_method1 ?_)) | walk1 | (dsimp only; walk1) | (leave1; (try dsimp only)))) <;> (try ((fail_if_success (fail_if_success k_fold)); (with_reducible refine foldQ ?_); intro zq ze)))
      refine Held.mk ?_
      have hin0 := rowsP_in (p := p) (ks := ks) (news := (lA, lst (List.map p.v (lineOf lev ks)) cl) :: (cA, lst (List.map p.v ks) ccm) :: (ca, lst cv cc) :: (S1.heap.objs.size + 1, ow') :: (S1.heap.objs.size + 1 + 1, ow) :: rowsP p ks) g2 g5 (fun r hr => by (repeat (first | exact hr | apply List.mem_cons_of_mem)))
      with_unfolding_all
        refine' sorted_line (val := p.v) (lev := p.lev) (ks := ks) F9 N9 (List.mem_cons_of_mem _ (List.mem_cons_self ..)) g1 (by omega) ?sturn ?_
      case sturn =>
        intro k hh tkk own Fk Nk hk
        refine Does.use (first_ok (w := W0) (mean := ExcName.means S0.heap) (mg := mg) (mb := mb) (List.mem_append_left _ (hin0 k hk).2.1)) hB0 Fk KX0 Nk T0 rfl (by first | decide | ktr_room) (by first | decide | ktr_units) ?_
        rintro _ _ h' tk' F' N' ⟨rfl, rfl⟩
        exact ⟨h', tk', _, rfl, rfl, F', N'⟩
      intro dS cS h_50 tk_50 o hop hos F_50 N_50 hlt_50
      rw [g3] at hos
      have ho : o = lineOf lev ks := line_is g1 hop hos
      subst ho
      ((repeat' (first | (k_unfold; (try clear ze zq); (try dsimp only)) | (k_end; wrow_close) | walk1 | (dsimp only; walk1) | (leave1; (try dsimp only)))) <;> (try ((fail_if_success (fail_if_success k_fold)); (with_reducible refine foldQ ?_); intro zq ze)))
      refine Held.mk ?_
      have hinL : p.In (lineOf lev ks) ((lA, lst (List.map p.v (lineOf lev ks)) cl) :: (cA, lst (List.map p.v ks) ccm) :: (ca, lst cv cc) :: (S1.heap.objs.size + 1, ow') :: (S1.heap.objs.size + 1 + 1, ow) :: rowsP p ks) := hin0.sub fun k hk => (line_mem g1).mp hk
      refine ne_plcs (ks := lineOf lev ks) (js := lineOf lev ks) (by k_asm) (List.mem_cons_of_mem _ (List.mem_cons_self ..)) (List.mem_cons_self ..) (hinL.mono fun r hr => List.mem_cons_of_mem _ hr) (hinL.mono fun r hr => List.mem_cons_of_mem _ hr) (by first | decide | ktr_units) ?_
      rw [show (!decide (lineOf lev ks = lineOf lev ks)) = false by simp]
      replace N_50 := News.sub N_50 (fun r hr => List.mem_cons_of_mem _ hr)
      ((repeat' (first | (k_unfold; (try clear ze zq); (try dsimp only)) | (k_end; wrow_close) | ((fail_if_success (fail_if_success (with_reducible refine wpAny_execs_cons ?_))); ((try ((fail_if_success (fail_if_success k_fold)); (with_reducible refine foldQ ?_); intro zq ze)); (try k_gentoks); (with_reducible refine wpAny_execs_cons ?_); (try dsimp only); ((fail_if_success (fail_if_success k_fold)); (with_reducible refine foldQ ?_); intro zq ze))) | ((with_reducible show @ite _ _ _ _ _); (first | refine iteN (by (first | decide | (simp only [beq_iff_eq, decide_eq_true_eq, List.mem_cons, List.not_mem_nil, or_false]; omega))) ?_ | refine iteY (by (first | decide | (simp only [beq_iff_eq, decide_eq_true_eq, List.mem_cons, List.not_mem_nil, or_false]; omega))) ?_)) | walk1 | (dsimp only; walk1) | (leave1; (try dsimp only)))) <;> (try ((fail_if_success (fail_if_success k_fold)); (with_reducible refine foldQ ?_); intro zq ze)))
      ((refine Held.mk ?_); (rename Fr _ _ _ _ => Ff); (with_unfolding_all refine' for_fr Ff ?fx ?fp ?_ ?fs ?fE); ((case fx => rfl)); ((case fp => rfl)); ((case fs => intro _; rfl)); ((case fE => first | exact PassesOwn.never | passes_own)))
      ((repeat' (first | (k_unfold; (try clear ze zq); (try dsimp only)) | (k_end; wrow_close) | ((with_reducible show wpAny _ _ (eval (.Name _ _) _) _ _ _); first | ((k_dflt (first | refine comp_local (by k_asm) (by k_mem) (by assumption) (by assumption) ?_ rfl rfl | refine comp_localM (by k_asm) (by assumption) (by assumption) (by simp only [List.mem_append, List.mem_cons, true_or, or_true]) ?_ rfl rfl | refine lcf_cell (by k_asm) rfl (by k_mem) (by assumption) ?_ rfl rfl | refine lcf_free (by k_asm) rfl (by k_mem) (by assumption) ?_ rfl rfl))) | (k_dflt (refine nameL (by k_asm) (by exact rfl) ?_ rfl rfl (by decide)); k_whole)) | walk1 | (dsimp only; walk1) | (leave1; (try dsimp only)))) <;> (try ((fail_if_success (fail_if_success k_fold)); (with_reducible refine foldQ ?_); intro zq ze)))
      rename_i bA h_51 F_51 N_51 l1_51 h_52 F_52 N_52 h_53 tk_53 r1_53 r2_53 r3_53 hr_53 F_53 N_53 hk_53
      refine Held.mk ?_
      obtain ⟨ld, hld, hld6, hldn⟩ := fmod_nat (x := last) (m := 6) (by decide)
      have hl1 := Int.fmod_lt_of_pos (last.fdiv 6) (show (0 : Int) < 2 by decide)
      have hl2 := Int.fmod_lt_of_pos (last.fdiv 12) (show (0 : Int) < 2 by decide)
      have hl3 := Int.fmod_lt_of_pos (last.fdiv 24) (show (0 : Int) < 3 by decide)
      refine for_rangeS (n := 6) (Led3 bA lA cA (S1.heap.objs.size + 1) (S1.heap.objs.size + 1 + 1) (lst (List.map p.v (lineOf lev ks)) cl) (lst (List.map p.v ks) ccm) (rowsP p ks)) (fun _ => []) [Str.ofString "asked", Str.ofString "chosen", Str.ofString "place", Str.ofString "begin", Str.ofString "end"] (G3 bA lev p.wl ks ld) ⟨[], 0, ow', ow⟩
        rfl (by assumption) (by decide) (by decide) (by k_asm) (News.sub N_53 (fun r hr => ?subs3)) (fun _ h => absurd h (List.not_mem_nil)) ⟨.nil, fun _ h => absurd h (List.not_mem_nil), fun _ h => absurd h (List.not_mem_nil), List.nodup_nil, ?rich0, g6, ⟨_, df'⟩, fun _ h => absurd h (List.not_mem_nil)⟩ ?turn4 ?done4
      case subs3 =>
        simp only [Led3, rowsE, List.map_nil, List.nil_append, List.mem_cons] at hr ⊢
        rcases hr with h | h | h | h | h | h <;> simp only [h, true_or, or_true]
      case rich0 =>
        rw [hlev]
        exact rich_start (by omega) (by omega) (by omega) g1 g2 g4
      case turn4 =>
        rintro i t' ⟨bk, bc, owi, foi⟩ u10 h10 tk10 I oI hi ⟨q1, q2, q3, q4, q5, q6, q7, q8⟩ hoff F10 N10
        dsimp only [kstB] at q1 q2 q3 q4 q5 q6 q7 q8 F10 N10
        dsimp only [Led3] at N10 hoff
        have e0 : (1 : Int) + (i : Int) * 1 = ((i + 1 : Nat) : Int) := by omega
        rw [e0] at F10
        refine letM F10 ?_
        clear F10
        intro mz4 F10
        have hR1 := rows_low (cA := cA) (bA := bA) (bk := bk) l1_51.2.1 q8 g7
        have hinR : p.In (lineOf lev ks) (rowsP p ks) := (rowsP_in (p := p) (ks := ks) g2 g5 (fun r hr => hr)).sub fun k hk => (line_mem g1).mp hk
        have hw3 : S1.heap.objs.size + 1 < cA := l1_2.2.2.2
        have hf3 : S1.heap.objs.size + 1 + 1 < cA := l1_2.2.2.1
        obtain ⟨gw, hgw⟩ := q6
        ((repeat' (first | (k_unfold; (try clear ze zq); (try dsimp only)) | (k_end; wrow_close) | ((fail_if_success (fail_if_success (with_reducible refine wpAny_execs_cons ?_))); ((try ((fail_if_success (fail_if_success k_fold)); (with_reducible refine foldQ ?_); intro zq ze)); (try k_gentoks); (with_reducible refine wpAny_execs_cons ?_); (try dsimp only); ((fail_if_success (fail_if_success k_fold)); (with_reducible refine foldQ ?_); intro zq ze))) | ((with_reducible show wpAny _ _ (eval (.Name _ _) _) _ _ _); first | ((k_dflt (first | refine comp_local (by k_asm) (by k_mem) (by assumption) (by assumption) ?_ rfl rfl | refine comp_localM (by k_asm) (by assumption) (by assumption) (by simp only [List.mem_append, List.mem_cons, true_or, or_true]) ?_ rfl rfl | refine lcf_cell (by k_asm) rfl (by k_mem) (by assumption) ?_ rfl rfl | refine lcf_free (by k_asm) rfl (by k_mem) (by assumption) ?_ rfl rfl))) | (k_dflt (refine nameL (by k_asm) (by exact rfl) ?_ rfl rfl (by decide)); k_whole)) | ((with_reducible show wpAny _ _ (binaryOp .Mult (.int _ _) (.int _ _)) _ _ _); (refine mul_int ?_ (PySem.IntMulOk.of_left (PySem.intBits_le_64 (by omega) (by omega))))) | walk1 | (dsimp only; walk1) | (leave1; (try dsimp only)))) <;> (try ((fail_if_success (fail_if_success k_fold)); (with_reducible refine foldQ ?_); intro zq ze)))
        refine Held.mk ?_
        rw [word_is hld]
        clear hld hldn
        refine (fun (wd : _) (hwd : wd = wordAt ld (i + 1)) => ?_) _ rfl
        rw [← hwd]
        refine store_cell (by k_asm) N10 rfl (by k_mem) hgw ?_
        intro h11 ow1 F11 N11 how0
        refine (fun (tkw : Tok) (how1 : ow1.data = .cell (some (.int wd tkw))) => ?_) _ how0
        clear how0
        replace N11 := chg_keep2 (l' := (I, oI) :: (bA, lst (List.map E3.v bk) bc) :: (lA, lst (List.map p.v (lineOf lev ks)) cl) :: (cA, lst (List.map p.v ks) ccm) :: (S1.heap.objs.size + 1 + 1, foi) :: (rowsE bk ++ rowsP p ks)) N11 (by walk_at "subs") (neC (fun e => hoff _ (.tail _ (.tail _ (.tail _ (.head _)))) e.symm) (neC (Nat.ne_of_gt (Nat.lt_trans hw3 l1_51.2.1)) (neC (Nat.ne_of_gt l1_1.2.2) (neC (Nat.ne_of_gt hw3) (neC (Nat.succ_ne_self _) (fun r hr => Nat.ne_of_gt (Nat.lt_trans hw3 (hR1 r hr))))))))
        clear N10 F10
        have hbl : bk.length ≤ 9 := by
          have h1 := book_len q4 q3
          omega
        ((repeat' (first | (k_unfold; (try clear ze zq); (try dsimp only)) | (k_end; wrow_close) | ((fail_if_success (fail_if_success (with_reducible refine wpAny_execs_cons ?_))); ((try ((fail_if_success (fail_if_success k_fold)); (with_reducible refine foldQ ?_); intro zq ze)); (try k_gentoks); (with_reducible refine wpAny_execs_cons ?_); (try dsimp only); ((fail_if_success (fail_if_success k_fold)); (with_reducible refine foldQ ?_); intro zq ze))) | walk1 | (dsimp only; walk1) | (leave1; (try dsimp only)))) <;> (try ((fail_if_success (fail_if_success k_fold)); (with_reducible refine foldQ ?_); intro zq ze)))
        refine Held.mk ?_
        refine' comp_plain (h₀ := S1.heap) (L := S1.heap.objs.size) ?hclos ?hcell ?hkind ?hnames ?hx ?_ ?hs
        (case hclos => rfl)
        (case hcell => decide)
        (case hkind => rfl)
        (case hnames => decide)
        (case hx => rfl)
        (case hs => intro _; rfl)
        ((repeat' (first | (k_unfold; (try clear ze zq); (try dsimp only)) | (k_end; wrow_close) | ((with_reducible show wpAny _ _ (eval (.Name _ _) _) _ _ _); first | ((k_dflt (first | refine comp_local (by k_asm) (by k_mem) (by assumption) (by assumption) ?_ rfl rfl | refine comp_localM (by k_asm) (by assumption) (by assumption) (by simp only [List.mem_append, List.mem_cons, true_or, or_true]) ?_ rfl rfl | refine lcf_cell (by k_asm) rfl (by k_mem) (by assumption) ?_ rfl rfl | refine lcf_free (by k_asm) rfl (by k_mem) (by assumption) ?_ rfl rfl))) | (k_dflt (refine nameL (by k_asm) (by exact rfl) ?_ rfl rfl (by decide)); k_whole)) | walk1 | (dsimp only; walk1) | (leave1; (try dsimp only)))) <;> (try ((fail_if_success (fail_if_success k_fold)); (with_reducible refine foldQ ?_); intro zq ze)))
        refine Held.mk ?_
        refine' compAt_list (vs := bk.map E3.v) (c := bc) (fun i2 ys extra => ∃ as : List Addr, as.length = i2 ∧ ys = as.map Value.ref ∧ extra = List.zipWith rowF bk as ∧ ∀ a ∈ as, cA < a) rfl ?hm ?hsz ?hF ?hN ⟨[], rfl, rfl, by simp, fun _ h => absurd h (List.not_mem_nil)⟩ ?turn5 ?done5
        (((case hF => k_asm)); ((case hN => k_asm)); ((case hm => k_mem)))
        case hsz => rw [List.length_map]; exact Nat.le_trans hbl (by decide)
        case turn5 =>
          rintro C2 D2 I2 oI2 i2 v2 ys2 c2 extra2 pl2 own2 h12 tk12 E2 hv2 hI0_ hI1_
          refine glet4 v2 ys2 extra2 pl2 ?_
          intro gl_
          obtain ⟨as, has, rfl, rfl, haa⟩ := hI0_
          obtain ⟨o2, om2, rfl, hns2, hm2⟩ := hI1_
          obtain ⟨e, he, hem, rfl⟩ := map_atE hv2
          k_unfold
          clear gl_
          intro hown2 F12 N12
          try ((fail_if_success (fail_if_success k_fold)); (with_reducible refine foldQ ?_); intro zq ze)
          have hke : (e.ad, e.o) ∈ rowsE bk ++ rowsP p ks := List.mem_append_left _ (List.mem_map.mpr ⟨e, hem, rfl⟩)
          ((repeat' (first | (k_unfold; (try clear ze zq); (try dsimp only)) | (k_end; wrow_close) | ((with_reducible show wpAny _ _ (eval (.Name _ _) _) _ _ _); first | ((k_dflt (first | refine comp_local (by k_asm) (by k_mem) (by assumption) (by assumption) ?_ rfl rfl | refine comp_localM (by k_asm) (by assumption) (by assumption) (by simp only [List.mem_append, List.mem_cons, true_or, or_true]) ?_ rfl rfl | refine lcf_cell (by k_asm) rfl (by k_mem) (by assumption) ?_ rfl rfl | refine lcf_free (by k_asm) rfl (by k_mem) (by assumption) ?_ rfl rfl))) | (k_dflt (refine nameL (by k_asm) (by exact rfl) ?_ rfl rfl (by decide)); k_whole)) | ((with_reducible show @ite _ _ _ _ _); (first | refine iteN (by (first | decide | (simp only [beq_iff_eq, decide_eq_true_eq, List.mem_cons, List.not_mem_nil, or_false]; omega))) ?_ | refine iteY (by (first | decide | (simp only [beq_iff_eq, decide_eq_true_eq, List.mem_cons, List.not_mem_nil, or_false]; omega))) ?_)) | walk1 | (dsimp only; walk1) | (leave1; (try dsimp only)))) <;> (try ((fail_if_success (fail_if_success k_fold)); (with_reducible refine foldQ ?_); intro zq ze)))
          refine Held.mk ?_
          refine slice_from3 (by k_asm) (by k_asm) (mem_up hke (by (intro q hq; (try dsimp only); repeat (first | exact hq | apply List.mem_append_right | apply List.mem_cons_of_mem)))) ?_
          intro D6 h13 F13 N13 l13
          refine CompEnd.one F13 N13 l13 ⟨as ++ [D6], by simp [has], by simp, (zip_snoc (e := e) (by rw [has]; exact he)).symm, ?_⟩
          intro a ha
          rcases List.mem_append.mp ha with ha | ha
          · exact haa a ha
          · rw [List.mem_singleton.mp ha]
            exact l13 (cA, lst (List.map p.v ks) ccm) (List.mem_append_right _ (List.mem_append_right _ (by k_mem)))
        case done5 =>
          rintro D2 h12 tk12 ys2 c2 extra2 hI0_
          refine glet2 ys2 extra2 ?_
          intro gl_
          obtain ⟨as, has, rfl, rfl, haa⟩ := hI0_
          k_unfold
          clear gl_
          intro F12 N12 hlt12 hne12
          try ((fail_if_success (fail_if_success k_fold)); (with_reducible refine foldQ ?_); intro zq ze)
          rw [List.length_map] at has
          obtain ⟨gf, hgf⟩ := q7
          ((repeat' (first | (k_unfold; (try clear ze zq); (try dsimp only)) | (k_end; wrow_close) | walk1 | (dsimp only; walk1) | (leave1; (try dsimp only)))) <;> (try ((fail_if_success (fail_if_success k_fold)); (with_reducible refine foldQ ?_); intro zq ze)))
          refine Held.mk ?_
          refine store_cell (c := S1.heap.objs.size + 1 + 1) (by k_asm) N12 rfl (List.mem_cons_of_mem _ (List.mem_append_right _ (by k_mem))) hgf ?_
          intro h14 fo1 F14 N14 hfo1
          replace N14 := chg_keep2 (l' := (D2, lst (List.map Value.ref as) c2) :: (S1.heap.objs.size + 1, ow1) :: (I, oI) :: (bA, lst (List.map E3.v bk) bc) :: (lA, lst (List.map p.v (lineOf lev ks)) cl) :: (cA, lst (List.map p.v ks) ccm) :: (List.zipWith rowF bk as ++ (rowsE bk ++ rowsP p ks))) N14 (by first | walk_at "subs" | (intro r hr; simp only [List.mem_cons, List.mem_append] at hr ⊢; rcases hr with h | h | h | h | h | h | h | h | h <;> simp only [h, true_or, or_true])) (neC (Nat.ne_of_gt (hlt12 (S1.heap.objs.size + 1 + 1, foi) (.tail _ (.tail _ (.tail _ (.tail _ (.tail _ (.head _)))))))) (neC (Nat.ne_of_lt (Nat.lt_succ_self _)) (neC (fun e => hoff (S1.heap.objs.size + 1 + 1, foi) (.tail _ (.tail _ (.tail _ (.tail _ (.head _))))) e.symm) (neC (Nat.ne_of_gt l1_51.2.2.2.2.1) (neC (Nat.ne_of_gt l1_1.2.1) (neC (Nat.ne_of_gt hf3) (neA (fun r hr => Nat.ne_of_gt (Nat.lt_trans hf3 (haa _ (zip_addr hr)))) (neA (fun r hr => Nat.ne_of_gt (Nat.lt_trans hf3 (hR1 r (List.mem_append_left _ hr)))) (fun r hr => Nat.ne_of_gt (Nat.lt_trans hf3 (hR1 r (List.mem_append_right _ hr))))))))))))
          clear N12 hlt12 hne12
          ((repeat' (first | (k_unfold; (try clear ze zq); (try dsimp only)) | (k_end; wrow_close) | ((fail_if_success (fail_if_success (with_reducible refine wpAny_execs_cons ?_))); ((try ((fail_if_success (fail_if_success k_fold)); (with_reducible refine foldQ ?_); intro zq ze)); (try k_gentoks); (with_reducible refine wpAny_execs_cons ?_); (try dsimp only); ((fail_if_success (fail_if_success k_fold)); (with_reducible refine foldQ ?_); intro zq ze))) | walk1 | (dsimp only; walk1) | (leave1; (try dsimp only)))) <;> (try ((fail_if_success (fail_if_success k_fold)); (with_reducible refine foldQ ?_); intro zq ze)))
          refine Held.mk ?_
          refine' comp_plainA (h₀ := S1.heap) (L := S1.heap.objs.size) ?hsw ?hL ?hy ?hp ?hclos ?hcell ?hkind ?hnames ?hx ?_ ?hs
          (case hsw => with_unfolding_all rfl)
          (case hL => rfl)
          (case hy => rfl)
          (case hp => rfl)
          (case hclos => rfl)
          (case hcell => decide)
          (case hkind => rfl)
          (case hnames => decide)
          (case hx => rfl)
          (case hs => intro _; rfl)
          ((repeat' (first | (k_unfold; (try clear ze zq); (try dsimp only)) | (k_end; wrow_close) | ((with_reducible show wpAny _ _ (eval (.Name _ _) _) _ _ _); first | ((k_dflt (first | refine comp_local (by k_asm) (by k_mem) (by assumption) (by assumption) ?_ rfl rfl | refine comp_localM (by k_asm) (by assumption) (by assumption) (by simp only [List.mem_append, List.mem_cons, true_or, or_true]) ?_ rfl rfl | refine lcf_cell (by k_asm) rfl (by k_mem) (by assumption) ?_ rfl rfl | refine lcf_free (by k_asm) rfl (by k_mem) (by assumption) ?_ rfl rfl))) | (k_dflt (refine nameL (by k_asm) (by exact rfl) ?_ rfl rfl (by decide)); k_whole)) | walk1 | (dsimp only; walk1) | (leave1; (try dsimp only)))) <;> (try ((fail_if_success (fail_if_success k_fold)); (with_reducible refine foldQ ?_); intro zq ze)))
          refine Held.mk ?_
          refine' compAt_list (l := lA) (vs := (lineOf lev ks).map p.v) (c := cl) (fun i6 ys extra => ys = (((lineOf lev ks).take i6).filter (fun k => decide (wd ∈ p.wl k) && !decide (k ∈ bk.map E3.k))).map p.v ∧ extra = []) rfl ?hm ?hsz ?hF ?hN ⟨rfl, rfl⟩ ?turn6 ?done6
          (((case hF => k_asm)); ((case hN => k_asm)); ((case hm => k_mem)))
          case hsz => rw [List.length_map]; exact Nat.le_trans (Nat.le_of_eq (line_sorted g1).2.length_eq) (Nat.le_trans hksl (by decide))
          case turn6 =>
            rintro C6 D6 I6 oI6 i6 v6 ys6 c6 extra6 pl6 own6 h15 tk15 E6 hv6 hI0_ hI1_
            refine glet4 v6 ys6 extra6 pl6 ?_
            intro gl_
            obtain ⟨rfl, rfl⟩ := hI0_
            obtain ⟨o6, om6, rfl, hns6, hm6⟩ := hI1_
            obtain ⟨k, hk6, hkm6, rfl⟩ := map_at hv6
            k_unfold
            clear gl_
            intro hown6 F15 N15
            try ((fail_if_success (fail_if_success k_fold)); (with_reducible refine foldQ ?_); intro zq ze)
            have hkn := (hinR k hkm6).2.1
            ((repeat' (first | (k_unfold; (try clear ze zq); (try dsimp only)) | (k_end; wrow_close) | ((with_reducible show wpAny _ _ (eval (.Name _ _) _) _ _ _); first | ((k_dflt (first | refine comp_local (by k_asm) (by k_mem) (by assumption) (by assumption) ?_ rfl rfl | refine comp_localM (by k_asm) (by assumption) (by assumption) (by simp only [List.mem_append, List.mem_cons, true_or, or_true]) ?_ rfl rfl | refine lcf_cell (by k_asm) rfl (by k_mem) (by assumption) ?_ rfl rfl | refine lcf_free (by k_asm) rfl (by k_mem) (by assumption) ?_ rfl rfl))) | (k_dflt (refine nameL (by k_asm) (by exact rfl) ?_ rfl rfl (by decide)); k_whole)) | ((with_reducible show wpAny _ _ (subscriptTail (.Name _ _) (.Constant _ _ _) (.ref _) (.int _ _)) _ _ _); ((first | refine tup_item (by k_asm) (mem_up hkn (by (intro q hq; (try dsimp only); repeat (first | exact hq | apply List.mem_append_right | apply List.mem_cons_of_mem)))) (by decide) (by decide) rfl ?_ | refine tup_item (by k_asm) (mem_up hkn2 (by (intro q hq; (try dsimp only); repeat (first | exact hq | apply List.mem_append_right | apply List.mem_cons_of_mem)))) (by decide) (by decide) rfl ?_ | refine list_item (by k_asm) (mem_up hkl (by (intro q hq; (try dsimp only); repeat (first | exact hq | apply List.mem_append_right | apply List.mem_cons_of_mem)))) (by decide) (by decide) rfl ?_))) | walk1 | (dsimp only; walk1) | (leave1; (try dsimp only)))) <;> (try ((fail_if_success (fail_if_success k_fold)); (with_reducible refine foldQ ?_); intro zq ze)))
            refine Held.mk ?_
            have hwo := g4 k ((line_mem g1).mp hkm6)
            have hwm := (hinR k hkm6).2.2
            refine Does.use (has_ok (w := W0) (mean := ExcName.means S0.heap) (mg := mg) (mb := mb) (mem_up hwm.1 (by (intro q hq; (try dsimp only); repeat (first | exact hq | apply List.mem_append_right | apply List.mem_cons_of_mem)))) hwm.2 hwo.2.1 (by rw [hwm.2.length, hwo.1]; decide)) hB0 F15 KX0 N15 T0 rfl (by first | decide | ktr_room) (by first | decide | ktr_units) ?_
            rintro _ _ h16 tk16 F16 N16 ⟨rfl, rfl⟩
            by_cases hwk : wd ∈ p.wl k
            · rw [decide_eq_true hwk]
              ((repeat' (first | (k_unfold; (try clear ze zq); (try dsimp only)) | (k_end; wrow_close) | ((with_reducible show wpAny _ _ (eval (.Name _ _) _) _ _ _); first | ((k_dflt (first | refine comp_local (by k_asm) (by k_mem) (by assumption) (by assumption) ?_ rfl rfl | refine comp_localM (by k_asm) (by assumption) (by assumption) (by simp only [List.mem_append, List.mem_cons, true_or, or_true]) ?_ rfl rfl | refine lcf_cell (by k_asm) rfl (by k_mem) (by assumption) ?_ rfl rfl | refine lcf_free (by k_asm) rfl (by k_mem) (by assumption) ?_ rfl rfl))) | (k_dflt (refine nameL (by k_asm) (by exact rfl) ?_ rfl rfl (by decide)); k_whole)) | ((with_reducible show @ite _ _ _ _ _); (first | refine iteN (by (first | decide | (simp only [beq_iff_eq, decide_eq_true_eq, List.mem_cons, List.not_mem_nil, or_false]; omega))) ?_ | refine iteY (by (first | decide | (simp only [beq_iff_eq, decide_eq_true_eq, List.mem_cons, List.not_mem_nil, or_false]; omega))) ?_)) | walk1 | (dsimp only; walk1) | (leave1; (try dsimp only)))) <;> (try ((fail_if_success (fail_if_success k_fold)); (with_reducible refine foldQ ?_); intro zq ze)))
              refine Held.mk ?_
              refine slice_mid4 (by k_asm) (by k_asm) (mem_up hkn (by (intro q hq; (try dsimp only); repeat (first | exact hq | apply List.mem_append_right | apply List.mem_cons_of_mem)))) ?_
              intro D7 h17 F17 N17 l17
              replace N17 := new_in N17
              ((repeat' (first | (k_unfold; (try clear ze zq); (try dsimp only)) | (k_end; wrow_close) | ((with_reducible show wpAny _ _ (eval (.Name _ _) _) _ _ _); first | ((k_dflt (first | refine comp_local (by k_asm) (by k_mem) (by assumption) (by assumption) ?_ rfl rfl | refine comp_localM (by k_asm) (by assumption) (by assumption) (by simp only [List.mem_append, List.mem_cons, true_or, or_true]) ?_ rfl rfl | refine lcf_cell (by k_asm) rfl (by k_mem) (by assumption) ?_ rfl rfl | refine lcf_free (by k_asm) rfl (by k_mem) (by assumption) ?_ rfl rfl))) | (k_dflt (refine nameL (by k_asm) (by exact rfl) ?_ rfl rfl (by decide)); k_whole)) | walk1 | (dsimp only; walk1) | (leave1; (try dsimp only)))) <;> (try ((fail_if_success (fail_if_success k_fold)); (with_reducible refine foldQ ?_); intro zq ze)))
              refine Held.mk ?_
              refine notIn_tups (l := bk.zip as) (val := fun q => Value.ref q.2) (nums := fun q => rc q.1.k) (a := D2) (c := c2) (ns := rc k) (by k_asm) (by rw [zip_refs has]; k_mem) (zip_tups (by (intro q hq; (try dsimp only); repeat (first | exact hq | exact List.mem_append_left _ hq | apply List.mem_append_right | apply List.mem_cons_of_mem)))) (rc_tup new_at) (by first | decide | ktr_units) ?_
              rw [zip_rcs has, rc_in]
              by_cases hkb : k ∈ bk.map E3.k
              · rw [decide_eq_true hkb, Bool.not_true]
                ((repeat' (first | (k_unfold; (try clear ze zq); (try dsimp only)) | (k_end; wrow_close) | ((with_reducible show @ite _ _ _ _ _); (first | refine iteN (by (first | decide | (simp only [beq_iff_eq, decide_eq_true_eq, List.mem_cons, List.not_mem_nil, or_false]; omega))) ?_ | refine iteY (by (first | decide | (simp only [beq_iff_eq, decide_eq_true_eq, List.mem_cons, List.not_mem_nil, or_false]; omega))) ?_)) | walk1 | (dsimp only; walk1) | (leave1; (try dsimp only)))) <;> (try ((fail_if_success (fail_if_success k_fold)); (with_reducible refine foldQ ?_); intro zq ze)))
                refine Held.mk ?_
                refine CompEnd.none F17 (new_out N17) ?_
                exact ⟨filt_no hk6 (by rw [decide_eq_true hkb, decide_eq_true hwk]; rfl), rfl⟩
              · rw [decide_eq_false hkb, Bool.not_false]
                ((repeat' (first | (k_unfold; (try clear ze zq); (try dsimp only)) | (k_end; wrow_close) | ((with_reducible show wpAny _ _ (eval (.Name _ _) _) _ _ _); first | ((k_dflt (first | refine comp_local (by k_asm) (by k_mem) (by assumption) (by assumption) ?_ rfl rfl | refine comp_localM (by k_asm) (by assumption) (by assumption) (by simp only [List.mem_append, List.mem_cons, true_or, or_true]) ?_ rfl rfl | refine lcf_cell (by k_asm) rfl (by k_mem) (by assumption) ?_ rfl rfl | refine lcf_free (by k_asm) rfl (by k_mem) (by assumption) ?_ rfl rfl))) | (k_dflt (refine nameL (by k_asm) (by exact rfl) ?_ rfl rfl (by decide)); k_whole)) | ((with_reducible show @ite _ _ _ _ _); (first | refine iteN (by (first | decide | (simp only [beq_iff_eq, decide_eq_true_eq, List.mem_cons, List.not_mem_nil, or_false]; omega))) ?_ | refine iteY (by (first | decide | (simp only [beq_iff_eq, decide_eq_true_eq, List.mem_cons, List.not_mem_nil, or_false]; omega))) ?_)) | walk1 | (dsimp only; walk1) | (leave1; (try dsimp only)))) <;> (try ((fail_if_success (fail_if_success k_fold)); (with_reducible refine foldQ ?_); intro zq ze)))
                refine Held.mk ?_
                refine CompEnd.none F17 (new_out N17) ?_
                exact ⟨filt_yes hk6 (by rw [decide_eq_false hkb, decide_eq_true hwk]; rfl), rfl⟩
            · rw [decide_eq_false hwk]
              ((repeat' (first | (k_unfold; (try clear ze zq); (try dsimp only)) | (k_end; wrow_close) | ((with_reducible show @ite _ _ _ _ _); (first | refine iteN (by (first | decide | (simp only [beq_iff_eq, decide_eq_true_eq, List.mem_cons, List.not_mem_nil, or_false]; omega))) ?_ | refine iteY (by (first | decide | (simp only [beq_iff_eq, decide_eq_true_eq, List.mem_cons, List.not_mem_nil, or_false]; omega))) ?_)) | walk1 | (dsimp only; walk1) | (leave1; (try dsimp only)))) <;> (try ((fail_if_success (fail_if_success k_fold)); (with_reducible refine foldQ ?_); intro zq ze)))
              refine Held.mk ?_
              refine CompEnd.none F16 N16 ?_
              exact ⟨filt_no hk6 (by rw [decide_eq_false hwk]; rfl), rfl⟩
          case done6 =>
            rintro D3 h15 tk15 ys6 c3 extra6 hI0_
            refine glet2 ys6 extra6 ?_
            intro gl_
            obtain ⟨rfl, rfl⟩ := hI0_
            k_unfold
            clear gl_
            intro F15 N15 hlt15 hne15
            try ((fail_if_success (fail_if_success k_fold)); (with_reducible refine foldQ ?_); intro zq ze)
            rw [filt_end] at N15
            refine (fun (ask : _) (hask : ask = askW lev p.wl ks bk wd) => ?_) _ rfl
            rw [show (lineOf lev ks).filter (fun k => decide (wd ∈ p.wl k) && !decide (k ∈ bk.map E3.k)) = ask from hask.symm, List.nil_append] at N15
            have hld6' : ld < 6 := by omega
            obtain ⟨hper, hchn, hchs, hwno, hrich⟩ := word_turn (bk := bk) (wl := p.wl) (wd := wd) hlev (by omega) (by omega) (by omega) g1 g2 g4 hld6' hi hwd q5
            rw [← hask] at hper hchn hchs hrich
            replace N15 : News S1.heap S1.heap.objs.size h15 ((D3, lst (List.map p.v ask) c3) :: (S1.heap.objs.size + 1, ow1) :: (S1.heap.objs.size + 1 + 1, fo1) :: (I, oI) :: (bA, lst (List.map E3.v bk) bc) :: (lA, lst (List.map p.v (lineOf lev ks)) cl) :: (cA, lst (List.map p.v ks) ccm) :: (rowsE bk ++ rowsP p ks)) := News.sub N15 (by first | ((try dsimp only); walk_at "subs") | (intro r hr; simp only [List.mem_cons, List.mem_append] at hr ⊢; rcases hr with h | h | h | h | h | h | h | h | h <;> simp only [h, true_or, or_true]))
            have haskm : ∀ k ∈ ask, k ∈ ks := fun k hk => ((ask_mem g1).mp (hask ▸ hk)).1
            have hina : p.In ask (rowsP p ks) := hinR.sub fun k hk => (line_mem g1).mpr (haskm k hk)
            have hal : ask.length ≤ 9 := by
              rw [hask]
              exact Nat.le_trans (List.length_filter_le ..) (Nat.le_trans (Nat.le_of_eq (line_sorted g1).2.length_eq) hksl)
            ((repeat' (first | (k_unfold; (try clear ze zq); (try dsimp only)) | (k_end; wrow_close) | ((fail_if_success (fail_if_success (with_reducible refine wpAny_execs_cons ?_))); ((try ((fail_if_success (fail_if_success k_fold)); (with_reducible refine foldQ ?_); intro zq ze)); (try k_gentoks); (with_reducible refine wpAny_execs_cons ?_); (try dsimp only); ((fail_if_success (fail_if_success k_fold)); (with_reducible refine foldQ ?_); intro zq ze))) | ((with_reducible show wpAny _ _ (eval (.Name _ _) _) _ _ _); first | ((k_dflt (first | refine comp_local (by k_asm) (by k_mem) (by assumption) (by assumption) ?_ rfl rfl | refine comp_localM (by k_asm) (by assumption) (by assumption) (by simp only [List.mem_append, List.mem_cons, true_or, or_true]) ?_ rfl rfl | refine lcf_cell (by k_asm) rfl (by k_mem) (by assumption) ?_ rfl rfl | refine lcf_free (by k_asm) rfl (by k_mem) (by assumption) ?_ rfl rfl))) | (k_dflt (refine nameL (by k_asm) (by exact rfl) ?_ rfl rfl (by decide)); k_whole)) | walk1 | (dsimp only; walk1) | (leave1; (try dsimp only)))) <;> (try ((fail_if_success (fail_if_success k_fold)); (with_reducible refine foldQ ?_); intro zq ze)))
            refine Held.mk ?_
            refine Does.use (chosen (w := W0) (mean := ExcName.means S0.heap) (mg := mg) (mb := mb) (p := p) (ks := ask) (hina.mono (by (intro q hq; (try dsimp only); repeat (first | exact hq | apply List.mem_append_right | apply List.mem_cons_of_mem)))) hal) hB0 F15 KX0 N15 T0 rfl (by first | decide | ktr_room) (by first | decide | ktr_units) ?_
            rintro _ _ h16 tk16 F16 N16 ⟨D4, c4, rfl, rfl, hD4⟩
            rw [g3] at N16
            have hinc : p.In (chosenF lev ask) (rowsP p ks) := hina.sub hchs
            have hins : p.In (stayF lev 10 ask) (rowsP p ks) := hina.sub stay_sub
            have hcl : (chosenF lev ask).length ≤ 9 := by
              have h1 := nodup_len hchn hchs
              omega
            refine (fun (ch : _) (hch : ch = chosenF lev ask) => ?_) _ rfl
            rw [← hch] at N16 hper hchn hchs hrich hinc hcl
            ((repeat' (first | (k_unfold; (try clear ze zq); (try dsimp only)) | (k_end; wrow_close) | ((fail_if_success (fail_if_success (with_reducible refine wpAny_execs_cons ?_))); ((try ((fail_if_success (fail_if_success k_fold)); (with_reducible refine foldQ ?_); intro zq ze)); (try k_gentoks); (with_reducible refine wpAny_execs_cons ?_); (try dsimp only); ((fail_if_success (fail_if_success k_fold)); (with_reducible refine foldQ ?_); intro zq ze))) | ((with_reducible show wpAny _ _ (eval (.Name _ _) _) _ _ _); first | ((k_dflt (first | refine comp_local (by k_asm) (by k_mem) (by assumption) (by assumption) ?_ rfl rfl | refine comp_localM (by k_asm) (by assumption) (by assumption) (by simp only [List.mem_append, List.mem_cons, true_or, or_true]) ?_ rfl rfl | refine lcf_cell (by k_asm) rfl (by k_mem) (by assumption) ?_ rfl rfl | refine lcf_free (by k_asm) rfl (by k_mem) (by assumption) ?_ rfl rfl))) | (k_dflt (refine nameL (by k_asm) (by exact rfl) ?_ rfl rfl (by decide)); k_whole)) | (((with_reducible show wpAny _ _ (callWith _ (Value.builtin _) [_] _ _) _ _ _); refine callWith_method1 ?_)) | walk1 | (dsimp only; walk1) | (leave1; (try dsimp only)))) <;> (try ((fail_if_success (fail_if_success k_fold)); (with_reducible refine foldQ ?_); intro zq ze)))
            refine Held.mk ?_
            refine sorted_plcs (p := p) (ks := ch) (by k_asm) (by k_asm) (List.mem_cons_self ..) (hinc.mono (by (intro q hq; (try dsimp only); repeat (first | exact hq | apply List.mem_append_right | apply List.mem_cons_of_mem)))) (by omega) ?_
            intro D5 c5 h17 o1 ho1 hs1 F17 N17 l17
            rw [g3] at hs1
            ((repeat' (first | (k_unfold; (try clear ze zq); (try dsimp only)) | (k_end; wrow_close) | ((with_reducible show wpAny _ _ (eval (.Name _ _) _) _ _ _); first | ((k_dflt (first | refine comp_local (by k_asm) (by k_mem) (by assumption) (by assumption) ?_ rfl rfl | refine comp_localM (by k_asm) (by assumption) (by assumption) (by simp only [List.mem_append, List.mem_cons, true_or, or_true]) ?_ rfl rfl | refine lcf_cell (by k_asm) rfl (by k_mem) (by assumption) ?_ rfl rfl | refine lcf_free (by k_asm) rfl (by k_mem) (by assumption) ?_ rfl rfl))) | (k_dflt (refine nameL (by k_asm) (by exact rfl) ?_ rfl rfl (by decide)); k_whole)) | (((with_reducible show wpAny _ _ (callWith _ (Value.builtin _) [_] _ _) _ _ _); refine callWith_method1 ?_)) | walk1 | (dsimp only; walk1) | (leave1; (try dsimp only)))) <;> (try ((fail_if_success (fail_if_success k_fold)); (with_reducible refine foldQ ?_); intro zq ze)))
            rename Fr _ _ _ _ => F18
            rename News _ _ _ _ => N18
            refine Held.mk ?_
            replace N18 := News.sub N18 (l' := (D3, lst (List.map p.v ask) c3) :: (D5, lst (List.map p.v o1) c5) :: (D4, lst (List.map p.v ch) c4) :: (S1.heap.objs.size + 1, ow1) :: (S1.heap.objs.size + 1 + 1, fo1) :: (I, oI) :: (bA, lst (List.map E3.v bk) bc) :: (lA, lst (List.map p.v (lineOf lev ks)) cl) :: (cA, lst (List.map p.v ks) ccm) :: (rowsE bk ++ rowsP p ks)) (by first | ((try dsimp only); walk_at "subs") | (intro r hr; simp only [List.mem_cons] at hr ⊢; rcases hr with h | h | h | h <;> simp only [h, true_or, or_true]))
            refine Does.use (stay (w := W0) (mean := ExcName.means S0.heap) (mg := mg) (mb := mb) (p := p) (ks := ask) (hina.mono (by (intro q hq; (try dsimp only); repeat (first | exact hq | apply List.mem_append_right | apply List.mem_cons_of_mem)))) hal) hB0 F18 KX0 N18 T0 rfl (by first | decide | ktr_room) (by first | decide | ktr_units) ?_
            rintro _ _ h19 tk19 F19 N19 ⟨D6, c6, rfl, rfl⟩
            rw [g3] at N19
            ((repeat' (first | (k_unfold; (try clear ze zq); (try dsimp only)) | (k_end; wrow_close) | walk1 | (dsimp only; walk1) | (leave1; (try dsimp only)))) <;> (try ((fail_if_success (fail_if_success k_fold)); (with_reducible refine foldQ ?_); intro zq ze)))
            refine Held.mk ?_
            refine sorted_plcs (p := p) (ks := stayF lev 10 ask) (by k_asm) (by k_asm) (List.mem_cons_self ..) (hins.mono (by (intro q hq; (try dsimp only); repeat (first | exact hq | apply List.mem_append_right | apply List.mem_cons_of_mem)))) (by have := hper.length_eq; omega) ?_
            intro D7 c7 h20 o2 ho2 hs2 F20 N20 l20
            rw [g3] at hs2
            have hoo : o1 = o2 := sorted_one ho1 ho2 hper hchn (fun k hk => g2 k (haskm k (hchs k hk))) hs1 hs2
            subst hoo
            ((repeat' (first | (k_unfold; (try clear ze zq); (try dsimp only)) | (k_end; wrow_close) | walk1 | (dsimp only; walk1) | (leave1; (try dsimp only)))) <;> (try ((fail_if_success (fail_if_success k_fold)); (with_reducible refine foldQ ?_); intro zq ze)))
            refine Held.mk ?_
            have hino : p.In o1 (rowsP p ks) := hinc.sub fun k hk => ho1.mem_iff.mp hk
            refine ne_plcs (ks := o1) (js := o1) (c := c5) (d := c7) (by k_asm) (List.mem_cons_of_mem _ (List.mem_cons_of_mem _ (List.mem_cons_of_mem _ (List.mem_cons_self ..)))) (List.mem_cons_self ..) (hino.mono (by (intro q hq; (try dsimp only); repeat (first | exact hq | apply List.mem_append_right | apply List.mem_cons_of_mem)))) (hino.mono (by (intro q hq; (try dsimp only); repeat (first | exact hq | apply List.mem_append_right | apply List.mem_cons_of_mem)))) (by first | decide | ktr_units) ?_
            rw [show (!decide (o1 = o1)) = false by simp]
            replace N20 := News.sub N20 (l' := Led4 bA (D4, lst (List.map p.v ch) c4) (I, oI) (S1.heap.objs.size + 1, ow1) (S1.heap.objs.size + 1 + 1, fo1) (lA, lst (List.map p.v (lineOf lev ks)) cl) (cA, lst (List.map p.v ks) ccm) (rowsP p ks) (bk, bc)) (by first | ((try dsimp only [Led4]); walk_at "subs") | (intro r hr; simp only [Led4, List.mem_cons, List.mem_append] at hr ⊢; rcases hr with h | h | h | h | h | h | h | h | h <;> simp only [h, true_or, or_true]))
            dsimp only [Led4] at N20
            ((repeat' (first | (k_unfold; (try clear ze zq); (try dsimp only)) | (k_end; wrow_close) | ((fail_if_success (fail_if_success (with_reducible refine wpAny_execs_cons ?_))); ((try ((fail_if_success (fail_if_success k_fold)); (with_reducible refine foldQ ?_); intro zq ze)); (try k_gentoks); (with_reducible refine wpAny_execs_cons ?_); (try dsimp only); ((fail_if_success (fail_if_success k_fold)); (with_reducible refine foldQ ?_); intro zq ze))) | ((with_reducible show @ite _ _ _ _ _); (first | refine iteN (by (first | decide | (simp only [beq_iff_eq, decide_eq_true_eq, List.mem_cons, List.not_mem_nil, or_false]; omega))) ?_ | refine iteY (by (first | decide | (simp only [beq_iff_eq, decide_eq_true_eq, List.mem_cons, List.not_mem_nil, or_false]; omega))) ?_)) | walk1 | (dsimp only; walk1) | (leave1; (try dsimp only)))) <;> (try ((fail_if_success (fail_if_success k_fold)); (with_reducible refine foldQ ?_); intro zq ze)))
            ((refine Held.mk ?_); (rename Fr _ _ _ _ => Ff); (with_unfolding_all refine' for_fr Ff ?fx ?fp ?_ ?fs ?fE); ((case fx => rfl)); ((case fp => rfl)); ((case fs => intro _; rfl)); ((case fE => first | exact PassesOwn.never | passes_own)))
            ((repeat' (first | (k_unfold; (try clear ze zq); (try dsimp only)) | (k_end; wrow_close) | ((with_reducible show wpAny _ _ (eval (.Name _ _) _) _ _ _); first | ((k_dflt (first | refine comp_local (by k_asm) (by k_mem) (by assumption) (by assumption) ?_ rfl rfl | refine comp_localM (by k_asm) (by assumption) (by assumption) (by simp only [List.mem_append, List.mem_cons, true_or, or_true]) ?_ rfl rfl | refine lcf_cell (by k_asm) rfl (by k_mem) (by assumption) ?_ rfl rfl | refine lcf_free (by k_asm) rfl (by k_mem) (by assumption) ?_ rfl rfl))) | (k_dflt (refine nameL (by k_asm) (by exact rfl) ?_ rfl rfl (by decide)); k_whole)) | walk1 | (dsimp only; walk1) | (leave1; (try dsimp only)))) <;> (try ((fail_if_success (fail_if_success k_fold)); (with_reducible refine foldQ ?_); intro zq ze)))
            refine Held.mk ?_
            obtain ⟨lo, hi2, hbe, hlo, hhi⟩ := book_split (w := wd) (b := bk.map E3.ent) (by rw [ent_fst]; exact q1) (fun e he h => by
              obtain ⟨e', he', rfl⟩ := List.mem_map.mp he
              exact hwno (h ▸ q2 e' he'))
            have hord0 : ((lo ++ hi2).map Prod.fst).Pairwise (· ≤ ·) := by rw [← hbe, ent_fst]; exact q1
            have hD4b : bA < D4 := hD4 (bA, _) (.tail _ (.tail _ (.tail _ (.head _))))
            refine for_listS (l := D4) (vs := ch.map p.v) (c := c4) (Led4 bA (D4, lst (List.map p.v ch) c4) (I, oI) (S1.heap.objs.size + 1, ow1) (S1.heap.objs.size + 1 + 1, fo1) (lA, lst (List.map p.v (lineOf lev ks)) cl) (cA, lst (List.map p.v ks) ccm) (rowsP p ks)) (fun _ => []) [] (G4 bA I wd lo hi2 ch) (bk, bc)
              rfl (fun q => List.mem_cons_of_mem _ (List.mem_cons_self ..)) (by k_asm) N20 (fun _ h => absurd h (List.not_mem_nil)) ⟨?h0, fun e he => ⟨q8 e he, hoff (e.ad, e.o) (mem_up (rowsE_mem he) (by (intro q hq; (try dsimp only); repeat (first | exact hq | apply List.mem_append_right | apply List.mem_cons_of_mem))))⟩⟩ ?turn7 ?done7
            case h0 =>
              show bk.map E3.ent = lo ++ entW wd (ch.take 0).reverse ++ hi2
              rw [hbe, List.take_zero]
              show lo ++ hi2 = lo ++ [] ++ hi2
              rw [List.append_nil]
            case turn7 =>
              rintro j v ⟨bk1, bc1⟩ u21 h21 tk21 I2 oI2 hv21 ⟨r1, r2⟩ hoff2 F21 N21
              dsimp only [kstB] at r1 r2 F21
              dsimp only [Led4] at N21 hoff2
              obtain ⟨k, hk21, hkm21, rfl⟩ := map_at hv21
              have hkn := (hinc k hkm21).2.1
              ((repeat' (first | (k_unfold; (try clear ze zq); (try dsimp only)) | (k_end; wrow_close) | ((fail_if_success (fail_if_success (with_reducible refine wpAny_execs_cons ?_))); ((try ((fail_if_success (fail_if_success k_fold)); (with_reducible refine foldQ ?_); intro zq ze)); (try k_gentoks); (with_reducible refine wpAny_execs_cons ?_); (try dsimp only); ((fail_if_success (fail_if_success k_fold)); (with_reducible refine foldQ ?_); intro zq ze))) | ((with_reducible show wpAny _ _ (eval (.Name _ _) _) _ _ _); first | ((k_dflt (first | refine comp_local (by k_asm) (by k_mem) (by assumption) (by assumption) ?_ rfl rfl | refine comp_localM (by k_asm) (by assumption) (by assumption) (by simp only [List.mem_append, List.mem_cons, true_or, or_true]) ?_ rfl rfl | refine lcf_cell (by k_asm) rfl (by k_mem) (by assumption) ?_ rfl rfl | refine lcf_free (by k_asm) rfl (by k_mem) (by assumption) ?_ rfl rfl))) | (k_dflt (refine nameL (by k_asm) (by exact rfl) ?_ rfl rfl (by decide)); k_whole)) | ((with_reducible show wpAny _ _ (subscriptTail (.Name _ _) (.Constant _ _ _) (.ref _) (.int _ _)) _ _ _); ((first | refine tup_item (by k_asm) (mem_up hkn (by (intro q hq; (try dsimp only); repeat (first | exact hq | apply List.mem_append_right | apply List.mem_cons_of_mem)))) (by decide) (by decide) rfl ?_ | refine tup_item (by k_asm) (mem_up hkn2 (by (intro q hq; (try dsimp only); repeat (first | exact hq | apply List.mem_append_right | apply List.mem_cons_of_mem)))) (by decide) (by decide) rfl ?_ | refine list_item (by k_asm) (mem_up hkl (by (intro q hq; (try dsimp only); repeat (first | exact hq | apply List.mem_append_right | apply List.mem_cons_of_mem)))) (by decide) (by decide) rfl ?_))) | walk1 | (dsimp only; walk1) | (leave1; (try dsimp only)))) <;> (try ((fail_if_success (fail_if_success k_fold)); (with_reducible refine foldQ ?_); intro zq ze)))
              rename_i D8 h22 F22 N22 l22
              refine Held.mk ?_
              refine (fun (tw : Tok) (N22 : News S1.heap S1.heap.objs.size h22 ((D8, tupObj [.int wd tw, .int ((k / 3 : Nat) : Int) (p.t1 k), .int ((k % 3 : Nat) : Int) (p.t2 k)] 0) :: (I2, oI2) :: (bA, lst (List.map E3.v bk1) bc1) :: (D4, lst (List.map p.v ch) c4) :: (I, oI) :: (S1.heap.objs.size + 1, ow1) :: (S1.heap.objs.size + 1 + 1, fo1) :: (lA, lst (List.map p.v (lineOf lev ks)) cl) :: (cA, lst (List.map p.v ks) ccm) :: (rowsE bk1 ++ rowsP p ks))) => ?_) _ N22
              replace N22 := News.sub N22 (l' := (bA, lst (List.map E3.v bk1) bc1) :: (D8, tupObj [.int wd tw, .int ((k / 3 : Nat) : Int) (p.t1 k), .int ((k % 3 : Nat) : Int) (p.t2 k)] 0) :: (I2, oI2) :: (D4, lst (List.map p.v ch) c4) :: (I, oI) :: (S1.heap.objs.size + 1, ow1) :: (S1.heap.objs.size + 1 + 1, fo1) :: (lA, lst (List.map p.v (lineOf lev ks)) cl) :: (cA, lst (List.map p.v ks) ccm) :: (rowsE bk1 ++ rowsP p ks)) (by first | ((try dsimp only); walk_at "subs") | (intro r hr; simp only [List.mem_cons] at hr ⊢; rcases hr with h | h | h | h <;> simp only [h, true_or, or_true]))
              have hne8 : ∀ r ∈ (D8, tupObj [.int wd tw, .int ((k / 3 : Nat) : Int) (p.t1 k), .int ((k % 3 : Nat) : Int) (p.t2 k)] 0) :: (I2, oI2) :: (D4, lst (List.map p.v ch) c4) :: (I, oI) :: (S1.heap.objs.size + 1, ow1) :: (S1.heap.objs.size + 1 + 1, fo1) :: (lA, lst (List.map p.v (lineOf lev ks)) cl) :: (cA, lst (List.map p.v ks) ccm) :: (rowsE bk1 ++ rowsP p ks), r.1 ≠ bA :=
                neC (Nat.ne_of_gt l22.2.1) (neC (fun e => hoff2 (bA, lst (List.map E3.v bk1) bc1) (List.mem_cons_self ..) e.symm) (neC (Nat.ne_of_gt hD4b) (neC (fun e => hoff (bA, lst (List.map E3.v bk) bc) (List.mem_cons_self ..) e.symm) (neC (Nat.ne_of_lt l1_51.2.2.2.1) (neC (Nat.ne_of_lt l1_51.2.2.2.2.1) (neC (Nat.ne_of_lt l1_51.1) (neC (Nat.ne_of_lt l1_51.2.1) (neA (fun r hr => by
                  obtain ⟨e, he, rfl⟩ := List.mem_map.mp hr
                  exact Nat.ne_of_gt (r2 e he).1) (fun r hr => Nat.ne_of_lt (allLt_mem l1_51.2.2.2.2.2 r hr))))))))))
              have hbl1 := ent_len r1
              have hbl0 := congrArg List.length hbe
              rw [List.length_map, List.length_append] at hbl0
              have htl : (ch.take j).length ≤ ch.length := List.length_take_le' ..
              refine Does.use (insl_key (w := W0) (mean := ExcName.means S0.heap) (mg := mg) (mb := mb) (val := E3.v) (key := E3.w) (l := bk1) (y := ⟨wd, k, D8, tw, p.t1 k, p.t2 k⟩) (a := bA) (ad := D8) (c := bc1) (n := 0) (t := tw) (r := [.int ((k / 3 : Nat) : Int) (p.t1 k), .int ((k % 3 : Nat) : Int) (p.t2 k)]) (keyed_bk (fun e he => mem_up (rowsE_mem he) (by (intro q hq; (try dsimp only); repeat (first | exact hq | apply List.mem_append_right | apply List.mem_cons_of_mem))))) (ent_order hord0 hlo hhi r1) (by omega) hne8 rfl (List.mem_cons_self ..)) hB0 F22 KX0 N22 T0 rfl (by first | decide | ktr_room) (by first | decide | ktr_units) ?_
              rintro _ _ h23 tk23 F23 N23 ⟨rfl, rfl⟩
              ((repeat' (first | (k_unfold; (try clear ze zq); (try dsimp only)) | (k_end; wrow_close) | ((with_reducible show @ite _ _ _ _ _); (first | refine iteN (by (first | decide | (simp only [beq_iff_eq, decide_eq_true_eq, List.mem_cons, List.not_mem_nil, or_false]; omega))) ?_ | refine iteY (by (first | decide | (simp only [beq_iff_eq, decide_eq_true_eq, List.mem_cons, List.not_mem_nil, or_false]; omega))) ?_)) | walk1 | (dsimp only; walk1) | (leave1; (try dsimp only)))) <;> (try ((fail_if_success (fail_if_success k_fold)); (with_reducible refine foldQ ?_); intro zq ze)))
              refine Held.mk ?_
              refine ForS.next (insL E3.w ⟨wd, k, D8, tw, p.t1 k, p.t2 k⟩ bk1, bc1 + 1) (by k_asm) (News.sub N23 led4_next) (led4_ne hoff2 (Nat.ne_of_gt l22.1)) (fun _ h => absurd h (List.not_mem_nil)) ?same ⟨ent_step hlo hhi r1 hk21 rfl, ?_⟩
              case same => (try dsimp only [mz4]); kst_same
              intro e he
              rcases (insL_mem _ _ _ _).mp he with rfl | he
              · exact ⟨l22.2.1, Nat.ne_of_gt l22.2.2.2.1⟩
              · exact r2 e he
            case done7 =>
              rintro ⟨bk2, bc2⟩ u21 h21 tk21 ⟨r1, r2⟩ F21 N21
              rw [List.length_map, List.take_length] at r1
              dsimp only [kstB] at r1 r2 F21
              dsimp only [Led4] at N21
              ((repeat' (first | (k_unfold; (try clear ze zq); (try dsimp only)) | (k_end; wrow_close) | ((fail_if_success (fail_if_success (with_reducible refine wpAny_execs_cons ?_))); ((try ((fail_if_success (fail_if_success k_fold)); (with_reducible refine foldQ ?_); intro zq ze)); (try k_gentoks); (with_reducible refine wpAny_execs_cons ?_); (try dsimp only); ((fail_if_success (fail_if_success k_fold)); (with_reducible refine foldQ ?_); intro zq ze))) | ((with_reducible show wpAny _ _ (eval (.Name _ _) _) _ _ _); first | ((k_dflt (first | refine comp_local (by k_asm) (by k_mem) (by assumption) (by assumption) ?_ rfl rfl | refine comp_localM (by k_asm) (by assumption) (by assumption) (by simp only [List.mem_append, List.mem_cons, true_or, or_true]) ?_ rfl rfl | refine lcf_cell (by k_asm) rfl (by k_mem) (by assumption) ?_ rfl rfl | refine lcf_free (by k_asm) rfl (by k_mem) (by assumption) ?_ rfl rfl))) | (k_dflt (refine nameL (by k_asm) (by exact rfl) ?_ rfl rfl (by decide)); k_whole)) | walk1 | (dsimp only; walk1) | (leave1; (try dsimp only)))) <;> (try ((fail_if_success (fail_if_success k_fold)); (with_reducible refine foldQ ?_); intro zq ze)))
              have hkb := keyed_bk (bk := bk2) (news := rowsE bk2 ++ rowsP p ks) (fun e he => rowsE_mem he)
              have hso := ent_order hord0 hlo hhi r1
              have hbl2 := ent_len r1
              have hbl0 := congrArg List.length hbe
              rw [List.length_map, List.length_append] at hbl0
              have hmw : (bk2.map E3.w).length = bk2.length := List.length_map ..
              have hmv : (bk2.map E3.v).length = bk2.length := List.length_map ..
              refine Held.mk ?_
              refine Does.use (bisl_2 (w := W0) (mean := ExcName.means S0.heap) (mg := mg) (mb := mb) (x := wd) (ks := bk2.map E3.w) (List.mem_cons_self ..) (hkb.mono (by (intro q hq; (try dsimp only); repeat (first | exact hq | apply List.mem_append_right | apply List.mem_cons_of_mem)))) hso (by omega)) hB0 F21 KX0 N21 T0 rfl (by first | decide | ktr_room) (by first | decide | ktr_units) ?_
              rintro _ _ h22 tk22 F22 N22 ⟨rfl, xb, tb, rfl, hxb⟩
              rw [hmv] at hxb
              obtain rfl : xb = (lo.length : Nat) := bl_at hmw (by omega) (fun i k h hi => (at_keys hlo hhi r1 h).1 hi) (fun i k h hi => by
                by_cases h' : i < lo.length + ch.length
                · exact Int.le_of_eq ((at_keys hlo hhi r1 h).2.1 hi h').symm
                · exact Int.le_of_lt ((at_keys hlo hhi r1 h).2.2 (by omega))) hxb
              ((repeat' (first | (k_unfold; (try clear ze zq); (try dsimp only)) | (k_end; wrow_close) | ((with_reducible show wpAny _ _ (eval (.Name _ _) _) _ _ _); first | ((k_dflt (first | refine comp_local (by k_asm) (by k_mem) (by assumption) (by assumption) ?_ rfl rfl | refine comp_localM (by k_asm) (by assumption) (by assumption) (by simp only [List.mem_append, List.mem_cons, true_or, or_true]) ?_ rfl rfl | refine lcf_cell (by k_asm) rfl (by k_mem) (by assumption) ?_ rfl rfl | refine lcf_free (by k_asm) rfl (by k_mem) (by assumption) ?_ rfl rfl))) | (k_dflt (refine nameL (by k_asm) (by exact rfl) ?_ rfl rfl (by decide)); k_whole)) | walk1 | (dsimp only; walk1) | (leave1; (try dsimp only)))) <;> (try ((fail_if_success (fail_if_success k_fold)); (with_reducible refine foldQ ?_); intro zq ze)))
              refine Held.mk ?_
              refine Does.use (bisr_2 (w := W0) (mean := ExcName.means S0.heap) (mg := mg) (mb := mb) (x := wd) (ks := bk2.map E3.w) (List.mem_cons_self ..) (hkb.mono (by (intro q hq; (try dsimp only); repeat (first | exact hq | apply List.mem_append_right | apply List.mem_cons_of_mem)))) hso (by omega)) hB0 F22 KX0 N22 T0 rfl (by first | decide | ktr_room) (by first | decide | ktr_units) ?_
              rintro _ _ h23 tk23 F23 N23 ⟨rfl, xe, te, rfl, hxe⟩
              rw [hmv] at hxe
              obtain rfl : xe = (lo.length + ch.length : Nat) := br_at hmw (by omega) (fun i k h hi => by
                by_cases h' : i < lo.length
                · exact Int.le_of_lt ((at_keys hlo hhi r1 h).1 h')
                · exact Int.le_of_eq ((at_keys hlo hhi r1 h).2.1 (by omega) hi)) (fun i k h hi => (at_keys hlo hhi r1 h).2.2 hi) hxe
              clear hxb hxe
              ((repeat' (first | (k_unfold; (try clear ze zq); (try dsimp only)) | (k_end; wrow_close) | ((fail_if_success (fail_if_success (with_reducible refine wpAny_execs_cons ?_))); ((try ((fail_if_success (fail_if_success k_fold)); (with_reducible refine foldQ ?_); intro zq ze)); (try k_gentoks); (with_reducible refine wpAny_execs_cons ?_); (try dsimp only); ((fail_if_success (fail_if_success k_fold)); (with_reducible refine foldQ ?_); intro zq ze))) | ((with_reducible show wpAny _ _ (eval (.Name _ _) _) _ _ _); first | ((k_dflt (first | refine comp_local (by k_asm) (by k_mem) (by assumption) (by assumption) ?_ rfl rfl | refine comp_localM (by k_asm) (by assumption) (by assumption) (by simp only [List.mem_append, List.mem_cons, true_or, or_true]) ?_ rfl rfl | refine lcf_cell (by k_asm) rfl (by k_mem) (by assumption) ?_ rfl rfl | refine lcf_free (by k_asm) rfl (by k_mem) (by assumption) ?_ rfl rfl))) | (k_dflt (refine nameL (by k_asm) (by exact rfl) ?_ rfl rfl (by decide)); k_whole)) | walk1 | (dsimp only; walk1) | (leave1; (try dsimp only)))) <;> (try ((fail_if_success (fail_if_success k_fold)); (with_reducible refine foldQ ?_); intro zq ze)))
              rename Fr _ _ _ _ => F24
              rename News _ _ _ _ => N24
              replace N24 := News.sub N24 (fun r hr => List.mem_cons_of_mem _ hr)
              refine Held.mk ?_
              obtain ⟨bkA, bkM, bkH, hcut, hcA, hcM, hcH⟩ := ent_cut r1
              have hlA : bkA.length = lo.length := by rw [← hcA, List.length_map]
              have hlM : bkM.length = ch.length := by
                have := congrArg List.length hcM
                simpa [entW] using this
              refine kmk_slice_lit (lo := some (lo.length : Int)) (hi := some ((lo.length + ch.length : Nat) : Int)) (zs := bkM.map E3.v) F24 N24 (News.isList N24 (List.mem_cons_self ..)) (.int _ _) (.int _ _) ?epick ?_ (by with_unfolding_all rfl) (by intro _; with_unfolding_all rfl) ?ez
              case epick =>
                rw [pick_mid _ (Nat.le_add_right ..) (by omega), hcut, ← hlA, ← hlM]
                exact cut_mid
              case ez =>
                rw [List.size_toArray, hmv]
                exact Nat.le_trans (m := 100) (by omega) (by decide)
              intro D9 h25 F25 N25 l25
              replace N25 : News S1.heap S1.heap.objs.size h25 ((D9, lst (bkM.map E3.v) 0) :: (bA, lst (List.map E3.v bk2) bc2) :: (D4, lst (List.map p.v ch) c4) :: (I, oI) :: (S1.heap.objs.size + 1, ow1) :: (S1.heap.objs.size + 1 + 1, fo1) :: (lA, lst (List.map p.v (lineOf lev ks)) cl) :: (cA, lst (List.map p.v ks) ccm) :: (rowsE bk2 ++ rowsP p ks)) := N25
              ((repeat' (first | (k_unfold; (try clear ze zq); (try dsimp only)) | (k_end; wrow_close) | walk1 | (dsimp only; walk1) | (leave1; (try dsimp only)))) <;> (try ((fail_if_success (fail_if_success k_fold)); (with_reducible refine foldQ ?_); intro zq ze)))
              refine Held.mk ?_
              refine' comp_plain (h₀ := S1.heap) (L := S1.heap.objs.size) ?hclos ?hcell ?hkind ?hnames ?hx ?_ ?hs
              (case hclos => rfl)
              (case hcell => decide)
              (case hkind => rfl)
              (case hnames => decide)
              (case hx => rfl)
              (case hs => intro _; rfl)
              ((repeat' (first | (k_unfold; (try clear ze zq); (try dsimp only)) | (k_end; wrow_close) | ((with_reducible show wpAny _ _ (eval (.Name _ _) _) _ _ _); first | ((k_dflt (first | refine comp_local (by k_asm) (by k_mem) (by assumption) (by assumption) ?_ rfl rfl | refine comp_localM (by k_asm) (by assumption) (by assumption) (by simp only [List.mem_append, List.mem_cons, true_or, or_true]) ?_ rfl rfl | refine lcf_cell (by k_asm) rfl (by k_mem) (by assumption) ?_ rfl rfl | refine lcf_free (by k_asm) rfl (by k_mem) (by assumption) ?_ rfl rfl))) | (k_dflt (refine nameL (by k_asm) (by exact rfl) ?_ rfl rfl (by decide)); k_whole)) | walk1 | (dsimp only; walk1) | (leave1; (try dsimp only)))) <;> (try ((fail_if_success (fail_if_success k_fold)); (with_reducible refine foldQ ?_); intro zq ze)))
              refine Held.mk ?_
              refine krv_lit (zs := ch.reverse.map p.v) (by k_asm) N25 (News.isList N25 (List.mem_cons_of_mem _ (List.mem_cons_of_mem _ (List.mem_cons_self ..)))) (.int _ _) ?erev ?_ (by with_unfolding_all rfl) (by intro _; with_unfolding_all rfl) ?ez2
              case erev => rw [List.toList_toArray, List.map_reverse]
              case ez2 =>
                rw [List.size_toArray, List.length_map]
                exact Nat.le_trans hcl (by decide)
              intro D10 h26 F26 N26 l26
              replace N26 : News S1.heap S1.heap.objs.size h26 ((D10, lst (ch.reverse.map p.v) 0) :: (D9, lst (bkM.map E3.v) 0) :: (bA, lst (List.map E3.v bk2) bc2) :: (D4, lst (List.map p.v ch) c4) :: (I, oI) :: (S1.heap.objs.size + 1, ow1) :: (S1.heap.objs.size + 1 + 1, fo1) :: (lA, lst (List.map p.v (lineOf lev ks)) cl) :: (cA, lst (List.map p.v ks) ccm) :: (rowsE bk2 ++ rowsP p ks)) := N26
              ((repeat' (first | (k_unfold; (try clear ze zq); (try dsimp only)) | (k_end; wrow_close) | walk1 | (dsimp only; walk1) | (leave1; (try dsimp only)))) <;> (try ((fail_if_success (fail_if_success k_fold)); (with_reducible refine foldQ ?_); intro zq ze)))
              refine Held.mk ?_
              refine' compAt_list (l := D10) (vs := ch.reverse.map p.v) (c := 0) (fun i8 ys extra => ∃ as : List Addr, as.length = i8 ∧ ys = as.map Value.ref ∧ extra = List.zipWith (rowW wd tkw p) ch.reverse as) rfl ?hm ?hsz ?hF ?hN ⟨[], rfl, rfl, by simp⟩ ?turn8 ?done8
              (((case hF => k_asm)); ((case hN => k_asm)); ((case hm => k_mem)))
              case hsz => rw [List.length_map, List.length_reverse]; exact Nat.le_trans hcl (by decide)
              case turn8 =>
                rintro C8 D8 I8 oI8 i8 v8 ys8 c8 extra8 pl8 own8 h27 tk27 E8 hv8 hI0_ hI1_
                refine glet4 v8 ys8 extra8 pl8 ?_
                intro gl_
                obtain ⟨as8, has8, rfl, rfl⟩ := hI0_
                obtain ⟨o8, om8, rfl, hns8, hm8⟩ := hI1_
                obtain ⟨k, hk8, hkm8, rfl⟩ := map_at hv8
                k_unfold
                clear gl_
                intro hown8 F27 N27
                try ((fail_if_success (fail_if_success k_fold)); (with_reducible refine foldQ ?_); intro zq ze)
                have hkn := (hinc k (List.mem_reverse.mp hkm8)).2.1
                ((repeat' (first | (k_unfold; (try clear ze zq); (try dsimp only)) | (k_end; wrow_close) | ((with_reducible show wpAny _ _ (eval (.Name _ _) _) _ _ _); first | ((k_dflt (first | refine comp_local (by k_asm) (by k_mem) (by assumption) (by assumption) ?_ rfl rfl | refine comp_localM (by k_asm) (by assumption) (by assumption) (by simp only [List.mem_append, List.mem_cons, true_or, or_true]) ?_ rfl rfl | refine lcf_cell (by k_asm) rfl (by k_mem) (by assumption) ?_ rfl rfl | refine lcf_free (by k_asm) rfl (by k_mem) (by assumption) ?_ rfl rfl))) | (k_dflt (refine nameL (by k_asm) (by exact rfl) ?_ rfl rfl (by decide)); k_whole)) | ((with_reducible show @ite _ _ _ _ _); (first | refine iteN (by (first | decide | (simp only [beq_iff_eq, decide_eq_true_eq, List.mem_cons, List.not_mem_nil, or_false]; omega))) ?_ | refine iteY (by (first | decide | (simp only [beq_iff_eq, decide_eq_true_eq, List.mem_cons, List.not_mem_nil, or_false]; omega))) ?_)) | ((with_reducible show wpAny _ _ (subscriptTail (.Name _ _) (.Constant _ _ _) (.ref _) (.int _ _)) _ _ _); ((first | refine tup_item (by k_asm) (mem_up hkn (by (intro q hq; (try dsimp only); repeat (first | exact hq | apply List.mem_append_right | apply List.mem_cons_of_mem)))) (by decide) (by decide) rfl ?_ | refine tup_item (by k_asm) (mem_up hkn2 (by (intro q hq; (try dsimp only); repeat (first | exact hq | apply List.mem_append_right | apply List.mem_cons_of_mem)))) (by decide) (by decide) rfl ?_ | refine list_item (by k_asm) (mem_up hkl (by (intro q hq; (try dsimp only); repeat (first | exact hq | apply List.mem_append_right | apply List.mem_cons_of_mem)))) (by decide) (by decide) rfl ?_))) | walk1 | (dsimp only; walk1) | (leave1; (try dsimp only)))) <;> (try ((fail_if_success (fail_if_success k_fold)); (with_reducible refine foldQ ?_); intro zq ze)))
                rename_i D12 h28 F28 N28 l28
                refine Held.mk ?_
                refine CompEnd.one F28 N28 l28 ⟨as8 ++ [D12], by rw [List.length_append, has8]; rfl, by rw [List.map_append]; rfl, ?_⟩
                exact (zipG_snoc (e := k) (by rw [has8]; exact hk8)).symm
              case done8 =>
                rintro D11 h27 tk27 ys8 c8 extra8 hI0_
                refine glet2 ys8 extra8 ?_
                intro gl_
                obtain ⟨as8, has8, rfl, rfl⟩ := hI0_
                k_unfold
                clear gl_
                intro F27 N27 hlt27 hne27
                try ((fail_if_success (fail_if_success k_fold)); (with_reducible refine foldQ ?_); intro zq ze)
                rw [List.length_map] at has8
                ((repeat' (first | (k_unfold; (try clear ze zq); (try dsimp only)) | (k_end; wrow_close) | walk1 | (dsimp only; walk1) | (leave1; (try dsimp only)))) <;> (try ((fail_if_success (fail_if_success k_fold)); (with_reducible refine foldQ ?_); intro zq ze)))
                refine Held.mk ?_
                refine ne_tups (l := bkM) (val := E3.v) (nums := fun e => wrc e.w e.k) (l' := ch.reverse.zip as8) (val' := fun q => Value.ref q.2) (nums' := fun q => wrc wd q.1) N27 (List.mem_cons_of_mem _ (List.mem_append_right _ (List.mem_cons_of_mem _ (List.mem_cons_self ..)))) (by rw [zipG_refs has8]; exact List.mem_cons_self ..) (fun e he => ?hx1) (zipG_tups (f := rowW wd tkw p) (nums := wrc wd) (fun e a h => wrc_tup h) (by (intro q hq; (try dsimp only); repeat (first | exact hq | exact List.mem_append_left _ hq | apply List.mem_append_right | apply List.mem_cons_of_mem)))) (by first | decide | ktr_units) ?_
                case hx1 => exact wrc_tup (mem_up (rowsE_mem (bk := bk2) (rows := rowsP p ks) (by rw [hcut]; exact List.mem_append_left _ (List.mem_append_right _ he))) (by (intro q hq; (try dsimp only); repeat (first | exact hq | apply List.mem_append_right | apply List.mem_cons_of_mem))))
                rw [m_nums hcM, zipG_nums has8]
                rw [show (!decide (ch.reverse.map (wrc wd) = ch.reverse.map (wrc wd))) = false by simp]
                replace N27 := News.sub N27 (l' := (bA, lst (List.map E3.v bk2) bc2) :: (I, oI) :: (S1.heap.objs.size + 1, ow1) :: (S1.heap.objs.size + 1 + 1, fo1) :: (lA, lst (List.map p.v (lineOf lev ks)) cl) :: (cA, lst (List.map p.v ks) ccm) :: (rowsE bk2 ++ rowsP p ks)) (by first | ((try dsimp only); walk_at "subs") | (intro r hr; simp only [List.mem_cons, List.mem_append] at hr ⊢; rcases hr with h | h | h | h | h | h | h | h <;> simp only [h, true_or, or_true]))
                have hw2 := ent_words hbe r1 q2
                rw [hwd] at hw2
                have hk2 := keys_in hld6' hi hw2
                ((repeat' (first | (k_unfold; (try clear ze zq); (try dsimp only)) | (k_end; wrow_close) | ((fail_if_success (fail_if_success (with_reducible refine wpAny_execs_cons ?_))); ((try ((fail_if_success (fail_if_success k_fold)); (with_reducible refine foldQ ?_); intro zq ze)); (try k_gentoks); (with_reducible refine wpAny_execs_cons ?_); (try dsimp only); ((fail_if_success (fail_if_success k_fold)); (with_reducible refine foldQ ?_); intro zq ze))) | ((with_reducible show wpAny _ _ (eval (.Name _ _) _) _ _ _); first | ((k_dflt (first | refine comp_local (by k_asm) (by k_mem) (by assumption) (by assumption) ?_ rfl rfl | refine comp_localM (by k_asm) (by assumption) (by assumption) (by simp only [List.mem_append, List.mem_cons, true_or, or_true]) ?_ rfl rfl | refine lcf_cell (by k_asm) rfl (by k_mem) (by assumption) ?_ rfl rfl | refine lcf_free (by k_asm) rfl (by k_mem) (by assumption) ?_ rfl rfl))) | (k_dflt (refine nameL (by k_asm) (by exact rfl) ?_ rfl rfl (by decide)); k_whole)) | ((with_reducible show @ite _ _ _ _ _); (first | refine iteN (by (first | decide | (simp only [beq_iff_eq, decide_eq_true_eq, List.mem_cons, List.not_mem_nil, or_false]; omega))) ?_ | refine iteY (by (first | decide | (simp only [beq_iff_eq, decide_eq_true_eq, List.mem_cons, List.not_mem_nil, or_false]; omega))) ?_)) | walk1 | (dsimp only; walk1) | (leave1; (try dsimp only)))) <;> (try ((fail_if_success (fail_if_success k_fold)); (with_reducible refine foldQ ?_); intro zq ze)))
                refine Held.mk ?_
                refine Does.use (bisr_3 (w := W0) (mean := ExcName.means S0.heap) (mg := mg) (mb := mb) (x := 0) (ks := bk2.map E3.w) (b := (lo.length : Nat)) (List.mem_cons_self ..) (hkb.mono (by (intro q hq; (try dsimp only); repeat (first | exact hq | apply List.mem_append_right | apply List.mem_cons_of_mem)))) hso (by omega) (by omega) (by omega)) hB0 F27 KX0 N27 T0 rfl (by first | decide | ktr_room) (by first | decide | ktr_units) ?_
                rintro _ _ h29 tk29 F29 N29 ⟨rfl, xr, tr, rfl, hxr⟩
                rw [hmv] at hxr
                obtain rfl : xr = (lo.length : Nat) := br_from hmw (by omega) (fun x hx => (hk2 x hx).1) hxr
                ((repeat' (first | (k_unfold; (try clear ze zq); (try dsimp only)) | (k_end; wrow_close) | ((fail_if_success (fail_if_success (with_reducible refine wpAny_execs_cons ?_))); ((try ((fail_if_success (fail_if_success k_fold)); (with_reducible refine foldQ ?_); intro zq ze)); (try k_gentoks); (with_reducible refine wpAny_execs_cons ?_); (try dsimp only); ((fail_if_success (fail_if_success k_fold)); (with_reducible refine foldQ ?_); intro zq ze))) | ((with_reducible show wpAny _ _ (eval (.Name _ _) _) _ _ _); first | ((k_dflt (first | refine comp_local (by k_asm) (by k_mem) (by assumption) (by assumption) ?_ rfl rfl | refine comp_localM (by k_asm) (by assumption) (by assumption) (by simp only [List.mem_append, List.mem_cons, true_or, or_true]) ?_ rfl rfl | refine lcf_cell (by k_asm) rfl (by k_mem) (by assumption) ?_ rfl rfl | refine lcf_free (by k_asm) rfl (by k_mem) (by assumption) ?_ rfl rfl))) | (k_dflt (refine nameL (by k_asm) (by exact rfl) ?_ rfl rfl (by decide)); k_whole)) | ((with_reducible show @ite _ _ _ _ _); (first | refine iteN (by (first | decide | (simp only [beq_iff_eq, decide_eq_true_eq, List.mem_cons, List.not_mem_nil, or_false]; omega))) ?_ | refine iteY (by (first | decide | (simp only [beq_iff_eq, decide_eq_true_eq, List.mem_cons, List.not_mem_nil, or_false]; omega))) ?_)) | walk1 | (dsimp only; walk1) | (leave1; (try dsimp only)))) <;> (try ((fail_if_success (fail_if_success k_fold)); (with_reducible refine foldQ ?_); intro zq ze)))
                · rename_i hab
                  exact absurd rfl hab
                · refine Held.mk ?_
                  refine Does.use (bisl_4 (w := W0) (mean := ExcName.means S0.heap) (mg := mg) (mb := mb) (x := 7) (ks := bk2.map E3.w) (b := (lo.length : Nat)) (List.mem_cons_self ..) (hkb.mono (by (intro q hq; (try dsimp only); repeat (first | exact hq | apply List.mem_append_right | apply List.mem_cons_of_mem)))) hso (by omega) (by omega) (by omega)) hB0 F29 KX0 N29 T0 rfl (by first | decide | ktr_room) (by first | decide | ktr_units) ?_
                  rintro _ _ h30 tk30 F30 N30 ⟨rfl, xq, tq, rfl, hxq⟩
                  obtain rfl : xq = (lo.length : Nat) := bl_upto hmw (by omega) (fun x hx => (hk2 x hx).2) hxq
                  clear hxq hxr
                  ((repeat' (first | (k_unfold; (try clear ze zq); (try dsimp only)) | (k_end; wrow_close) | ((fail_if_success (fail_if_success (with_reducible refine wpAny_execs_cons ?_))); ((try ((fail_if_success (fail_if_success k_fold)); (with_reducible refine foldQ ?_); intro zq ze)); (try k_gentoks); (with_reducible refine wpAny_execs_cons ?_); (try dsimp only); ((fail_if_success (fail_if_success k_fold)); (with_reducible refine foldQ ?_); intro zq ze))) | ((with_reducible show wpAny _ _ (eval (.Name _ _) _) _ _ _); first | ((k_dflt (first | refine comp_local (by k_asm) (by k_mem) (by assumption) (by assumption) ?_ rfl rfl | refine comp_localM (by k_asm) (by assumption) (by assumption) (by simp only [List.mem_append, List.mem_cons, true_or, or_true]) ?_ rfl rfl | refine lcf_cell (by k_asm) rfl (by k_mem) (by assumption) ?_ rfl rfl | refine lcf_free (by k_asm) rfl (by k_mem) (by assumption) ?_ rfl rfl))) | (k_dflt (refine nameL (by k_asm) (by exact rfl) ?_ rfl rfl (by decide)); k_whole)) | ((with_reducible show @ite _ _ _ _ _); (first | refine iteN (by (first | decide | (simp only [beq_iff_eq, decide_eq_true_eq, List.mem_cons, List.not_mem_nil, or_false]; omega))) ?_ | refine iteY (by (first | decide | (simp only [beq_iff_eq, decide_eq_true_eq, List.mem_cons, List.not_mem_nil, or_false]; omega))) ?_)) | walk1 | (dsimp only; walk1) | (leave1; (try dsimp only)))) <;> (try ((fail_if_success (fail_if_success k_fold)); (with_reducible refine foldQ ?_); intro zq ze)))
                  · rename_i hab
                    exact absurd rfl hab
                  · refine Held.mk ?_
                    refine ForS.next ⟨bk2, bc2, ow1, fo1⟩ (by k_asm) (News.sub N30 ?subs4) (led3_ne hoff (fun e he => (r2 e he).2)) (fun _ h => absurd h (List.not_mem_nil)) ?same3 (g3_next hwd hbe r1 hso q2 q3 q4 hchn (fun k hk => ⟨haskm k (hchs k hk), ((ask_mem g1).mp (hask ▸ hchs k hk)).2.2⟩) hrich ⟨_, how1⟩ ⟨_, hfo1⟩ (fun e he => (r2 e he).1))
                    case subs4 =>
                      first | ((try dsimp only [Led3]); walk_at "subs") | (intro r hr; simp only [Led3, List.mem_cons, List.mem_append] at hr ⊢; rcases hr with h | h | h | h | h | h | h | h <;> simp only [h, true_or, or_true])
                    case same3 => (try dsimp only [mz4]); kst_same
      case done4 =>
        rintro ⟨bk, bc, owi, foi⟩ u10 h10 tk10 ⟨q1, q2, q3, q4, q5, q6, q7, q8⟩ F10 N10
        dsimp only [kstB] at q1 q2 q3 q4 q5 q6 q7 q8 F10 N10
        refine letM F10 ?_
        clear F10
        intro mz5 F10
        dsimp only [Led3] at N10
        have hbl : bk.length ≤ 9 := by
          have h1 := book_len q4 q3
          omega
        have hall := all_placed (by omega) g4 q5
        have hinR : p.In ks (rowsP p ks) := rowsP_in (p := p) (ks := ks) g2 g5 (fun r hr => hr)
        ((repeat' (first | (k_unfold; (try clear ze zq); (try dsimp only)) | (k_end; wrow_close) | ((fail_if_success (fail_if_success (with_reducible refine wpAny_execs_cons ?_))); ((try ((fail_if_success (fail_if_success k_fold)); (with_reducible refine foldQ ?_); intro zq ze)); (try k_gentoks); (with_reducible refine wpAny_execs_cons ?_); (try dsimp only); ((fail_if_success (fail_if_success k_fold)); (with_reducible refine foldQ ?_); intro zq ze))) | ((with_reducible show wpAny _ _ (eval (.Name _ _) _) _ _ _); first | ((k_dflt (first | refine comp_local (by k_asm) (by k_mem) (by assumption) (by assumption) ?_ rfl rfl | refine comp_localM (by k_asm) (by assumption) (by assumption) (by simp only [List.mem_append, List.mem_cons, true_or, or_true]) ?_ rfl rfl | refine lcf_cell (by k_asm) rfl (by k_mem) (by assumption) ?_ rfl rfl | refine lcf_free (by k_asm) rfl (by k_mem) (by assumption) ?_ rfl rfl))) | (k_dflt (refine nameL (by k_asm) (by exact rfl) ?_ rfl rfl (by decide)); k_whole)) | (((with_reducible show wpAny _ _ (callWith _ (Value.builtin _) [_] _ _) _ _ _); refine callWith_method1 ?_)) | walk1 | (dsimp only; walk1) | (leave1; (try dsimp only)))) <;> (try ((fail_if_success (fail_if_success k_fold)); (with_reducible refine foldQ ?_); intro zq ze)))
        refine Held.mk ?_
        refine' comp_plain (h₀ := S1.heap) (L := S1.heap.objs.size) ?hclos ?hcell ?hkind ?hnames ?hx ?_ ?hs
        (case hclos => rfl)
        (case hcell => decide)
        (case hkind => rfl)
        (case hnames => decide)
        (case hx => rfl)
        (case hs => intro _; rfl)
        ((repeat' (first | (k_unfold; (try clear ze zq); (try dsimp only)) | (k_end; wrow_close) | ((with_reducible show wpAny _ _ (eval (.Name _ _) _) _ _ _); first | ((k_dflt (first | refine comp_local (by k_asm) (by k_mem) (by assumption) (by assumption) ?_ rfl rfl | refine comp_localM (by k_asm) (by assumption) (by assumption) (by simp only [List.mem_append, List.mem_cons, true_or, or_true]) ?_ rfl rfl | refine lcf_cell (by k_asm) rfl (by k_mem) (by assumption) ?_ rfl rfl | refine lcf_free (by k_asm) rfl (by k_mem) (by assumption) ?_ rfl rfl))) | (k_dflt (refine nameL (by k_asm) (by exact rfl) ?_ rfl rfl (by decide)); k_whole)) | walk1 | (dsimp only; walk1) | (leave1; (try dsimp only)))) <;> (try ((fail_if_success (fail_if_success k_fold)); (with_reducible refine foldQ ?_); intro zq ze)))
        refine Held.mk ?_
        refine' compAt_list (l := bA) (vs := bk.map E3.v) (c := bc) (fun i2 ys extra => ∃ as : List Addr, as.length = i2 ∧ ys = as.map Value.ref ∧ extra = List.zipWith rowF bk as) rfl ?hm ?hsz ?hF ?hN ⟨[], rfl, rfl, by simp⟩ ?turn9 ?done9
        (((case hF => k_asm)); ((case hN => k_asm)); ((case hm => k_mem)))
        case hsz => rw [List.length_map]; exact Nat.le_trans hbl (by decide)
        case turn9 =>
          rintro C2 D2 I2 oI2 i2 v2 ys2 c2 extra2 pl2 own2 h12 tk12 E2 hv2 hI0_ hI1_
          refine glet4 v2 ys2 extra2 pl2 ?_
          intro gl_
          obtain ⟨as, has, rfl, rfl⟩ := hI0_
          obtain ⟨o2, om2, rfl, hns2, hm2⟩ := hI1_
          obtain ⟨e, he, hem, rfl⟩ := map_atE hv2
          k_unfold
          clear gl_
          intro hown2 F12 N12
          try ((fail_if_success (fail_if_success k_fold)); (with_reducible refine foldQ ?_); intro zq ze)
          have hke : (e.ad, e.o) ∈ rowsE bk ++ rowsP p ks := rowsE_mem hem
          ((repeat' (first | (k_unfold; (try clear ze zq); (try dsimp only)) | (k_end; wrow_close) | ((with_reducible show wpAny _ _ (eval (.Name _ _) _) _ _ _); first | ((k_dflt (first | refine comp_local (by k_asm) (by k_mem) (by assumption) (by assumption) ?_ rfl rfl | refine comp_localM (by k_asm) (by assumption) (by assumption) (by simp only [List.mem_append, List.mem_cons, true_or, or_true]) ?_ rfl rfl | refine lcf_cell (by k_asm) rfl (by k_mem) (by assumption) ?_ rfl rfl | refine lcf_free (by k_asm) rfl (by k_mem) (by assumption) ?_ rfl rfl))) | (k_dflt (refine nameL (by k_asm) (by exact rfl) ?_ rfl rfl (by decide)); k_whole)) | ((with_reducible show @ite _ _ _ _ _); (first | refine iteN (by (first | decide | (simp only [beq_iff_eq, decide_eq_true_eq, List.mem_cons, List.not_mem_nil, or_false]; omega))) ?_ | refine iteY (by (first | decide | (simp only [beq_iff_eq, decide_eq_true_eq, List.mem_cons, List.not_mem_nil, or_false]; omega))) ?_)) | walk1 | (dsimp only; walk1) | (leave1; (try dsimp only)))) <;> (try ((fail_if_success (fail_if_success k_fold)); (with_reducible refine foldQ ?_); intro zq ze)))
          refine Held.mk ?_
          refine slice_from3 (by k_asm) (by k_asm) (mem_up hke (by (intro q hq; (try dsimp only); repeat (first | exact hq | apply List.mem_append_right | apply List.mem_cons_of_mem)))) ?_
          intro D6 h13 F13 N13 l13
          refine CompEnd.one F13 N13 l13 ⟨as ++ [D6], by simp [has], by simp, (zip_snoc (e := e) (by rw [has]; exact he)).symm⟩
        case done9 =>
          rintro D2 h12 tk12 ys2 c2 extra2 hI0_
          refine glet2 ys2 extra2 ?_
          intro gl_
          obtain ⟨as, has, rfl, rfl⟩ := hI0_
          k_unfold
          clear gl_
          intro F12 N12 hlt12 hne12
          try ((fail_if_success (fail_if_success k_fold)); (with_reducible refine foldQ ?_); intro zq ze)
          rw [List.length_map] at has
          replace N12 := News.sub N12 (l' := (D2, lst (as.map Value.ref) c2) :: (bA, lst (List.map E3.v bk) bc) :: (cA, lst (List.map p.v ks) ccm) :: (S1.heap.objs.size + 1, owi) :: (S1.heap.objs.size + 1 + 1, foi) :: (List.zipWith rowF bk as ++ (rowsE bk ++ rowsP p ks))) (by first | ((try dsimp only); walk_at "subs") | (intro r hr; simp only [List.mem_cons, List.mem_append] at hr ⊢; rcases hr with h | h | h | h | h | h | h | h <;> simp only [h, true_or, or_true]))
          ((repeat' (first | (k_unfold; (try clear ze zq); (try dsimp only)) | (k_end; wrow_close) | walk1 | (dsimp only; walk1) | (leave1; (try dsimp only)))) <;> (try ((fail_if_success (fail_if_success k_fold)); (with_reducible refine foldQ ?_); intro zq ze)))
          refine Held.mk ?_
          refine sorted_tups (ι := E3 × Addr) (l := bk.zip as) (val := fun q => Value.ref q.2) (nums := fun q => rc q.1.k) (tl := fun _ => []) (rank := fun q => (q.1.k : Int)) (by k_asm) N12 (by rw [zip_refs has]; exact List.mem_cons_self ..) (fun q hq => ⟨zip_tups (by (intro q hq; (try dsimp only); repeat (first | exact hq | exact List.mem_append_left _ hq | apply List.mem_append_right | apply List.mem_cons_of_mem))) q hq, _, _, rfl⟩) (fun _ _ _ _ => rfl) (fun _ _ _ _ => rfl) (fun _ _ _ _ _ => rfl) (fun x hx y hy => lex_rc (g2 _ (q3 _ (mem_zip_fst hx))) (g2 _ (q3 _ (mem_zip_fst hy)))) (by rw [List.length_zip]; omega) ?_
          intro D3 c3 h13 o3 ho3 hs3 F13 N13 l13
          have hoe := book_end g1 has q3 q4 hall ho3 hs3
          ((repeat' (first | (k_unfold; (try clear ze zq); (try dsimp only)) | (k_end; wrow_close) | walk1 | (dsimp only; walk1) | (leave1; (try dsimp only)))) <;> (try ((fail_if_success (fail_if_success k_fold)); (with_reducible refine foldQ ?_); intro zq ze)))
          refine Held.mk ?_
          refine' comp_plain (h₀ := S1.heap) (L := S1.heap.objs.size) ?hclos ?hcell ?hkind ?hnames ?hx ?_ ?hs
          (case hclos => rfl)
          (case hcell => decide)
          (case hkind => rfl)
          (case hnames => decide)
          (case hx => rfl)
          (case hs => intro _; rfl)
          ((repeat' (first | (k_unfold; (try clear ze zq); (try dsimp only)) | (k_end; wrow_close) | ((with_reducible show wpAny _ _ (eval (.Name _ _) _) _ _ _); first | ((k_dflt (first | refine comp_local (by k_asm) (by k_mem) (by assumption) (by assumption) ?_ rfl rfl | refine comp_localM (by k_asm) (by assumption) (by assumption) (by simp only [List.mem_append, List.mem_cons, true_or, or_true]) ?_ rfl rfl | refine lcf_cell (by k_asm) rfl (by k_mem) (by assumption) ?_ rfl rfl | refine lcf_free (by k_asm) rfl (by k_mem) (by assumption) ?_ rfl rfl))) | (k_dflt (refine nameL (by k_asm) (by exact rfl) ?_ rfl rfl (by decide)); k_whole)) | walk1 | (dsimp only; walk1) | (leave1; (try dsimp only)))) <;> (try ((fail_if_success (fail_if_success k_fold)); (with_reducible refine foldQ ?_); intro zq ze)))
          refine Held.mk ?_
          refine' compAt_list (l := cA) (vs := ks.map p.v) (c := ccm) (fun i2 ys extra => ∃ bs : List Addr, bs.length = i2 ∧ ys = bs.map Value.ref ∧ extra = List.zipWith (rowC p) ks bs) rfl ?hm ?hsz ?hF ?hN ⟨[], rfl, rfl, by simp⟩ ?turn10 ?done10
          (((case hF => k_asm)); ((case hN => k_asm)); ((case hm => k_mem)))
          case hsz => rw [List.length_map]; exact Nat.le_trans hksl (by decide)
          case turn10 =>
            rintro C4 D4 I4 oI4 i4 v4 ys4 c4 extra4 pl4 own4 h14 tk14 E4 hv4 hI0_ hI1_
            refine glet4 v4 ys4 extra4 pl4 ?_
            intro gl_
            obtain ⟨bs, hbs, rfl, rfl⟩ := hI0_
            obtain ⟨o4, om4, rfl, hns4, hm4⟩ := hI1_
            obtain ⟨k, hk4, hkm4, rfl⟩ := map_at hv4
            k_unfold
            clear gl_
            intro hown4 F14 N14
            try ((fail_if_success (fail_if_success k_fold)); (with_reducible refine foldQ ?_); intro zq ze)
            have hkn := (hinR k hkm4).2.1
            ((repeat' (first | (k_unfold; (try clear ze zq); (try dsimp only)) | (k_end; wrow_close) | ((with_reducible show wpAny _ _ (eval (.Name _ _) _) _ _ _); first | ((k_dflt (first | refine comp_local (by k_asm) (by k_mem) (by assumption) (by assumption) ?_ rfl rfl | refine comp_localM (by k_asm) (by assumption) (by assumption) (by simp only [List.mem_append, List.mem_cons, true_or, or_true]) ?_ rfl rfl | refine lcf_cell (by k_asm) rfl (by k_mem) (by assumption) ?_ rfl rfl | refine lcf_free (by k_asm) rfl (by k_mem) (by assumption) ?_ rfl rfl))) | (k_dflt (refine nameL (by k_asm) (by exact rfl) ?_ rfl rfl (by decide)); k_whole)) | ((with_reducible show @ite _ _ _ _ _); (first | refine iteN (by (first | decide | (simp only [beq_iff_eq, decide_eq_true_eq, List.mem_cons, List.not_mem_nil, or_false]; omega))) ?_ | refine iteY (by (first | decide | (simp only [beq_iff_eq, decide_eq_true_eq, List.mem_cons, List.not_mem_nil, or_false]; omega))) ?_)) | walk1 | (dsimp only; walk1) | (leave1; (try dsimp only)))) <;> (try ((fail_if_success (fail_if_success k_fold)); (with_reducible refine foldQ ?_); intro zq ze)))
            refine Held.mk ?_
            refine slice_mid4 (by k_asm) (by k_asm) (mem_up hkn (by (intro q hq; (try dsimp only); repeat (first | exact hq | apply List.mem_append_right | apply List.mem_cons_of_mem)))) ?_
            intro D6 h15 F15 N15 l15
            refine CompEnd.one F15 N15 l15 ⟨bs ++ [D6], by rw [List.length_append, hbs]; rfl, by rw [List.map_append]; rfl, (zipG_snoc (e := k) (by rw [hbs]; exact hk4)).symm⟩
          case done10 =>
            rintro D4 h14 tk14 ys4 c4 extra4 hI0_
            refine glet2 ys4 extra4 ?_
            intro gl_
            obtain ⟨bs, hbs, rfl, rfl⟩ := hI0_
            k_unfold
            clear gl_
            intro F14 N14 hlt14 hne14
            try ((fail_if_success (fail_if_success k_fold)); (with_reducible refine foldQ ?_); intro zq ze)
            rw [List.length_map] at hbs
            ((repeat' (first | (k_unfold; (try clear ze zq); (try dsimp only)) | (k_end; wrow_close) | walk1 | (dsimp only; walk1) | (leave1; (try dsimp only)))) <;> (try ((fail_if_success (fail_if_success k_fold)); (with_reducible refine foldQ ?_); intro zq ze)))
            refine Held.mk ?_
            refine ne_tups (l := o3) (val := fun q => Value.ref q.2) (nums := fun q => rc q.1.k) (l' := ks.zip bs) (val' := fun q => Value.ref q.2) (nums' := fun q => rc q.1) N14 (List.mem_cons_of_mem _ (List.mem_append_right _ (List.mem_cons_self ..))) (by rw [zipG_refs hbs]; exact List.mem_cons_self ..) (fun q hq => zip_tups (by (intro q hq; (try dsimp only); repeat (first | exact hq | exact List.mem_append_left _ hq | apply List.mem_append_right | apply List.mem_cons_of_mem))) q (ho3.mem_iff.mp hq)) (zipG_tups (f := rowC p) (nums := rc) (fun e a h => rc_tup h) (by (intro q hq; (try dsimp only); repeat (first | exact hq | exact List.mem_append_left _ hq | apply List.mem_append_right | apply List.mem_cons_of_mem)))) (by first | decide | ktr_units) ?_
            rw [hoe, zipG_nums hbs]
            rw [show (!decide (ks.map rc = ks.map rc)) = false by simp]
            replace N14 : News S1.heap S1.heap.objs.size h14 [] := fun _ h => absurd h (List.not_mem_nil)
            clear hlt14 hne14 hlt12 hne12 l13
            ((repeat' (first | (k_unfold; (try clear ze zq); (try dsimp only)) | (k_end; wrow_close) | ((fail_if_success (fail_if_success (with_reducible refine wpAny_execs_cons ?_))); ((try ((fail_if_success (fail_if_success k_fold)); (with_reducible refine foldQ ?_); intro zq ze)); (try k_gentoks); (with_reducible refine wpAny_execs_cons ?_); (try dsimp only); ((fail_if_success (fail_if_success k_fold)); (with_reducible refine foldQ ?_); intro zq ze))) | ((with_reducible show @ite _ _ _ _ _); (first | refine iteN (by (first | decide | (simp only [beq_iff_eq, decide_eq_true_eq, List.mem_cons, List.not_mem_nil, or_false]; omega))) ?_ | refine iteY (by (first | decide | (simp only [beq_iff_eq, decide_eq_true_eq, List.mem_cons, List.not_mem_nil, or_false]; omega))) ?_)) | walk1 | (dsimp only; walk1) | (leave1; (try dsimp only)))) <;> (try ((fail_if_success (fail_if_success k_fold)); (with_reducible refine foldQ ?_); intro zq ze)))
            refine Held.mk ?_
            rename Fr _ _ _ _ => Fa1
            with_unfolding_all
              refine' For_unrF Fa1 ?_ ?ks ?kE
            (case ks => intro _; with_unfolding_all rfl)
            (case kE => first | exact PassesOwn.never | passes_own)
            ((repeat' (first | (k_unfold; (try clear ze zq); (try dsimp only)) | (k_end; wrow_close) | walk1 | (dsimp only; walk1) | (leave1; (try dsimp only)))) <;> (try ((fail_if_success (fail_if_success k_fold)); (with_reducible refine foldQ ?_); intro zq ze)))
            refine Held.mk ?_
            rename News _ _ _ _ => Nb1
            rename Fr _ _ _ _ => Fb1
            have hwT1 : IsTup _ _ _ := News.isTup Nb1 (List.mem_cons_self ..)
            have hwL1 := News.ne_locals Nb1 (List.mem_cons_self ..)
            refine Iter_tuple_unr (news := []) rfl hwT1 Fb1 (fun _ h => absurd h (List.not_mem_nil)) hwL1 ?_
            refine Unr.by (fun _ _ nw => nw = []) rfl ?turnA ?doneA
            case turnA =>
              rintro iA mA _ _ rfl vA hhA tkA ownA hvA hownA FwA NwA
              have hCA := repA (w := W0) (mean := ExcName.means S0.heap) (mg := mg) (mb := mb) hvA
              cases hCA with
              | mk xA tA hokA CA =>
              ((repeat' (first | (k_unfold; (try clear ze zq); (try dsimp only)) | (k_end; wrow_close) | ((fail_if_success (fail_if_success (with_reducible refine wpAny_execs_cons ?_))); ((try ((fail_if_success (fail_if_success k_fold)); (with_reducible refine foldQ ?_); intro zq ze)); (try k_gentoks); (with_reducible refine wpAny_execs_cons ?_); (try dsimp only); ((fail_if_success (fail_if_success k_fold)); (with_reducible refine foldQ ?_); intro zq ze))) | ((with_reducible show wpAny _ _ (eval (.Name _ _) _) _ _ _); first | ((k_dflt (first | refine comp_local (by k_asm) (by k_mem) (by assumption) (by assumption) ?_ rfl rfl | refine comp_localM (by k_asm) (by assumption) (by assumption) (by simp only [List.mem_append, List.mem_cons, true_or, or_true]) ?_ rfl rfl | refine lcf_cell (by k_asm) rfl (by k_mem) (by assumption) ?_ rfl rfl | refine lcf_free (by k_asm) rfl (by k_mem) (by assumption) ?_ rfl rfl))) | (k_dflt (refine nameL (by k_asm) (by exact rfl) ?_ rfl rfl (by decide)); k_whole)) | walk1 | (dsimp only; walk1) | (leave1; (try dsimp only)))) <;> (try ((fail_if_success (fail_if_success k_fold)); (with_reducible refine foldQ ?_); intro zq ze)))
              refine Held.mk ?_
              refine DoesT.use (CA _ _) hB0 (by k_asm) KX0 (by k_asm) T0 rfl (by first | decide | ktr_room) (by first | decide | ktr_units) ?_
              rintro _ _ hd1 tkd1 Fd1 Nd1 ⟨dT1, tp1, rfl, rfl⟩
              ((repeat' (first | (k_unfold; (try clear ze zq); (try dsimp only)) | (k_end; wrow_close) | ((with_reducible show wpAny _ _ (eval (.Name _ _) _) _ _ _); first | ((k_dflt (first | refine comp_local (by k_asm) (by k_mem) (by assumption) (by assumption) ?_ rfl rfl | refine comp_localM (by k_asm) (by assumption) (by assumption) (by simp only [List.mem_append, List.mem_cons, true_or, or_true]) ?_ rfl rfl | refine lcf_cell (by k_asm) rfl (by k_mem) (by assumption) ?_ rfl rfl | refine lcf_free (by k_asm) rfl (by k_mem) (by assumption) ?_ rfl rfl))) | (k_dflt (refine nameL (by k_asm) (by exact rfl) ?_ rfl rfl (by decide)); k_whole)) | walk1 | (dsimp only; walk1) | (leave1; (try dsimp only)))) <;> (try ((fail_if_success (fail_if_success k_fold)); (with_reducible refine foldQ ?_); intro zq ze)))
              refine Held.mk ?_
              refine ne_two (x := Str.ofString "proto") (y := xA) (by decide +kernel) hokA (by k_asm) (List.mem_cons_of_mem _ (List.mem_cons_self ..)) (List.mem_cons_self ..) (by first | decide | ktr_units) ?_
              ((repeat' (first | (k_unfold; (try clear ze zq); (try dsimp only)) | (k_end; wrow_close) | ((with_reducible show @ite _ _ _ _ _); (first | refine iteN (by (first | decide | (simp only [beq_iff_eq, decide_eq_true_eq, List.mem_cons, List.not_mem_nil, or_false]; omega))) ?_ | refine iteY (by (first | decide | (simp only [beq_iff_eq, decide_eq_true_eq, List.mem_cons, List.not_mem_nil, or_false]; omega))) ?_)) | walk1 | (dsimp only; walk1) | (leave1; (try dsimp only)))) <;> (try ((fail_if_success (fail_if_success k_fold)); (with_reducible refine foldQ ?_); intro zq ze)))
              refine Held.mk ?_
              exact LoopStep3.next (LoopStep2.intro (news₂ := []) (by k_asm) (News.sub (by k_asm) (fun r hr => List.mem_cons_of_mem _ (List.mem_cons_of_mem _ hr))) rfl rfl)
            rintro mA' _ rfl h_60 tk_60 F_60 N_60
            ((repeat' (first | (k_unfold; (try clear ze zq); (try dsimp only)) | (k_end; wrow_close) | ((fail_if_success (fail_if_success (with_reducible refine wpAny_execs_cons ?_))); ((try ((fail_if_success (fail_if_success k_fold)); (with_reducible refine foldQ ?_); intro zq ze)); (try k_gentoks); (with_reducible refine wpAny_execs_cons ?_); (try dsimp only); ((fail_if_success (fail_if_success k_fold)); (with_reducible refine foldQ ?_); intro zq ze))) | walk1 | (dsimp only; walk1) | (leave1; (try dsimp only)))) <;> (try ((fail_if_success (fail_if_success k_fold)); (with_reducible refine foldQ ?_); intro zq ze)))
            refine Held.mk ?_
            rename Fr _ _ _ _ => Fa2
            with_unfolding_all
              refine' For_unrF Fa2 ?_ ?ks ?kE
            (case ks => intro _; with_unfolding_all rfl)
            (case kE => first | exact PassesOwn.never | passes_own)
            ((repeat' (first | (k_unfold; (try clear ze zq); (try dsimp only)) | (k_end; wrow_close) | walk1 | (dsimp only; walk1) | (leave1; (try dsimp only)))) <;> (try ((fail_if_success (fail_if_success k_fold)); (with_reducible refine foldQ ?_); intro zq ze)))
            refine Held.mk ?_
            rename News _ _ _ _ => Nb2
            rename Fr _ _ _ _ => Fb2
            have hwT2 : IsTup _ _ _ := News.isTup Nb2 (List.mem_cons_self ..)
            have hwL2 := News.ne_locals Nb2 (List.mem_cons_self ..)
            refine Iter_tuple_unr (news := []) rfl hwT2 Fb2 (fun _ h => absurd h (List.not_mem_nil)) hwL2 ?_
            refine Unr.by (fun _ _ nw => nw = []) rfl ?turnB ?doneB
            case turnB =>
              rintro iB mB _ _ rfl vB hhB tkB ownB hvB hownB FwB NwB
              have hCB := repB (w := W0) (mean := ExcName.means S0.heap) (mg := mg) (mb := mb) hvB
              cases hCB with
              | mk cB tB hlB hokB CB =>
              ((repeat' (first | (k_unfold; (try clear ze zq); (try dsimp only)) | (k_end; wrow_close) | ((fail_if_success (fail_if_success (with_reducible refine wpAny_execs_cons ?_))); ((try ((fail_if_success (fail_if_success k_fold)); (with_reducible refine foldQ ?_); intro zq ze)); (try k_gentoks); (with_reducible refine wpAny_execs_cons ?_); (try dsimp only); ((fail_if_success (fail_if_success k_fold)); (with_reducible refine foldQ ?_); intro zq ze))) | ((with_reducible show wpAny _ _ (eval (.Name _ _) _) _ _ _); first | ((k_dflt (first | refine comp_local (by k_asm) (by k_mem) (by assumption) (by assumption) ?_ rfl rfl | refine comp_localM (by k_asm) (by assumption) (by assumption) (by simp only [List.mem_append, List.mem_cons, true_or, or_true]) ?_ rfl rfl | refine lcf_cell (by k_asm) rfl (by k_mem) (by assumption) ?_ rfl rfl | refine lcf_free (by k_asm) rfl (by k_mem) (by assumption) ?_ rfl rfl))) | (k_dflt (refine nameL (by k_asm) (by exact rfl) ?_ rfl rfl (by decide)); k_whole)) | walk1 | (dsimp only; walk1) | (leave1; (try dsimp only)))) <;> (try ((fail_if_success (fail_if_success k_fold)); (with_reducible refine foldQ ?_); intro zq ze)))
              refine Held.mk ?_
              refine DoesT.use (CB _ _ _) hB0 (by k_asm) KX0 (by k_asm) T0 rfl (by first | decide | ktr_room) (by first | decide | ktr_units) ?_
              rintro _ _ hd3 tkd3 Fd3 Nd3 ⟨dT3, tp3, rfl, rfl⟩
              ((repeat' (first | (k_unfold; (try clear ze zq); (try dsimp only)) | (k_end; wrow_close) | ((with_reducible show wpAny _ _ (eval (.Name _ _) _) _ _ _); first | ((k_dflt (first | refine comp_local (by k_asm) (by k_mem) (by assumption) (by assumption) ?_ rfl rfl | refine comp_localM (by k_asm) (by assumption) (by assumption) (by simp only [List.mem_append, List.mem_cons, true_or, or_true]) ?_ rfl rfl | refine lcf_cell (by k_asm) rfl (by k_mem) (by assumption) ?_ rfl rfl | refine lcf_free (by k_asm) rfl (by k_mem) (by assumption) ?_ rfl rfl))) | (k_dflt (refine nameL (by k_asm) (by exact rfl) ?_ rfl rfl (by decide)); k_whole)) | walk1 | (dsimp only; walk1) | (leave1; (try dsimp only)))) <;> (try ((fail_if_success (fail_if_success k_fold)); (with_reducible refine foldQ ?_); intro zq ze)))
              refine Held.mk ?_
              refine ne_two (x := Str.ofString "reply") (y := cB ++ Str.ofString " (.a.x.135.)") (by decide +kernel) hokB (by k_asm) (List.mem_cons_of_mem _ (List.mem_cons_self ..)) (List.mem_cons_self ..) (by first | decide | ktr_units) ?_
              ((repeat' (first | (k_unfold; (try clear ze zq); (try dsimp only)) | (k_end; wrow_close) | ((with_reducible show @ite _ _ _ _ _); (first | refine iteN (by (first | decide | (simp only [beq_iff_eq, decide_eq_true_eq, List.mem_cons, List.not_mem_nil, or_false]; omega))) ?_ | refine iteY (by (first | decide | (simp only [beq_iff_eq, decide_eq_true_eq, List.mem_cons, List.not_mem_nil, or_false]; omega))) ?_)) | walk1 | (dsimp only; walk1) | (leave1; (try dsimp only)))) <;> (try ((fail_if_success (fail_if_success k_fold)); (with_reducible refine foldQ ?_); intro zq ze)))
              refine Held.mk ?_
              exact LoopStep3.next (LoopStep2.intro (news₂ := []) (by k_asm) (News.sub (by k_asm) (fun r hr => List.mem_cons_of_mem _ (List.mem_cons_of_mem _ hr))) rfl rfl)
            rintro mB' _ rfl h_70 tk_70 F_70 N_70
            ((repeat' (first | (k_unfold; (try clear ze zq); (try dsimp only)) | (k_end; wrow_close) | ((fail_if_success (fail_if_success (with_reducible refine wpAny_execs_cons ?_))); ((try ((fail_if_success (fail_if_success k_fold)); (with_reducible refine foldQ ?_); intro zq ze)); (try k_gentoks); (with_reducible refine wpAny_execs_cons ?_); (try dsimp only); ((fail_if_success (fail_if_success k_fold)); (with_reducible refine foldQ ?_); intro zq ze))) | ((with_reducible show wpAny _ _ (eval (.Name _ _) _) _ _ _); first | ((k_dflt (first | refine comp_local (by k_asm) (by k_mem) (by assumption) (by assumption) ?_ rfl rfl | refine comp_localM (by k_asm) (by assumption) (by assumption) (by simp only [List.mem_append, List.mem_cons, true_or, or_true]) ?_ rfl rfl | refine lcf_cell (by k_asm) rfl (by k_mem) (by assumption) ?_ rfl rfl | refine lcf_free (by k_asm) rfl (by k_mem) (by assumption) ?_ rfl rfl))) | (k_dflt (refine nameL (by k_asm) (by exact rfl) ?_ rfl rfl (by decide)); k_whole)) | walk1 | (dsimp only; walk1) | (leave1; (try dsimp only)))) <;> (try ((fail_if_success (fail_if_success k_fold)); (with_reducible refine foldQ ?_); intro zq ze)))
            rename_i lN h_71 F_71 N_71 l1_71
            refine Held.mk ?_
            refine Does.use (bl_none (w := W0) (mean := ExcName.means S0.heap) (mg := mg) (mb := mb) (a := lN) (n := 0)) hB0 F_71 KX0 N_71 T0 rfl (by first | decide | ktr_room) (by first | decide | ktr_units) ?_
            rintro _ _ h_72 tk_72 F_72 N_72 ⟨⟨tC, rfl⟩, rfl⟩
            ((repeat' (first | (k_unfold; (try clear ze zq); (try dsimp only)) | (k_end; wrow_close) | ((with_reducible show wpAny _ _ (eval (.Name _ _) _) _ _ _); first | ((k_dflt (first | refine comp_local (by k_asm) (by k_mem) (by assumption) (by assumption) ?_ rfl rfl | refine comp_localM (by k_asm) (by assumption) (by assumption) (by simp only [List.mem_append, List.mem_cons, true_or, or_true]) ?_ rfl rfl | refine lcf_cell (by k_asm) rfl (by k_mem) (by assumption) ?_ rfl rfl | refine lcf_free (by k_asm) rfl (by k_mem) (by assumption) ?_ rfl rfl))) | (k_dflt (refine nameL (by k_asm) (by exact rfl) ?_ rfl rfl (by decide)); k_whole)) | ((with_reducible show @ite _ _ _ _ _); (first | refine iteN (by (first | decide | (simp only [beq_iff_eq, decide_eq_true_eq, List.mem_cons, List.not_mem_nil, or_false]; omega))) ?_ | refine iteY (by (first | decide | (simp only [beq_iff_eq, decide_eq_true_eq, List.mem_cons, List.not_mem_nil, or_false]; omega))) ?_)) | walk1 | (dsimp only; walk1) | (leave1; (try dsimp only)))) <;> (try ((fail_if_success (fail_if_success k_fold)); (with_reducible refine foldQ ?_); intro zq ze)))
            rename_i D_73 h_73 F_73 N_73 l1_73
            refine Held.mk ?_
            refine DoesT.use (unj1 (w := W0) (mean := ExcName.means S0.heap) (mg := mg) (mb := mb) (a := D_73) (n := 0)) hB0 F_73 KX0 N_73 T0 rfl (by first | decide | ktr_room) (by first | decide | ktr_units) ?_
            rintro _ nw_74 h_74 tk_74 F_74 N_74 rfl
            replace N_74 : News S1.heap S1.heap.objs.size h_74 [] := fun _ h => absurd h (List.not_mem_nil)
            ((repeat' (first | (k_unfold; (try clear ze zq); (try dsimp only)) | (k_end; wrow_close) | ((with_reducible show wpAny _ _ (eval (.Name _ _) _) _ _ _); first | ((k_dflt (first | refine comp_local (by k_asm) (by k_mem) (by assumption) (by assumption) ?_ rfl rfl | refine comp_localM (by k_asm) (by assumption) (by assumption) (by simp only [List.mem_append, List.mem_cons, true_or, or_true]) ?_ rfl rfl | refine lcf_cell (by k_asm) rfl (by k_mem) (by assumption) ?_ rfl rfl | refine lcf_free (by k_asm) rfl (by k_mem) (by assumption) ?_ rfl rfl))) | (k_dflt (refine nameL (by k_asm) (by exact rfl) ?_ rfl rfl (by decide)); k_whole)) | ((with_reducible show @ite _ _ _ _ _); (first | refine iteN (by (first | decide | (simp only [beq_iff_eq, decide_eq_true_eq, List.mem_cons, List.not_mem_nil, or_false]; omega))) ?_ | refine iteY (by (first | decide | (simp only [beq_iff_eq, decide_eq_true_eq, List.mem_cons, List.not_mem_nil, or_false]; omega))) ?_)) | walk1 | (dsimp only; walk1) | (leave1; (try dsimp only)))) <;> (try ((fail_if_success (fail_if_success k_fold)); (with_reducible refine foldQ ?_); intro zq ze)))
            rename_i D_75 h_75 F_75 N_75 l1_75
            refine Held.mk ?_
            refine DoesT.use (unj3 (w := W0) (mean := ExcName.means S0.heap) (mg := mg) (mb := mb) (a := D_75) (n := 0)) hB0 F_75 KX0 N_75 T0 rfl (by first | decide | ktr_room) (by first | decide | ktr_units) ?_
            rintro _ nw_76 h_76 tk_76 F_76 N_76 rfl
            replace N_76 : News S1.heap S1.heap.objs.size h_76 [] := fun _ h => absurd h (List.not_mem_nil)
            repeat' (first | (k_unfold; (try dsimp only)) | (k_unmd; k_unfold; (try dsimp only)) | (first | ((fail_if_success (fail_if_success (with_reducible refine wpAny_execs_cons ?_))); ((try ((fail_if_success (fail_if_success k_fold)); (with_reducible refine foldQ ?_); intro zq ze)); (try k_gentoks); (with_reducible refine wpAny_execs_cons ?_); (try dsimp only); ((fail_if_success (fail_if_success k_fold)); (with_reducible refine foldQ ?_); intro zq ze))) | ((with_reducible show wpAny _ _ (eval (.Name _ _) _) _ _ _); first | ((k_dflt (first | refine comp_local (by k_asm) (by k_mem) (by assumption) (by assumption) ?_ rfl rfl | refine comp_localM (by k_asm) (by assumption) (by assumption) (by simp only [List.mem_append, List.mem_cons, true_or, or_true]) ?_ rfl rfl | refine lcf_cell (by k_asm) rfl (by k_mem) (by assumption) ?_ rfl rfl | refine lcf_free (by k_asm) rfl (by k_mem) (by assumption) ?_ rfl rfl))) | (k_dflt (refine nameL (by k_asm) (by exact rfl) ?_ rfl rfl (by decide)); k_whole)) | ((with_reducible show @ite _ _ _ _ _); (first | refine iteN (by (first | decide | (simp only [beq_iff_eq, decide_eq_true_eq, List.mem_cons, List.not_mem_nil, or_false]; omega))) ?_ | refine iteY (by (first | decide | (simp only [beq_iff_eq, decide_eq_true_eq, List.mem_cons, List.not_mem_nil, or_false]; omega))) ?_)) | ((with_reducible show wpAny _ _ (compareOp .In (.int _ _) (.ref _)) _ _ _); (k_dflt (refine int_in_tup (by k_asm) (by k_mem) (by first | exact .cons _ _ (.cons _ _ .nil) | exact .cons _ _ (.cons _ _ (.cons _ _ (.cons _ _ .nil)))) (by first | decide | ktr_units) ?_))) | ((with_reducible show wpAny _ _ (subscriptTail (.Call _ _ _ _) (.Constant _ _ _) (.ref _) (.int _ _)) _ _ _); (refine tup_item (by k_asm) (mem_up hkn (by (intro q hq; (try dsimp only); repeat (first | exact hq | apply List.mem_append_right | apply List.mem_cons_of_mem)))) (by decide) (by decide) rfl ?_)) | ((with_reducible show wpAny _ _ (subscriptTail (.Name _ _) (.Constant _ _ _) (.ref _) (.int _ _)) _ _ _); ((first | refine tup_item (by k_asm) (mem_up hkn (by (intro q hq; (try dsimp only); repeat (first | exact hq | apply List.mem_append_right | apply List.mem_cons_of_mem)))) (by decide) (by decide) rfl ?_ | refine tup_item (by k_asm) (mem_up hkn2 (by (intro q hq; (try dsimp only); repeat (first | exact hq | apply List.mem_append_right | apply List.mem_cons_of_mem)))) (by decide) (by decide) rfl ?_ | refine list_item (by k_asm) (mem_up hkl (by (intro q hq; (try dsimp only); repeat (first | exact hq | apply List.mem_append_right | apply List.mem_cons_of_mem)))) (by decide) (by decide) rfl ?_))) | ((with_reducible show wpAny _ _ (call (.builtin "len") [.ref _]) _ _ _); (k_dflt (refine kx_len (by k_asm) (by first | assumption | k_mem) (by omega) ?_); intro _ _)) | ((with_reducible show wpAny _ _ (binaryOp .Mult (.int _ _) (.int _ _)) _ _ _); (refine mul_int ?_ (PySem.IntMulOk.of_left (PySem.intBits_le_64 (by omega) (by omega))))) | (((with_reducible show wpAny _ _ (callWith _ (Value.builtin _) [_] _ _) _ _ _); refine callWith_method1 ?_)) | walk1) | (dsimp only; walk1) | (leave1; (try dsimp only)) | fail "no step")
            repeat (k_unmd; k_unfold; (try dsimp only))
            repeat clear ze zq
            clear ek qk
            exact goodW_bool F_76 (by assumption) (raisesW_false allW_false_nil) (post_true ns)
end
end Mine
open PySem PySem.W PyProof.Rows
theorem PySem.Challenge.cw_wy0021_01_holds : PySem.Challenge.rw_wy0021_01.Holds :=
  Mine.w3
