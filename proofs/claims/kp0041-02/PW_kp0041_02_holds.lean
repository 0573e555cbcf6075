import PyProof.Rows.All
import Wide.All
import OpenK.AllK
import Wide.FinOn
import PySem.Challenge.RW_kp0041_02
open PySem PySem.W PyProof.Rows PySem.Calls
set_option Elab.async false
set_option linter.unusedVariables false
set_option linter.all false
set_option bootstrap.genMatcherCode false
set_option genSizeOf false
set_option compiler.extract_closed false
namespace Mine
local macro_rules | `(tactic| omega) => `(tactic| first | lia | omega (config := {}))
section PartQ1
open Sem (wp)

noncomputable abbrev Nil : Addr → Prop := fun _ => False
noncomputable def Sub (h h' : Heap) : Prop := ∀ b o, h.get? b = some o → h'.get? b = some o
theorem Sub.refl (h : Heap) : Sub h h := fun _ _ e => e
theorem Sub.trans {h h' h'' : Heap} (k : Sub h h') (k' : Sub h' h'') : Sub h h'' := fun b o e => k' b o (k b o e)
theorem Sub.push (h : Heap) (o : Obj) : Sub h (h.push o) := fun _ _ e => Heap.get?_push_of_some _ e
noncomputable def ld (o : Obj) : Prop := o.cls = .type "list" ∨ o.cls = .type "dict"
noncomputable def Loc (o : Obj) : Prop := o.cls ≠ .type "tuple" ∧ (∀ c, o.cls ≠ .ref c) ∧ ¬ ld o

structure Kp (X : Addr → Prop) (h h' : Heap) : Prop where
  keep : ∀ a o, h.get? a = some o → (o.cls = .type "tuple" ∨ (∃ c, o.cls = .ref c) ∨ (ld o ∧ ¬ X a)) → h'.get? a = some o
theorem Kp.refl {X : Addr → Prop} (h : Heap) : Kp X h h := ⟨fun _ _ e _ => e⟩
theorem Sub.kp {X : Addr → Prop} {h h' : Heap} (k : Sub h h') : Kp X h h' := ⟨fun a o e _ => k a o e⟩
theorem Kp.trans {X : Addr → Prop} {h h' h'' : Heap} (k : Kp X h h') (k' : Kp X h' h'') : Kp X h h'' := ⟨fun a o e c => k'.keep a o (k.keep a o e c) c⟩
theorem Kp.weaken {X Y : Addr → Prop} {h h' : Heap} (k : Kp X h h') (s : ∀ a, X a → Y a) : Kp Y h h' :=
  ⟨fun a o e c => k.keep a o e (c.imp id fun c => c.imp id fun c => ⟨c.1, fun x => c.2 (s a x)⟩)⟩
theorem Kp.tup {X : Addr → Prop} {h h' : Heap} (k : Kp X h h') {a : Addr} {xs : Array Value} (t : IsTup h a xs) : IsTup h' a xs :=
  by obtain ⟨o, e, c, n, d⟩ := t; exact ⟨o, k.keep a o e (.inl c), c, n, d⟩
theorem Kp.list {X : Addr → Prop} {h h' : Heap} (k : Kp X h h') {a : Addr} {xs : Array Value} (t : h.IsList a xs) (hx : ¬ X a) : h'.IsList a xs :=
  by obtain ⟨o, e, c, n, d⟩ := t; exact ⟨o, k.keep a o e (.inr (.inr ⟨.inl c, hx⟩)), c, n, d⟩
theorem Kp.reads {X : Addr → Prop} {h h' : Heap} (k : Kp X h h') {v : Value} {d : PyData} {as : List Addr} (x : Reads h v d as) : (∀ a ∈ as, ¬ X a) → Reads h' v d as :=
  @Reads.rec h (fun v d as _ => (∀ a ∈ as, ¬ X a) → Reads h' v d as) (fun vs ds as _ => (∀ a ∈ as, ¬ X a) → ReadsAll h' vs ds as)
    (fun _ => .none)
    (fun b _ => .bool b)
    (fun i t _ => .int i t)
    (fun x t _ => .str x t)
    (fun e c d _ ih hx => .list (k.keep _ _ e (.inr (.inr ⟨.inl c, hx _ (.head _)⟩))) c d (ih fun a ha => hx a (.tail _ ha)))
    (fun e c d _ ih hx => .tuple (k.keep _ _ e (.inl c)) c d (ih hx))
    (fun e c d _ _ i1 i2 hx => .dict (k.keep _ _ e (.inr (.inr ⟨.inr c, hx _ (List.mem_append_left _ (.head _))⟩))) c d (i1 fun a ha => hx a (List.mem_append_left _ (.tail _ ha))) (i2 fun a ha => hx a (List.mem_append_right _ ha)))
    (fun _ => .nil)
    (fun _ _ i1 i2 hx => .cons (i1 fun a ha => hx a (List.mem_append_left _ ha)) (i2 fun a ha => hx a (List.mem_append_right _ ha)))
    _ _ _ x
theorem Kp.readsAll {X : Addr → Prop} {h h' : Heap} (k : Kp X h h') {vs : List Value} {ds : List PyData} {as : List Addr} (x : ReadsAll h vs ds as) : (∀ a ∈ as, ¬ X a) → ReadsAll h' vs ds as :=
  @ReadsAll.rec h (fun v d as _ => (∀ a ∈ as, ¬ X a) → Reads h' v d as) (fun vs ds as _ => (∀ a ∈ as, ¬ X a) → ReadsAll h' vs ds as)
    (fun _ => .none)
    (fun b _ => .bool b)
    (fun i t _ => .int i t)
    (fun x t _ => .str x t)
    (fun e c d _ ih hx => .list (k.keep _ _ e (.inr (.inr ⟨.inl c, hx _ (.head _)⟩))) c d (ih fun a ha => hx a (.tail _ ha)))
    (fun e c d _ ih hx => .tuple (k.keep _ _ e (.inl c)) c d (ih hx))
    (fun e c d _ _ i1 i2 hx => .dict (k.keep _ _ e (.inr (.inr ⟨.inr c, hx _ (List.mem_append_left _ (.head _))⟩))) c d (i1 fun a ha => hx a (List.mem_append_left _ (.tail _ ha))) (i2 fun a ha => hx a (List.mem_append_right _ ha)))
    (fun _ => .nil)
    (fun _ _ i1 i2 hx => .cons (i1 fun a ha => hx a (List.mem_append_left _ ha)) (i2 fun a ha => hx a (List.mem_append_right _ ha)))
    _ _ _ x

structure Vw (H0 : Heap) (env : Env) (h : Heap) (m : Str → Option Value) : Prop where
  old : Sub H0 h
  ns : ∃ ml, h.Ns env.locals ml ∧ ∀ x v, env.kindOf x = some .local → m x = some v → ml x = some v
  cell : ∀ x c v, env.cells.lookup x = some c → (env.kindOf x = some .cell ∨ env.kindOf x = some .free) → m x = some v → h.IsCell c (some v)
theorem Vw.ext {H0 h h' : Heap} {env : Env} {m : Str → Option Value} (V : Vw H0 env h m) (k : Sub h h') : Vw H0 env h' m :=
  ⟨V.old.trans k, by obtain ⟨ml, a, b⟩ := V.ns; exact ⟨ml, a.keeps k, b⟩, fun x c v e r q => (V.cell x c v e r q).keeps k⟩

structure Wr (H0 e : Heap) (env : Env) (h : Heap) : Prop where
  tagL : ∀ o, h.get? env.locals = some o → Loc o
  newL : e.get? env.locals = none
  lowL : H0.get? env.locals = none
  cells : ∀ x c, env.cells.lookup x = some c → (∃ v, h.get? c = some { cls := .type "cell", data := .cell v }) ∧ e.get? c = none ∧ H0.get? c = none ∧ c ≠ env.locals
  apart : ∀ x y c, env.cells.lookup x = some c → env.cells.lookup y = some c → x = y
theorem Wr.ext {H0 e h h' : Heap} {env : Env} (V : Wr H0 e env h) (k : Sub h h') (hL : ∃ o, h.get? env.locals = some o) : Wr H0 e env h' :=
  ⟨fun o ho => by obtain ⟨o', h1⟩ := hL; have := k _ _ h1; rw [this] at ho; cases ho; exact V.tagL _ h1, V.newL, V.lowL,
   fun x c hc => by obtain ⟨⟨v, h1⟩, r⟩ := V.cells x c hc; exact ⟨⟨v, k _ _ h1⟩, r⟩, V.apart⟩

structure Fm (H0 e g : Heap) (X : Addr → Prop) (W : Prop) (env : Env) (h : Heap) (m : Str → Option Value) : Prop where
  vw : Vw H0 env h m
  wr : W → Wr H0 e env h
  keepE : ∀ a o, e.get? a = some o → (ld o → ¬ X a) → h.get? a = some o
  domE : ∀ a o, e.get? a = some o → ∃ o', h.get? a = some o'
  live : ∀ x c, env.cells.lookup x = some c → ∃ v, h.get? c = some { cls := .type "cell", data := .cell v }
  keepG : Kp Nil g h

section
variable {H0 e g h h' : Heap} {X : Addr → Prop} {W : Prop} {env : Env} {m : Str → Option Value}
theorem Fm.ext0 (F : Fm H0 e g X W env h m) (k : Sub h h') : Fm H0 e g X W env h' m :=
  ⟨F.vw.ext k, fun w => (F.wr w).ext k (by obtain ⟨_, ⟨o, _, _, ho, _⟩, _⟩ := F.vw.ns; exact ⟨o, ho⟩), fun a o e c => k a o (F.keepE a o e c), fun a o e => by obtain ⟨o', q⟩ := F.domE a o e; exact ⟨o', k _ _ q⟩, fun x c q => by obtain ⟨v, q'⟩ := F.live x c q; exact ⟨v, k _ _ q'⟩, F.keepG.trans k.kp⟩
theorem Fm.here (F : Fm H0 e g X W env h m) : Fm H0 e h X W env h m := ⟨F.vw, F.wr, F.keepE, F.domE, F.live, .refl _⟩
theorem Fm.ext (F : Fm H0 e g X W env h m) (k : Sub h h') : Fm H0 e h' X W env h' m := (F.ext0 k).here
theorem Fm.link (F : Fm H0 e g X W env h m) (k : Sub h h') : Kp Nil g h' := F.keepG.trans k.kp
end

theorem putName_cls (name : Str) (hs : Int) (key v : Value) (o : Obj) : (Obj.putName name hs key v o).cls = o.cls := by
  rw [Obj.putName_eq]; obtain ⟨c, d, dt, sl⟩ := o
  cases dt <;> simp only [Obj.putNameByArray]
  split <;> rfl

theorem nsSet_exact {M : Model} {Γ : Ctx} {a : Addr} {m} {s : Shared} {p : Pos} {E : Value → Pos → Shared → Prop} (hn : s.heap.Ns a m) (name : Str) (v : Value) (Q : Unit → Pos → Shared → Prop) :
    wp M Γ (nsSet a name v) Q E p s = Q () p { s with heap := s.heap.update a (Obj.putName name (PyData.keyHash M.w.params name) (.str name s.toks) v), toks := s.toks + 1 } := by
  obtain ⟨o, es, ep, ho, hd, hk, hm⟩ := hn
  simp only [nsSet, strHash, Sem.wp_bind', Sem.wp_cmd_ask, Sem.wp_pure', Sem.wp_cmd_mkText]
  rw [Sem.wp_loadPart_of M Γ E p { s with toks := s.toks + 1 } (o := o) _ ho]
  have hany : es.any (·.refKey) = false := by
    rw [Array.any_eq_false']; intro e he; obtain ⟨n, t, h⟩ := hk e he; simp [DictEntry.refKey, h]
  simp only [hd, aRefKeyMayBeTheName_eq, aRefKeyMayBeTheNameByArray, hany, Bool.and_false, Bool.false_eq_true, if_false, Sem.wp_cmd_updatePart]
  exact propext ⟨fun h => h.2, fun h => ⟨by rw [ho]; rfl, h⟩⟩

theorem nsSet_tag {M : Model} {A : Around} {E : Value → Shared → Prop} {s : Shared} {a : Addr} {m} {name : Str} {v : Value} {Q : Unit → Shared → Prop} (hn : s.heap.Ns a m)
    (h : ∀ h', h'.Ns a (fun x => if x = name then some v else m x) → Heap.SameBut a s.heap h' → (∀ o', h'.get? a = some o' → ∃ o, s.heap.get? a = some o ∧ o'.cls = o.cls) → Q () { s with heap := h', toks := s.toks + 1 }) :
    wpAny M A (nsSet a name v) Q E s := fun Γ p hΓ => by
  rw [nsSet_exact hn]
  have := Sem.wp_nsSet (E := fun _ _ _ => False) M Γ p s hn name v (fun _ _ s' => s'.heap.Ns a (fun x => if x = name then some v else m x) ∧ Heap.SameBut a s.heap s'.heap) (fun h' a b => ⟨a, b⟩)
  rw [nsSet_exact hn] at this
  refine h _ this.1 this.2 fun o' ho' => ?_
  obtain ⟨o, es, ep, ho, _⟩ := hn
  refine ⟨o, ho, ?_⟩
  by_cases hf : (Obj.putName name (PyData.keyHash M.w.params name) (.str name s.toks) v o).isFreed = false
  · have := Heap.get?_update_self (Obj.putName name (PyData.keyHash M.w.params name) (.str name s.toks) v) ho hf
    simp only [this] at ho'
    cases ho'
    exact putName_cls ..
  · obtain ⟨o2, es2, ep2, ho2, hd2, _⟩ := this.1
    exfalso
    apply hf
    have e1 : (s.heap.update a (Obj.putName name (PyData.keyHash M.w.params name) (.str name s.toks) v)).objs[a]? = some (Obj.putName name (PyData.keyHash M.w.params name) (.str name s.toks) v o) := by
      have : s.heap.objs[a]? = some o := by
        unfold Heap.get? at ho
        split at ho
        · cases ho
        · exact ho
      simp [Heap.update, Array.getElem?_modify, this]
    have e2 : (s.heap.update a (Obj.putName name (PyData.keyHash M.w.params name) (.str name s.toks) v)).get? a = some o2 := ho2
    unfold Heap.get? at e2
    rw [e1] at e2
    cases hpn : Obj.putName name (PyData.keyHash M.w.params name) (.str name s.toks) v o with
    | mk c d dt sl =>
      rw [hpn] at e2
      cases dt <;> simp_all [Obj.isFreed]

section
variable {M : Model} {A : Around} {E : Value → Shared → Prop} {s : Shared} {H0 e g : Heap} {X : Addr → Prop} {W : Prop} {env : Env} {m : Str → Option Value}

theorem Fm.turn {h h' : Heap} {b₀ : Addr} {m' : Str → Option Value} (F : Fm H0 e g X W env h m) (hs : Heap.SameBut b₀ h h') (he : e.get? b₀ = none) (hH : H0.get? b₀ = none) (ht : ∀ o, h.get? b₀ = some o → Loc o)
    (hlv : ∀ x c, env.cells.lookup x = some c → ∃ v, h'.get? c = some { cls := .type "cell", data := .cell v })
    (hw : W → Wr H0 e env h') (hn : ∃ ml, h'.Ns env.locals ml ∧ ∀ x v, env.kindOf x = some .local → m' x = some v → ml x = some v)
    (hc : ∀ x c v, env.cells.lookup x = some c → (env.kindOf x = some .cell ∨ env.kindOf x = some .free) → m' x = some v → h'.IsCell c (some v)) : Fm H0 e g X W env h' m' :=
  ⟨⟨fun b o hb => by rw [hs.2 b (fun q => by subst q; rw [hH] at hb; cases hb)]; exact F.vw.old b o hb, hn, hc⟩, hw,
   fun b o hb hx => by rw [hs.2 b (fun q => by subst q; rw [he] at hb; cases hb)]; exact F.keepE b o hb hx,
   fun b o hb => by obtain ⟨o', q⟩ := F.domE b o hb; exact ⟨o', by rw [hs.2 b (fun q => by subst q; rw [he] at hb; cases hb)]; exact q⟩, hlv,
   ⟨fun b o hb hx => by
     have h1 := F.keepG.keep b o hb hx
     rw [hs.2 b (fun q => ?_)]
     · exact h1
     · subst q
       obtain ⟨t1, t2, t3⟩ := ht o h1
       rcases hx with hx | ⟨c, hx⟩ | hx
       · exact t1 hx
       · exact t2 c hx
       · exact t3 hx.1⟩⟩

theorem stL {x : Str} {v : Value} {Q : Unit → Shared → Prop} (F : Fm H0 e g X True env s.heap m) (hl : env.kindOf x = some .local)
    (h : ∀ h', Fm H0 e g X True env h' (fun y => if y = x then some v else m y) → Q () { s with heap := h', toks := s.toks + 1 })
    (hk : env.scope.kind = .function := by rfl) :
    wpAny M A (storeName env x v) Q E s := by
  have hp : (env.scope.kind == .class || (env.scope.kind == .module && env.locals != env.globals)) = false := by rw [hk]; rfl
  rw [storeName_local hl hp]
  obtain ⟨ml, hn, hm⟩ := F.vw.ns
  have w := F.wr trivial
  refine nsSet_tag hn fun h' hn' hs ht => h h' (F.turn hs w.newL w.lowL w.tagL (fun y c hc => ?_) (fun _ => ⟨fun o' ho' => ?_, w.newL, w.lowL, fun y c hc => ?_, w.apart⟩) ⟨_, hn', fun y u hy hu => ?_⟩ fun y c u hc hk' hu => ?_)
  · obtain ⟨⟨u, hu⟩, c1, c2, c3⟩ := w.cells y c hc
    exact ⟨u, by rw [hs.2 c c3]; exact hu⟩
  · obtain ⟨o, ho, hcl⟩ := ht o' ho'
    have := w.tagL o ho
    unfold Loc ld at this ⊢
    rw [hcl]; exact this
  · obtain ⟨⟨u, hu⟩, c1, c2, c3⟩ := w.cells y c hc
    exact ⟨⟨u, by rw [hs.2 c c3]; exact hu⟩, c1, c2, c3⟩
  · by_cases q : y = x
    · simp only [if_pos q] at hu ⊢; exact hu
    · simp only [if_neg q] at hu ⊢; exact hm y u hy hu
  · have hne : y ≠ x := fun q => by subst q; rw [hl] at hk'; simp at hk'
    simp only [if_neg hne] at hu
    exact (F.vw.cell y c u hc hk' hu).sameBut hs (w.cells y c hc).2.2.2

theorem stC {x : Str} {v : Value} {c : Addr} {Q : Unit → Shared → Prop} (F : Fm H0 e g X True env s.heap m) (hl : env.kindOf x = some .cell) (hc : env.cells.lookup x = some c)
    (h : ∀ h', Fm H0 e g X True env h' (fun y => if y = x then some v else m y) → Q () { s with heap := h' })
    (hk : env.scope.kind = .function := by rfl) :
    wpAny M A (storeName env x v) Q E s := by
  have w := F.wr trivial
  obtain ⟨⟨u, hu⟩, c1, c2, c3⟩ := w.cells x c hc
  unfold storeName
  simp only [hl, hk]
  refine wpAny_bind (wpAny_cellOf hc ?_)
  unfold cellSet
  refine wpAny_bind (wpAny_load hu (wpAny_update hu ?_))
  have hs : Heap.SameBut c s.heap (s.heap.update c fun o => { o with data := .cell (some v) }) := Heap.SameBut.update ..
  have hself : (s.heap.update c fun o => { o with data := .cell (some v) }).get? c = some { cls := .type "cell", data := .cell (some v) } := Heap.get?_update_self _ hu rfl
  refine h _ (F.turn hs c1 c2 (fun o ho => by rw [hu] at ho; cases ho; exact ⟨by simp, by simp, by simp [ld]⟩) (fun y c' hc' => ?_) (fun _ => ⟨fun o' ho' => ?_, w.newL, w.lowL, fun y c' hc' => ?_, w.apart⟩) ?_ fun y c' u' hc' hk' hu' => ?_)
  · obtain ⟨⟨u', hu'⟩, d1, d2, d3⟩ := w.cells y c' hc'
    by_cases q : c' = c
    · subst q; exact ⟨_, hself⟩
    · exact ⟨u', by rw [hs.2 c' q]; exact hu'⟩
  · rw [hs.2 _ (Ne.symm c3)] at ho'; exact w.tagL _ ho'
  · obtain ⟨⟨u', hu'⟩, d1, d2, d3⟩ := w.cells y c' hc'
    by_cases q : c' = c
    · subst q; exact ⟨⟨_, hself⟩, d1, d2, d3⟩
    · exact ⟨⟨u', by rw [hs.2 c' q]; exact hu'⟩, d1, d2, d3⟩
  · obtain ⟨ml, hn, hm⟩ := F.vw.ns
    refine ⟨ml, hn.sameBut hs (Ne.symm c3), fun y v' hy hv' => ?_⟩
    have hne : y ≠ x := fun q => by subst q; rw [hl] at hy; cases hy
    simp only [if_neg hne] at hv'; exact hm y v' hy hv'
  · by_cases q : c' = c
    · have : y = x := w.apart y x c' hc' (q ▸ hc)
      subst this; subst q
      simp only [if_pos] at hu'; cases hu'; exact ⟨_, hself, rfl⟩
    · have hne : y ≠ x := fun r => by subst r; rw [hc] at hc'; exact q (Option.some.inj hc').symm
      simp only [if_neg hne] at hu'; exact (F.vw.cell y c' u' hc' hk' hu').sameBut hs q

theorem nameL {x : Str} {pos : Pos} {v : Value} {Q : Value → Shared → Prop} (F : Fm H0 e g X W env s.heap m) (hl : env.kindOf x = some .local) (hv : m x = some v) (h : Q v s)
    (hk : env.scope.kind = .function := by rfl) (hd : (x == ("__debug__" : Str)) = false := by decide) : wpAny M A (eval (.Name x pos) env) Q E s := by
  obtain ⟨ml, hn, hm⟩ := F.vw.ns
  exact wpAny_Name (wpAny_loadName_local hk hl hn (hm x v hl hv) h) hd
theorem nameC {x : Str} {pos : Pos} {c : Addr} {v : Value} {Q : Value → Shared → Prop} (F : Fm H0 e g X W env s.heap m) (hl : env.kindOf x = some .cell) (hc : env.cells.lookup x = some c) (hv : m x = some v) (h : Q v s)
    (hk : env.scope.kind = .function := by rfl) (hd : (x == ("__debug__" : Str)) = false := by decide) : wpAny M A (eval (.Name x pos) env) Q E s :=
  wpAny_Name (wpAny_loadName_cell hk hl hc (F.vw.cell x c v hc (.inl hl) hv) h) hd
theorem nameF {x : Str} {pos : Pos} {c : Addr} {v : Value} {Q : Value → Shared → Prop} (F : Fm H0 e g X W env s.heap m) (hl : env.kindOf x = some .free) (hc : env.cells.lookup x = some c) (hv : m x = some v) (h : Q v s)
    (hk : env.scope.kind = .function := by rfl) (hd : (x == ("__debug__" : Str)) = false := by decide) (hn : (x == ("__classdict__" : Str)) = false := by decide) : wpAny M A (eval (.Name x pos) env) Q E s :=
  wpAny_Name (wpAny_loadName_free hk hl hc (F.vw.cell x c v hc (.inr hl) hv) h hn) hd
theorem loadL {x : Str} {v : Value} {Q : Value → Shared → Prop} (F : Fm H0 e g X W env s.heap m) (hl : env.kindOf x = some .local) (hv : m x = some v) (h : Q v s)
    (hk : env.scope.kind = .function := by rfl) : wpAny M A (loadName env x) Q E s := by
  obtain ⟨ml, hn, hm⟩ := F.vw.ns
  exact wpAny_loadName_local hk hl hn (hm x v hl hv) h
theorem loadC {x : Str} {c : Addr} {v : Value} {Q : Value → Shared → Prop} (F : Fm H0 e g X W env s.heap m) (hl : env.kindOf x = some .cell) (hc : env.cells.lookup x = some c) (hv : m x = some v) (h : Q v s)
    (hk : env.scope.kind = .function := by rfl) : wpAny M A (loadName env x) Q E s := wpAny_loadName_cell hk hl hc (F.vw.cell x c v hc (.inl hl) hv) h

structure Gl (H0 : Heap) (mg mb : Str → Option Value) : Prop where
  g : H0.Ns mainGlobals mg
  b : H0.Ns builtinsNs mb
  lim : H0.NoLimit
theorem nameG {mg mb : Str → Option Value} {x : Str} {pos : Pos} {v : Value} {Q : Value → Shared → Prop} (F : Fm H0 e g X W env s.heap m) (G : Gl H0 mg mb) (hv : mg x = some v) (h : Q v s)
    (hk : env.scope.kind = .function := by rfl) (hx : env.kindOf x = some .globalImplicit := by rfl) (hg : env.globals = mainGlobals := by rfl) (hd : (x == ("__debug__" : Str)) = false := by decide) :
    wpAny M A (eval (.Name x pos) env) Q E s := Name_function_global hk hx (loadGlobal_global (hg ▸ G.g.keeps F.vw.old) hv h) hd
theorem nameB {mg mb : Str → Option Value} {x : Str} {pos : Pos} {v : Value} {Q : Value → Shared → Prop} (F : Fm H0 e g X W env s.heap m) (G : Gl H0 mg mb) (hm : mg x = none) (hv : mb x = some v) (h : Q v s)
    (hk : env.scope.kind = .function := by rfl) (hx : env.kindOf x = some .globalImplicit := by rfl) (hg : env.globals = mainGlobals := by rfl) (hb : env.builtins = builtinsNs := by rfl) (hd : (x == ("__debug__" : Str)) = false := by decide) :
    wpAny M A (eval (.Name x pos) env) Q E s := Name_function_global hk hx (loadGlobal_builtin (hg ▸ G.g.keeps F.vw.old) hm (hb ▸ G.b.keeps F.vw.old) hv h) hd
end
end PartQ1
section PartQ2
noncomputable abbrev envQ (qual : Str) (scope : Scope) (L f : Addr) (cdv : Value) : Env :=
  { scope := scope, locals := L, globals := mainGlobals, cells := cellsFrom (L + 1) scope.names [], qual := qual ++ ".<locals>.", func := some f, code := cdv, frame := some L, builtins := builtinsNs }

theorem pushCells_size : ∀ (names : List (Str × NameKind)) (h : Heap), h.objs.size ≤ (pushCells h names).objs.size
  | [], _ => Nat.le_refl _
  | (_, k) :: r, h => by
    unfold pushCells
    split
    · have := pushCells_size r (h.push { cls := .type "cell", data := .cell none })
      rw [Heap.size_push] at this; omega
    · exact pushCells_size r h
theorem cellsFrom_at : ∀ (names : List (Str × NameKind)) (h : Heap) (acc : List (Str × Addr)) (x : Str) (c : Addr), (x, c) ∈ cellsFrom h.objs.size names acc →
    (x, c) ∈ acc ∨ (h.objs.size ≤ c ∧ (pushCells h names).get? c = some { cls := .type "cell", data := .cell none })
  | [], _, _, _, _, hm => .inl hm
  | (n, k) :: r, h, acc, x, c, hm => by
    unfold cellsFrom at hm; unfold pushCells
    split at hm
    · rename_i hk
      rw [if_pos hk]
      rw [show h.objs.size + 1 = (h.push { cls := .type "cell", data := .cell none }).objs.size from (Heap.size_push ..).symm] at hm
      rcases cellsFrom_at r _ _ x c hm with hm | ⟨h1, h2⟩
      · rcases List.mem_cons.mp hm with q | hm
        · cases q
          exact .inr ⟨Nat.le_refl _, pushCells_keeps _ _ _ _ (Heap.get?_push_size _ rfl)⟩
        · exact .inl hm
      · exact .inr ⟨by rw [Heap.size_push] at h1; omega, h2⟩
    · rename_i hk
      rw [if_neg hk]
      exact cellsFrom_at r h acc x c hm

section
variable {M : Model} {A : Around} {E : Value → Shared → Prop} {s : Shared} {H0 : Heap} {X : Addr → Prop}

theorem newEnvQ {scope : Scope} {binds : List (Str × Value)} {qual : Str} {f : Addr} {cdv : Value} {Q : Env → Shared → Prop}
    (hH : Sub H0 s.heap) (hk : scope.kind = .function)
    (hkind : ∀ x ∈ binds, scope.names.lookup x.1 = some .local ∨ (scope.names.lookup x.1 = some .cell ∧ ((cellsFrom (s.heap.objs.size + 1) scope.names []).lookup x.1).isSome = true))
    (hQ : ∀ h' tk, Fm H0 s.heap s.heap X True (envQ qual scope s.heap.objs.size f cdv) h' (fun y => binds.reverse.lookup y) → (H0.NoLimit → h'.NoLimit) → Q (envQ qual scope s.heap.objs.size f cdv) { s with heap := h', toks := tk }) :
    wpAny M A (newFunctionEnv scope mainGlobals [] binds (qual ++ ".<locals>.") (some f) cdv none builtinsNs) Q E s := by
  have fresh : ∀ a, s.heap.objs.size ≤ a → s.heap.get? a = none := fun a ha => by
    cases e : s.heap.get? a with
    | none => rfl
    | some o => exact absurd (Heap.lt_size e) (Nat.not_lt.mpr ha)
  have freshH : ∀ a, s.heap.objs.size ≤ a → H0.get? a = none := fun a ha => by
    cases e : H0.get? a with
    | none => rfl
    | some o => have := fresh a ha; rw [hH _ _ e] at this; cases this
  simp only [newFunctionEnv, Option.isSome_none, Bool.false_eq_true, if_false]
  refine wpAny_bind (wpAny_alloc ?_)
  refine wpAny_bind (wpAny_layCells _ (fun name kind cells => by cases kind == NameKind.cell <;> simp) _ _ _ _ ?_)
  generalize hH1 : s.heap.push { cls := .type "frame", data := .dict #[] } = H1
  have hsz : H1.objs.size = s.heap.objs.size + 1 := by rw [← hH1, Heap.size_push]
  show wpAny M A (_ >>= _) Q E { s with heap := pushCells H1 scope.names }
  have ok := cellsFrom_ok scope.names H1 (s.heap.objs.size + 1) [] ⟨fun _ _ hm => (nomatch hm), List.Pairwise.nil⟩ (Nat.le_of_eq hsz.symm)
  rw [hsz] at ok
  have at_ : ∀ x c, (cellsFrom (s.heap.objs.size + 1) scope.names []).lookup x = some c → s.heap.objs.size + 1 ≤ c ∧ (pushCells H1 scope.names).get? c = some { cls := .type "cell", data := .cell none } := fun x c hc => by
    rw [← hsz] at hc ⊢
    rcases cellsFrom_at _ H1 [] x c (mem_of_lookup hc) with q | q
    · cases q
    · exact q
  have s1 : Sub s.heap H1 := hH1 ▸ Sub.push _ _
  have s2 : Sub H1 (pushCells H1 scope.names) := fun b o e => pushCells_keeps _ _ b o e
  have hL : (pushCells H1 scope.names).get? s.heap.objs.size = some { cls := .type "frame", data := .dict #[] } := s2 _ _ (hH1 ▸ Heap.get?_push_size _ rfl)
  rw [hsz]
  have F0 : Fm H0 s.heap s.heap X True (envQ qual scope s.heap.objs.size f cdv) (pushCells H1 scope.names) (fun _ => none) := by
    refine ⟨⟨hH.trans (s1.trans s2), ⟨_, (hH1 ▸ Heap.Ns.new s.heap (.type "frame")).keeps s2, fun _ _ _ q => (nomatch q)⟩, fun x c v hc _ q => (nomatch q)⟩,
      fun _ => ⟨fun o ho => ?_, fresh _ (Nat.le_refl _), freshH _ (Nat.le_refl _), fun x c hc => ?_, fun x y c hx hy => name_of_addr ok.apart (mem_of_lookup hx) (mem_of_lookup hy)⟩,
      fun a o e _ => s2 _ _ (s1 _ _ e), fun a o e => ⟨o, s2 _ _ (s1 _ _ e)⟩, fun x c hc => ⟨_, (at_ x c hc).2⟩, (s1.trans s2).kp⟩
    · have : some o = some _ := ho.symm.trans hL
      cases this; exact ⟨by simp, by simp, by simp [ld]⟩
    · obtain ⟨h1, h2⟩ := at_ x c hc
      exact ⟨⟨_, h2⟩, fresh _ (by omega), freshH _ (by omega), fun q => by rw [q] at h1; exact absurd h1 (Nat.not_succ_le_self _)⟩
  have hlim0 : H0.NoLimit → (pushCells H1 scope.names).NoLimit := fun x => x.keeps (hH.trans (s1.trans s2))
  refine wpAny_bind (wpAny_forIn_list _
    (fun rest _ s' => ∃ done h' tk, binds = done ++ rest ∧ s' = { s with heap := h', toks := tk } ∧
      Fm H0 s.heap s.heap X True (envQ qual scope s.heap.objs.size f cdv) h' (fun y => done.reverse.lookup y)) _ ?_ ?_ binds _
    ⟨[], _, _, rfl, rfl, F0⟩)
  · rintro ⟨name, v⟩ rest _ s' ⟨done, h', tk, hb, rfl, F⟩
    have e : ∀ h', Fm H0 s.heap s.heap X True (envQ qual scope s.heap.objs.size f cdv) h' (fun y => if y = name then some v else done.reverse.lookup y) →
        Fm H0 s.heap s.heap X True (envQ qual scope s.heap.objs.size f cdv) h' (fun y => (done ++ [(name, v)]).reverse.lookup y) := fun h' F => by
      have : (fun y => (done ++ [(name, v)]).reverse.lookup y) = fun y => if y = name then some v else done.reverse.lookup y := lookup_reverse_snoc done name v
      rw [this]; exact F
    rcases hkind (name, v) (by rw [hb]; simp) with q | ⟨q1, q2⟩
    · exact wpAny_bind (stL (s := { s with heap := h', toks := tk }) F q (fun h'' F' => wpAny_pure ⟨done ++ [(name, v)], h'', _, by simp [hb], rfl, e _ F'⟩) hk)
    · obtain ⟨c, hc⟩ := Option.isSome_iff_exists.mp q2
      exact wpAny_bind (stC (s := { s with heap := h', toks := tk }) F q1 hc (fun h'' F' => wpAny_pure ⟨done ++ [(name, v)], h'', _, by simp [hb], rfl, e _ F'⟩) hk)
  · rintro _ s' ⟨done, h', tk, hb, rfl, F⟩
    rw [List.append_nil] at hb; subst hb
    exact wpAny_pure (hQ h' tk F fun x => x.keeps F.vw.old)
end

section
variable {prog : Program} {w : World} {A : Around} {s : Shared} {H0 : Heap} {X : Addr → Prop}

noncomputable def kindsOk (scope : Scope) (binds : List (Str × Value)) : Bool := binds.all fun y => scope.names.lookup y.1 == some .local || scope.names.lookup y.1 == some .cell

theorem enterC {R : Result → Shared → Prop} {f : Addr} {oc : Value} {od an : Option Addr} {osl : Array (Option Value)} {name qual : Str} {params : Arguments} {body : List Stmt} {scope : Scope} {dV kV doc pm cdv ct : Value}
    {args : Args} {binds : List (Str × Value)} (hH : Sub H0 s.heap)
    (hroom : A.depth < recursionLimit) (ho : H0.get? f = some ⟨oc, od, .func (fnOf name qual params body scope dV kV doc pm an cdv ct), osl⟩) (hlim : H0.NoLimit) (hcd : H0.CodeRec cdv qual)
    (hbind : BindsTo s (fnOf name qual params body scope dV kV doc pm an cdv ct) args binds) (hkind : kindsOk scope binds = true)
    (h : ∀ L h₁ tk, Fm H0 s.heap s.heap X True (envQ qual scope L f cdv) h₁ (fun y => binds.reverse.lookup y) →
      wpAny (model prog w) (A.deeper (envQ qual scope L f cdv)) (execs body (envQ qual scope L f cdv))
        (fun fl s' => R (.ok (.ret (match fl with | .ret v => v | _ => .none))) s')
        (fun e s' => wpAny (model prog w) (A.deeper (envQ qual scope L f cdv)) (leaving (envQ qual scope L f cdv) e) (fun _ s'' => R (.error e) s'') (fun e' s'' => R (.error e') s'') s')
        { s with heap := h₁, toks := tk })
    (hco : scope.isCoroutine = false := by rfl) (hgen : scope.isGenerator = false := by rfl) (hk : scope.kind = .function := by rfl) :
    codeAny (model prog w) A (.call (.ref f) args) R s := by
  refine codeAny_call_function (fd := fnOf name qual params body scope dV kV doc pm an cdv ct) hroom (hH _ _ ho) rfl hco hgen rfl (hcd.keeps hH) (hbind _ _ _ _ ?_)
  refine newEnvQ hH hk (fun x hx => ?_) fun h' tk F hl => ⟨hl hlim, codeAny_func (h _ h' tk F)⟩
  have := List.all_eq_true.mp hkind x hx
  rcases Bool.or_eq_true_iff.mp this with q | q
  · exact .inl (by simpa using q)
  · have q' : scope.names.lookup x.1 = some .cell := by simpa using q
    exact .inr ⟨q', cellsFrom_some _ _ _ (.inl q')⟩

theorem enterR {Q : Value → Shared → Prop} {E : Value → Shared → Prop} {f : Addr} {oc : Value} {od an : Option Addr} {osl : Array (Option Value)} {name qual : Str} {params : Arguments} {body : List Stmt} {scope : Scope} {dV kV doc pm cdv ct : Value}
    {pos : List Value} {kw : List (Str × Value)} {binds : List (Str × Value)} (hH : Sub H0 s.heap)
    (hroom : A.depth < recursionLimit) (ho : H0.get? f = some ⟨oc, od, .func (fnOf name qual params body scope dV kV doc pm an cdv ct), osl⟩) (hlim : H0.NoLimit) (hcd : H0.CodeRec cdv qual)
    (hbind : BindsTo s (fnOf name qual params body scope dV kV doc pm an cdv ct) ⟨pos, kw⟩ binds) (hkind : kindsOk scope binds = true)
    (h : ∀ L h₁ tk, Fm H0 s.heap s.heap X True (envQ qual scope L f cdv) h₁ (fun y => binds.reverse.lookup y) →
      wpAny (model prog w) (A.deeper (envQ qual scope L f cdv)) (execs body (envQ qual scope L f cdv))
        (fun fl s' => Q (match fl with | .ret v => v | _ => .none) s') (fun _ _ => False)
        { s with heap := h₁, toks := tk })
    (hco : scope.isCoroutine = false := by rfl) (hgen : scope.isGenerator = false := by rfl) (hk : scope.kind = .function := by rfl) :
    wpAny (model prog w) A (call (.ref f) pos kw) Q E s :=
  wpAny_call (enterC (X := X) hH hroom ho hlim hcd hbind hkind (fun L h₁ tk F => wpAny_mono (h L h₁ tk F) (fun fl s' x => by cases fl <;> exact x) fun _ _ x => x.elim) hco hgen hk)
end

theorem upn {a k m r : Nat} (h : a + m < r) (hk : k ≤ m) : a + k < r := Nat.lt_of_le_of_lt (Nat.add_le_add_left hk a) h
theorem upn0 {a m r : Nat} (h : a + m < r) : a < r := Nat.lt_of_le_of_lt (Nat.le_add_right a m) h
theorem dpt {A : Around} {env : Env} {k m r : Nat} (h : A.depth + m < r) (hk : 1 + k ≤ m) : (A.deeper env).depth + k < r := by
  show A.depth + 1 + k < r
  omega
theorem dpt0 {A : Around} {env : Env} {m r : Nat} (h : A.depth + m < r) (hk : 1 ≤ m) : (A.deeper env).depth < r := by
  show A.depth + 1 < r
  omega
theorem unt {A : Around} {env : Env} {k m r : Nat} (h : A.units + m < r) (hk : 3 + k ≤ m) : (A.deeper env).units + k < r := by
  show A.units + 3 + k < r
  omega
end PartQ2
section PartQ3
section
variable {prog : Program} {w : World} {A : Around} {E : Value → Shared → Prop} {s s₁ : Shared} {H0 e e' g g₁ h : Heap} {X Y : Addr → Prop} {W : Prop} {env : Env} {m : Str → Option Value}

theorem hide_keep {l : List Addr} {b : Addr} {o : Obj} (e : h.get? b = some o) (n : b ∉ l) : (hideAll h l).get? b = some o := hideAll_get l e n

noncomputable def Loose (g : Heap) (M : Addr → Prop) (a : Addr) : Prop := g.get? a = none ∨ M a

structure Tch (X : Addr → Prop) (h h' : Heap) : Prop where
  keep : ∀ b o, h.get? b = some o → (ld o → ¬ X b) → h'.get? b = some o
  dom : ∀ b o, h.get? b = some o → ∃ o', h'.get? b = some o'
theorem Fm.guard (F : Fm H0 e g X True env h m) (X' : Addr → Prop) : Fm H0 (hideAll h (env.locals :: env.cells.map (·.2))) g X' True env h m := by
  have w := F.wr trivial
  refine ⟨F.vw, fun _ => ⟨w.tagL, hideAll_none _ (.head _), w.lowL, fun x c hc => ?_, w.apart⟩, fun a o q _ => of_hideAll _ q, fun a o q => ⟨o, of_hideAll _ q⟩, F.live, F.keepG⟩
  obtain ⟨h1, h2, h3, h4⟩ := w.cells x c hc
  exact ⟨h1, hideAll_none _ (.tail _ (List.mem_map.mpr ⟨_, mem_of_lookup hc, rfl⟩)), h3, h4⟩

theorem Fm.entered (F : Fm H0 e g X True env h m) (hcells : ∀ p ∈ env.cells, env.cells.lookup p.1 = some p.2) : Tch X e (hideAll h (env.locals :: env.cells.map (·.2))) := by
  have w := F.wr trivial
  have ne : ∀ a o, e.get? a = some o → a ∉ env.locals :: env.cells.map (·.2) := fun a o q hm => by
    rcases List.mem_cons.mp hm with rfl | hm
    · rw [w.newL] at q; cases q
    · obtain ⟨p, hp, rfl⟩ := List.mem_map.mp hm
      have := (w.cells p.1 p.2 (hcells p hp)).2.1
      rw [this] at q; cases q
  exact ⟨fun a o q c => hide_keep (F.keepE a o q c) (ne a o q), fun a o q => by obtain ⟨o', q'⟩ := F.domE a o q; exact ⟨o', hide_keep q' (ne a o q)⟩⟩
theorem Fm.unguard {h' g' : Heap} {m₀ m' : Str → Option Value} {M : Addr → Prop} (F₀ : Fm H0 e g X True env g m₀) (F : Fm H0 e g₁ X True env h m) (hcells : ∀ p ∈ env.cells, env.cells.lookup p.1 = some p.2)
    (hM : ∀ a o, M a → e.get? a = some o → X a) (F' : Fm H0 (hideAll h (env.locals :: env.cells.map (·.2))) g' (fun a => X a ∨ Loose g M a) True env h' m') : Fm H0 e g' X True env h' m' := by
  have w := F.wr trivial
  have w' := F'.wr trivial
  have ne : ∀ a o, e.get? a = some o → a ∉ env.locals :: env.cells.map (·.2) := fun a o q hm => by
    rcases List.mem_cons.mp hm with rfl | hm
    · rw [w.newL] at q; cases q
    · obtain ⟨p, hp, rfl⟩ := List.mem_map.mp hm
      have := (w.cells p.1 p.2 (hcells p hp)).2.1
      rw [this] at q; cases q
  refine ⟨F'.vw, fun _ => ⟨w'.tagL, w.newL, w.lowL, fun x c hc => ?_, w.apart⟩, fun a o q c => ?_, fun a o q => ?_, F'.live, F'.keepG⟩
  · obtain ⟨h1, h2, h3, h4⟩ := w'.cells x c hc
    exact ⟨h1, (w.cells x c hc).2.1, h3, h4⟩
  · refine F'.keepE a o (hide_keep (F.keepE a o q c) (ne a o q)) fun hl => ?_
    rintro (hx | hx | hx)
    · exact c hl hx
    · rw [F₀.keepE a o q c] at hx; cases hx
    · exact c hl (hM a o hx q)
  · obtain ⟨o', q'⟩ := F.domE a o q
    exact F'.domE a o' (hide_keep q' (ne a o q))

noncomputable def Turned (H0 e : Heap) (X Y : Addr → Prop) (env : Env) (J : Heap → (Str → Option Value) → Prop) (g₁ : Heap) (s s₃ : Shared) : Prop :=
  ∃ h' tk' g₂ m₂, s₃ = { s with heap := h', toks := tk' } ∧ Fm H0 e g₂ X True env h' m₂ ∧ Kp Y g₁ g₂ ∧ J g₂ m₂
noncomputable def Left (H0 e₀ e : Heap) (X₀ X Y : Addr → Prop) (env : Env) (g₀ g₁ : Heap) (s s₃ : Shared) (Q : Shared → Prop) : Prop :=
  ∃ h' tk' g₂ m₂, s₃ = { s with heap := h', toks := tk' } ∧ Fm H0 e g₂ X True env h' m₂ ∧ Kp Y g₁ g₂ ∧ (Fm H0 e₀ g₂ X₀ True env h' m₂ → Kp Y g₀ g₂ → Q { s with heap := h', toks := tk' })

theorem letGo {M : Model} {A : Around} {E : Value → Shared → Prop} {s : Shared} {target : Expr} {I : Addr} {v : Value} {o : Obj} {nm : String} {Q : Unit → Shared → Prop} (ho : s.heap.get? I = some o) (hc : o.cls = .type nm)
    (hn : ["enumerate", "zip", "dict_itemiterator", "dict_reverseitemiterator", "odict_iterator", "itertools.zip_longest", "itertools.pairwise"].contains nm = false) (h : Q () s) : wpAny M A (letOwnedTupleGo target (.ref I) v) Q E s := by
  have core : ∀ T : Addr, wpAny M A (do
      let o ← load I
      match o.cls, o.data with
      | .type n, .fields vs =>
        if ["enumerate", "zip", "dict_itemiterator", "dict_reverseitemiterator", "odict_iterator", "itertools.zip_longest", "itertools.pairwise"].contains n && vs[0]? == some (rawInt T) then
          rule "for.unpacks-the-owned-tuple"
          updateField I 0 .none
      | _, _ => pure ()) Q E s := fun T => by
    refine wpAny_bind (wpAny_load ho ?_)
    rw [hc]
    cases hd : o.data <;> first | exact wpAny_pure h | skip
    rename_i vs
    dsimp only
    rw [hn, Bool.false_and]
    exact wpAny_pure h
  unfold letOwnedTupleGo
  cases target <;> first | exact wpAny_pure h | skip
  · cases v <;> first | exact wpAny_pure h | exact core _
  · cases v <;> first | exact wpAny_pure h | exact core _
theorem letGo_int {M : Model} {A : Around} {E : Value → Shared → Prop} {s : Shared} {target : Expr} {I : Addr} {i : Int} {t : Tok} {Q : Unit → Shared → Prop} (h : Q () s) : wpAny M A (letOwnedTupleGo target (.ref I) (.int i t)) Q E s := by
  unfold letOwnedTupleGo
  cases target <;> exact wpAny_pure h

noncomputable def cellsOk (env : Env) : Prop := ∀ p ∈ env.cells, env.cells.lookup p.1 = some p.2

theorem forCore {target : Expr} {body : List Stmt} {I : Addr} {fp wr : List Addr} {n : Nat} {P : Nat → Value → Prop} {St : Nat → Heap → Prop} {Q : Flow → Shared → Prop} (M : Addr → Prop) (J : Nat → Heap → (Str → Option Value) → Prop)
    (Wk : Walks prog w A I fp wr n P St) (hwr : ∀ b ∈ wr, b = I) (F₀ : Fm H0 e g X True env g m) (hk : Sub g s.heap) (hI : g.get? I = none) (hst : St 0 s.heap) (hcells : cellsOk env)
    (hIc : ∀ i h, St i h → ∀ o, h.get? I = some o → Loc o)
    (hfp : ∀ i h, St i h → ∀ b ∈ fp, b = I ∨ ∃ o, g.get? b = some o ∧ (ld o → ¬ X b ∧ ¬ M b) ∧ ∀ o', h.get? b = some o' → o'.cls = o.cls)
    (hL : env.locals ∉ fp) (hC : ∀ p ∈ env.cells, p.2 ∉ fp)
    (hM : ∀ a o, M a → e.get? a = some o → X a) (hE : PassesOwn (model prog w) A env E)
    (hj0 : J 0 g m) (hJ : ∀ i g g' m, J i g m → Kp Nil g g' → J i g' m)
    (turn : ∀ i v e' g₁ h₁ m₁ tk₁, i < n → P i v → Kp (Loose g M) g g₁ → J i g₁ m₁ → Fm H0 e' g₁ (fun a => X a ∨ Loose g M a) True env h₁ m₁ → Tch X e e' →
      wpAny (model prog w) A (assign target env v) (fun _ s₂ => wpAny (model prog w) A (execs body env) (fun f s₃ => match f with
        | .next | .cont => Turned H0 e' (fun a => X a ∨ Loose g M a) (Loose g M) env (J (i + 1)) g₁ s s₃
        | .brk => Left H0 e e' X (fun a => X a ∨ Loose g M a) (Loose g M) env g g₁ s s₃ (Q .next)
        | .ret r => Left H0 e e' X (fun a => X a ∨ Loose g M a) (Loose g M) env g g₁ s s₃ (Q (.ret r))) E s₂) E { s with heap := h₁, toks := tk₁ })
    (done : ∀ g₁ h₁ m₁ tk₁, Kp (Loose g M) g g₁ → J n g₁ m₁ → Fm H0 e g₁ X True env h₁ m₁ → Q .next { s with heap := h₁, toks := tk₁ })
    (ht : ∀ i v (s : Shared) (Q : Unit → Shared → Prop) (E : Value → Shared → Prop), St (i + 1) s.heap → Q () s → wpAny (model prog w) A (letOwnedTupleGo target (.ref I) v) Q E s) :
    codeAny (model prog w) A (.forLoop target (.ref I) body [] env) (fun r s' => match r with | .ok f => Q f s' | .error x => cameBackBy (model prog w) A env E x s') s := by
  have hIw : env.locals ∉ wr := fun hm => hL (Wk.sub _ hm)
  have freshI : ∀ a o, g.get? a = some o → a ≠ I := fun a o q r => by rw [r, hI] at q; cases q
  have eI : ∀ o, e.get? I ≠ some o := fun o q => by obtain ⟨o', q'⟩ := F₀.domE I o q; rw [hI] at q'; cases q'
  have HI : ∀ o, H0.get? I ≠ some o := fun o q => by have := F₀.vw.old I o q; rw [hI] at this; cases this
  -- pyNext turns the iterator alone
  have nx : ∀ {i : Nat} {h' h₁ : Heap} {g₁ : Heap} {m₁ : Str → Option Value}, St i h' → (∀ b o, b ∉ wr → h'.get? b = some o → h₁.get? b = some o) → Fm H0 e g₁ X True env h' m₁ → Fm H0 e h₁ X True env h₁ m₁ ∧ Kp Nil h' h₁ := by
    intro i h' h₁ g₁ m₁ st hk₁ F
    have w := F.wr trivial
    have keep : ∀ b o, b ≠ I → h'.get? b = some o → h₁.get? b = some o := fun b o hb q => hk₁ b o (fun hm => hb (hwr b hm)) q
    have hLI : env.locals ≠ I := fun q => by
      obtain ⟨ml, ⟨oL, _, _, ho, _⟩, _⟩ := F₀.vw.ns
      rw [q, hI] at ho; cases ho
    have hCI : ∀ x c, env.cells.lookup x = some c → c ≠ I := fun x c hc q => by
      have := ((F₀.wr trivial).cells x c hc).1
      obtain ⟨v, hv⟩ := this
      rw [q, hI] at hv; cases hv
    refine ⟨⟨⟨fun b o q => keep b o (fun r => HI o (r ▸ q)) (F.vw.old b o q), ?_, fun x c v hc hkd hv => ?_⟩, fun _ => ⟨fun o ho => ?_, w.newL, w.lowL, fun x c hc => ?_, w.apart⟩, fun a o q c => keep a o (fun r => eI o (r ▸ q)) (F.keepE a o q c), fun a o q => ?_, fun x c hc => ?_, .refl _⟩, ⟨fun a o q c => ?_⟩⟩
    · obtain ⟨ml, hn, hm⟩ := F.vw.ns
      exact ⟨ml, hn.at' fun o q => keep _ o hLI q, hm⟩
    · obtain ⟨o, ho, hd⟩ := F.vw.cell x c v hc hkd hv
      exact ⟨o, keep c o (hCI x c hc) ho, hd⟩
    · obtain ⟨ml, ⟨oL, _, _, ho', _⟩, _⟩ := F.vw.ns
      have := keep _ oL hLI ho'
      rw [this] at ho; cases ho; exact w.tagL _ ho'
    · obtain ⟨⟨v, h1⟩, r⟩ := w.cells x c hc
      exact ⟨⟨v, keep c _ (hCI x c hc) h1⟩, r⟩
    · obtain ⟨o', q'⟩ := F.domE a o q
      exact ⟨o', keep a o' (fun r => eI o (r ▸ q)) q'⟩
    · obtain ⟨v, h1⟩ := F.live x c hc
      exact ⟨v, keep c _ (hCI x c hc) h1⟩
    · refine keep a o (fun r => ?_) q
      obtain ⟨c1, c2, c3⟩ := hIc i h' st o (r ▸ q)
      rcases c with c | ⟨x, c⟩ | c
      · exact c1 c
      · exact c2 x c
      · exact c3 c.1
  refine codeAny_forLoop_any (fun k s' => ∃ h' tk g₁ m₁ i, s' = { s with heap := h', toks := tk } ∧ St i h' ∧ Fm H0 e g₁ X True env h' m₁ ∧ Kp (Loose g M) g h' ∧ J i h' m₁ ∧ i ≤ n ∧ k = n + 1 - i) ?_ (n + 1)
    ⟨s.heap, s.toks, _, m, 0, rfl, hst, F₀.ext0 hk, hk.kp, hJ 0 _ _ m hj0 hk.kp, Nat.zero_le _, rfl⟩
  rintro k s' ⟨h', tk, g₁, m₁, i, rfl, hst', F, hkp, hJi, hi, rfl⟩
  by_cases hlt : i < n
  · refine Wk.item i _ _ _ hlt hst' fun v h₁ tk₁ hP hst₁ hk₁ => ?_
    · obtain ⟨F₁, hn₁⟩ := nx hst' hk₁ F
      have hkp₁ : Kp (Loose g M) g h₁ := ⟨fun a o q c => by
        have q' := hkp.keep a o q c
        exact hk₁ a o (fun hm => freshI a o q (hwr a hm)) q'⟩
      refine ht i v _ _ _ hst₁ ?_
      refine wpAny_passesOwn hE (wpAny_mono (turn i v _ h₁ h₁ m₁ tk₁ hlt hP hkp₁ (hJ i _ _ _ hJi hn₁) (F₁.guard _) (F₁.entered hcells)) (fun _ s₂ h₂ => ?_) fun _ _ x => x)
      refine wpAny_passesOwn hE (wpAny_mono h₂ (fun f s₃ h₃ => ?_) fun _ _ x => x)
      have fin : Turned H0 (hideAll h₁ (env.locals :: env.cells.map (·.2))) (fun a => X a ∨ Loose g M a) (Loose g M) env (J (i + 1)) h₁ s s₃ →
          ∃ m, m < n + 1 - i ∧ ∃ h' tk g₁ m₁ i, s₃ = { s with heap := h', toks := tk } ∧ St i h' ∧ Fm H0 e g₁ X True env h' m₁ ∧ Kp (Loose g M) g h' ∧ J i h' m₁ ∧ i ≤ n ∧ m = n + 1 - i := by
        rintro ⟨h₂, tk₂, g₂, m₂, rfl, F₂, k₂, j₂⟩
        refine ⟨n + 1 - (i + 1), by omega, h₂, tk₂, g₂, m₂, i + 1, rfl, Wk.frame _ _ _ hst₁ fun b hb o q => ?_, F₀.unguard F₁ hcells hM F₂, (hkp₁.trans k₂).trans (F₂.keepG.weaken fun _ x => x.elim), hJ _ _ _ _ j₂ F₂.keepG, hlt, rfl⟩
        refine F₂.keepE b o (hide_keep q fun hm => ?_) fun hl => ?_
        · rcases List.mem_cons.mp hm with rfl | hm
          · exact hL hb
          · obtain ⟨p, hp, rfl⟩ := List.mem_map.mp hm
            exact hC p hp hb
        · rcases hfp _ _ hst₁ b hb with rfl | ⟨o', ho', hc, hcl⟩
          · exact absurd hl (hIc _ _ hst₁ o q).2.2
          · have hl' : ld o' := by unfold ld at hl ⊢; rw [← hcl o q]; exact hl
            obtain ⟨c1, c2⟩ := hc hl'
            rintro (x | x | x)
            · exact c1 x
            · rw [ho'] at x; cases x
            · exact c2 x
      have lft : ∀ Q' : Shared → Prop, Left H0 e (hideAll h₁ (env.locals :: env.cells.map (·.2))) X (fun a => X a ∨ Loose g M a) (Loose g M) env g h₁ s s₃ Q' → Q' s₃ := by
        rintro Q' ⟨h₂, tk₂, g₂, m₂, rfl, F₂, k₂, q⟩
        exact q (F₀.unguard F₁ hcells hM F₂) (hkp₁.trans k₂)
      cases f with
      | next => exact fin h₃
      | cont => exact fin h₃
      | brk => exact lft _ h₃
      | ret r => exact lft _ h₃
  · have hin : i = n := by omega
    subst hin
    refine Wk.done _ _ _ hst' fun h₁ tk₁ hk₁ => ?_
    obtain ⟨F₁, hn₁⟩ := nx hst' hk₁ F
    exact wpAny_execs_nil (done h₁ h₁ m₁ tk₁ ⟨fun a o q c => hk₁ a o (fun hm => freshI a o q (hwr a hm)) (hkp.keep a o q c)⟩ (hJ _ _ _ _ hJi hn₁) F₁)
end
end PartQ3
section PartQ4
section
variable {prog : Program} {w : World} {A : Around} {E : Value → Shared → Prop} {s : Shared} {H0 e g : Heap} {X : Addr → Prop} {env : Env} {m : Str → Option Value}

theorem nolook {h : Heap} {a : Addr} (ha : h.objs.size ≤ a) : h.get? a = none := by
  cases e : h.get? a with
  | none => rfl
  | some o => exact absurd (Heap.lt_size e) (Nat.not_lt.mpr ha)
theorem at_new (h : Heap) : h.get? h.objs.size = none := nolook (Nat.le_refl _)

theorem Fm.apartL {h : Heap} {X : Addr → Prop} {W : Prop} (F : Fm H0 e g X W env h m) (w : Wr H0 e env h) {a : Addr} {o : Obj} (ho : h.get? a = some o) (hl : ¬ Loc o) : env.locals ≠ a ∧ (cellsOk env → ∀ p ∈ env.cells, p.2 ≠ a) := by
  refine ⟨fun q => hl (w.tagL o (q ▸ ho)), fun hc p hp q => ?_⟩
  obtain ⟨v, hv⟩ := (w.cells p.1 p.2 (hc p hp)).1
  rw [q, ho] at hv; cases hv
  exact hl ⟨by simp, by simp, by simp [ld]⟩
theorem Fm.apartN {h : Heap} {X : Addr → Prop} (F : Fm H0 e g X True env h m) : env.locals ≠ h.objs.size ∧ (cellsOk env → ∀ p ∈ env.cells, p.2 ≠ h.objs.size) := by
  have w := F.wr trivial
  obtain ⟨ml, ⟨o, _, _, ho, _⟩, _⟩ := F.vw.ns
  refine ⟨Nat.ne_of_lt (Heap.lt_size ho), fun hc p hp => ?_⟩
  obtain ⟨v, hv⟩ := (w.cells p.1 p.2 (hc p hp)).1
  exact Nat.ne_of_lt (Heap.lt_size hv)

noncomputable abbrev TurnP (prog : Program) (w : World) (A : Around) (E : Value → Shared → Prop) (s : Shared) (H0 e : Heap) (X M : Addr → Prop) (env : Env) (target : Expr) (body : List Stmt) (Q : Flow → Shared → Prop)
    (J : Nat → Heap → (Str → Option Value) → Prop) (g : Heap) (i : Nat) (v : Value) (e' g₁ h₁ : Heap) (tk₁ : Nat) : Prop :=
  wpAny (model prog w) A (assign target env v) (fun _ s₂ => wpAny (model prog w) A (execs body env) (fun f s₃ => match f with
        | .next | .cont => Turned H0 e' (fun a => X a ∨ Loose g M a) (Loose g M) env (J (i + 1)) g₁ s s₃
        | .brk => Left H0 e e' X (fun a => X a ∨ Loose g M a) (Loose g M) env g g₁ s s₃ (Q .next)
        | .ret r => Left H0 e e' X (fun a => X a ∨ Loose g M a) (Loose g M) env g g₁ s s₃ (Q (.ret r))) E s₂) E { s with heap := h₁, toks := tk₁ }

theorem forList {target : Expr} {body : List Stmt} {ax : Addr} {vs : List Value} {Q : Flow → Shared → Prop} (M : Addr → Prop) (J : Nat → Heap → (Str → Option Value) → Prop)
    (hl : s.heap.IsList ax vs.toArray) (F : Fm H0 e g X True env s.heap m) (hX : ¬ X ax ∧ ¬ M ax) (hM : ∀ a o, M a → e.get? a = some o → X a) (hj0 : J 0 s.heap m) (hJ : ∀ i g g' m, J i g m → Kp Nil g g' → J i g' m)
    (turn : ∀ i v e' g₁ h₁ m₁ tk₁, vs[i]? = some v → Kp (Loose s.heap M) s.heap g₁ → J i g₁ m₁ → Fm H0 e' g₁ (fun a => X a ∨ Loose s.heap M a) True env h₁ m₁ → Tch X e e' → TurnP prog w A E s H0 e X M env target body Q J s.heap i v e' g₁ h₁ tk₁)
    (done : ∀ g₁ h₁ m₁ tk₁, Kp (Loose s.heap M) s.heap g₁ → J vs.length g₁ m₁ → Fm H0 e g₁ X True env h₁ m₁ → Q .next { s with heap := h₁, toks := tk₁ })
    (hh : A.handled = none) (hE : PassesOwn (model prog w) A env E) (hcells : cellsOk env) :
    wpAny (model prog w) A (pyIter (.ref ax)) (fun it s₂ => codeAny (model prog w) A (.forLoop target it body [] env) (fun r s' => match r with | .ok f => Q f s' | .error x => cameBackBy (model prog w) A env E x s') s₂) E s := by
  refine wpAny_pyIter_list hl ?_
  obtain ⟨ol, hol, hcl, hdl⟩ := id hl
  have hne : ax ≠ s.heap.objs.size := Nat.ne_of_lt (Heap.lt_size hol)
  have w' := F.wr trivial
  have a1 := F.apartL w' hol (fun q => q.2.2 (.inl hcl))
  have a2 := F.apartN
  have hlen : vs.toArray.size = vs.length := by simp
  have Wk := Walks.list (prog := prog) (w := w) hh s.heap.objs.size ax hne vs.toArray
  rw [hlen] at Wk
  exact forCore (s := { s with heap := s.heap.push { cls := .type "list_iterator", data := .fields #[.ref ax, .int 0 0] } }) (g := s.heap) M J Wk (fun b hb => by simpa using hb) F.here (Sub.push _ _) (at_new _)
    ⟨⟨_, Heap.get?_push_size _ rfl, rfl, rfl⟩, hl.push _⟩ hcells
    (fun i h st o ho => by obtain ⟨⟨o', ho', c, _⟩, _⟩ := st; rw [ho] at ho'; cases ho'; exact ⟨by rw [c]; simp, by rw [c]; simp, by unfold ld; rw [c]; simp⟩)
    (fun i h st b hb => by
      rcases List.mem_cons.mp hb with rfl | hb
      · exact .inl rfl
      · rw [List.mem_singleton.mp hb]
        refine .inr ⟨ol, hol, fun _ => hX, fun o' ho' => ?_⟩
        obtain ⟨_, o'', ho'', c, _⟩ := st
        rw [ho'] at ho''; cases ho''; rw [c, hcl])
    (fun hm => by rcases List.mem_cons.mp hm with q | hm; exact a2.1 q; exact a1.1 (List.mem_singleton.mp hm))
    (fun p hp hm => by rcases List.mem_cons.mp hm with q | hm; exact a2.2 hcells p hp q; exact a1.2 hcells p hp (List.mem_singleton.mp hm))
    hM hE hj0 hJ
    (fun i v e' g₁ h₁ m₁ tk₁ hi hP => turn i v e' g₁ h₁ m₁ tk₁ (by simpa using hP)) done (fun i v s Q E st h => by obtain ⟨⟨o', ho', c, _⟩, _⟩ := st; exact letGo ho' c (by decide) h)

theorem forTup {target : Expr} {body : List Stmt} {ax : Addr} {vs : List Value} {Q : Flow → Shared → Prop} (M : Addr → Prop) (J : Nat → Heap → (Str → Option Value) → Prop)
    (hl : IsTup s.heap ax vs.toArray) (F : Fm H0 e g X True env s.heap m) (hM : ∀ a o, M a → e.get? a = some o → X a) (hj0 : J 0 s.heap m) (hJ : ∀ i g g' m, J i g m → Kp Nil g g' → J i g' m)
    (turn : ∀ i v e' g₁ h₁ m₁ tk₁, vs[i]? = some v → Kp (Loose s.heap M) s.heap g₁ → J i g₁ m₁ → Fm H0 e' g₁ (fun a => X a ∨ Loose s.heap M a) True env h₁ m₁ → Tch X e e' → TurnP prog w A E s H0 e X M env target body Q J s.heap i v e' g₁ h₁ tk₁)
    (done : ∀ g₁ h₁ m₁ tk₁, Kp (Loose s.heap M) s.heap g₁ → J vs.length g₁ m₁ → Fm H0 e g₁ X True env h₁ m₁ → Q .next { s with heap := h₁, toks := tk₁ })
    (hh : A.handled = none) (hE : PassesOwn (model prog w) A env E) (hcells : cellsOk env) :
    wpAny (model prog w) A (pyIter (.ref ax)) (fun it s₂ => codeAny (model prog w) A (.forLoop target it body [] env) (fun r s' => match r with | .ok f => Q f s' | .error x => cameBackBy (model prog w) A env E x s') s₂) E s := by
  have hl' : s.heap.IsTuple ax vs.toArray := hl
  refine wpAny_pyIter_tuple hl' ?_
  obtain ⟨ol, hol, hcl, hdl⟩ := id hl
  have hne : ax ≠ s.heap.objs.size := Nat.ne_of_lt (Heap.lt_size hol)
  have w' := F.wr trivial
  have a1 := F.apartL w' hol (fun q => q.1 hcl)
  have a2 := F.apartN
  have hlen : vs.toArray.size = vs.length := by simp
  have Wk := Walks.tuple (prog := prog) (w := w) hh s.heap.objs.size ax hne vs.toArray
  rw [hlen] at Wk
  exact forCore (s := { s with heap := s.heap.push { cls := .type "tuple_iterator", data := .fields #[.ref ax, .int 0 0] } }) (g := s.heap) M J Wk (fun b hb => by simpa using hb) F.here (Sub.push _ _) (at_new _)
    ⟨⟨_, Heap.get?_push_size _ rfl, rfl, rfl⟩, hl'.push _⟩ hcells
    (fun i h st o ho => by obtain ⟨⟨o', ho', c, _⟩, _⟩ := st; rw [ho] at ho'; cases ho'; exact ⟨by rw [c]; simp, by rw [c]; simp, by unfold ld; rw [c]; simp⟩)
    (fun i h st b hb => by
      rcases List.mem_cons.mp hb with rfl | hb
      · exact .inl rfl
      · rw [List.mem_singleton.mp hb]
        refine .inr ⟨ol, hol, fun q => ?_, fun o' ho' => ?_⟩
        · unfold ld at q; rw [hcl] at q; simp at q
        · obtain ⟨_, o'', ho'', c, _⟩ := st
          rw [ho'] at ho''; cases ho''; rw [c, hcl])
    (fun hm => by rcases List.mem_cons.mp hm with q | hm; exact a2.1 q; exact a1.1 (List.mem_singleton.mp hm))
    (fun p hp hm => by rcases List.mem_cons.mp hm with q | hm; exact a2.2 hcells p hp q; exact a1.2 hcells p hp (List.mem_singleton.mp hm))
    hM hE hj0 hJ
    (fun i v e' g₁ h₁ m₁ tk₁ hi hP => turn i v e' g₁ h₁ m₁ tk₁ (by simpa using hP)) done (fun i v s Q E st h => by obtain ⟨⟨o', ho', c, _⟩, _⟩ := st; exact letGo ho' c (by decide) h)

theorem forRange {target : Expr} {body : List Stmt} {r : Addr} {a b c : Int} {t u v₀ : Tok} {n : Nat} {Q : Flow → Shared → Prop} (M : Addr → Prop) (J : Nat → Heap → (Str → Option Value) → Prop)
    (hr : IsRange s.heap r a b c t u v₀) (hsmall : Builtin.Range.small a b c = true) (hsz : Builtin.Range.rangeSize a b c = (n : Int)) (F : Fm H0 e g X True env s.heap m) (hM : ∀ a o, M a → e.get? a = some o → X a) (hj0 : J 0 s.heap m) (hJ : ∀ i g g' m, J i g m → Kp Nil g g' → J i g' m)
    (turn : ∀ i v tk e' g₁ h₁ m₁ tk₁, i < n → v = a + i * c → Kp (Loose s.heap M) s.heap g₁ → J i g₁ m₁ → Fm H0 e' g₁ (fun a => X a ∨ Loose s.heap M a) True env h₁ m₁ → Tch X e e' → TurnP prog w A E s H0 e X M env target body Q J s.heap i (.int v tk) e' g₁ h₁ tk₁)
    (done : ∀ g₁ h₁ m₁ tk₁, Kp (Loose s.heap M) s.heap g₁ → J n g₁ m₁ → Fm H0 e g₁ X True env h₁ m₁ → Q .next { s with heap := h₁, toks := tk₁ })
    (hh : A.handled = none) (hE : PassesOwn (model prog w) A env E) (hcells : cellsOk env) :
    wpAny (model prog w) A (pyIter (.ref r)) (fun it s₂ => codeAny (model prog w) A (.forLoop target it body [] env) (fun r s' => match r with | .ok f => Q f s' | .error x => cameBackBy (model prog w) A env E x s') s₂) E s := by
  refine wpAny_pyIter_range hr hsmall ?_
  have a2 := F.apartN
  exact forCore (s := { s with heap := s.heap.push { cls := .type "range_iterator", data := .fields #[rawInt a, rawInt (Builtin.Range.rangeSize a b c), rawInt c] } }) (g := s.heap) M J
    (Walks.range (prog := prog) (w := w) hh s.heap.objs.size a c n) (fun b hb => by simpa using hb) F.here (Sub.push _ _) (at_new _)
    (by show IsRangeIter _ _ _ _ _; rw [hsz]; simpa using Heap.get?_push_size _ rfl) hcells
    (fun i h st o ho => by
      have : h.get? s.heap.objs.size = some _ := st
      rw [ho] at this; cases this; exact ⟨by simp, by simp, by simp [ld]⟩)
    (fun i h st b hb => .inl (List.mem_singleton.mp hb))
    (fun hm => a2.1 (List.mem_singleton.mp hm))
    (fun p hp hm => a2.2 hcells p hp (List.mem_singleton.mp hm))
    hM hE hj0 hJ
    (by rintro i v e' g₁ h₁ m₁ tk₁ hi ⟨tk, hP⟩ k j F'; exact by subst hP; exact turn i _ tk e' g₁ h₁ m₁ tk₁ hi rfl k j F') done (fun i v s Q E st h => letGo (o := _) st rfl (by decide) h)

theorem whileQ {test : Expr} {body : List Stmt} {pos : Pos} {Q : Flow → Shared → Prop} (M : Addr → Prop) (J : Nat → Heap → (Str → Option Value) → Prop) {n₀ : Nat} (F : Fm H0 e g X True env s.heap m) (hj0 : J n₀ s.heap m)
    (turn : ∀ n g₁ h₁ m₁ tk₁, Kp (Loose s.heap M) s.heap g₁ → J n g₁ m₁ → Fm H0 e g₁ X True env h₁ m₁ →
      wpAny (model prog w) A (isTrue test env (eval test env)) (fun b s₂ => if b = true then wpAny (model prog w) A (execs body env) (fun f s₃ => match f with
        | .next | .cont => ∃ n', n' < n ∧ Turned H0 e X (Loose s.heap M) env (J n') g₁ s s₃
        | .brk => Q .next s₃
        | .ret r => Q (.ret r) s₃) E s₂ else Q .next s₂) E { s with heap := h₁, toks := tk₁ })
    (hE : PassesOwn (model prog w) A env E) :
    wpAny (model prog w) A (exec (.While test body [] pos) env) Q E s := by
  refine wpAny_While (codeAny_whileLoop (fun n s' => ∃ h₁ tk₁ g₁ m₁, s' = { s with heap := h₁, toks := tk₁ } ∧ Fm H0 e g₁ X True env h₁ m₁ ∧ Kp (Loose s.heap M) s.heap g₁ ∧ J n g₁ m₁) ?_ n₀ ⟨s.heap, s.toks, s.heap, m, rfl, F.here, .refl _, hj0⟩)
  rintro n s' ⟨h₁, tk₁, g₁, m₁, rfl, F₁, k₁, J₁⟩
  refine wpAny_mono (turn n g₁ h₁ m₁ tk₁ k₁ J₁ F₁) (fun b s₂ h₂ => ?_) hE
  cases b with
  | false =>
    simp only [Bool.false_eq_true, if_false] at h₂ ⊢
    exact wpAny_execs_nil h₂
  | true =>
    simp only [if_true] at h₂ ⊢
    refine wpAny_mono h₂ (fun f s₃ h₃ => ?_) hE
    have fin : (∃ n', n' < n ∧ Turned H0 e X (Loose s.heap M) env (J n') g₁ s s₃) → ∃ m, m < n ∧ ∃ h₁ tk₁ g₁ m₁, s₃ = { s with heap := h₁, toks := tk₁ } ∧ Fm H0 e g₁ X True env h₁ m₁ ∧ Kp (Loose s.heap M) s.heap g₁ ∧ J m g₁ m₁ := by
      rintro ⟨n', hn, h', tk', g₂, m₂, rfl, F₂, k₂, j₂⟩
      exact ⟨n', hn, h', tk', g₂, m₂, rfl, F₂, k₁.trans k₂, j₂⟩
    cases f with
    | next => exact fin h₃
    | cont => exact fin h₃
    | brk => exact h₃
    | ret r => exact h₃
end
end PartQ4
section PartQ5
section
variable {prog : Program} {w : World} {A : Around} {E : Value → Shared → Prop} {s : Shared} {H0 e g : Heap} {X : Addr → Prop} {W : Prop} {env : Env} {m : Str → Option Value}

theorem Fm.other {h h' : Heap} {c : Addr} (F : Fm H0 e g X W env h m) (k : ∀ b o, b ≠ c → h.get? b = some o → h'.get? b = some o) (he : ∀ o, e.get? c ≠ some o) (hH : ∀ o, H0.get? c ≠ some o)
    (hL : env.locals ≠ c) (hC : ∀ x d, env.cells.lookup x = some d → d ≠ c) : Fm H0 e h' X W env h' m := by
  refine ⟨⟨fun b o q => k b o (fun r => hH o (r ▸ q)) (F.vw.old b o q), ?_, fun x d v hd hkd hv => ?_⟩, fun hw => ?_, fun a o q c => k a o (fun r => he o (r ▸ q)) (F.keepE a o q c), fun a o q => ?_, fun x d hd => ?_, .refl _⟩
  · obtain ⟨ml, hn, hm⟩ := F.vw.ns
    exact ⟨ml, hn.at' fun o q => k _ o hL q, hm⟩
  · obtain ⟨o, ho, hd'⟩ := F.vw.cell x d v hd hkd hv
    exact ⟨o, k d o (hC x d hd) ho, hd'⟩
  · have w := F.wr hw
    refine ⟨fun o ho => ?_, w.newL, w.lowL, fun x c hc => ?_, w.apart⟩
    · obtain ⟨ml, ⟨oL, _, _, ho', _⟩, _⟩ := F.vw.ns
      have := k _ oL hL ho'
      rw [this] at ho; cases ho; exact w.tagL _ ho'
    · obtain ⟨⟨v, h1⟩, r⟩ := w.cells x c hc
      exact ⟨⟨v, k c _ (hC x c hc) h1⟩, r⟩
  · obtain ⟨o', q'⟩ := F.domE a o q
    exact ⟨o', k a o' (fun r => he o (r ▸ q)) q'⟩
  · obtain ⟨v, q⟩ := F.live x d hd
    exact ⟨v, k d _ (hC x d hd) q⟩

noncomputable def Three (g : Heap) (a : Addr) : Prop := g.objs.size ≤ a ∧ a < g.objs.size + 3

noncomputable def compMap (scope : Scope) (x : Str) (v : Value) (m : Str → Option Value) : Str → Option Value := fun y => if y = x then some v else if scope.names.lookup y = some .local then none else m y

theorem relabel_back {env : Env} : ∀ {names : List (Str × NameKind)} {x : Str},
    (names.map fun (n, k) => if (k == NameKind.free && env.scope.kind == .function && env.kindOf n == some .cell) then (n, NameKind.cell) else (n, k)).lookup x = some .local → names.lookup x = some .local
  | [], _, h => h
  | (n, k) :: r, x, h => by
    have ih := @relabel_back env r x
    simp only [List.map_cons] at h
    by_cases hc : (k == NameKind.free && env.scope.kind == .function && env.kindOf n == some .cell) = true
    · rw [if_pos hc, List.lookup_cons] at h
      rw [List.lookup_cons]
      cases hx : x == n with
      | true => simp only [hx] at h; cases h
      | false => simp only [hx] at h ⊢; exact ih h
    · rw [if_neg hc, List.lookup_cons] at h
      rw [List.lookup_cons]
      cases hx : x == n with
      | true => simp only [hx] at h ⊢; exact h
      | false => simp only [hx] at h ⊢; exact ih h

theorem newCompEnv {M : Model} {A : Around} {E : Value → Shared → Prop} {s : Shared} {scope : Scope} {globals : Addr} {cl : List (Str × Addr)} {qual : Str} {env : Env} {Q : Env → Shared → Prop}
    (hc : ∀ x ∈ scope.names, x.2 ≠ .cell)
    (hQ : Q (newEnv scope s.heap.objs.size globals cl qual none .none (some env) builtinsNs) { s with heap := s.heap.push { cls := .type "dict", data := .dict #[] } }) :
    wpAny M A (newFunctionEnv scope globals cl [] qual none .none (some env)) Q E s := by
  simp only [newFunctionEnv, Option.isSome_some, if_true]
  refine wpAny_bind (wpAny_alloc ?_)
  rw [forIn_yield_id cl (fun x hx c => by
    have : (x.2 == NameKind.cell) = false := by simpa using hc _ hx
    obtain ⟨name, kind⟩ := x
    simp only [this, Bool.false_eq_true, if_false])]
  exact wpAny_bind (wpAny_pure (wpAny_bind (wpAny_pure (wpAny_pure hQ))))

noncomputable def TurnedC (H0 e : Heap) (M : Addr → Prop) (env : Env) (m' : Str → Option Value) (J : Heap → Prop) (g₁ : Heap) (s s₃ : Shared) : Prop :=
  ∃ h' tk' g₂, s₃ = { s with heap := h', toks := tk' } ∧ Fm H0 e g₂ M False env h' m' ∧ Kp M g₁ g₂ ∧ J g₂

noncomputable abbrev testsOf (prog : Program) (w : World) (ifs : List Expr) (env : Env) : Sem Bool := forIn ifs true fun c r => if r = true then do let ok ← isTrue c env (eval c env); pure (ForInStep.yield ok) else pure (ForInStep.yield r)

theorem compCore {elt iter : Expr} {x : Str} {px : Pos} {ifs : List Expr} {scope : Scope} {cl : List (Str × Addr)} {pos : Pos} {fp wr : List Addr} {n : Nat} {P : Nat → Value → Prop} {St : Nat → Heap → Prop} {Q : Value → Shared → Prop} (M : Addr → Prop) (J : Nat → Heap → List Value → Prop)
    (hcell : ∀ y ∈ scope.names, y.2 ≠ .cell) (hkind : scope.kind = .function) (hx : scope.names.lookup x = some .local) (hcl : ∀ p ∈ cl, env.cells.lookup p.1 = some p.2 ∧ (env.kindOf p.1 = some .cell ∨ env.kindOf p.1 = some .free) ∧ p.1 ≠ x ∧ scope.names.lookup p.1 ≠ some .local)
    (Wk : Walks prog w A g.objs.size fp wr n P St) (hwr : ∀ b ∈ wr, b = g.objs.size) (F : Fm H0 e g X W env g m) (o₀ : Obj) (hs : s.heap = g.push o₀) (hst : St 0 s.heap)
    (hIc : ∀ i h, St i h → ∃ o, h.get? g.objs.size = some o ∧ Loc o)
    (hfp : ∀ i h, St i h → ∀ b ∈ fp, b = g.objs.size ∨ ∃ o, g.get? b = some o ∧ (ld o → ¬ M b) ∧ ∀ o', h.get? b = some o' → o'.cls = o.cls)
    (hM : ∀ a, M a → ∃ o, g.get? a = some o) (hMX : ∀ a o, M a → e.get? a = some o → X a) (hM0 : ∀ a o, M a → g.get? a = some o → ld o) (hML : ∀ a, M a → a ≠ env.locals ∧ ∀ x c, env.cells.lookup x = some c → a ≠ c) (hM1 : ∀ a o, M a → H0.get? a ≠ some o) (hn : n ≤ sizeLine)
    (hj0 : J 0 g []) (hJ : ∀ i g' g'' ys, J i g' ys → Kp (Three g) g' g'' → J i g'' ys)
    (turn : ∀ i v ys C h₁ tk₁ E', i < n → P i v → Kp M g h₁ → J i h₁ ys → (∀ a, (Three g a ∨ ∃ o, e.get? a = some o) → ∃ o, h₁.get? a = some o) → Fm H0 h₁ h₁ M False (compEnvC scope cl C env) h₁ (compMap scope x v m) →
      wpAny (model prog w) A (testsOf prog w ifs (compEnvC scope cl C env)) (fun ok s₃ => if ok = true then
          wpAny (model prog w) A (eval elt (compEnvC scope cl C env)) (fun y s₄ => TurnedC H0 h₁ M (compEnvC scope cl C env) (compMap scope x v m) (fun g₂ => J (i + 1) g₂ (ys ++ [y])) h₁ s s₄) E' s₃
        else TurnedC H0 h₁ M (compEnvC scope cl C env) (compMap scope x v m) (fun g₂ => J (i + 1) g₂ ys) h₁ s s₃) E' { s with heap := h₁, toks := tk₁ })
    (done : ∀ h₁ tk₁ D ys, Fm H0 e h₁ X W env h₁ m → Kp M g h₁ → g.objs.size ≤ D → g.get? D = none → h₁.PlainList D ys.toArray → ys.length ≤ n → J n h₁ ys → Q (.ref D) { s with heap := h₁, toks := tk₁ }) :
    wpAny (model prog w) A (newList []) (fun acc s₃ => wpAny (model prog w) A (newFunctionEnv scope env.globals cl [] env.qual none .none (some env)) (fun cenv s₄ =>
      codeAny (model prog w) A (.compStart (.ListComp elt [⟨.Name x px, iter, ifs, 0⟩] scope pos) 0 (.ref g.objs.size) acc { cenv with scope := relabel scope env }) (compPost (model prog w) A E none Q acc cenv.locals) s₄) E s₃) E s := by
  refine wpAny_newObj_type (newCompEnv hcell ?_)
  dsimp only
  obtain ⟨sh, sg, sd, sto, so⟩ := s
  dsimp only at hs hst turn done ⊢
  subst hs
  have hD : (g.push o₀).objs.size = g.objs.size + 1 := Heap.size_push ..
  generalize hH2 : (g.push o₀).push { cls := .type "list", dict := none, data := .seq ([] : List Value).toArray } = H2
  have hC : H2.objs.size = g.objs.size + 2 := by rw [← hH2, Heap.size_push, hD]
  have hns₁ : (H2.push { cls := .type "dict", data := .dict #[] }).Ns (g.objs.size + 2) (fun _ => none) := hC ▸ Heap.Ns.new H2 (.type "dict")
  have hcls₁ : ∀ o, (H2.push { cls := .type "dict", data := .dict #[] }).get? (g.objs.size + 2) = some o → o.cls = .type "dict" := fun o ho => by rw [← hC, Heap.get?_push_size _ rfl] at ho; cases ho; rfl
  have s3' : Sub H2 (H2.push { cls := .type "dict", data := .dict #[] }) := Sub.push _ _
  rw [hD, hC]
  generalize H2.push { cls := .type "dict", data := .dict #[] } = h₁ at hns₁ hcls₁ s3' ⊢
  have gone : ∀ a, g.objs.size ≤ a → g.get? a = none := fun a ha => nolook ha
  have old : ∀ b o, g.get? b = some o → b < g.objs.size := fun b o q => Heap.lt_size q
  have eI : ∀ a, g.objs.size ≤ a → ∀ o, e.get? a ≠ some o := fun a ha o q => by obtain ⟨o', q'⟩ := F.domE a o q; rw [gone a ha] at q'; cases q'
  have HI : ∀ a, g.objs.size ≤ a → ∀ o, H0.get? a ≠ some o := fun a ha o q => by have := F.vw.old a o q; rw [gone a ha] at this; cases this
  have ltL : env.locals < g.objs.size := by obtain ⟨ml, ⟨oL, _, _, ho, _⟩, _⟩ := F.vw.ns; exact old _ _ ho
  have LI : ∀ a, g.objs.size ≤ a → env.locals ≠ a := fun a ha q => absurd (q ▸ ltL) (Nat.not_lt.mpr ha)
  have CI : ∀ a, g.objs.size ≤ a → ∀ x d, env.cells.lookup x = some d → d ≠ a := fun a ha x d hd q => by
    obtain ⟨v, hv⟩ := F.live x d hd
    exact absurd (old _ _ (q ▸ hv)) (Nat.not_lt.mpr ha)
  have MI : ∀ a, g.objs.size ≤ a → ¬ M a := fun a ha q => by obtain ⟨o, ho⟩ := hM a q; rw [gone a ha] at ho; cases ho
  have ne : ∀ b o c, g.get? b = some o → g.objs.size ≤ c → b ≠ c := fun b o c q hc r => absurd (r ▸ old b o q) (Nat.not_lt.mpr hc)
  have s1 : Sub g (g.push o₀) := Sub.push _ _
  have s2 : Sub (g.push o₀) H2 := hH2 ▸ Sub.push _ _
  have s3 : ∀ b o, b ≠ g.objs.size + 2 → H2.get? b = some o → h₁.get? b = some o := fun b o _ q => s3' b o q
  have n02 : g.objs.size ≠ g.objs.size + 2 := fun q => absurd q (by simp)
  have n12 : g.objs.size + 1 ≠ g.objs.size + 2 := fun q => absurd q (by simp)
  have n01 : g.objs.size ≠ g.objs.size + 1 := fun q => absurd q (by simp)
  have le1 : g.objs.size ≤ g.objs.size + 1 := Nat.le_add_right _ _
  have le2 : g.objs.size ≤ g.objs.size + 2 := Nat.le_add_right _ _
  have hD1 : h₁.PlainList (g.objs.size + 1) #[] := ⟨0, s3 _ _ n12 (by rw [← hH2, ← hD]; exact Heap.get?_push_size _ rfl)⟩
  have keep1 : ∀ b o, b ≠ g.objs.size + 2 → (g.push o₀).get? b = some o → h₁.get? b = some o := fun b o hb q => s3 b o hb (s2 b o q)
  have subg : Sub g h₁ := fun b o q => s3 b o (ne b o _ q le2) (s2 _ _ (s1 _ _ q))
  have F1 : Fm H0 e h₁ X W env h₁ m := F.ext subg
  have three : ∀ c, (c = g.objs.size ∨ c = g.objs.size + 1 ∨ c = g.objs.size + 2) → Three g c := fun c hc => by
    unfold Three
    rcases hc with rfl | rfl | rfl
    · exact ⟨Nat.le_refl _, Nat.lt_add_of_pos_right (by decide)⟩
    · exact ⟨le1, Nat.add_lt_add_left (by decide) _⟩
    · exact ⟨le2, Nat.add_lt_add_left (by decide) _⟩
  have eThree : ∀ c, Three g c → c = g.objs.size ∨ c = g.objs.size + 1 ∨ c = g.objs.size + 2 := fun c hc => by
    unfold Three at hc
    generalize g.objs.size = k at *
    have h1 : k ≤ c := hc.1
    have h2 : c < k + 3 := hc.2
    have : ∀ a b : Nat, a ≤ b → b < a + 3 → b = a ∨ b = a + 1 ∨ b = a + 2 := by omega
    exact this k c h1 h2
  have stC : ∀ i h, St i h → ∃ o, h.get? g.objs.size = some o ∧ Loc o := hIc
  have hst1 : St 0 h₁ := Wk.frame _ _ _ hst fun b hb o q => keep1 b o (fun r => by
    rcases hfp 0 _ hst b hb with rfl | ⟨o', ho', _⟩
    · exact n02 r
    · exact ne b o' _ ho' le2 r) q
  have hfpI : ∀ i h, St i h → ∀ b ∈ fp, ∀ o, h.get? b = some o → (b ≠ g.objs.size + 1 ∧ b ≠ g.objs.size + 2) ∧ (ld o → ¬ M b) := fun i h st b hb o q => by
    rcases hfp i h st b hb with rfl | ⟨o', ho', hc, hcl⟩
    · exact ⟨⟨n01, n02⟩, fun _ => MI _ (Nat.le_refl _)⟩
    · exact ⟨⟨ne b o' _ ho' le1, ne b o' _ ho' le2⟩, fun hl => hc (by unfold ld at hl ⊢; rw [← hcl o q]; exact hl)⟩
  have hIw : ∀ b, b ≠ g.objs.size → b ∉ wr := fun b hb hm => hb (hwr b hm)
  have hkp : (compEnvC scope cl (g.objs.size + 2) env).scope.kind = .function := by simp [compEnvC, relabel, hkind]
  have hp : ((compEnvC scope cl (g.objs.size + 2) env).scope.kind == .class || ((compEnvC scope cl (g.objs.size + 2) env).scope.kind == .module && (compEnvC scope cl (g.objs.size + 2) env).locals != (compEnvC scope cl (g.objs.size + 2) env).globals)) = false := by
    rw [hkp]; rfl
  have hxl : (compEnvC scope cl (g.objs.size + 2) env).kindOf x = some .local := lookup_relabel_local hx
  have relL : ∀ y, (compEnvC scope cl (g.objs.size + 2) env).kindOf y = some .local → scope.names.lookup y = some .local := fun y h => relabel_back h
  have loop : ∀ s₃ : Shared, s₃ = { heap := h₁, gens := sg, drawn := sd, toks := sto, os := so } →
      codeAny (model prog w) A (.compLoop (.ListComp elt [⟨.Name x px, iter, ifs, 0⟩] scope pos) 0 (.ref g.objs.size) (.ref (g.objs.size + 1)) (compEnvC scope cl (g.objs.size + 2) env))
        (compPost (model prog w) A E none Q (.ref (g.objs.size + 1)) (g.objs.size + 2)) s₃ := by
    rintro s₃ rfl
    refine codeAny_compLoop_tests (fun k s' => ∃ h' tk mc ys i, s' = { heap := h', gens := sg, drawn := sd, toks := tk, os := so } ∧ St i h' ∧ Fm H0 e h' X W env h' m ∧ h'.Ns (g.objs.size + 2) mc ∧
        (∀ o, h'.get? (g.objs.size + 2) = some o → o.cls = .type "dict") ∧ h'.PlainList (g.objs.size + 1) ys.toArray ∧ Kp M g h' ∧ J i h' ys ∧ ys.length ≤ i ∧ i ≤ n ∧ k = n + 1 - i) ?_ (n + 1)
      ⟨h₁, _, _, [], 0, rfl, hst1, F1, hns₁, hcls₁, hD1, subg.kp, hJ 0 _ _ [] hj0 subg.kp, Nat.zero_le _, Nat.zero_le _, rfl⟩
    · rintro k s' ⟨h', tk, mc, ys, i, rfl, hst', F', hn', hcC, hl', hk', hj', hys, hi, rfl⟩
      -- the iterator's step
      have step : ∀ h₂, (∀ b o, b ∉ wr → h'.get? b = some o → h₂.get? b = some o) → Fm H0 e h₂ X W env h₂ m ∧ Kp (Three g) h' h₂ ∧ h₂.Ns (g.objs.size + 2) mc ∧ h₂.PlainList (g.objs.size + 1) ys.toArray ∧ Kp M g h₂ ∧ (∀ o, h₂.get? (g.objs.size + 2) = some o → o.cls = .type "dict") := by
        intro h₂ hk₂
        have kk : ∀ b o, b ≠ g.objs.size → h'.get? b = some o → h₂.get? b = some o := fun b o hb q => hk₂ b o (hIw b hb) q
        refine ⟨F'.other kk (eI _ (Nat.le_refl _)) (HI _ (Nat.le_refl _)) (LI _ (Nat.le_refl _)) (CI _ (Nat.le_refl _)), ⟨fun a o q c => kk a o (fun r => ?_) q⟩, hn'.at' fun o q => kk _ o (Ne.symm n02) q, hl'.at fun o q => kk _ o (Ne.symm n01) q,
          ⟨fun a o q c => kk a o (ne a o _ q (Nat.le_refl _)) (hk'.keep a o q c)⟩, fun o ho => ?_⟩
        · obtain ⟨o', ho', c1, c2, c3⟩ := stC i h' hst'
          rw [r, ho'] at q; cases q
          rcases c with c | ⟨x, c⟩ | c
          · exact c1 c
          · exact c2 x c
          · exact c3 c.1
        · obtain ⟨oC, _, _, hoC, _⟩ := hn'
          have := kk _ oC (Ne.symm n02) hoC
          rw [this] at ho; cases ho; exact hcC _ hoC
      by_cases hlt : i < n
      · refine Wk.item i _ _ _ hlt hst' fun v h₂ tk₂ hP hst₂ hk₂ => ?_
        obtain ⟨F₂, kp₂, hn₂, hl₂, hm₂, hcC₂⟩ := step h₂ hk₂
        refine wpAny_assign_Name ?_
        rw [storeName_local hxl hp]
        refine nsSet_tag hn₂ fun h₃ hn₃ hs₃ ht₃ => ?_
        have hs₃' : ∀ b o, b ≠ g.objs.size + 2 → h₂.get? b = some o → h₃.get? b = some o := fun b o hb q => (hs₃.2 b hb).trans q
        have F₃ : Fm H0 e h₃ X W env h₃ m := F₂.other hs₃' (eI _ le2) (HI _ le2) (LI _ le2) (CI _ le2)
        have hcC₃ : ∀ o, h₃.get? (g.objs.size + 2) = some o → o.cls = .type "dict" := fun o ho => by obtain ⟨o', ho', hc'⟩ := ht₃ o ho; rw [hc']; exact hcC₂ o' ho'
        have kp₃ : Kp (Three g) h₂ h₃ := ⟨fun a o q c => by
          by_cases r : a = g.objs.size + 2
          · subst r
            have hcc := hcC₂ o q
            rcases c with c | ⟨x, c⟩ | c
            · rw [hcc] at c; simp at c
            · rw [hcc] at c; simp at c
            · exact absurd (three _ (.inr (.inr rfl))) c.2
          · exact hs₃' a o r q⟩
        have hm₃ : Kp M g h₃ := ⟨fun a o q c => hs₃' a o (ne a o _ q le2) (hm₂.keep a o q c)⟩
        have hl₃ := hl₂.at fun o q => hs₃' _ o n12 q
        have hst₃ : St (i + 1) h₃ := Wk.frame _ _ _ hst₂ fun b hb o q => hs₃' b o (hfpI _ _ hst₂ b hb o q).1.2 q
        have Fc : Fm H0 h₃ h₃ M False (compEnvC scope cl (g.objs.size + 2) env) h₃ (compMap scope x v m) := by
          refine ⟨⟨F₃.vw.old, ⟨_, hn₃, fun y u hy hu => ?_⟩, fun y c u hc hkd hu => ?_⟩, fun x => x.elim, fun a o q _ => q, fun a o q => ⟨o, q⟩, fun y c hc => ?_, .refl _⟩
          · unfold compMap at hu
            by_cases hyx : y = x
            · simp only [if_pos hyx] at hu ⊢; exact hu
            · simp only [if_neg hyx, if_pos (relL y hy)] at hu; cases hu
          · obtain ⟨c1, c2, c3, c4⟩ := hcl _ (mem_of_lookup hc)
            unfold compMap at hu
            rw [if_neg c3, if_neg c4] at hu
            exact F₃.vw.cell y c u c1 c2 hu
          · exact F₃.live y c (hcl _ (mem_of_lookup hc)).1
        have alive : ∀ a, (Three g a ∨ ∃ o, e.get? a = some o) → ∃ o, h₃.get? a = some o := fun a ha => by
          rcases ha with ha | ⟨o, ho⟩
          case inr => exact F₃.domE a o ho
          rcases eThree a ha with rfl | rfl | rfl
          · obtain ⟨o, ho, _⟩ := stC _ _ hst₃; exact ⟨o, ho⟩
          · obtain ⟨_, ho⟩ := hl₃; exact ⟨_, ho⟩
          · obtain ⟨o, _, _, ho, _⟩ := hn₃; exact ⟨o, ho⟩
        have T := turn i v ys (g.objs.size + 2) h₃ (tk₂ + 1) (notedBy (model prog w) A (compEnvC scope cl (g.objs.size + 2) env) fun e s' => compPost (model prog w) A E none Q (.ref (g.objs.size + 1)) (g.objs.size + 2) (.error e) s') hlt hP hm₃ (hJ _ _ _ _ (hJ _ _ _ _ hj' kp₂) kp₃) alive Fc
        -- what the turn keeps
        have back : ∀ h₄ g₂, Fm H0 h₃ g₂ M False (compEnvC scope cl (g.objs.size + 2) env) h₄ (compMap scope x v m) → Kp M h₃ g₂ →
            Fm H0 e h₄ X W env h₄ m ∧ Kp M g h₄ ∧ h₄.Ns (g.objs.size + 2) (fun y => if y = x then some v else mc y) ∧ (∀ o, h₄.get? (g.objs.size + 2) = some o → o.cls = .type "dict") ∧ h₄.PlainList (g.objs.size + 1) ys.toArray ∧ St (i + 1) h₄ := by
          intro h₄ g₂ F₄ k₄
          have kk : ∀ b o, (ld o → ¬ M b) → h₃.get? b = some o → h₄.get? b = some o := fun b o c q => F₄.keepE b o q c
          have keepL : ∀ o, h₃.get? env.locals = some o → h₄.get? env.locals = some o := fun o q => kk _ o (fun _ hm => (hML _ hm).1 rfl) q
          have keepC : ∀ x c o, env.cells.lookup x = some c → h₃.get? c = some o → h₄.get? c = some o := fun x c o hc q => kk _ o (fun _ hm => (hML _ hm).2 x c hc rfl) q
          have hnC := hn₃.at' fun o q => kk _ o (fun _ => MI _ le2) q
          refine ⟨⟨⟨F₄.vw.old, ?_, fun y c u hc hkd hu => ?_⟩, fun hw => ?_, fun a o q c => ?_, fun a o q => ?_, fun y c hc => ?_, .refl _⟩, ⟨fun a o q c => ?_⟩, hnC, fun o ho => ?_, hl₃.at fun o q => kk _ o (fun _ => MI _ le1) q, Wk.frame _ _ _ hst₃ fun b hb o q => kk b o (hfpI _ _ hst₃ b hb o q).2 q⟩
          · obtain ⟨ml, hn, hm⟩ := F₃.vw.ns
            exact ⟨ml, hn.at' keepL, hm⟩
          · obtain ⟨o, ho, hd⟩ := F₃.vw.cell y c u hc hkd hu
            exact ⟨o, keepC y c o hc ho, hd⟩
          · have wr' := F₃.wr hw
            refine ⟨fun o ho => ?_, wr'.newL, wr'.lowL, fun y c hc => ?_, wr'.apart⟩
            · obtain ⟨ml, ⟨oL, _, _, ho', _⟩, _⟩ := F₃.vw.ns
              have := keepL oL ho'
              rw [this] at ho; cases ho; exact wr'.tagL _ ho'
            · obtain ⟨⟨u, h1⟩, r⟩ := wr'.cells y c hc
              exact ⟨⟨u, keepC y c _ hc h1⟩, r⟩
          · exact kk a o (fun hl hm => c hl (hMX a o hm q)) (F₃.keepE a o q c)
          · obtain ⟨o', q'⟩ := F₃.domE a o q
            exact F₄.domE a o' q'
          · obtain ⟨u, h1⟩ := F₃.live y c hc
            exact ⟨u, keepC y c _ hc h1⟩
          · refine kk a o (fun hl hm => ?_) (hm₃.keep a o q c)
            rcases c with c | ⟨x, c⟩ | c
            · unfold ld at hl; rw [c] at hl; simp at hl
            · unfold ld at hl; rw [c] at hl; simp at hl
            · exact c.2 hm
          · obtain ⟨oC, _, _, hoC, _⟩ := hn₃
            have := kk _ oC (fun _ => MI _ le2) hoC
            rw [this] at ho; cases ho; exact hcC₃ _ hoC
        refine wpAny_mono T (fun ok s₄ h₄ => ?_) fun _ _ x => x
        cases ok with
        | false =>
          simp only [Bool.false_eq_true, if_false] at h₄ ⊢
          obtain ⟨h₅, tk₅, g₂, rfl, F₅, k₅, j₅⟩ := h₄
          obtain ⟨b1, b2, b3, b4, b5, b6⟩ := back h₅ g₂ F₅ k₅
          exact ⟨n + 1 - (i + 1), by omega, h₅, tk₅, _, ys, i + 1, rfl, b6, b1, b3, b4, b5, b2, hJ _ _ _ _ j₅ (F₅.keepG.weaken fun _ x => x.elim), Nat.le_succ_of_le hys, hlt, rfl⟩
        | true =>
          simp only [if_true] at h₄ ⊢
          refine wpAny_mono h₄ (fun y s₅ h₅ => ?_) fun _ _ x => x
          obtain ⟨h₅, tk₅, g₂, rfl, F₅, k₅, j₅⟩ := h₅
          obtain ⟨b1, b2, b3, b4, b5, b6⟩ := back h₅ g₂ F₅ k₅
          refine wpAny_list_append_plain (hsz := by simp; omega) b5 fun h₆ hl₆ hs₆ => ?_
          have kk : ∀ b o, b ≠ g.objs.size + 1 → h₅.get? b = some o → h₆.get? b = some o := fun b o hb q => (hs₆.2 b hb).trans q
          refine ⟨n + 1 - (i + 1), by omega, h₆, tk₅, _, ys ++ [y], i + 1, rfl, Wk.frame _ _ _ b6 fun b hb o q => kk b o (hfpI _ _ b6 b hb o q).1.1 q, b1.other kk (eI _ le1) (HI _ le1) (LI _ le1) (CI _ le1), b3.at' fun o q => kk _ o (Ne.symm n12) q,
            fun o ho => ?_, ?_, ⟨fun a o q c => kk a o (ne a o _ q le1) (b2.keep a o q c)⟩, hJ _ _ _ _ (hJ _ _ _ _ j₅ (F₅.keepG.weaken fun _ x => x.elim)) ⟨fun a o q c => ?_⟩, by simp; omega, hlt, rfl⟩
          · obtain ⟨oC, _, _, hoC, _⟩ := b3
            have := kk _ oC (Ne.symm n12) hoC
            rw [this] at ho; cases ho; exact b4 _ hoC
          · simpa using hl₆
          · by_cases r : a = g.objs.size + 1
            · subst r
              obtain ⟨nn, hq⟩ := b5
              rw [hq] at q; cases q
              rcases c with c | ⟨x, c⟩ | c
              · simp at c
              · simp at c
              · exact absurd (three _ (.inr (.inl rfl))) c.2
            · exact kk a o r q
      · have hin : i = n := by omega
        subst hin
        refine Wk.done _ _ _ hst' fun h₂ tk₂ hk₂ => ?_
        obtain ⟨F₂, kp₂, hn₂, hl₂, hm₂, hcC₂⟩ := step h₂ hk₂
        refine ⟨_, hn₂, fun h₃ hs₃ => ?_⟩
        have hs₃' : ∀ b o, b ≠ g.objs.size + 2 → h₂.get? b = some o → h₃.get? b = some o := fun b o hb q => (hs₃.2 b hb).trans q
        refine done h₃ tk₂ _ ys (F₂.other hs₃' (eI _ le2) (HI _ le2) (LI _ le2) (CI _ le2)) ⟨fun a o q c => hs₃' a o (ne a o _ q le2) (hm₂.keep a o q c)⟩ le1 (gone _ le1) (hl₂.at fun o q => hs₃' _ o n12 q) hys (hJ _ _ _ _ (hJ _ _ _ _ hj' kp₂) ⟨fun a o q c => ?_⟩)
        by_cases r : a = g.objs.size + 2
        · subst r
          have hcc := hcC₂ o q
          rcases c with c | ⟨x, c⟩ | c
          · rw [hcc] at c; simp at c
          · rw [hcc] at c; simp at c
          · exact absurd (three _ (.inr (.inr rfl))) c.2
        · exact hs₃' a o r q
  exact codeAny_compStart_list (loop _ rfl) (Wk.self 0 _ _ _ hst1 (loop _ rfl))
end
end PartQ5
section PartQ6
section
variable {prog : Program} {w : World} {A : Around} {E : Value → Shared → Prop} {s : Shared} {H0 e g : Heap} {X : Addr → Prop} {W : Prop} {env : Env} {m : Str → Option Value}
  {elt iter : Expr} {x : Str} {px : Pos} {ifs : List Expr} {scope : Scope} {cl : List (Str × Addr)} {pos : Pos} {Q : Value → Shared → Prop}

noncomputable abbrev CompGoal (prog : Program) (w : World) (A : Around) (E : Value → Shared → Prop) (env : Env) (scope : Scope) (cl : List (Str × Addr)) (e : Expr) (acc : Sem Value) (Q : Value → Shared → Prop) (it : Value) (s : Shared) : Prop :=
  wpAny (model prog w) A acc (fun acc s₃ => wpAny (model prog w) A (newFunctionEnv scope env.globals cl [] env.qual none .none (some env)) (fun cenv s₄ =>
      codeAny (model prog w) A (.compStart e 0 it acc { cenv with scope := relabel scope env }) (compPost (model prog w) A E none Q acc cenv.locals) s₄) E s₃) E s

theorem compEval (h : wpAny (model prog w) A (eval iter env) (fun xv s₁ => wpAny (model prog w) A (pyIter xv) (fun it s₂ => CompGoal prog w A E env scope cl (.ListComp elt [⟨.Name x px, iter, ifs, 0⟩] scope pos) (newList []) Q it s₂) E s₁) E s)
    (hclos : closureFor scope env = pure cl) (hnames : ∀ y ∈ scope.names, y.2 = .local → scope.names.lookup y.1 = some .local) (hkind : scope.kind = .function := by rfl)
    (hs : ∀ x, foldedSetIterable iter env x = pure x := by intro _; rfl) :
    wpAny (model prog w) A (eval (.ListComp elt [⟨.Name x px, iter, ifs, 0⟩] scope pos) env) Q E s := by
  rw [eval_ListComp]
  exact wpAny_comprehension_free (use := none) rfl hs hclos hkind hnames h

structure CompOk (scope : Scope) (env : Env) (x : Str) (cl : List (Str × Addr)) : Prop where
  cell : ∀ y ∈ scope.names, y.2 ≠ .cell
  kind : scope.kind = .function
  var : scope.names.lookup x = some .local
  cl : ∀ p ∈ cl, env.cells.lookup p.1 = some p.2 ∧ (env.kindOf p.1 = some .cell ∨ env.kindOf p.1 = some .free) ∧ p.1 ≠ x ∧ scope.names.lookup p.1 ≠ some .local

noncomputable abbrev CTurn (prog : Program) (w : World) (A : Around) (H0 : Heap) (M : Addr → Prop) (env : Env) (scope : Scope) (cl : List (Str × Addr)) (x : Str) (ifs : List Expr) (elt : Expr) (m : Str → Option Value) (J : Heap → List Value → Prop) (s : Shared) (v : Value) (ys : List Value) (C : Addr) (h₁ : Heap) (tk₁ : Nat) (E' : Value → Shared → Prop) : Prop :=
  wpAny (model prog w) A (testsOf prog w ifs (compEnvC scope cl C env)) (fun ok s₃ => if ok = true then
          wpAny (model prog w) A (eval elt (compEnvC scope cl C env)) (fun y s₄ => TurnedC H0 h₁ M (compEnvC scope cl C env) (compMap scope x v m) (fun g₂ => J g₂ (ys ++ [y])) h₁ s s₄) E' s₃
        else TurnedC H0 h₁ M (compEnvC scope cl C env) (compMap scope x v m) (fun g₂ => J g₂ ys) h₁ s s₃) E' { s with heap := h₁, toks := tk₁ }

structure MOk (H0 e g : Heap) (X M : Addr → Prop) (env : Env) : Prop where
  dom : ∀ a, M a → ∃ o, g.get? a = some o
  out : ∀ a o, M a → e.get? a = some o → X a
  isld : ∀ a o, M a → g.get? a = some o → ld o
  loc : ∀ a, M a → a ≠ env.locals ∧ ∀ x c, env.cells.lookup x = some c → a ≠ c
  top : ∀ a o, M a → H0.get? a ≠ some o
theorem MOk.nil : MOk H0 e g X Nil env := ⟨fun _ x => x.elim, fun _ _ x => x.elim, fun _ _ x => x.elim, fun _ x => x.elim, fun _ _ x => x.elim⟩

theorem compList {ax : Addr} {vs : List Value} (M : Addr → Prop) (J : Nat → Heap → List Value → Prop) (ok : CompOk scope env x cl) (hl : s.heap.IsList ax vs.toArray) (F : Fm H0 e g X W env s.heap m) (hX : ¬ M ax) (mk : MOk H0 e s.heap X M env)
    (hn : vs.length ≤ sizeLine) (hj0 : J 0 s.heap []) (hJ : ∀ i g' g'' ys, J i g' ys → Kp (Three s.heap) g' g'' → J i g'' ys)
    (turn : ∀ i v ys C h₁ tk₁ E', vs[i]? = some v → Kp M s.heap h₁ → J i h₁ ys → (∀ a, (Three s.heap a ∨ ∃ o, e.get? a = some o) → ∃ o, h₁.get? a = some o) → Fm H0 h₁ h₁ M False (compEnvC scope cl C env) h₁ (compMap scope x v m) →
      CTurn prog w A H0 M env scope cl x ifs elt m (J (i + 1)) s v ys C h₁ tk₁ E')
    (done : ∀ h₁ tk₁ D ys, Fm H0 e h₁ X W env h₁ m → Kp M s.heap h₁ → s.heap.objs.size ≤ D → s.heap.get? D = none → h₁.PlainList D ys.toArray → ys.length ≤ vs.length → J vs.length h₁ ys → Q (.ref D) { s with heap := h₁, toks := tk₁ })
    (hh : A.handled = none) :
    wpAny (model prog w) A (pyIter (.ref ax)) (fun it s₂ => CompGoal prog w A E env scope cl (.ListComp elt [⟨.Name x px, iter, ifs, 0⟩] scope pos) (newList []) Q it s₂) E s := by
  refine wpAny_pyIter_list hl ?_
  obtain ⟨ol, hol, hcl, hdl⟩ := id hl
  have hne : ax ≠ s.heap.objs.size := Nat.ne_of_lt (Heap.lt_size hol)
  have hlen : vs.toArray.size = vs.length := by simp
  have Wk := Walks.list (prog := prog) (w := w) hh s.heap.objs.size ax hne vs.toArray
  rw [hlen] at Wk
  exact compCore (s := { s with heap := s.heap.push { cls := .type "list_iterator", data := .fields #[.ref ax, .int 0 0] } }) (g := s.heap) M J ok.cell ok.kind ok.var ok.cl Wk (fun b hb => by simpa using hb) F.here _ rfl
    ⟨⟨_, Heap.get?_push_size _ rfl, rfl, rfl⟩, hl.push _⟩
    (fun i h st => by obtain ⟨⟨o', ho', c, _⟩, _⟩ := st; exact ⟨o', ho', by rw [c]; simp, by rw [c]; simp, by unfold ld; rw [c]; simp⟩)
    (fun i h st b hb => by
      rcases List.mem_cons.mp hb with rfl | hb
      · exact .inl rfl
      · rw [List.mem_singleton.mp hb]
        refine .inr ⟨ol, hol, fun _ => hX, fun o' ho' => ?_⟩
        obtain ⟨_, o'', ho'', c, _⟩ := st
        rw [ho'] at ho''; cases ho''; rw [c, hcl])
    mk.dom mk.out mk.isld mk.loc mk.top hn hj0 hJ
    (fun i v ys C h₁ tk₁ E' hi hP => turn i v ys C h₁ tk₁ E' (by simpa using hP)) done

theorem compTup {ax : Addr} {vs : List Value} (M : Addr → Prop) (J : Nat → Heap → List Value → Prop) (ok : CompOk scope env x cl) (hl : IsTup s.heap ax vs.toArray) (F : Fm H0 e g X W env s.heap m) (mk : MOk H0 e s.heap X M env)
    (hn : vs.length ≤ sizeLine) (hj0 : J 0 s.heap []) (hJ : ∀ i g' g'' ys, J i g' ys → Kp (Three s.heap) g' g'' → J i g'' ys)
    (turn : ∀ i v ys C h₁ tk₁ E', vs[i]? = some v → Kp M s.heap h₁ → J i h₁ ys → (∀ a, (Three s.heap a ∨ ∃ o, e.get? a = some o) → ∃ o, h₁.get? a = some o) → Fm H0 h₁ h₁ M False (compEnvC scope cl C env) h₁ (compMap scope x v m) →
      CTurn prog w A H0 M env scope cl x ifs elt m (J (i + 1)) s v ys C h₁ tk₁ E')
    (done : ∀ h₁ tk₁ D ys, Fm H0 e h₁ X W env h₁ m → Kp M s.heap h₁ → s.heap.objs.size ≤ D → s.heap.get? D = none → h₁.PlainList D ys.toArray → ys.length ≤ vs.length → J vs.length h₁ ys → Q (.ref D) { s with heap := h₁, toks := tk₁ })
    (hh : A.handled = none) :
    wpAny (model prog w) A (pyIter (.ref ax)) (fun it s₂ => CompGoal prog w A E env scope cl (.ListComp elt [⟨.Name x px, iter, ifs, 0⟩] scope pos) (newList []) Q it s₂) E s := by
  have hl' : s.heap.IsTuple ax vs.toArray := hl
  refine wpAny_pyIter_tuple hl' ?_
  obtain ⟨ol, hol, hcl, hdl⟩ := id hl
  have hne : ax ≠ s.heap.objs.size := Nat.ne_of_lt (Heap.lt_size hol)
  have hlen : vs.toArray.size = vs.length := by simp
  have Wk := Walks.tuple (prog := prog) (w := w) hh s.heap.objs.size ax hne vs.toArray
  rw [hlen] at Wk
  exact compCore (s := { s with heap := s.heap.push { cls := .type "tuple_iterator", data := .fields #[.ref ax, .int 0 0] } }) (g := s.heap) M J ok.cell ok.kind ok.var ok.cl Wk (fun b hb => by simpa using hb) F.here _ rfl
    ⟨⟨_, Heap.get?_push_size _ rfl, rfl, rfl⟩, hl'.push _⟩
    (fun i h st => by obtain ⟨⟨o', ho', c, _⟩, _⟩ := st; exact ⟨o', ho', by rw [c]; simp, by rw [c]; simp, by unfold ld; rw [c]; simp⟩)
    (fun i h st b hb => by
      rcases List.mem_cons.mp hb with rfl | hb
      · exact .inl rfl
      · rw [List.mem_singleton.mp hb]
        refine .inr ⟨ol, hol, fun q => ?_, fun o' ho' => ?_⟩
        · unfold ld at q; rw [hcl] at q; simp at q
        · obtain ⟨_, o'', ho'', c, _⟩ := st
          rw [ho'] at ho''; cases ho''; rw [c, hcl])
    mk.dom mk.out mk.isld mk.loc mk.top hn hj0 hJ
    (fun i v ys C h₁ tk₁ E' hi hP => turn i v ys C h₁ tk₁ E' (by simpa using hP)) done

theorem compRange {r : Addr} {a b c : Int} {t u v₀ : Tok} {n : Nat} (M : Addr → Prop) (J : Nat → Heap → List Value → Prop) (ok : CompOk scope env x cl) (hr : IsRange s.heap r a b c t u v₀) (hsmall : Builtin.Range.small a b c = true) (hsz : Builtin.Range.rangeSize a b c = (n : Int)) (F : Fm H0 e g X W env s.heap m) (mk : MOk H0 e s.heap X M env)
    (hn : n ≤ sizeLine) (hj0 : J 0 s.heap []) (hJ : ∀ i g' g'' ys, J i g' ys → Kp (Three s.heap) g' g'' → J i g'' ys)
    (turn : ∀ i v tk ys C h₁ tk₁ E', i < n → v = a + i * c → Kp M s.heap h₁ → J i h₁ ys → (∀ a, (Three s.heap a ∨ ∃ o, e.get? a = some o) → ∃ o, h₁.get? a = some o) → Fm H0 h₁ h₁ M False (compEnvC scope cl C env) h₁ (compMap scope x (.int v tk) m) →
      CTurn prog w A H0 M env scope cl x ifs elt m (J (i + 1)) s (.int v tk) ys C h₁ tk₁ E')
    (done : ∀ h₁ tk₁ D ys, Fm H0 e h₁ X W env h₁ m → Kp M s.heap h₁ → s.heap.objs.size ≤ D → s.heap.get? D = none → h₁.PlainList D ys.toArray → ys.length ≤ n → J n h₁ ys → Q (.ref D) { s with heap := h₁, toks := tk₁ })
    (hh : A.handled = none) :
    wpAny (model prog w) A (pyIter (.ref r)) (fun it s₂ => CompGoal prog w A E env scope cl (.ListComp elt [⟨.Name x px, iter, ifs, 0⟩] scope pos) (newList []) Q it s₂) E s := by
  refine wpAny_pyIter_range hr hsmall ?_
  exact compCore (s := { s with heap := s.heap.push { cls := .type "range_iterator", data := .fields #[rawInt a, rawInt (Builtin.Range.rangeSize a b c), rawInt c] } }) (g := s.heap) M J ok.cell ok.kind ok.var ok.cl
    (Walks.range (prog := prog) (w := w) hh s.heap.objs.size a c n) (fun b hb => by simpa using hb) F.here _ rfl
    (by show IsRangeIter _ _ _ _ _; rw [hsz]; simpa using Heap.get?_push_size _ rfl)
    (fun i h st => ⟨_, st, by simp, by simp, by simp [ld]⟩)
    (fun i h st b hb => .inl (List.mem_singleton.mp hb))
    mk.dom mk.out mk.isld mk.loc mk.top hn hj0 hJ
    (by rintro i v ys C h₁ tk₁ E' hi ⟨tk, hP⟩; exact by subst hP; exact turn i _ tk ys C h₁ tk₁ E' hi rfl) done
end
end PartQ6
section PartQ7
section
variable {M : Model} {A : Around} {E : Value → Shared → Prop} {s : Shared} {H0 e g : Heap} {X : Addr → Prop} {W : Prop} {env : Env} {m : Str → Option Value}

theorem tupNew {vs : List Value} {Q : Value → Shared → Prop} (F : Fm H0 e g X W env s.heap m)
    (h : ∀ a h', Fm H0 e h' X W env h' m → Kp Nil g h' → Sub s.heap h' → s.heap.get? a = none → IsTup h' a vs.toArray → Q (.ref a) { s with heap := h' }) (hsz : vs.length ≤ sizeLine := by size_fits) :
    wpAny M A (newTuple vs) Q E s :=
  wpAny_newObj_type (h s.heap.objs.size _ (F.ext (Sub.push _ _)) (F.link (Sub.push _ _)) (Sub.push _ _) (at_new _) ⟨_, Heap.get?_push_size _ rfl, rfl, 0, rfl⟩) (by show vs.toArray.size ≤ sizeLine; rw [List.size_toArray]; exact hsz)
theorem listNew {vs : List Value} {Q : Value → Shared → Prop} (F : Fm H0 e g X W env s.heap m)
    (h : ∀ a h', Fm H0 e h' X W env h' m → Kp Nil g h' → Sub s.heap h' → s.heap.get? a = none → h'.PlainList a vs.toArray → Q (.ref a) { s with heap := h' }) (hsz : vs.length ≤ sizeLine := by size_fits) :
    wpAny M A (newList vs) Q E s :=
  wpAny_newObj_type (h s.heap.objs.size _ (F.ext (Sub.push _ _)) (F.link (Sub.push _ _)) (Sub.push _ _) (at_new _) ⟨0, Heap.get?_push_size _ rfl⟩) (by show vs.toArray.size ≤ sizeLine; rw [List.size_toArray]; exact hsz)
end
end PartQ7
section PartQ8
noncomputable def Rd (N : Addr → Prop) (h : Heap) (v : Value) (d : PyData) : Prop := ∃ as, Reads h v d as ∧ ∀ a ∈ as, N a
noncomputable def Rds (N : Addr → Prop) (h : Heap) (vs : List Value) (ds : List PyData) : Prop := ∃ as, ReadsAll h vs ds as ∧ ∀ a ∈ as, N a

section
variable {N N' X : Addr → Prop} {h h' : Heap} {v : Value} {d : PyData} {vs ws : List Value} {ds es : List PyData}
theorem Rd.kp (r : Rd N h v d) (k : Kp X h h') (hx : ∀ a, N a → ¬ X a) : Rd N h' v d := by obtain ⟨as, a, b⟩ := r; exact ⟨as, k.reads a fun x hm => hx x (b x hm), b⟩
theorem Rds.kp (r : Rds N h vs ds) (k : Kp X h h') (hx : ∀ a, N a → ¬ X a) : Rds N h' vs ds := by obtain ⟨as, a, b⟩ := r; exact ⟨as, k.readsAll a fun x hm => hx x (b x hm), b⟩
theorem Rd.kp0 (r : Rd N h v d) (k : Kp Nil h h') : Rd N h' v d := r.kp k fun _ _ x => x
theorem Rds.kp0 (r : Rds N h vs ds) (k : Kp Nil h h') : Rds N h' vs ds := r.kp k fun _ _ x => x
theorem Rd.imm (r : Rd Nil h v d) (k : Kp X h h') : Rd Nil h' v d := r.kp k fun _ x => x.elim
theorem Rds.imm (r : Rds Nil h vs ds) (k : Kp X h h') : Rds Nil h' vs ds := r.kp k fun _ x => x.elim
theorem Rd.sub (r : Rd N h v d) (k : Sub h h') : Rd N h' v d := r.kp (X := Nil) k.kp fun _ _ x => x
theorem Rds.sub (r : Rds N h vs ds) (k : Sub h h') : Rds N h' vs ds := r.kp (X := Nil) k.kp fun _ _ x => x
theorem Rd.mono (r : Rd N h v d) (hs : ∀ a, N a → N' a) : Rd N' h v d := by obtain ⟨as, a, b⟩ := r; exact ⟨as, a, fun x hm => hs x (b x hm)⟩
theorem Rds.mono (r : Rds N h vs ds) (hs : ∀ a, N a → N' a) : Rds N' h vs ds := by obtain ⟨as, a, b⟩ := r; exact ⟨as, a, fun x hm => hs x (b x hm)⟩
theorem Rd.str (x : Str) (t : Tok) : Rd N h (.str x t) (.str x) := ⟨[], .str x t, fun _ hm => nomatch hm⟩
theorem Rd.int (i : Int) (t : Tok) : Rd N h (.int i t) (.int i) := ⟨[], .int i t, fun _ hm => nomatch hm⟩
theorem Rd.none : Rd N h .none .none := ⟨[], .none, fun _ hm => nomatch hm⟩
theorem Rds.nil : Rds N h [] [] := ⟨[], .nil, fun _ hm => nomatch hm⟩
theorem Rds.cons (r : Rd N h v d) (rs : Rds N h vs ds) : Rds N h (v :: vs) (d :: ds) :=
  by obtain ⟨as, a, b⟩ := r; exact by obtain ⟨bs, c, e⟩ := rs; exact ⟨as ++ bs, .cons a c, fun x hm => (List.mem_append.mp hm).elim (b x) (e x)⟩
theorem Rds.uncons (r : Rds N h (v :: vs) (d :: ds)) : Rd N h v d ∧ Rds N h vs ds := by
  obtain ⟨as, a, b⟩ := r
  cases a with
  | cons r rs => exact ⟨⟨_, r, fun x hm => b x (List.mem_append_left _ hm)⟩, ⟨_, rs, fun x hm => b x (List.mem_append_right _ hm)⟩⟩
theorem Rds.length (r : Rds N h vs ds) : vs.length = ds.length := by
  induction vs generalizing ds with
  | nil => obtain ⟨as, a, b⟩ := r; cases a; rfl
  | cons v vs ih =>
    cases ds with
    | nil => obtain ⟨as, a, b⟩ := r; cases a
    | cons d ds => rw [List.length_cons, List.length_cons, ih r.uncons.2]
theorem Rds.append (r : Rds N h vs ds) (r' : Rds N h ws es) : Rds N h (vs ++ ws) (ds ++ es) := by
  induction vs generalizing ds with
  | nil =>
    cases ds with
    | nil => exact r'
    | cons d ds => have := r.length; simp at this
  | cons v vs ih =>
    cases ds with
    | nil => have := r.length; simp at this
    | cons d ds => exact .cons r.uncons.1 (ih r.uncons.2)
theorem Rds.get (r : Rds N h vs ds) {i : Nat} (hv : vs[i]? = some v) : ∃ d, ds[i]? = some d ∧ Rd N h v d := by
  induction vs generalizing ds i with
  | nil => simp at hv
  | cons u vs ih =>
    cases ds with
    | nil => have := r.length; simp at this
    | cons d ds =>
      cases i with
      | zero => simp at hv; subst hv; exact ⟨d, rfl, r.uncons.1⟩
      | succ i => simp only [List.getElem?_cons_succ] at hv ⊢; exact ih r.uncons.2 hv
theorem Rds.at (r : Rds N h vs ds) {i : Nat} (hd : ds[i]? = some d) : ∃ v, vs[i]? = some v ∧ Rd N h v d := by
  have hlt : i < vs.length := by rw [r.length]; exact (List.getElem?_eq_some_iff.mp hd).1
  obtain ⟨d', h1, h2⟩ := r.get (List.getElem?_eq_getElem hlt)
  rw [hd] at h1; cases h1
  exact ⟨_, List.getElem?_eq_getElem hlt, h2⟩
theorem Rds.drop (r : Rds N h vs ds) (k : Nat) : Rds N h (vs.drop k) (ds.drop k) := by
  induction k generalizing vs ds with
  | zero => exact r
  | succ k ih =>
    cases vs with
    | nil => cases ds with
      | nil => exact .nil
      | cons d ds => have := r.length; simp at this
    | cons v vs => cases ds with
      | nil => have := r.length; simp at this
      | cons d ds => exact ih r.uncons.2
theorem Rds.take (r : Rds N h vs ds) (k : Nat) : Rds N h (vs.take k) (ds.take k) := by
  induction k generalizing vs ds with
  | zero => simpa using Rds.nil
  | succ k ih =>
    cases vs with
    | nil => cases ds with
      | nil => exact .nil
      | cons d ds => have := r.length; simp at this
    | cons v vs => cases ds with
      | nil => have := r.length; simp at this
      | cons d ds => exact .cons r.uncons.1 (ih r.uncons.2)

theorem Rd.tupOf {a : Addr} (t : IsTup h a vs.toArray) (r : Rds N h vs ds) : Rd N h (.ref a) (.tuple ds) :=
  by obtain ⟨o, e, c, n, dd⟩ := t; exact by obtain ⟨as, p, q⟩ := r; exact ⟨as, .tuple e c dd (by simpa using p), q⟩
theorem Rd.listOf {a : Addr} (t : h.IsList a vs.toArray) (r : Rds N h vs ds) (ha : N a) : Rd N h (.ref a) (.list ds) :=
  by obtain ⟨o, e, c, n, dd⟩ := t; exact by obtain ⟨as, p, q⟩ := r; exact ⟨a :: as, .list e c dd (by simpa using p), fun x hm => (List.mem_cons.mp hm).elim (fun e => e ▸ ha) (q x)⟩
theorem Rd.tupInv (r : Rd N h v (.tuple ds)) : ∃ a vs, v = .ref a ∧ IsTup h a vs.toArray ∧ Rds N h vs ds := by
  obtain ⟨as, a, b⟩ := r
  cases a with
  | @tuple a o vs n xs as e c dd rs => exact ⟨a, vs.toList, rfl, ⟨o, e, c, n, by simpa using dd⟩, ⟨as, rs, b⟩⟩
theorem Rd.listInv (r : Rd N h v (.list ds)) : ∃ a vs, v = .ref a ∧ h.IsList a vs.toArray ∧ Rds N h vs ds ∧ N a := by
  obtain ⟨as, a, b⟩ := r
  cases a with
  | @list a o vs n xs as e c dd rs => exact ⟨a, vs.toList, rfl, ⟨o, e, c, n, by simpa using dd⟩, ⟨as, rs, fun x hm => b x (.tail _ hm)⟩, b a (.head _)⟩
theorem Rd.strInv {x : Str} (r : Rd N h v (.str x)) : ∃ t, v = .str x t := by
  obtain ⟨as, a, b⟩ := r; cases a; exact ⟨_, rfl⟩
theorem Rd.intInv {x : Int} (r : Rd N h v (.int x)) : ∃ t, v = .int x t := by
  obtain ⟨as, a, b⟩ := r; cases a; exact ⟨_, rfl⟩
theorem Rd.noneInv (r : Rd N h v .none) : v = .none := by
  obtain ⟨as, a, b⟩ := r; cases a; rfl
end

noncomputable abbrev keyD (ks : List Str) : PyData := .tuple (ks.map .str)
end PartQ8
section PartQ9
section
variable {prog : Program} {w : World} {A : Around} {E : Value → Shared → Prop} {s : Shared} {H0 e g : Heap} {X : Addr → Prop} {W : Prop} {env : Env} {m : Str → Option Value}

theorem slicePart_is {v : Value} {k : Option Int} {Q : Option Int → Shared → Prop} (hv : IsPart v k) (h : Q k s) : wpAny (model prog w) A (Builtin.Slice.slicePartIndex v) Q E s := by
  cases hv with
  | none => exact slicePart_none h
  | int i t => exact slicePart_int h

theorem pickT (xs : Array Value) (a n : Nat) : ((List.range n).filterMap fun (k : Nat) => xs[((a : Int) + (k : Int) * 1).toNat]?).toArray = ((xs.toList.drop a).take n).toArray := by
  have e : (fun (k : Nat) => xs[((a : Int) + (k : Int) * 1).toNat]?) = fun k => xs[a + k]? := by
    funext k
    have : ((a : Int) + (k : Int) * 1).toNat = a + k := by omega
    rw [this]
  rw [e]
  have := pick_run xs a n
  rw [List.filterMap_map] at this
  have e2 : ((fun x => xs[x]?) ∘ fun x => a + x) = fun k => xs[a + k]? := rfl
  rw [e2] at this
  rw [this]

theorem tupSliceGet {t sl : Addr} {vs : List Value} {vl vu : Value} {lo hi : Option Int} {a n : Nat} {b : Int} {Q : Value → Shared → Prop} (ht : IsTup s.heap t vs.toArray) (hs : s.heap.IsSliceOf sl vl vu .none) (pl : IsPart vl lo) (pu : IsPart vu hi)
    (hadj : Builtin.Slice.sliceAdjust lo hi 1 (vs.length : Int) = ((a : Int), b)) (hn : Builtin.Slice.slicePlaces (a : Int) b 1 = n)
    (h : ∀ r h', Sub s.heap h' → IsTup h' r ((vs.drop a).take n).toArray → Q (.ref r) { s with heap := h' })
    (hsz : vs.length ≤ sizeLine := by size_fits) : wpAny (model prog w) A (getItem (.ref t) (.ref sl)) Q E s := by
  have hok : sizeOk (.seq ((vs.drop a).take n).toArray) := by
    show ((vs.drop a).take n).toArray.size ≤ sizeLine
    rw [List.size_toArray, List.length_take, List.length_drop]
    omega
  obtain ⟨os, hos, hcs, hds⟩ := id hs
  have hTs : s.TypeIs (.ref sl) "slice" := ⟨os, hos, hcs⟩
  unfold getItem
  try with_reducible refine wpAny_holding ?_
  first | refine wpAny_bind (wpAny_pure ?_) | skip
  refine wpAny_bind (wpAny_sequenceKey ht.typeIs (by decide) ?_)
  refine wpAny_bind (wpAny_callSpecial?_slot (name := Str.ofString "__getitem__") ht.typeIs slot_tuple_getitem
    (wpAny_call_entry slot_tuple_getitem ht.typeIs entry_tuple_getitem ?_ (args_tuple_getitem _ _)))
  show wpAny _ _ (Builtin.Tuple.tupleItemsOf (.ref t) >>= _) _ _ s
  refine wpAny_bind (tupleItemsOf_ ht ?_)
  refine wpAny_bind (wpAny_typeOf hTs ?_)
  rw [if_pos (by decide)]
  have happ : ∀ {Q : Int × Int × Nat → Shared → Prop}, Q ((a : Int), 1, n) s → wpAny (model prog w) A.in1 (Builtin.Slice.sliceApplied (.ref sl) (pure (vs.toArray.size : Int))) Q E s := fun {Q} h => by
    unfold Builtin.Slice.sliceApplied Builtin.Slice.sliceFields
    refine wpAny_bind (wpAny_bind (wpAny_field hos hds (x := vl) rfl (wpAny_bind (wpAny_field hos hds (x := vu) rfl (wpAny_bind (wpAny_field hos hds (x := .none) rfl (wpAny_pure ?_)))))))
    refine wpAny_bind (slicePart_none ?_)
    show wpAny _ _ (if ((1 : Int) == 0) = true then _ else _) _ _ s
    rw [if_neg (by decide)]
    refine wpAny_bind (slicePart_is pl (wpAny_bind (slicePart_is pu (wpAny_bind (wpAny_pure ?_)))))
    show wpAny _ _ (match Builtin.Slice.sliceAdjust lo hi 1 (vs.toArray.size : Int) with | (lo, hi) => pure (lo, (1 : Int), Builtin.Slice.slicePlaces lo hi 1)) _ _ s
    rw [List.size_toArray, hadj]
    show wpAny _ _ (pure ((a : Int), (1 : Int), Builtin.Slice.slicePlaces (a : Int) b 1)) _ _ s
    rw [hn]
    exact wpAny_pure h
  refine wpAny_bind (happ ?_)
  show wpAny _ _ (if ((a : Int) == 0 && (1 : Int) == 1 && n == vs.toArray.size) = true then _ else _) _ _ s
  by_cases hc : ((a : Int) == 0 && (1 : Int) == 1 && n == vs.toArray.size) = true
  · rw [if_pos hc]
    have h0 : a = 0 ∧ n = vs.length := by
      simp only [Bool.and_eq_true, beq_iff_eq, List.size_toArray] at hc
      exact ⟨by omega, hc.2⟩
    have hq := h t s.heap (.refl _) (by rw [h0.1, h0.2, List.drop_zero, List.take_length]; exact ht)
    refine wpAny_bind (m := Builtin.Tuple.tupleIsExact _) (wpAny_bind (wpAny_typeOf ht.typeIs (wpAny_pure ?_)))
    rw [if_pos (by decide)]
    exact wpAny_bind (wpAny_rule (wpAny_pure ⟨_, rfl, wpAny_pure hq⟩))
  · rw [if_neg hc, pickT]
    have hq := h s.heap.objs.size (s.heap.push { cls := .type "tuple", data := .seq ((vs.drop a).take n).toArray }) (Sub.push _ _) ⟨_, Heap.get?_push_size _ rfl, rfl, 0, rfl⟩
    first
      | exact wpAny_bind (m := Builtin.Tuple.tupleExact _) (wpAny_newObj_type (wpAny_pure ⟨_, rfl, wpAny_pure hq⟩) hok)
      | exact wpAny_bind (m := Builtin.Tuple.tupleExact _) (wpAny_newObj_type (wpAny_bind (wpAny_pure (wpAny_pure ⟨_, rfl, wpAny_pure hq⟩))) hok)
      | exact wpAny_bind (wpAny_bind (m := Builtin.Tuple.tupleExact _) (wpAny_newObj_type (wpAny_pure (wpAny_pure ⟨_, rfl, wpAny_pure hq⟩)) hok))
      | exact wpAny_bind (wpAny_bind (m := Builtin.Tuple.tupleExact _) (wpAny_newObj_type (wpAny_pure ⟨_, rfl, wpAny_pure hq⟩) hok))

theorem tupSlice {value slice : Expr} {h₀ : Heap} {t : Addr} {vs : List Value} {vl vu : Value} {lo hi : Option Int} (a n : Nat) (b : Int) {Q : Value → Shared → Prop} (F : Fm H0 e g X W env h₀ m) (hst : s.heap = h₀.push { cls := .type "slice", data := .fields #[vl, vu, .none] }) (ht : IsTup h₀ t vs.toArray) (pl : IsPart vl lo) (pu : IsPart vu hi)
    (hadj : Builtin.Slice.sliceAdjust lo hi 1 (vs.length : Int) = ((a : Int), b)) (hn : Builtin.Slice.slicePlaces (a : Int) b 1 = n) (hsz : vs.length ≤ sizeLine)
    (h : ∀ r h', Fm H0 e h' X W env h' m → Kp Nil g h' → Sub h₀ h' → IsTup h' r ((vs.drop a).take n).toArray → Q (.ref r) { s with heap := h' })
    (hs : subscripted slice false (.ref t) (.ref h₀.objs.size) = operate [.ref h₀.objs.size, .ref t] (getItem (.ref t) (.ref h₀.objs.size)) := by with_unfolding_all rfl)
 :
    wpAny (model prog w) A (subscriptTail value slice (.ref t) (.ref h₀.objs.size)) Q E s := by
  have k1 : Sub h₀ s.heap := hst ▸ Sub.push _ _
  have ht' : IsTup s.heap t vs.toArray := ht.keeps k1
  exact tail_any ht'.typeIs slot_tuple_getitem.lookup
    (tupSliceGet ht' (hst ▸ Heap.IsSliceOf.new ..) pl pu hadj hn (fun r h' k q => h r h' (F.ext (k1.trans k)) (F.link (k1.trans k)) (k1.trans k) q) hsz) hs

theorem no_iadd_tuple : typeLookup (.type "tuple") (dunderI "add") = pure none := by rw [typeLookup_type, builtinLookup_eq_fast]; kernel_rfl
theorem tupIadd {t b : Addr} {vs ws : List Value} {Q : Value → Shared → Prop} (F : Fm H0 e g X W env s.heap m) (ht : IsTup s.heap t vs.toArray) (hb : IsTup s.heap b ws.toArray)
    (h : ∀ r h', Fm H0 e h' X W env h' m → Kp Nil g h' → Sub s.heap h' → IsTup h' r (vs ++ ws).toArray → Q (.ref r) { s with heap := h' })
    (hsz : vs.length + ws.length ≤ sizeLine) : wpAny (model prog w) A (inplaceOp .Add (.ref t) (.ref b)) Q E s := by
  obtain ⟨⟨cls, dd, data, sl⟩, ho, hc, n, hd⟩ := id ht
  obtain ⟨⟨cls2, dd2, data2, sl2⟩, ho2, hc2, n2, hd2⟩ := id hb
  simp only at hc hd hc2 hd2
  subst hc hd hc2 hd2
  have e : vs.toArray ++ ws.toArray = (vs ++ ws).toArray := by simp
  refine wpAny_inplaceOp_concat (T := "tuple") ⟨_, ho, rfl⟩ ⟨_, ho2, rfl⟩ no_iadd_tuple noFill_tuple_add seq_tuple_add ?_
  by_cases hv : vs = []
  · refine call_meets PySem.F.slot_tuple_add ⟨_, ho, rfl⟩ PySem.F.entry_tuple_add (PySem.F.args_tuple_add_2 _ _) (tuple_addW0 t b vs.toArray ws.toArray n n2 dd dd2 sl sl2 (by simp [hv])) ⟨ho, ho2, ?_⟩
    exact h b s.heap F.here F.keepG (.refl _) (by simpa [hv] using hb)
  · by_cases hw : ws = []
    · refine call_meets PySem.F.slot_tuple_add ⟨_, ho, rfl⟩ PySem.F.entry_tuple_add (PySem.F.args_tuple_add_2 _ _) (tuple_addW1 t b vs.toArray ws.toArray n n2 dd dd2 sl sl2 (by simpa using hv) (by simp [hw])) ⟨ho, ho2, ?_⟩
      exact h t s.heap F.here F.keepG (.refl _) (by simpa [hw] using ht)
    · refine call_meets PySem.F.slot_tuple_add ⟨_, ho, rfl⟩ PySem.F.entry_tuple_add (PySem.F.args_tuple_add_2 _ _)
        (tuple_addW2 t b vs.toArray ws.toArray n n2 dd dd2 sl sl2 (by simpa using hv) (by simpa using hw) (by rw [List.size_toArray, List.size_toArray]; exact hsz)) ⟨ho, ho2, ?_⟩
      rw [e]
      exact h _ _ (F.ext (Sub.push _ _)) (F.link (Sub.push _ _)) (Sub.push _ _) ⟨_, Heap.get?_push_size _ rfl, rfl, 0, rfl⟩
theorem tupAdd {t b : Addr} {vs ws : List Value} {Q : Value → Shared → Prop} (F : Fm H0 e g X W env s.heap m) (ht : IsTup s.heap t vs.toArray) (hb : IsTup s.heap b ws.toArray)
    (h : ∀ r h', Fm H0 e h' X W env h' m → Kp Nil g h' → Sub s.heap h' → IsTup h' r (vs ++ ws).toArray → Q (.ref r) { s with heap := h' })
    (hsz : vs.length + ws.length ≤ sizeLine) : wpAny (model prog w) A (binaryOp .Add (.ref t) (.ref b)) Q E s := by
  obtain ⟨⟨cls, dd, data, sl⟩, ho, hc, n, hd⟩ := id ht
  obtain ⟨⟨cls2, dd2, data2, sl2⟩, ho2, hc2, n2, hd2⟩ := id hb
  simp only at hc hd hc2 hd2
  subst hc hd hc2 hd2
  have e : vs.toArray ++ ws.toArray = (vs ++ ws).toArray := by simp
  refine wpAny_binaryOp_concat (T := "tuple") ⟨_, ho, rfl⟩ ⟨_, ho2, rfl⟩ noFill_tuple_add seq_tuple_add ?_
  by_cases hv : vs = []
  · refine call_meets PySem.F.slot_tuple_add ⟨_, ho, rfl⟩ PySem.F.entry_tuple_add (PySem.F.args_tuple_add_2 _ _) (tuple_addW0 t b vs.toArray ws.toArray n n2 dd dd2 sl sl2 (by simp [hv])) ⟨ho, ho2, ?_⟩
    exact h b s.heap F.here F.keepG (.refl _) (by simpa [hv] using hb)
  · by_cases hw : ws = []
    · refine call_meets PySem.F.slot_tuple_add ⟨_, ho, rfl⟩ PySem.F.entry_tuple_add (PySem.F.args_tuple_add_2 _ _) (tuple_addW1 t b vs.toArray ws.toArray n n2 dd dd2 sl sl2 (by simpa using hv) (by simp [hw])) ⟨ho, ho2, ?_⟩
      exact h t s.heap F.here F.keepG (.refl _) (by simpa [hw] using ht)
    · refine call_meets PySem.F.slot_tuple_add ⟨_, ho, rfl⟩ PySem.F.entry_tuple_add (PySem.F.args_tuple_add_2 _ _)
        (tuple_addW2 t b vs.toArray ws.toArray n n2 dd dd2 sl sl2 (by simpa using hv) (by simpa using hw) (by rw [List.size_toArray, List.size_toArray]; exact hsz)) ⟨ho, ho2, ?_⟩
      rw [e]
      exact h _ _ (F.ext (Sub.push _ _)) (F.link (Sub.push _ _)) (Sub.push _ _) ⟨_, Heap.get?_push_size _ rfl, rfl, 0, rfl⟩

theorem adj_upto (k n : Nat) : Builtin.Slice.sliceAdjust none (some (k : Int)) 1 (n : Int) = (((0 : Nat) : Int), ((min k n : Nat) : Int)) := by
  unfold Builtin.Slice.sliceAdjust
  have h1 : ¬ ((1 : Int) < 0) := by omega
  have h2 : ¬ ((k : Int) < 0) := by omega
  simp only [h1, h2, if_false]
  congr 1; omega
theorem adj_last (n : Nat) : Builtin.Slice.sliceAdjust none (some (-1)) 1 (n : Int) = (((0 : Nat) : Int), ((n - 1 : Nat) : Int)) := by
  unfold Builtin.Slice.sliceAdjust
  have h1 : ¬ ((1 : Int) < 0) := by omega
  have h2 : ((-1 : Int) < 0) := by omega
  simp only [h1, h2, if_false, if_true]
  congr 1; omega
theorem adj_from (k n : Nat) : Builtin.Slice.sliceAdjust (some (k : Int)) none 1 (n : Int) = (((min k n : Nat) : Int), (n : Int)) := by
  unfold Builtin.Slice.sliceAdjust
  have h1 : ¬ ((1 : Int) < 0) := by omega
  have h2 : ¬ ((k : Int) < 0) := by omega
  simp only [h1, h2, if_false]
  congr 1; omega
theorem places_is (a b : Nat) : Builtin.Slice.slicePlaces (a : Int) (b : Int) 1 = b - a := by
  unfold Builtin.Slice.slicePlaces
  have h1 : (1 : Int) > 0 := by omega
  simp only [h1, if_true, Int.ediv_one]
  split <;> omega
end
end PartQ9
section PartQ10
section
variable {prog : Program} {w : World} {A : Around} {E : Value → Shared → Prop} {s : Shared} {H0 e g : Heap} {X : Addr → Prop} {W : Prop} {env : Env} {m : Str → Option Value}

theorem lenList {l : Addr} {vs : List Value} {Q : Value → Shared → Prop} (hl : s.heap.IsList l vs.toArray) (hz : vs.length ≤ sizeLine) (h : ∀ t tk, Q (.int vs.length t) { s with toks := tk }) : wpAny (model prog w) A (call (.builtin "len") [.ref l]) Q E s :=
  call_len_list hl (by rw [List.size_toArray]; rw [sizeLine_eq] at hz; omega) (by rw [List.size_toArray]; exact h _ _)
theorem lenTup {l : Addr} {vs : List Value} {Q : Value → Shared → Prop} (hl : IsTup s.heap l vs.toArray) (hz : vs.length ≤ sizeLine) (h : ∀ t tk, Q (.int vs.length t) { s with toks := tk }) : wpAny (model prog w) A (call (.builtin "len") [.ref l]) Q E s :=
  PyProof.Rows.len_tuple hl (by rw [List.size_toArray]; rw [sizeLine_eq] at hz; omega) (by rw [List.size_toArray]; exact h _ _)

theorem range1 {n : Int} {t : Tok} {Q : Value → Shared → Prop} (F : Fm H0 e g X W env s.heap m) (h : ∀ r h' tk t₁ u₁ v₁, Fm H0 e h' X W env h' m → Kp Nil g h' → Sub s.heap h' → IsRange h' r 0 n 1 t₁ u₁ v₁ → Q (.ref r) { s with heap := h', toks := tk }) :
    wpAny (model prog w) A (call (.type "range") [.int n t]) Q E s :=
  call_range_1 (h _ _ _ _ _ _ (F.ext (Sub.push _ _)) (F.link (Sub.push _ _)) (Sub.push _ _) (IsRange.new ..))
theorem range2 {a b : Int} {t u : Tok} {Q : Value → Shared → Prop} (F : Fm H0 e g X W env s.heap m) (h : ∀ r h' tk t₁ u₁ v₁, Fm H0 e h' X W env h' m → Kp Nil g h' → Sub s.heap h' → IsRange h' r a b 1 t₁ u₁ v₁ → Q (.ref r) { s with heap := h', toks := tk }) :
    wpAny (model prog w) A (call (.type "range") [.int a t, .int b u]) Q E s :=
  call_range_2 (h _ _ _ _ _ _ (F.ext (Sub.push _ _)) (F.link (Sub.push _ _)) (Sub.push _ _) (IsRange.new ..))
theorem range3 {a b c : Int} {t u v : Tok} {Q : Value → Shared → Prop} (F : Fm H0 e g X W env s.heap m) (hc : c ≠ 0) (hp : Builtin.divisionGoesByPylong (b - a) c = false)
    (h : ∀ r h' tk t₁ u₁ v₁, Fm H0 e h' X W env h' m → Kp Nil g h' → Sub s.heap h' → IsRange h' r a b c t₁ u₁ v₁ → Q (.ref r) { s with heap := h', toks := tk }) :
    wpAny (model prog w) A (call (.type "range") [.int a t, .int b u, .int c v]) Q E s :=
  call_range_3 hc (h _ _ _ _ _ _ (F.ext (Sub.push _ _)) (F.link (Sub.push _ _)) (Sub.push _ _) (IsRange.new ..)) (.inl hp)

theorem smallUp (n : Nat) (a : Nat) (hn : n ≤ 2 ^ 30) (ha : a ≤ 2 ^ 30) : Builtin.Range.small (a : Int) (n : Int) 1 = true := small_one (by omega) (by omega) (by omega) (by omega)
theorem sizeUp (n a : Nat) : Builtin.Range.rangeSize (a : Int) (n : Int) 1 = ((n - a : Nat) : Int) := by rw [rangeSize_one]; split <;> omega

inductive Ints : List Value → List Int → Prop
  | nil : Ints [] []
  | cons {i : Int} {t : Tok} {vs : List Value} {ns : List Int} : Ints vs ns → Ints (.int i t :: vs) (i :: ns)
theorem Ints.are {vs : List Value} {ns : List Int} (h : Ints vs ns) : IntsAre vs ns := by
  induction h with
  | nil => exact .nil
  | cons _ ih => exact .cons _ _ ih
theorem Ints.snoc {vs : List Value} {ns : List Int} (h : Ints vs ns) (i : Int) (t : Tok) : Ints (vs ++ [.int i t]) (ns ++ [i]) := by
  induction h with
  | nil => exact .cons .nil
  | cons _ ih => exact .cons ih
theorem Ints.length {vs : List Value} {ns : List Int} (h : Ints vs ns) : vs.length = ns.length := by
  induction h with
  | nil => rfl
  | cons _ ih => simp [ih]

theorem maxInts {l : Addr} {vs : List Value} {ns : List Int} {Q : Value → Shared → Prop} (hh : A.handled = none) (F : Fm H0 e g X W env s.heap m) (hl : s.heap.IsList l vs.toArray) (hi' : Ints vs ns) (hne : 0 < ns.length)
    (h : ∀ h' M (t : Tok) tk, Fm H0 e h' X W env h' m → Kp Nil g h' → Sub s.heap h' → M ∈ ns → (∀ a, a ∈ ns → a ≤ M) → Q (.int M t) { s with heap := h', toks := tk }) :
    wpAny (model prog w) A (call (.builtin "max") [.ref l]) Q E s := by
  have hi := hi'.are
  obtain ⟨xs, e'⟩ := hi.allInts.items
  have hns : ns = xs.toList.map (·.1) := by
    rw [← hi.numsOf, ← nums_intItems, ← e']
  have hsz : 0 < xs.size := by
    have h3 := hne; rw [hns, List.length_map, Array.length_toList] at h3; exact h3
  rw [e'] at hl
  refine max_intList hh hl hsz fun v h' tk hv hk => ?_
  obtain ⟨t, rfl⟩ := intItems_at hv
  obtain ⟨h1, h2⟩ := argBest_gt (numAt xs) (xs.size - 1)
  refine h _ _ t tk (F.ext hk) (F.link hk) hk ?_ fun a ha => ?_
  · rw [hns, numAt_eq]; exact getD_mem (by rw [List.length_map, Array.length_toList]; omega)
  · rw [hns] at ha
    obtain ⟨j, hj, rfl⟩ := mem_getD ha
    rw [List.length_map, Array.length_toList] at hj
    rw [← numAt_eq]; exact h2 j (by omega)

theorem addLists {l b : Addr} {vs ws : List Value} {Q : Value → Shared → Prop} (F : Fm H0 e g X W env s.heap m) (hl : s.heap.IsList l vs.toArray) (hb : s.heap.IsList b ws.toArray)
    (h : ∀ r h', Fm H0 e h' X W env h' m → Kp Nil g h' → Sub s.heap h' → s.heap.get? r = none → h'.PlainList r (vs ++ ws).toArray → Q (.ref r) { s with heap := h' })
    (hsz : vs.length + ws.length ≤ sizeLine) : wpAny (model prog w) A (binaryOp .Add (.ref l) (.ref b)) Q E s := by
  obtain ⟨⟨cls, dd, data, sl⟩, ho, hc, n, hd⟩ := id hl
  obtain ⟨⟨cls2, dd2, data2, sl2⟩, ho2, hc2, n2, hd2⟩ := id hb
  simp only at hc hd hc2 hd2
  subst hc hd hc2 hd2
  have e' : vs.toArray ++ ws.toArray = (vs ++ ws).toArray := by simp
  refine concat_meets ⟨_, ho, rfl⟩ ⟨_, ho2, rfl⟩ noFill_list_add seq_list_add PySem.F.slot_list_add PySem.F.entry_list_add (PySem.F.args_list_add_2 _ _) (list_addW l b vs.toArray ws.toArray n n2 dd dd2 sl sl2 (by simpa using hsz)) ⟨ho, ho2, ?_⟩
  rw [e']
  exact h _ _ (F.ext (Sub.push _ _)) (F.link (Sub.push _ _)) (Sub.push _ _) (at_new _) ⟨0, Heap.get?_push_size _ rfl⟩

noncomputable def depthOk (d : PyData) : Prop := d.canLay0 = true ∧ d.depth ≤ 64
theorem eqRd {N N' : Addr → Prop} {a b : Value} {da db : PyData} {Q : Value → Shared → Prop} (ra : Rd N s.heap a da) (rb : Rd N' s.heap b db) (ha : depthOk da) (hb : depthOk db) (hu : A.units + 100 < cLine) (h : Q (.bool (PyData.eqv da db)) s) :
    wpAny (model prog w) A (compareOp .Eq a b) Q E s := by
  obtain ⟨_, r1, _⟩ := ra
  obtain ⟨_, r2, _⟩ := rb
  have h1 := Nat.min_le_left da.depth db.depth
  have h2 := ha.2
  exact SeqAt.compareEq_reads r1 r2 ha.1 hb.1 (by omega) h
theorem neRd {N N' : Addr → Prop} {a b : Value} {da db : PyData} {Q : Value → Shared → Prop} (ra : Rd N s.heap a da) (rb : Rd N' s.heap b db) (ha : depthOk da) (hb : depthOk db) (hu : A.units + 100 < cLine) (h : Q (.bool (!PyData.eqv da db)) s) :
    wpAny (model prog w) A (compareOp .NotEq a b) Q E s := by
  obtain ⟨_, r1, _⟩ := ra
  obtain ⟨_, r2, _⟩ := rb
  have h1 := Nat.min_le_left da.depth db.depth
  have h2 := ha.2
  exact SeqAt.compareNe_reads r1 r2 ha.1 hb.1 (by omega) h
theorem inRd {N N' : Addr → Prop} {c x : Value} {xs : List PyData} {d : PyData} {Q : Value → Shared → Prop} (rc : Rd N s.heap c (.list xs)) (rx : Rd N' s.heap x d) (hxs : PyData.canLayAll0 xs = true) (hd : depthOk d) (hu : A.units + 100 < cLine)
    (h : Q (.bool (xs.any fun y => PyData.eqv y d)) s) : wpAny (model prog w) A (compareOp .In x c) Q E s := by
  obtain ⟨_, r1, _⟩ := rc
  obtain ⟨_, r2, _⟩ := rx
  have h1 := Nat.min_le_right (PyData.depthAll xs) d.depth
  have h2 := hd.2
  exact SeqAt.in_list_reads r1 r2 hxs hd.1 (by omega) h

theorem listFrom {value slice : Expr} {h₀ : Heap} {l : Addr} {vs : List Value} {k : Nat} {u : Tok} {Q : Value → Shared → Prop} (F : Fm H0 e g X W env h₀ m) (hst : s.heap = h₀.push { cls := .type "slice", data := .fields #[.int k u, .none, .none] }) (hl : h₀.IsList l vs.toArray) (hsz : vs.length ≤ sizeLine)
    (h : ∀ r h', Fm H0 e h' X W env h' m → Kp Nil g h' → Sub h₀ h' → h₀.get? r = none → h'.PlainList r (vs.drop k).toArray → Q (.ref r) { s with heap := h' })
    (hs : subscripted slice false (.ref l) (.ref h₀.objs.size) = operate [.ref h₀.objs.size, .ref l] (getItem (.ref l) (.ref h₀.objs.size)) := by with_unfolding_all rfl)
 :
    wpAny (model prog w) A (subscriptTail value slice (.ref l) (.ref h₀.objs.size)) Q E s := by
  have k1 : Sub h₀ s.heap := hst ▸ Sub.push _ _
  have hl' : s.heap.IsList l vs.toArray := hst ▸ hl.push _
  refine tail_any (Heap.IsList.typeIs hl') list_getitem_lookup
    (wpAny_getItem_list_slice hl' (hst ▸ Heap.IsSliceOf.new ..) (.int _ _) .none .none (by simp) ?_ (by rw [List.size_toArray]; exact hsz)) hs
  have e1 : slicePick vs.toArray (some (k : Int)) none none = (vs.drop k).toArray := by rw [slicePick_from' vs.toArray k]
  rw [e1]
  have k2 := k1.trans (Sub.push _ { cls := .type "list", data := .seq (vs.drop k).toArray })
  exact h _ _ (F.ext k2) (F.link k2) k2 (nolook (by rw [hst, Heap.size_push]; exact Nat.le_succ _)) ⟨0, Heap.get?_push_size _ rfl⟩
theorem listUpto {value slice : Expr} {h₀ : Heap} {l : Addr} {vs : List Value} {k : Nat} {u : Tok} {Q : Value → Shared → Prop} (F : Fm H0 e g X W env h₀ m) (hst : s.heap = h₀.push { cls := .type "slice", data := .fields #[.none, .int k u, .none] }) (hl : h₀.IsList l vs.toArray) (hsz : vs.length ≤ sizeLine)
    (h : ∀ r h', Fm H0 e h' X W env h' m → Kp Nil g h' → Sub h₀ h' → h₀.get? r = none → h'.PlainList r (vs.take k).toArray → Q (.ref r) { s with heap := h' })
    (hs : subscripted slice false (.ref l) (.ref h₀.objs.size) = operate [.ref h₀.objs.size, .ref l] (getItem (.ref l) (.ref h₀.objs.size)) := by with_unfolding_all rfl)
 :
    wpAny (model prog w) A (subscriptTail value slice (.ref l) (.ref h₀.objs.size)) Q E s := by
  have k1 : Sub h₀ s.heap := hst ▸ Sub.push _ _
  have hl' : s.heap.IsList l vs.toArray := hst ▸ hl.push _
  refine tail_any (Heap.IsList.typeIs hl') list_getitem_lookup
    (wpAny_getItem_list_slice hl' (hst ▸ Heap.IsSliceOf.new ..) .none (.int _ _) .none (by simp) ?_ (by rw [List.size_toArray]; exact hsz)) hs
  have e1 : slicePick vs.toArray none (some (k : Int)) none = (vs.take k).toArray := by rw [slicePick_upto' vs.toArray k]
  rw [e1]
  have k2 := k1.trans (Sub.push _ { cls := .type "list", data := .seq (vs.take k).toArray })
  exact h _ _ (F.ext k2) (F.link k2) k2 (nolook (by rw [hst, Heap.size_push]; exact Nat.le_succ _)) ⟨0, Heap.get?_push_size _ rfl⟩
theorem listAt {value slice : Expr} {l : Addr} {vs : List Value} {k : Int} {u : Tok} {v : Value} {Q : Value → Shared → Prop} (hl : s.heap.IsList l vs.toArray) (h0 : 0 ≤ k) (hx : vs[k.toNat]? = some v) (hz : vs.length ≤ sizeLine) (h : Q v s)
    (hs : subscripted slice false (.ref l) (.int k u) = operate [.ref l, .int k u] (getItem (.ref l) (.int k u)) := by with_unfolding_all rfl) :
    wpAny (model prog w) A (subscriptTail value slice (.ref l) (.int k u)) Q E s := by
  have hlt := (List.getElem?_eq_some_iff.mp hx).1
  rw [sizeLine_eq] at hz
  exact tail_any hl.typeIs slot_list_getitem.lookup (wpAny_getItem_list hl h0 (by omega) (by simpa using hx) h) hs

theorem evalPart_none {Q : Value → Shared → Prop} (h : Q .none s) : wpAny (model prog w) A (evalPart none env) Q E s := wpAny_pure h
theorem evalPart_some {x : Expr} {Q : Value → Shared → Prop} (h : wpAny (model prog w) A (eval x env) Q E s) : wpAny (model prog w) A (evalPart (some x) env) Q E s := h

theorem callFn {f : Addr} {o : Obj} {fd : FuncData} {pos : Pos} {x : Expr} {rest : List Expr} {Q : Value → Shared → Prop} (ho : H0.get? f = some o) (hd : o.data = .func fd)
    (h : wpAny (model prog w) A (spliced (backTo pos (starEach (x :: rest) env))) (fun vs s₁ => Sub H0 s₁.heap ∧ wpAny (model prog w) A (call (.ref f) vs) Q E s₁) E s)
    (he : starEach (x :: rest) env = (false, eval x env) :: starEach rest env := by rfl) :
    wpAny (model prog w) A (callWith pos (.ref f) [] (backTo pos (starEach (x :: rest) env)) []) Q E s := by
  rw [he] at h ⊢
  exact callWith_function (o := o) (fd := fd) (evalArgs_plain (wpAny_mono h (fun vs s₁ h₁ => ⟨⟨h₁.1 _ _ ho, hd⟩, h₁.2⟩) fun _ _ x => x))
end
end PartQ10
section PartQ11
section
variable {prog : Program} {w : World} {A : Around} {E : Value → Shared → Prop} {s : Shared} {env : Env}
theorem tests_nil {Q : Bool → Shared → Prop} (h : Q true s) : wpAny (model prog w) A (testsOf prog w [] env) Q E s := wpAny_pure h
theorem tests_one {c : Expr} {Q : Bool → Shared → Prop} (h : wpAny (model prog w) A (isTrue c env (eval c env)) Q E s) : wpAny (model prog w) A (testsOf prog w [c] env) Q E s := by
  show wpAny (model prog w) A (forIn [c] true fun c r => if r = true then do let ok ← isTrue c env (eval c env); pure (ForInStep.yield ok) else pure (ForInStep.yield r)) Q E s
  rw [List.forIn_cons]
  simp only [if_true]
  exact wpAny_bind (wpAny_bind (wpAny_mono h (fun b s' h' => wpAny_pure (wpAny_pure h')) fun _ _ x => x))
end

noncomputable abbrev Or (N : Addr → Prop) (h : Heap) : Addr → Prop := fun a => N a ∨ h.get? a = none
theorem Sub.none {h h' : Heap} (k : Sub h h') {a : Addr} (x : h'.get? a = none) : h.get? a = none := by
  cases e : h.get? a with
  | none => rfl
  | some o => rw [k a o e] at x; cases x

theorem Fm.sub {H0 e g h : Heap} {W : Prop} {env : Env} {m : Str → Option Value} (F : Fm H0 e g Nil W env h m) : Sub e h := fun b o q => F.keepE b o q fun _ x => x
end PartQ11
section PartQ12
theorem strEq (x y : Str) : (x.cps.toList == y.cps.toList) = decide (x = y) := by
  obtain ⟨x⟩ := x; obtain ⟨y⟩ := y
  rw [Bool.eq_iff_iff]
  simp only [beq_iff_eq, decide_eq_true_eq, Str.mk.injEq]
  constructor
  · exact fun h => Array.toList_inj.mp h
  · rintro rfl; rfl
theorem strBeq (x y : Str) : (x == y) = decide (x = y) := by
  rw [Bool.eq_iff_iff]; simp

section
variable {prog : Program} {w : World} {A : Around} {E : Value → Shared → Prop} {s : Shared} {x y : Str} {t u : Tok}
theorem eqStr {Q : Value → Shared → Prop} (h : Q (.bool (decide (x = y))) s) : wpAny (model prog w) A (compareOp .Eq (.str x t) (.str y u)) Q E s := PyProof.Rows.eq_str (by rw [strBeq]; exact h)
theorem neStr {Q : Value → Shared → Prop} (h : Q (.bool (!decide (x = y))) s) : wpAny (model prog w) A (compareOp .NotEq (.str x t) (.str y u)) Q E s := PyProof.Rows.ne_str (by
  have : (x != y) = !decide (x = y) := by rw [bne, strBeq]
  rw [this]; exact h)
end

theorem reads_dom {h : Heap} {v : Value} {d : PyData} {as : List Addr} (x : Reads h v d as) : ∀ a ∈ as, ∃ o, h.get? a = some o :=
  @Reads.rec h (fun v d as _ => ∀ a ∈ as, ∃ o, h.get? a = some o) (fun vs ds as _ => ∀ a ∈ as, ∃ o, h.get? a = some o)
    (fun a hm => absurd hm (List.not_mem_nil))
    (fun _ a hm => absurd hm (List.not_mem_nil))
    (fun _ _ a hm => absurd hm (List.not_mem_nil))
    (fun _ _ a hm => absurd hm (List.not_mem_nil))
    (fun e _ _ _ ih a hm => (List.mem_cons.mp hm).elim (fun q => q ▸ ⟨_, e⟩) (ih a))
    (fun _ _ _ _ ih a hm => ih a hm)
    (fun e _ _ _ _ i1 i2 a hm => (List.mem_append.mp hm).elim (fun hm => (List.mem_cons.mp hm).elim (fun q => q ▸ ⟨_, e⟩) (i1 a)) (i2 a))
    (fun a hm => absurd hm (List.not_mem_nil))
    (fun _ _ i1 i2 a hm => (List.mem_append.mp hm).elim (i1 a) (i2 a))
    _ _ _ x
theorem readsAll_dom {h : Heap} {vs : List Value} {ds : List PyData} {as : List Addr} (x : ReadsAll h vs ds as) : ∀ a ∈ as, ∃ o, h.get? a = some o :=
  @ReadsAll.rec h (fun v d as _ => ∀ a ∈ as, ∃ o, h.get? a = some o) (fun vs ds as _ => ∀ a ∈ as, ∃ o, h.get? a = some o)
    (fun a hm => absurd hm (List.not_mem_nil))
    (fun _ a hm => absurd hm (List.not_mem_nil))
    (fun _ _ a hm => absurd hm (List.not_mem_nil))
    (fun _ _ a hm => absurd hm (List.not_mem_nil))
    (fun e _ _ _ ih a hm => (List.mem_cons.mp hm).elim (fun q => q ▸ ⟨_, e⟩) (ih a))
    (fun _ _ _ _ ih a hm => ih a hm)
    (fun e _ _ _ _ i1 i2 a hm => (List.mem_append.mp hm).elim (fun hm => (List.mem_cons.mp hm).elim (fun q => q ▸ ⟨_, e⟩) (i1 a)) (i2 a))
    (fun a hm => absurd hm (List.not_mem_nil))
    (fun _ _ i1 i2 a hm => (List.mem_append.mp hm).elim (i1 a) (i2 a))
    _ _ _ x
noncomputable abbrev In (N : Addr → Prop) (h : Heap) : Addr → Prop := fun a => N a ∧ ∃ o, h.get? a = some o
theorem Rd.dom {N : Addr → Prop} {h : Heap} {v : Value} {d : PyData} (r : Rd N h v d) : Rd (In N h) h v d := by obtain ⟨as, p, q⟩ := r; exact ⟨as, p, fun a hm => ⟨q a hm, reads_dom p a hm⟩⟩
theorem Rds.dom {N : Addr → Prop} {h : Heap} {vs : List Value} {ds : List PyData} (r : Rds N h vs ds) : Rds (In N h) h vs ds := by obtain ⟨as, p, q⟩ := r; exact ⟨as, p, fun a hm => ⟨q a hm, readsAll_dom p a hm⟩⟩
theorem in_three {N : Addr → Prop} {h : Heap} : ∀ a, In N h a → ¬ Three h a := fun a ⟨_, o, ho⟩ ht => absurd (Heap.lt_size ho) (Nat.not_lt.mpr ht.1)

noncomputable def keyOk (ks : List Str) : Prop := (∀ k ∈ ks, PyData.strOk k = true) ∧ ks.length ≤ 1000
theorem keyOk.take {ks : List Str} (h : keyOk ks) (n : Nat) : keyOk (ks.take n) := ⟨fun k hk => h.1 k (List.mem_of_mem_take hk), by have := h.2; rw [List.length_take]; omega⟩
theorem keyOk.drop {ks : List Str} (h : keyOk ks) (n : Nat) : keyOk (ks.drop n) := ⟨fun k hk => h.1 k (List.mem_of_mem_drop hk), by have := h.2; rw [List.length_drop]; omega⟩
theorem canLay_strs {ks : List Str} (h : ∀ k ∈ ks, PyData.strOk k = true) : PyData.canLayAll0 (ks.map .str) = true := by
  induction ks with
  | nil => rfl
  | cons k ks ih =>
    simp only [List.map_cons, PyData.canLayAll0, PyData.canLay0, Bool.and_eq_true]
    exact ⟨h k (.head _), ih fun x hx => h x (.tail _ hx)⟩
theorem depth_strs (ks : List Str) : PyData.depthAll (ks.map .str) ≤ 1 := by
  induction ks with
  | nil => simp [PyData.depthAll]
  | cons k ks ih => simp only [List.map_cons, PyData.depthAll, PyData.depth]; omega
theorem depthOk_key {ks : List Str} (h : keyOk ks) : depthOk (keyD ks) := by
  refine ⟨by simpa [keyD, PyData.canLay0] using canLay_strs h.1, ?_⟩
  have := depth_strs ks
  simp only [keyD, PyData.depth]; omega
theorem eqv_strs (a b : List Str) : PyData.eqvAll (a.map .str) (b.map .str) = decide (a = b) := by
  induction a generalizing b with
  | nil => cases b <;> simp [PyData.eqvAll]
  | cons x a ih =>
    cases b with
    | nil => simp [PyData.eqvAll]
    | cons y b =>
      simp only [List.map_cons, PyData.eqvAll, PyData.eqv, ih, strBeq]
      rw [Bool.eq_iff_iff]; simp
theorem eqv_key (a b : List Str) : PyData.eqv (keyD a) (keyD b) = decide (a = b) := by
  simp only [keyD, PyData.eqv, eqv_strs]
theorem any_keys (l : List (List Str)) (k : List Str) : ((l.map keyD).any fun y => PyData.eqv y (keyD k)) = decide (k ∈ l) := by
  rw [List.any_map]
  have : ((fun y => PyData.eqv y (keyD k)) ∘ keyD) = fun y => decide (y = k) := by funext y; exact eqv_key y k
  rw [this, Bool.eq_iff_iff]; simp [List.any_eq_true]
theorem canLay_keys {l : List (List Str)} (h : ∀ k ∈ l, keyOk k) : PyData.canLayAll0 (l.map keyD) = true := by
  induction l with
  | nil => rfl
  | cons k ks ih =>
    simp only [List.map_cons, PyData.canLayAll0, Bool.and_eq_true]
    exact ⟨(depthOk_key (h k (.head _))).1, ih fun x hx => h x (.tail _ hx)⟩

noncomputable def afterLast {α : Type} (p : α → Bool) : List α → List α
  | [] => []
  | x :: l => if l.any p then afterLast p l else if p x then l else x :: l
theorem afterLast_none {α : Type} {p : α → Bool} {l : List α} (h : l.any p = false) : afterLast p l = l := by
  cases l with
  | nil => rfl
  | cons x l =>
    simp only [List.any_cons, Bool.or_eq_false_iff] at h
    unfold afterLast
    rw [h.2, h.1]; rfl
theorem afterLast_drop {α : Type} (p : α → Bool) (l : List α) (M : Nat) (hM : M = 0 ∨ ∃ x, l[M - 1]? = some x ∧ p x = true ∧ 1 ≤ M) (hmax : ∀ i x, l[i]? = some x → p x = true → i + 1 ≤ M) : l.drop M = afterLast p l := by
  induction l generalizing M with
  | nil => simp [afterLast]
  | cons x l ih =>
    unfold afterLast
    by_cases ha : l.any p = true
    · rw [if_pos ha]
      obtain ⟨y, hy, hpy⟩ := List.any_eq_true.mp ha
      obtain ⟨i, hi⟩ := List.getElem?_of_mem hy
      have h1 := hmax (i + 1) y (by simpa using hi) hpy
      have hM' : M ≠ 0 := by omega
      obtain ⟨M, rfl⟩ := Nat.exists_eq_succ_of_ne_zero hM'
      rw [List.drop_succ_cons]
      refine ih M ?_ fun j z hz hp => by have := hmax (j + 1) z (by simpa using hz) hp; omega
      rcases hM with hM | ⟨z, hz, hp, _⟩
      · omega
      · right
        have e : M + 1 - 1 = (M - 1) + 1 := by omega
        simp only [Nat.succ_eq_add_one] at hz
        rw [e, List.getElem?_cons_succ] at hz
        exact ⟨z, hz, hp, by omega⟩
    · have ha' : l.any p = false := by simpa using ha
      rw [if_neg (by simp [ha'])]
      by_cases hx : p x = true
      · rw [if_pos hx]
        have h1 := hmax 0 x rfl hx
        have h2 : M = 1 := by
          rcases hM with hM | ⟨z, hz, hp, h3⟩
          · omega
          · by_cases q : M = 1
            · exact q
            · exfalso
              have e : M - 1 = (M - 2) + 1 := by omega
              rw [e, List.getElem?_cons_succ] at hz
              have := List.any_eq_false.mp ha' z (List.mem_of_getElem? hz)
              exact this hp
        subst h2; rfl
      · rw [if_neg hx]
        have h2 : M = 0 := by
          rcases hM with hM | ⟨z, hz, hp, h3⟩
          · exact hM
          · exfalso
            by_cases q : M = 1
            · subst q; simp at hz; subst hz; exact hx hp
            · have e : M - 1 = (M - 2) + 1 := by omega
              rw [e, List.getElem?_cons_succ] at hz
              have := List.any_eq_false.mp ha' z (List.mem_of_getElem? hz)
              exact this hp
        subst h2; rfl

structure Ev where
  key : List Str
  kind : Str
  val : PyData
noncomputable def Ev.d (e : Ev) : PyData := .tuple [keyD e.key, .str e.kind, e.val]
noncomputable abbrev kMore : Str := Str.ofString "more"
noncomputable abbrev kNest : Str := Str.ofString "nest"
noncomputable abbrev kThing : Str := Str.ofString "thing"
noncomputable abbrev kMark : Str := Str.ofString "mark"
noncomputable def begins (ps : List Str) : List (List Str) := (List.range ps.length).map ps.take
noncomputable def cuts (ps : List Str) (e : Ev) : Bool := decide (e.kind = kMore) && decide (e.key ∈ begins ps)
noncomputable def aliveF (evs : List Ev) (ps : List Str) : List Ev := (afterLast (cuts ps) evs).filter fun e => decide (e.key.take ps.length = ps)
end PartQ12
section PartQ13
noncomputable def isListD : PyData → Bool
  | .list _ => true
  | _ => false
noncomputable def isDictD : PyData → Bool
  | .dict _ => true
  | _ => false
section
variable {prog : Program} {w : World} {A : Around} {E : Value → Shared → Prop} {s : Shared} {H0 e g : Heap} {X : Addr → Prop} {W : Prop} {env : Env} {m : Str → Option Value}

theorem isiList {N : Addr → Prop} {v : Value} {d : PyData} {Q : Value → Shared → Prop} (r : Rd N s.heap v d) (h : ∀ tk, Q (.bool (isListD d)) { s with toks := tk }) : wpAny (model prog w) A (call (.builtin "isinstance") [v, .type "list"]) Q E s := by
  obtain ⟨as, r, _⟩ := r
  cases r with
  | none => exact IsiPair.NoneType_list (h _)
  | bool b => exact IsiPair.bool_list (h _)
  | int i t => exact IsiPair.int_list (h _)
  | str x t => exact IsiPair.str_list (h _)
  | list e c d r => exact IsiPair.list_list e c (h s.toks)
  | tuple e c d r => exact IsiPair.tuple_list e c (h _)
  | dict e c d r r' => exact IsiPair.dict_list e c (h _)
theorem isiDict {N : Addr → Prop} {v : Value} {d : PyData} {Q : Value → Shared → Prop} (r : Rd N s.heap v d) (h : ∀ tk, Q (.bool (isDictD d)) { s with toks := tk }) : wpAny (model prog w) A (call (.builtin "isinstance") [v, .type "dict"]) Q E s := by
  obtain ⟨as, r, _⟩ := r
  cases r with
  | none => exact IsiPair.NoneType_dict (h _)
  | bool b => exact IsiPair.bool_dict (h _)
  | int i t => exact IsiPair.int_dict (h _)
  | str x t => exact IsiPair.str_dict (h _)
  | list e c d r => exact IsiPair.list_dict e c (h _)
  | tuple e c d r => exact IsiPair.tuple_dict e c (h _)
  | dict e c d r r' => exact IsiPair.dict_dict e c (h s.toks)

theorem eqEmpty {a b : Addr} {vs : List Value} {Q : Value → Shared → Prop} (ha : s.heap.IsList a vs.toArray) (hb : s.heap.IsList b #[]) (hu : A.units + 100 < cLine) (h : Q (.bool (decide (vs = []))) s) : wpAny (model prog w) A (compareOp .Eq (.ref a) (.ref b)) Q E s := by
  by_cases hv : vs = []
  · subst hv
    refine eqRd (N := fun _ => True) (N' := fun _ => True) (da := .list []) (db := .list []) (Rd.listOf ha .nil trivial) (Rd.listOf hb .nil trivial) ⟨rfl, by decide⟩ ⟨rfl, by decide⟩ hu ?_
    simpa [PyData.eqv, PyData.eqvAll] using h
  · obtain ⟨⟨cls, dd, data, sl⟩, ho, hc, n, hd⟩ := id ha
    obtain ⟨⟨cls2, dd2, data2, sl2⟩, ho2, hc2, n2, hd2⟩ := id hb
    simp only at hc hd hc2 hd2
    subst hc hd hc2 hd2
    have hz : (vs.toArray.size != (#[] : Array Value).size) = true := by simpa using hv
    have e1 : decide (vs = []) = false := by simpa using hv
    rw [e1] at h
    exact richCompare_meets_room (op := .Eq) ⟨_, ho, rfl⟩ ⟨_, ho2, rfl⟩ F.slot_list_eq F.entry_list_eq (F.args_list_eq_2 _ _) (SeqAt.list_eq_lengthsAt a b _ _ n n2 dd dd2 sl sl2 hz) ⟨ho, ho2, show Value.bool false ≠ Value.notImplemented ∧ Q (.bool false) s from ⟨(fun x => nomatch x), h⟩⟩ (by omega)

theorem unpackTup {elts : List Expr} {k : Nat} {pos : Pos} {t : Addr} {vs : List Value} {Q : Unit → Shared → Prop} (F : Fm H0 e g X W env s.heap m) (ht : IsTup s.heap t vs.toArray) (hh : A.handled = none) (hn : (assignEach elts env).length = vs.length)
    (h : ∀ h', Fm H0 e h' X W env h' m → Kp Nil g h' → Sub s.heap h' → wpAny (model prog w) A (assignInOrder ((assignEach elts env).map (·.2)) vs) Q E { s with heap := h' })
    (hstar : (assignEach elts env).findIdx? (·.1) = none := by rfl) : wpAny (model prog w) A (assign (.Tuple elts k pos) env (.ref t)) Q E s := by
  refine assign_Tuple_tuple hh ht (by rw [List.size_toArray]; exact hn) hstar fun h' he => ?_
  have k : Sub s.heap h' := fun b o q => he b o (Nat.ne_of_lt (Heap.lt_size q)) q
  exact h h' (F.ext k) (F.link k) k

theorem truthyBool {b : Bool} {Q : Bool → Shared → Prop} (h : Q b s) : wpAny (model prog w) A (truthy (.bool b)) Q E s := wpAny_truthy_bool h
end

theorem Rd.key {N N' : Addr → Prop} {h : Heap} {v : Value} {ks : List Str} (r : Rd N h v (keyD ks)) : Rd N' h v (keyD ks) := by
  obtain ⟨a, vs, rfl, ht, hs⟩ := r.tupInv
  refine Rd.tupOf ht ?_
  clear ht r
  induction vs generalizing ks with
  | nil => cases ks with
    | nil => exact .nil
    | cons k ks => have := hs.length; simp at this
  | cons v vs ih => cases ks with
    | nil => have := hs.length; simp at this
    | cons k ks =>
      obtain ⟨r, rs⟩ := hs.uncons
      obtain ⟨t, rfl⟩ := r.strInv
      exact .cons (.str _ _) (ih rs)

theorem evInv {N : Addr → Prop} {h : Heap} {v : Value} {e : Ev} (r : Rd N h v e.d) : ∃ a kv tk tv, v = .ref a ∧ IsTup h a (List.toArray [kv, .str e.kind tk, tv]) ∧ Rd Nil h kv (keyD e.key) ∧ Rd N h tv e.val := by
  obtain ⟨a, vs, rfl, ht, hs⟩ := r.tupInv
  match vs, hs, ht with
  | [x, y, z], hs, ht =>
    obtain ⟨r1, hs⟩ := hs.uncons
    obtain ⟨r2, hs⟩ := hs.uncons
    obtain ⟨r3, _⟩ := hs.uncons
    obtain ⟨t, rfl⟩ := r2.strInv
    exact ⟨a, x, t, z, rfl, ht, r1.key, r3⟩
  | [], hs, _ => have := hs.length; simp at this
  | [_], hs, _ => have := hs.length; simp at this
  | [_, _], hs, _ => have := hs.length; simp at this
  | _ :: _ :: _ :: _ :: _, hs, _ => have := hs.length; simp at this
theorem Rds.evAt {N : Addr → Prop} {h : Heap} {vs : List Value} {evs : List Ev} {i : Nat} {e : Ev} (r : Rds N h vs (evs.map Ev.d)) (hi : evs[i]? = some e) : ∃ v, vs[i]? = some v ∧ Rd N h v e.d := r.at (by simp [hi])
theorem in_loose {N : Addr → Prop} {g : Heap} : ∀ a, In N g a → ¬ Loose g Nil a := fun a ⟨_, o, ho⟩ hl => hl.elim (fun q => by rw [ho] at q; cases q) id
theorem Kp.loop {X : Addr → Prop} {g g' : Heap} (k : Kp (Loose g Nil) g g') : Kp X g g' := ⟨fun a o q c => k.keep a o q (c.imp id fun c => c.imp id fun c => ⟨c.1, fun l => l.elim (fun r => by rw [q] at r; cases r) id⟩)⟩

noncomputable def isNilD : PyData → Bool
  | .list [] => true
  | _ => false
noncomputable def noNest : Str := Str.ofString "There is no nest behind this key"
noncomputable def nothing : Str := Str.ofString "nothing in it"
noncomputable def barAt (evs : List Ev) (way : List Str) (lists : Bool) (size : Nat) : Option Str :=
  match aliveF evs (way.take size) with
  | [] => some (Str.ofString "")
  | e :: r => if ¬ e.key = way.take size ∨ e.kind = kNest then none
      else if (e.kind = kThing ∧ isListD e.val = false) ∨ lists = false then some noNest
      else if (e :: r).filter (fun o => decide (o.key = way.take size) && decide (o.kind = kMore)) = [] then some (if isNilD e.val = true then nothing else noNest) else none
noncomputable def barF (evs : List Ev) (way : List Str) (lists : Bool) : Str := ((List.range way.length).findSome? fun i => barAt evs way lists (i + 1)).getD (Str.ofString "")
theorem findSome_at {α : Type} {f : Nat → Option α} {n i : Nat} {v : α} (hi : i < n) (h : ∀ j, j < i → f j = none) (hv : f i = some v) : (List.range n).findSome? f = some v := by
  have e : List.range n = List.range i ++ (i :: (List.range (n - i - 1)).map (i + 1 + ·)) := by
    have h1 : n = i + (n - i) := by omega
    rw [h1, List.range_add]
    congr 1
    have h2 : i + (n - i) - i = (n - i - 1) + 1 := by omega
    rw [h2]
    have h3 : n - i = (n - i - 1) + 1 := by omega
    rw [h3, List.range_succ_eq_map, List.map_cons, List.map_map]
    simp only [Nat.add_zero, Nat.add_sub_cancel, List.cons.injEq, true_and]
    apply List.map_congr_left
    intro a _
    simp only [Function.comp]; omega
  rw [e, List.findSome?_append, List.findSome?_eq_none_iff.mpr (fun j hj => h j (List.mem_range.mp hj)), Option.none_or, List.findSome?_cons, hv]
theorem findSome_none {α : Type} {f : Nat → Option α} {n : Nat} (h : ∀ j, j < n → f j = none) : (List.range n).findSome? f = none := List.findSome?_eq_none_iff.mpr fun j hj => h j (List.mem_range.mp hj)
theorem barF_at {evs : List Ev} {way : List Str} {lists : Bool} {i : Nat} {v : Str} (hi : i < way.length) (h : ∀ j, j < i → barAt evs way lists (j + 1) = none) (hv : barAt evs way lists (i + 1) = some v) : barF evs way lists = v := by
  unfold barF; rw [findSome_at hi h hv]; rfl
theorem barF_none {evs : List Ev} {way : List Str} {lists : Bool} (h : ∀ j, j < way.length → barAt evs way lists (j + 1) = none) : barF evs way lists = Str.ofString "" := by
  unfold barF; rw [findSome_none h]; rfl
theorem afterLast_mem {α : Type} {p : α → Bool} {x : α} {l : List α} (h : x ∈ afterLast p l) : x ∈ l := by
  induction l with
  | nil => exact h
  | cons y l ih =>
    unfold afterLast at h
    split at h
    · exact .tail _ (ih h)
    · split at h
      · exact .tail _ h
      · exact h
theorem aliveF_mem {evs : List Ev} {ps : List Str} {x : Ev} (h : x ∈ aliveF evs ps) : x ∈ evs := afterLast_mem (List.mem_filter.mp h).1
theorem aliveF_length {evs : List Ev} {ps : List Str} : (aliveF evs ps).length ≤ evs.length := by
  unfold aliveF
  refine Nat.le_trans (List.length_filter_le _ _) ?_
  generalize cuts ps = p
  induction evs with
  | nil => exact Nat.le_refl _
  | cons y l ih =>
    unfold afterLast
    split
    · exact Nat.le_succ_of_le ih
    · split
      · exact Nat.le_succ _
      · exact Nat.le_refl _
end PartQ13
section PartQ14
theorem lookup_nodup {β : Type} : ∀ {l : List (Str × β)}, (l.map (·.1)).Nodup → ∀ p ∈ l, l.lookup p.1 = some p.2
  | [], _, _, hp => nomatch hp
  | (a, b) :: l, hn, p, hp => by
    rw [List.map_cons, List.nodup_cons] at hn
    rcases List.mem_cons.mp hp with rfl | hp
    · simp [List.lookup_cons]
    · have hne : p.1 ≠ a := fun q => hn.1 (List.mem_map.mpr ⟨p, hp, q⟩)
      rw [List.lookup_cons]
      have : (p.1 == a) = false := by simpa using hne
      rw [this]
      exact lookup_nodup hn.2 p hp
theorem cellsFrom_names : ∀ (names : List (Str × NameKind)) (k k' : Addr) (acc acc' : List (Str × Addr)), acc.map (·.1) = acc'.map (·.1) → (cellsFrom k names acc).map (·.1) = (cellsFrom k' names acc').map (·.1)
  | [], _, _, _, _, h => h
  | (n, kd) :: r, k, k', acc, acc', h => by
    unfold cellsFrom
    split
    · exact cellsFrom_names r _ _ _ _ (by simp [h])
    · exact cellsFrom_names r _ _ _ _ h
theorem cellsOkQ {qual : Str} {scope : Scope} {L f : Addr} {cdv : Value} (hn : ((cellsFrom 0 scope.names []).map (·.1)).Nodup) : cellsOk (envQ qual scope L f cdv) :=
  lookup_nodup (by rw [cellsFrom_names scope.names (L + 1) 0 [] [] rfl]; exact hn)
theorem nil_isNil {vs : List Value} {ds : List PyData} (h : vs.length = ds.length) : decide (vs = []) = isNilD (.list ds) := by
  cases vs with
  | nil => cases ds with
    | nil => rfl
    | cons d ds => simp at h
  | cons v vs => cases ds with
    | nil => simp at h
    | cons d ds => rfl
theorem ite_nf {P R : Prop} (h : P) : if (!false) = true then P else R := h
theorem ite_nt {P R : Prop} (h : R) : if (!true) = true then P else R := h
theorem cutB {α : Type} {M : Model} {A : Around} {E : Value → Shared → Prop} {s : Shared} {t : Sem α} {Q : α → Shared → Prop} (b : α) (h : ∀ Q', (∀ tk, Q' b { s with toks := tk }) → wpAny M A t Q' E s) (k : ∀ tk, Q b { s with toks := tk }) : wpAny M A t Q E s := h Q k
end PartQ14
section PartQ15
noncomputable def DO (prog : Program) (w : World) (h : Heap) (a : Addr) (kvs : List (Str × Value)) : Prop := h.DictOf (strKind prog w) a kvs ∧ (a == sysModules) = false

mutual
inductive Hd (prog : Program) (w : World) (h : Heap) : Value → PyData → List Addr → Prop
  | none : Hd prog w h .none .none []
  | int (i : Int) (t : Tok) : Hd prog w h (.int i t) (.int i) []
  | str (x : Str) (t : Tok) : Hd prog w h (.str x t) (.str x) []
  | list {a : Addr} {vs : List Value} {ds : List PyData} {as : List Addr} : h.PlainList a vs.toArray → HdAll prog w h vs ds as → Hd prog w h (.ref a) (.list ds) (a :: as)
  | tuple {a : Addr} {vs : List Value} {ds : List PyData} {as : List Addr} : IsTup h a vs.toArray → HdAll prog w h vs ds as → Hd prog w h (.ref a) (.tuple ds) as
  | dict {a : Addr} {kvs : List (Str × Value)} {ps : List (PyData × PyData)} {as : List Addr} : DO prog w h a kvs → HdPs prog w h kvs ps as → Hd prog w h (.ref a) (.dict ps) (a :: as)
inductive HdAll (prog : Program) (w : World) (h : Heap) : List Value → List PyData → List Addr → Prop
  | nil : HdAll prog w h [] [] []
  | cons {v : Value} {d : PyData} {as : List Addr} {vs : List Value} {ds : List PyData} {bs : List Addr} : Hd prog w h v d as → HdAll prog w h vs ds bs → HdAll prog w h (v :: vs) (d :: ds) (as ++ bs)
inductive HdPs (prog : Program) (w : World) (h : Heap) : List (Str × Value) → List (PyData × PyData) → List Addr → Prop
  | nil : HdPs prog w h [] [] []
  | cons {k : Str} {v : Value} {d : PyData} {as : List Addr} {kvs : List (Str × Value)} {ps : List (PyData × PyData)} {bs : List Addr} : Hd prog w h v d as → HdPs prog w h kvs ps bs → HdPs prog w h ((k, v) :: kvs) ((.str k, d) :: ps) (as ++ bs)
end

section
variable {prog : Program} {w : World} {h h' : Heap} {X : Addr → Prop}
theorem DO.kp {a : Addr} {kvs : List (Str × Value)} (x : DO prog w h a kvs) (k : Kp X h h') (hx : ¬ X a) : DO prog w h' a kvs :=
  by obtain ⟨⟨o, es, ep, ho, c, r⟩, lo⟩ := x; exact ⟨⟨o, es, ep, k.keep a o ho (.inr (.inr ⟨.inr c.1, hx⟩)), c, r⟩, lo⟩
theorem DO.at {a : Addr} {kvs : List (Str × Value)} (x : DO prog w h a kvs) (k : ∀ o, h.get? a = some o → h'.get? a = some o) : DO prog w h' a kvs :=
  by obtain ⟨⟨o, es, ep, ho, c, r⟩, lo⟩ := x; exact ⟨⟨o, es, ep, k o ho, c, r⟩, lo⟩
theorem DO.dom {a : Addr} {kvs : List (Str × Value)} (x : DO prog w h a kvs) : ∃ o, h.get? a = some o ∧ ld o := by obtain ⟨⟨o, es, ep, ho, c, r⟩, lo⟩ := x; exact ⟨o, ho, .inr c.1⟩
theorem DO.nodup {a : Addr} {kvs : List (Str × Value)} (x : DO prog w h a kvs) : (kvs.map (·.1)).Nodup := by obtain ⟨⟨o, es, ep, ho, c, r, _, _, n⟩, lo⟩ := x; exact n
theorem Kp.plain {a : Addr} {xs : Array Value} (k : Kp X h h') (t : h.PlainList a xs) (hx : ¬ X a) : h'.PlainList a xs := by obtain ⟨n, e⟩ := t; exact ⟨n, k.keep a _ e (.inr (.inr ⟨.inl rfl, hx⟩))⟩
theorem isList_dom {a : Addr} {xs : Array Value} (t : h.IsList a xs) : ∃ o, h.get? a = some o ∧ ld o := by obtain ⟨o, e, c, n, d⟩ := t; exact ⟨o, e, .inl c⟩

theorem Hd.kp (k : Kp X h h') {v : Value} {d : PyData} {as : List Addr} (x : Hd prog w h v d as) : (∀ a ∈ as, ¬ X a) → Hd prog w h' v d as :=
  @Hd.rec prog w h (fun v d as _ => (∀ a ∈ as, ¬ X a) → Hd prog w h' v d as) (fun vs ds as _ => (∀ a ∈ as, ¬ X a) → HdAll prog w h' vs ds as) (fun kvs ps as _ => (∀ a ∈ as, ¬ X a) → HdPs prog w h' kvs ps as)
    (fun _ => .none)
    (fun i t _ => .int i t)
    (fun x t _ => .str x t)
    (fun e _ ih hx => .list (k.plain e (hx _ (.head _))) (ih fun a ha => hx a (.tail _ ha)))
    (fun e _ ih hx => .tuple (k.tup e) (ih hx))
    (fun e _ ih hx => .dict (e.kp k (hx _ (.head _))) (ih fun a ha => hx a (.tail _ ha)))
    (fun _ => .nil)
    (fun _ _ i1 i2 hx => .cons (i1 fun a ha => hx a (List.mem_append_left _ ha)) (i2 fun a ha => hx a (List.mem_append_right _ ha)))
    (fun _ => .nil)
    (fun _ _ i1 i2 hx => .cons (i1 fun a ha => hx a (List.mem_append_left _ ha)) (i2 fun a ha => hx a (List.mem_append_right _ ha)))
    _ _ _ x
theorem HdAll.kp (k : Kp X h h') {vs : List Value} {ds : List PyData} {as : List Addr} (x : HdAll prog w h vs ds as) : (∀ a ∈ as, ¬ X a) → HdAll prog w h' vs ds as :=
  @HdAll.rec prog w h (fun v d as _ => (∀ a ∈ as, ¬ X a) → Hd prog w h' v d as) (fun vs ds as _ => (∀ a ∈ as, ¬ X a) → HdAll prog w h' vs ds as) (fun kvs ps as _ => (∀ a ∈ as, ¬ X a) → HdPs prog w h' kvs ps as)
    (fun _ => .none)
    (fun i t _ => .int i t)
    (fun x t _ => .str x t)
    (fun e _ ih hx => .list (k.plain e (hx _ (.head _))) (ih fun a ha => hx a (.tail _ ha)))
    (fun e _ ih hx => .tuple (k.tup e) (ih hx))
    (fun e _ ih hx => .dict (e.kp k (hx _ (.head _))) (ih fun a ha => hx a (.tail _ ha)))
    (fun _ => .nil)
    (fun _ _ i1 i2 hx => .cons (i1 fun a ha => hx a (List.mem_append_left _ ha)) (i2 fun a ha => hx a (List.mem_append_right _ ha)))
    (fun _ => .nil)
    (fun _ _ i1 i2 hx => .cons (i1 fun a ha => hx a (List.mem_append_left _ ha)) (i2 fun a ha => hx a (List.mem_append_right _ ha)))
    _ _ _ x
theorem HdPs.kp (k : Kp X h h') {kvs : List (Str × Value)} {ps : List (PyData × PyData)} {as : List Addr} (x : HdPs prog w h kvs ps as) : (∀ a ∈ as, ¬ X a) → HdPs prog w h' kvs ps as :=
  @HdPs.rec prog w h (fun v d as _ => (∀ a ∈ as, ¬ X a) → Hd prog w h' v d as) (fun vs ds as _ => (∀ a ∈ as, ¬ X a) → HdAll prog w h' vs ds as) (fun kvs ps as _ => (∀ a ∈ as, ¬ X a) → HdPs prog w h' kvs ps as)
    (fun _ => .none)
    (fun i t _ => .int i t)
    (fun x t _ => .str x t)
    (fun e _ ih hx => .list (k.plain e (hx _ (.head _))) (ih fun a ha => hx a (.tail _ ha)))
    (fun e _ ih hx => .tuple (k.tup e) (ih hx))
    (fun e _ ih hx => .dict (e.kp k (hx _ (.head _))) (ih fun a ha => hx a (.tail _ ha)))
    (fun _ => .nil)
    (fun _ _ i1 i2 hx => .cons (i1 fun a ha => hx a (List.mem_append_left _ ha)) (i2 fun a ha => hx a (List.mem_append_right _ ha)))
    (fun _ => .nil)
    (fun _ _ i1 i2 hx => .cons (i1 fun a ha => hx a (List.mem_append_left _ ha)) (i2 fun a ha => hx a (List.mem_append_right _ ha)))
    _ _ _ x
theorem Hd.dom {v : Value} {d : PyData} {as : List Addr} (x : Hd prog w h v d as) : ∀ a ∈ as, ∃ o, h.get? a = some o ∧ ld o :=
  @Hd.rec prog w h (fun v d as _ => ∀ a ∈ as, ∃ o, h.get? a = some o ∧ ld o) (fun vs ds as _ => ∀ a ∈ as, ∃ o, h.get? a = some o ∧ ld o) (fun kvs ps as _ => ∀ a ∈ as, ∃ o, h.get? a = some o ∧ ld o)
    (fun a hm => absurd hm (List.not_mem_nil))
    (fun _ _ a hm => absurd hm (List.not_mem_nil))
    (fun _ _ a hm => absurd hm (List.not_mem_nil))
    (fun e _ ih a hm => (List.mem_cons.mp hm).elim (fun q => q ▸ isList_dom e.isList) (ih a))
    (fun _ _ ih a hm => ih a hm)
    (fun e _ ih a hm => (List.mem_cons.mp hm).elim (fun q => q ▸ e.dom) (ih a))
    (fun a hm => absurd hm (List.not_mem_nil))
    (fun _ _ i1 i2 a hm => (List.mem_append.mp hm).elim (i1 a) (i2 a))
    (fun a hm => absurd hm (List.not_mem_nil))
    (fun _ _ i1 i2 a hm => (List.mem_append.mp hm).elim (i1 a) (i2 a))
    _ _ _ x
theorem HdAll.dom {vs : List Value} {ds : List PyData} {as : List Addr} (x : HdAll prog w h vs ds as) : ∀ a ∈ as, ∃ o, h.get? a = some o ∧ ld o :=
  @HdAll.rec prog w h (fun v d as _ => ∀ a ∈ as, ∃ o, h.get? a = some o ∧ ld o) (fun vs ds as _ => ∀ a ∈ as, ∃ o, h.get? a = some o ∧ ld o) (fun kvs ps as _ => ∀ a ∈ as, ∃ o, h.get? a = some o ∧ ld o)
    (fun a hm => absurd hm (List.not_mem_nil))
    (fun _ _ a hm => absurd hm (List.not_mem_nil))
    (fun _ _ a hm => absurd hm (List.not_mem_nil))
    (fun e _ ih a hm => (List.mem_cons.mp hm).elim (fun q => q ▸ isList_dom e.isList) (ih a))
    (fun _ _ ih a hm => ih a hm)
    (fun e _ ih a hm => (List.mem_cons.mp hm).elim (fun q => q ▸ e.dom) (ih a))
    (fun a hm => absurd hm (List.not_mem_nil))
    (fun _ _ i1 i2 a hm => (List.mem_append.mp hm).elim (i1 a) (i2 a))
    (fun a hm => absurd hm (List.not_mem_nil))
    (fun _ _ i1 i2 a hm => (List.mem_append.mp hm).elim (i1 a) (i2 a))
    _ _ _ x
theorem HdPs.dom {kvs : List (Str × Value)} {ps : List (PyData × PyData)} {as : List Addr} (x : HdPs prog w h kvs ps as) : ∀ a ∈ as, ∃ o, h.get? a = some o ∧ ld o :=
  @HdPs.rec prog w h (fun v d as _ => ∀ a ∈ as, ∃ o, h.get? a = some o ∧ ld o) (fun vs ds as _ => ∀ a ∈ as, ∃ o, h.get? a = some o ∧ ld o) (fun kvs ps as _ => ∀ a ∈ as, ∃ o, h.get? a = some o ∧ ld o)
    (fun a hm => absurd hm (List.not_mem_nil))
    (fun _ _ a hm => absurd hm (List.not_mem_nil))
    (fun _ _ a hm => absurd hm (List.not_mem_nil))
    (fun e _ ih a hm => (List.mem_cons.mp hm).elim (fun q => q ▸ isList_dom e.isList) (ih a))
    (fun _ _ ih a hm => ih a hm)
    (fun e _ ih a hm => (List.mem_cons.mp hm).elim (fun q => q ▸ e.dom) (ih a))
    (fun a hm => absurd hm (List.not_mem_nil))
    (fun _ _ i1 i2 a hm => (List.mem_append.mp hm).elim (i1 a) (i2 a))
    (fun a hm => absurd hm (List.not_mem_nil))
    (fun _ _ i1 i2 a hm => (List.mem_append.mp hm).elim (i1 a) (i2 a))
    _ _ _ x

inductive Keys : List Value → List Str → Prop
  | nil : Keys [] []
  | cons {x : Str} {t : Tok} {vs : List Value} {ks : List Str} : Keys vs ks → Keys (.str x t :: vs) (x :: ks)
theorem reads_keys {es : List DictEntry} {kvs : List (Str × Value)} (p : Pairs (strKind prog w) es kvs) : ReadsAll h (es.map (·.key)) (kvs.map fun kv => PyData.str kv.1) [] := by
  induction p with
  | nil => exact .nil
  | cons h1 h2 _ ih =>
    obtain ⟨t, ht⟩ := Value.isStrOf_shape h1
    simp only [List.map_cons, ht]
    exact ReadsAll.cons (.str _ t) ih
theorem vals_pairs {es : List DictEntry} {kvs : List (Str × Value)} (p : Pairs (strKind prog w) es kvs) : es.map (·.val) = kvs.map (·.2) := by
  induction p with
  | nil => rfl
  | cons h1 h2 _ ih => simp only [List.map_cons, h2, ih]
theorem reads_listI {a : Addr} {vs : List Value} {ds : List PyData} {as : List Addr} (e : h.PlainList a vs.toArray) (r : ReadsAll h vs ds as) : Reads h (.ref a) (.list ds) (a :: as) := by
  obtain ⟨n, e⟩ := e
  exact .list e rfl rfl r
theorem reads_tupI {a : Addr} {vs : List Value} {ds : List PyData} {as : List Addr} (e : IsTup h a vs.toArray) (r : ReadsAll h vs ds as) : Reads h (.ref a) (.tuple ds) as := by
  obtain ⟨o, e, c, n, d⟩ := e
  exact .tuple e c d r
theorem reads_dictI {a : Addr} {kvs : List (Str × Value)} {ps : List (PyData × PyData)} {as : List Addr} (e : DO prog w h a kvs) (r : ps.map (·.1) = kvs.map (fun kv => PyData.str kv.1) ∧ ReadsAll h (kvs.map (·.2)) (ps.map (·.2)) as) : Reads h (.ref a) (.dict ps) (a :: as) := by
  obtain ⟨⟨o, es, ep, ho, c, hd, _, p, _⟩, _⟩ := e
  obtain ⟨e1, e2⟩ := r
  have k := reads_keys (h := h) p
  rw [← e1] at k
  rw [← vals_pairs p] at e2
  exact Reads.dict ho c.1 hd k e2
theorem reads_psI {k : Str} {v : Value} {d : PyData} {as : List Addr} {kvs : List (Str × Value)} {ps : List (PyData × PyData)} {bs : List Addr} (i1 : Reads h v d as) (i2 : ps.map (·.1) = kvs.map (fun kv => PyData.str kv.1) ∧ ReadsAll h (kvs.map (·.2)) (ps.map (·.2)) bs) : ((PyData.str k, d) :: ps).map (·.1) = ((k, v) :: kvs).map (fun kv => PyData.str kv.1) ∧ ReadsAll h (((k, v) :: kvs).map (·.2)) (((PyData.str k, d) :: ps).map (·.2)) (as ++ bs) :=
  ⟨congrArg (PyData.str k :: ·) i2.1, .cons i1 i2.2⟩
theorem Hd.reads {v : Value} {d : PyData} {as : List Addr} (x : Hd prog w h v d as) : Reads h v d as :=
  @Hd.rec prog w h (fun v d as _ => Reads h v d as) (fun vs ds as _ => ReadsAll h vs ds as) (fun kvs ps as _ => ps.map (·.1) = kvs.map (fun kv => PyData.str kv.1) ∧ ReadsAll h (kvs.map (·.2)) (ps.map (·.2)) as)
    .none
    (fun i t => .int i t)
    (fun x t => .str x t)
    (fun e _ ih => reads_listI e ih)
    (fun e _ ih => reads_tupI e ih)
    (fun e _ ih => reads_dictI e ih)
    .nil
    (fun _ _ i1 i2 => .cons i1 i2)
    ⟨rfl, .nil⟩
    (fun _ _ i1 i2 => reads_psI i1 i2)
    _ _ _ x
theorem HdAll.reads {vs : List Value} {ds : List PyData} {as : List Addr} (x : HdAll prog w h vs ds as) : ReadsAll h vs ds as :=
  @HdAll.rec prog w h (fun v d as _ => Reads h v d as) (fun vs ds as _ => ReadsAll h vs ds as) (fun kvs ps as _ => ps.map (·.1) = kvs.map (fun kv => PyData.str kv.1) ∧ ReadsAll h (kvs.map (·.2)) (ps.map (·.2)) as)
    .none
    (fun i t => .int i t)
    (fun x t => .str x t)
    (fun e _ ih => reads_listI e ih)
    (fun e _ ih => reads_tupI e ih)
    (fun e _ ih => reads_dictI e ih)
    .nil
    (fun _ _ i1 i2 => .cons i1 i2)
    ⟨rfl, .nil⟩
    (fun _ _ i1 i2 => reads_psI i1 i2)
    _ _ _ x
theorem HdPs.reads {kvs : List (Str × Value)} {ps : List (PyData × PyData)} {as : List Addr} (x : HdPs prog w h kvs ps as) : ps.map (·.1) = kvs.map (fun kv => PyData.str kv.1) ∧ ReadsAll h (kvs.map (·.2)) (ps.map (·.2)) as :=
  @HdPs.rec prog w h (fun v d as _ => Reads h v d as) (fun vs ds as _ => ReadsAll h vs ds as) (fun kvs ps as _ => ps.map (·.1) = kvs.map (fun kv => PyData.str kv.1) ∧ ReadsAll h (kvs.map (·.2)) (ps.map (·.2)) as)
    .none
    (fun i t => .int i t)
    (fun x t => .str x t)
    (fun e _ ih => reads_listI e ih)
    (fun e _ ih => reads_tupI e ih)
    (fun e _ ih => reads_dictI e ih)
    .nil
    (fun _ _ i1 i2 => .cons i1 i2)
    ⟨rfl, .nil⟩
    (fun _ _ i1 i2 => reads_psI i1 i2)
    _ _ _ x
end
end PartQ15
section PartQ16
noncomputable def Rh (prog : Program) (w : World) (N : Addr → Prop) (h : Heap) (v : Value) (d : PyData) : Prop := ∃ as, Hd prog w h v d as ∧ ∀ a ∈ as, N a
noncomputable def Rhs (prog : Program) (w : World) (N : Addr → Prop) (h : Heap) (vs : List Value) (ds : List PyData) : Prop := ∃ as, HdAll prog w h vs ds as ∧ ∀ a ∈ as, N a
noncomputable def Rps (prog : Program) (w : World) (N : Addr → Prop) (h : Heap) (kvs : List (Str × Value)) (ps : List (PyData × PyData)) : Prop := ∃ as, HdPs prog w h kvs ps as ∧ ∀ a ∈ as, N a

section
variable {prog : Program} {w : World} {N N' X : Addr → Prop} {h h' : Heap} {v : Value} {d : PyData} {vs ws : List Value} {ds es : List PyData} {kvs : List (Str × Value)} {ps : List (PyData × PyData)}
theorem Rh.rd (r : Rh prog w N h v d) : Rd N h v d := by obtain ⟨as, a, b⟩ := r; exact ⟨as, a.reads, b⟩
theorem Rhs.rds (r : Rhs prog w N h vs ds) : Rds N h vs ds := by obtain ⟨as, a, b⟩ := r; exact ⟨as, a.reads, b⟩
theorem Rh.kp (r : Rh prog w N h v d) (k : Kp X h h') (hx : ∀ a, N a → ¬ X a) : Rh prog w N h' v d := by obtain ⟨as, a, b⟩ := r; exact ⟨as, a.kp k fun x hm => hx x (b x hm), b⟩
theorem Rhs.kp (r : Rhs prog w N h vs ds) (k : Kp X h h') (hx : ∀ a, N a → ¬ X a) : Rhs prog w N h' vs ds := by obtain ⟨as, a, b⟩ := r; exact ⟨as, a.kp k fun x hm => hx x (b x hm), b⟩
theorem Rps.kp (r : Rps prog w N h kvs ps) (k : Kp X h h') (hx : ∀ a, N a → ¬ X a) : Rps prog w N h' kvs ps := by obtain ⟨as, a, b⟩ := r; exact ⟨as, a.kp k fun x hm => hx x (b x hm), b⟩
theorem Rh.kp0 (r : Rh prog w N h v d) (k : Kp Nil h h') : Rh prog w N h' v d := r.kp k fun _ _ x => x
theorem Rhs.kp0 (r : Rhs prog w N h vs ds) (k : Kp Nil h h') : Rhs prog w N h' vs ds := r.kp k fun _ _ x => x
theorem Rps.kp0 (r : Rps prog w N h kvs ps) (k : Kp Nil h h') : Rps prog w N h' kvs ps := r.kp k fun _ _ x => x
theorem Rh.sub (r : Rh prog w N h v d) (k : Sub h h') : Rh prog w N h' v d := r.kp (X := Nil) k.kp fun _ _ x => x
theorem Rhs.sub (r : Rhs prog w N h vs ds) (k : Sub h h') : Rhs prog w N h' vs ds := r.kp (X := Nil) k.kp fun _ _ x => x
theorem Rh.mono (r : Rh prog w N h v d) (hs : ∀ a, N a → N' a) : Rh prog w N' h v d := by obtain ⟨as, a, b⟩ := r; exact ⟨as, a, fun x hm => hs x (b x hm)⟩
theorem Rhs.mono (r : Rhs prog w N h vs ds) (hs : ∀ a, N a → N' a) : Rhs prog w N' h vs ds := by obtain ⟨as, a, b⟩ := r; exact ⟨as, a, fun x hm => hs x (b x hm)⟩
theorem Rps.mono (r : Rps prog w N h kvs ps) (hs : ∀ a, N a → N' a) : Rps prog w N' h kvs ps := by obtain ⟨as, a, b⟩ := r; exact ⟨as, a, fun x hm => hs x (b x hm)⟩
theorem Rh.dom (r : Rh prog w N h v d) : Rh prog w (In N h) h v d := by obtain ⟨as, p, q⟩ := r; exact ⟨as, p, fun a hm => ⟨q a hm, by obtain ⟨o, ho, _⟩ := p.dom a hm; exact ⟨o, ho⟩⟩⟩
theorem Rhs.dom (r : Rhs prog w N h vs ds) : Rhs prog w (In N h) h vs ds := by obtain ⟨as, p, q⟩ := r; exact ⟨as, p, fun a hm => ⟨q a hm, by obtain ⟨o, ho, _⟩ := p.dom a hm; exact ⟨o, ho⟩⟩⟩
theorem Rps.dom (r : Rps prog w N h kvs ps) : Rps prog w (In N h) h kvs ps := by obtain ⟨as, p, q⟩ := r; exact ⟨as, p, fun a hm => ⟨q a hm, by obtain ⟨o, ho, _⟩ := p.dom a hm; exact ⟨o, ho⟩⟩⟩
theorem Rh.str (x : Str) (t : Tok) : Rh prog w N h (.str x t) (.str x) := ⟨[], .str x t, fun _ hm => nomatch hm⟩
theorem Rh.int (i : Int) (t : Tok) : Rh prog w N h (.int i t) (.int i) := ⟨[], .int i t, fun _ hm => nomatch hm⟩
theorem Rh.none : Rh prog w N h .none .none := ⟨[], .none, fun _ hm => nomatch hm⟩
theorem Rhs.nil : Rhs prog w N h [] [] := ⟨[], .nil, fun _ hm => nomatch hm⟩
theorem Rps.nil : Rps prog w N h [] [] := ⟨[], .nil, fun _ hm => nomatch hm⟩
theorem Rhs.cons (r : Rh prog w N h v d) (rs : Rhs prog w N h vs ds) : Rhs prog w N h (v :: vs) (d :: ds) :=
  by obtain ⟨as, a, b⟩ := r; exact by obtain ⟨bs, c, e⟩ := rs; exact ⟨as ++ bs, .cons a c, fun x hm => (List.mem_append.mp hm).elim (b x) (e x)⟩
theorem Rps.cons {k : Str} (r : Rh prog w N h v d) (rs : Rps prog w N h kvs ps) : Rps prog w N h ((k, v) :: kvs) ((.str k, d) :: ps) :=
  by obtain ⟨as, a, b⟩ := r; exact by obtain ⟨bs, c, e⟩ := rs; exact ⟨as ++ bs, .cons a c, fun x hm => (List.mem_append.mp hm).elim (b x) (e x)⟩
theorem Rhs.uncons (r : Rhs prog w N h (v :: vs) (d :: ds)) : Rh prog w N h v d ∧ Rhs prog w N h vs ds := by
  obtain ⟨as, a, b⟩ := r
  cases a with
  | cons r rs => exact ⟨⟨_, r, fun x hm => b x (List.mem_append_left _ hm)⟩, ⟨_, rs, fun x hm => b x (List.mem_append_right _ hm)⟩⟩
theorem Rps.uncons {k : Str} {p : PyData × PyData} (r : Rps prog w N h ((k, v) :: kvs) (p :: ps)) : p.1 = .str k ∧ Rh prog w N h v p.2 ∧ Rps prog w N h kvs ps := by
  obtain ⟨as, a, b⟩ := r
  cases a with
  | cons r rs => exact ⟨rfl, ⟨_, r, fun x hm => b x (List.mem_append_left _ hm)⟩, ⟨_, rs, fun x hm => b x (List.mem_append_right _ hm)⟩⟩
theorem Rhs.length (r : Rhs prog w N h vs ds) : vs.length = ds.length := r.rds.length
theorem Rps.length (r : Rps prog w N h kvs ps) : kvs.length = ps.length := by
  induction kvs generalizing ps with
  | nil => obtain ⟨as, a, b⟩ := r; cases a; rfl
  | cons v vs ih =>
    cases ps with
    | nil => obtain ⟨as, a, b⟩ := r; cases a
    | cons d ds => rw [List.length_cons, List.length_cons, ih r.uncons.2.2]
theorem Rhs.append (r : Rhs prog w N h vs ds) (r' : Rhs prog w N h ws es) : Rhs prog w N h (vs ++ ws) (ds ++ es) := by
  induction vs generalizing ds with
  | nil =>
    cases ds with
    | nil => exact r'
    | cons d ds => have := r.length; simp at this
  | cons v vs ih =>
    cases ds with
    | nil => have := r.length; simp at this
    | cons d ds => exact .cons r.uncons.1 (ih r.uncons.2)
theorem Rps.snoc {k : Str} (r : Rps prog w N h kvs ps) (r' : Rh prog w N h v d) : Rps prog w N h (kvs ++ [(k, v)]) (ps ++ [(.str k, d)]) := by
  induction kvs generalizing ps with
  | nil =>
    cases ps with
    | nil => exact .cons r' .nil
    | cons d ds => have := r.length; simp at this
  | cons v vs ih =>
    cases ps with
    | nil => have := r.length; simp at this
    | cons d ds =>
      obtain ⟨v1, v2⟩ := v
      obtain ⟨d1, d2⟩ := d
      obtain ⟨e, r1, r2⟩ := r.uncons
      simp only at e; subst e
      exact .cons r1 (ih r2)
theorem Rhs.get (r : Rhs prog w N h vs ds) {i : Nat} (hv : vs[i]? = some v) : ∃ d, ds[i]? = some d ∧ Rh prog w N h v d := by
  induction vs generalizing ds i with
  | nil => simp at hv
  | cons u vs ih =>
    cases ds with
    | nil => have := r.length; simp at this
    | cons d ds =>
      cases i with
      | zero => simp at hv; subst hv; exact ⟨d, rfl, r.uncons.1⟩
      | succ i => simp only [List.getElem?_cons_succ] at hv ⊢; exact ih r.uncons.2 hv
theorem Rps.get (r : Rps prog w N h kvs ps) {i : Nat} {k : Str} (hv : kvs[i]? = some (k, v)) : ∃ d, ps[i]? = some (.str k, d) ∧ Rh prog w N h v d := by
  induction kvs generalizing ps i with
  | nil => simp at hv
  | cons u vs ih =>
    cases ps with
    | nil => have := r.length; simp at this
    | cons d ds =>
      cases i with
      | zero => simp at hv; subst hv; obtain ⟨e, r1, _⟩ := r.uncons; obtain ⟨d1, d2⟩ := d; simp only at e; subst e; exact ⟨d2, rfl, r1⟩
      | succ i => simp only [List.getElem?_cons_succ] at hv ⊢; exact ih r.uncons.2.2 hv
theorem Rps.at (r : Rps prog w N h kvs ps) {i : Nat} {p : PyData × PyData} (hd : ps[i]? = some p) : ∃ k v, kvs[i]? = some (k, v) ∧ p.1 = .str k ∧ Rh prog w N h v p.2 := by
  have hlt : i < kvs.length := by rw [r.length]; exact (List.getElem?_eq_some_iff.mp hd).1
  obtain ⟨⟨k, v⟩, hkv⟩ : ∃ kv, kvs[i]? = some kv := ⟨_, List.getElem?_eq_getElem hlt⟩
  obtain ⟨d, h1, h2⟩ := r.get hkv
  rw [hd] at h1; cases h1
  exact ⟨k, v, hkv, rfl, h2⟩
theorem Rhs.at (r : Rhs prog w N h vs ds) {i : Nat} (hd : ds[i]? = some d) : ∃ v, vs[i]? = some v ∧ Rh prog w N h v d := by
  have hlt : i < vs.length := by rw [r.length]; exact (List.getElem?_eq_some_iff.mp hd).1
  obtain ⟨d', h1, h2⟩ := r.get (List.getElem?_eq_getElem hlt)
  rw [hd] at h1; cases h1
  exact ⟨_, List.getElem?_eq_getElem hlt, h2⟩
theorem Rhs.drop (r : Rhs prog w N h vs ds) (k : Nat) : Rhs prog w N h (vs.drop k) (ds.drop k) := by
  induction k generalizing vs ds with
  | zero => exact r
  | succ k ih =>
    cases vs with
    | nil => cases ds with
      | nil => exact .nil
      | cons d ds => have := r.length; simp at this
    | cons v vs => cases ds with
      | nil => have := r.length; simp at this
      | cons d ds => exact ih r.uncons.2
theorem Rh.tupOf {a : Addr} (t : IsTup h a vs.toArray) (r : Rhs prog w N h vs ds) : Rh prog w N h (.ref a) (.tuple ds) := by obtain ⟨as, p, q⟩ := r; exact ⟨as, .tuple t p, q⟩
theorem Rh.listOf {a : Addr} (t : h.PlainList a vs.toArray) (r : Rhs prog w N h vs ds) (ha : N a) : Rh prog w N h (.ref a) (.list ds) :=
  by obtain ⟨as, p, q⟩ := r; exact ⟨a :: as, .list t p, fun x hm => (List.mem_cons.mp hm).elim (fun e => e ▸ ha) (q x)⟩
theorem Rh.dictOf {a : Addr} (t : DO prog w h a kvs) (r : Rps prog w N h kvs ps) (ha : N a) : Rh prog w N h (.ref a) (.dict ps) :=
  by obtain ⟨as, p, q⟩ := r; exact ⟨a :: as, .dict t p, fun x hm => (List.mem_cons.mp hm).elim (fun e => e ▸ ha) (q x)⟩
theorem Rh.tupInv (r : Rh prog w N h v (.tuple ds)) : ∃ a vs, v = .ref a ∧ IsTup h a vs.toArray ∧ Rhs prog w N h vs ds := by
  obtain ⟨as, a, b⟩ := r
  cases a with
  | tuple t rs => exact ⟨_, _, rfl, t, ⟨as, rs, b⟩⟩
theorem Rh.listInv (r : Rh prog w N h v (.list ds)) : ∃ a vs, v = .ref a ∧ h.PlainList a vs.toArray ∧ Rhs prog w N h vs ds ∧ N a := by
  obtain ⟨as, a, b⟩ := r
  cases a with
  | list t rs => exact ⟨_, _, rfl, t, ⟨_, rs, fun x hm => b x (.tail _ hm)⟩, b _ (.head _)⟩
theorem Rh.dictInv (r : Rh prog w N h v (.dict ps)) : ∃ a kvs, v = .ref a ∧ DO prog w h a kvs ∧ Rps prog w N h kvs ps ∧ N a := by
  obtain ⟨as, a, b⟩ := r
  cases a with
  | dict t rs => exact ⟨_, _, rfl, t, ⟨_, rs, fun x hm => b x (.tail _ hm)⟩, b _ (.head _)⟩
theorem Rh.strInv {x : Str} (r : Rh prog w N h v (.str x)) : ∃ t, v = .str x t := r.rd.strInv
theorem Rh.intInv {x : Int} (r : Rh prog w N h v (.int x)) : ∃ t, v = .int x t := r.rd.intInv
theorem Rh.noneInv (r : Rh prog w N h v .none) : v = .none := r.rd.noneInv
theorem Rps.keys (r : Rps prog w N h kvs ps) : ps.map (·.1) = kvs.map (fun kv => PyData.str kv.1) := by obtain ⟨_, p, _⟩ := r; exact p.reads.1
theorem Rh.key {ks : List Str} (r : Rh prog w N h v (keyD ks)) : Rd Nil h v (keyD ks) := r.rd.key
theorem Rd.keyH {ks : List Str} (r : Rd N h v (keyD ks)) : Rh prog w N' h v (keyD ks) := by
  obtain ⟨a, vs, rfl, ht, hs⟩ := r.tupInv
  refine Rh.tupOf ht ?_
  clear ht r
  induction vs generalizing ks with
  | nil => cases ks with
    | nil => exact .nil
    | cons k ks => have := hs.length; simp at this
  | cons v vs ih => cases ks with
    | nil => have := hs.length; simp at this
    | cons k ks =>
      obtain ⟨r, rs⟩ := hs.uncons
      obtain ⟨t, rfl⟩ := r.strInv
      exact .cons (.str _ _) (ih rs)
end
end PartQ16
section PartQ17
section
variable {prog : Program} {w : World} {A : Around} {E : Value → Shared → Prop} {s : Shared} {H0 e g : Heap} {X : Addr → Prop} {W : Prop} {env : Env} {m : Str → Option Value}

theorem low_new {h : Heap} (x : h.NoLimit) : (h.objs.size == sysModules) = false := by
  have := modules_low x
  simpa using Nat.ne_of_gt this

theorem dictNew {pos : Pos} {Q : Value → Shared → Prop} (F : Fm H0 e g X W env s.heap m) (hlim : H0.NoLimit)
    (h : ∀ a h', Fm H0 e h' X W env h' m → Kp Nil g h' → Sub s.heap h' → s.heap.get? a = none → DO prog w h' a [] → Q (.ref a) { s with heap := h' }) : wpAny (model prog w) A (eval (.Dict [] [] pos) env) Q E s :=
  wpAny_Dict_empty (h s.heap.objs.size _ (F.ext (Sub.push _ _)) (F.link (Sub.push _ _)) (Sub.push _ _) (at_new _) ⟨Heap.DictOf.new _, low_new (hlim.keeps F.vw.old)⟩)

theorem inDict {d : Addr} {kvs : List (Str × Value)} {k : Str} {t : Tok} {Q : Value → Shared → Prop} (hd : DO prog w s.heap d kvs) (h : Q (.bool (valueAt kvs k).isSome) { s with toks := s.toks + 1 }) : wpAny (model prog w) A (compareOp .In (.str k t) (.ref d)) Q E s :=
  wpAny_in_of (strKind_is prog w k t) hd.2 hd.1.mapOf h
theorem notInDict {d : Addr} {kvs : List (Str × Value)} {k : Str} {t : Tok} {Q : Value → Shared → Prop} (hd : DO prog w s.heap d kvs) (h : Q (.bool (!(valueAt kvs k).isSome)) { s with toks := s.toks + 1 }) : wpAny (model prog w) A (compareOp .NotIn (.str k t) (.ref d)) Q E s :=
  wpAny_notIn_of (strKind_is prog w k t) hd.2 hd.1.mapOf h
theorem getDict {value slice : Expr} {d : Addr} {kvs : List (Str × Value)} {k : Str} {t : Tok} {v : Value} {Q : Value → Shared → Prop} (hd : DO prog w s.heap d kvs) (hv : valueAt kvs k = some v) (h : Q v { s with toks := s.toks + 1 })
    (hs : subscripted slice false (.ref d) (.str k t) = operate [.ref d, .str k t] (getItem (.ref d) (.str k t)) := by with_unfolding_all rfl) : wpAny (model prog w) A (subscriptTail value slice (.ref d) (.str k t)) Q E s :=
  tail_any hd.1.typeIs slot_dict_getitem.lookup (wpAny_getItem_of (strKind_is prog w k t) hd.1.mapOf hv h) hs

theorem Fm.mut {h h' : Heap} {a : Addr} {o : Obj} (F : Fm H0 e g X True env h m) (hs : Heap.SameBut a h h') (ho : h.get? a = some o) (hl : ld o) (ho' : ∃ o', h'.get? a = some o') (hX : ∀ o, e.get? a = some o → X a) (hH : H0.get? a = none) :
    Fm H0 e h' X True env h' m ∧ Kp (fun b => b = a) h h' := by
  have w := F.wr trivial
  have hloc : ¬ Loc o := fun q => q.2.2 hl
  have nL : env.locals ≠ a := fun q => hloc (w.tagL o (q ▸ ho))
  have nC : ∀ x c, env.cells.lookup x = some c → c ≠ a := fun x c hc q => by
    obtain ⟨⟨v, hv⟩, _⟩ := w.cells x c hc
    rw [q, ho] at hv; cases hv
    exact hloc ⟨by simp, by simp, by simp [ld]⟩
  refine ⟨⟨⟨fun b ob hb => by rw [hs.2 b (fun q => by subst q; rw [hH] at hb; cases hb)]; exact F.vw.old b ob hb, ?_, fun x c v hc hk hv => (F.vw.cell x c v hc hk hv).sameBut hs (nC x c hc)⟩,
    fun _ => ⟨fun ob hb => w.tagL ob (by rw [← hs.2 _ nL]; exact hb), w.newL, w.lowL, fun x c hc => ?_, w.apart⟩, fun b ob hb hx => ?_, fun b ob hb => ?_, fun x c hc => ?_, .refl _⟩, ⟨fun b ob hb hx => ?_⟩⟩
  · obtain ⟨ml, hn, hm⟩ := F.vw.ns
    exact ⟨ml, hn.sameBut hs nL, hm⟩
  · obtain ⟨⟨v, hv⟩, r⟩ := w.cells x c hc
    exact ⟨⟨v, by rw [hs.2 c (nC x c hc)]; exact hv⟩, r⟩
  · have h1 := F.keepE b ob hb hx
    rw [hs.2 b (fun q => ?_)]
    · exact h1
    · subst q
      rw [ho] at h1; cases h1
      exact hx hl (hX _ hb)
  · by_cases q : b = a
    · subst q; exact ho'
    · obtain ⟨o', h1⟩ := F.domE b ob hb
      exact ⟨o', by rw [hs.2 b q]; exact h1⟩
  · obtain ⟨v, hv⟩ := F.live x c hc
    exact ⟨v, by rw [hs.2 c (nC x c hc)]; exact hv⟩
  · rw [hs.2 b (fun q => ?_)]
    · exact hb
    · subst q
      rw [ho] at hb; cases hb
      rcases hx with hx | ⟨c, hx⟩ | hx
      · rcases hl with hl | hl <;> rw [hl] at hx <;> simp at hx
      · rcases hl with hl | hl <;> rw [hl] at hx <;> simp at hx
      · exact hx.2 rfl

theorem setDict {d : Addr} {kvs : List (Str × Value)} {k : Str} {t : Tok} {v : Value} {Q : Unit → Shared → Prop} (F : Fm H0 e g X True env s.heap m) (hd : DO prog w s.heap d kvs) (hX : ∀ o, e.get? d = some o → X d) (hH : H0.get? d = none) (hz : kvs.length ≤ sizeLine)
    (h : ∀ h', Fm H0 e h' X True env h' m → Kp (fun b => b = d) s.heap h' → DO prog w h' d (stored kvs k v) → Q () { s with heap := h', toks := s.toks + 1 }) : wpAny (model prog w) A (setItem (.ref d) (.str k t) v) Q E s := by
  refine wpAny_setItem_pairs (hsz := hz) (strKind_is prog w k t) hd.1 fun h' hm hs => ?_
  obtain ⟨o, ho, hl⟩ := hd.dom
  have hd' : DO prog w h' d (stored kvs k v) := ⟨hm, hd.2⟩
  obtain ⟨o', ho', _⟩ := hd'.dom
  obtain ⟨F', k'⟩ := F.mut hs ho hl ⟨o', ho'⟩ hX hH
  exact h h' F' k' hd'
theorem appendL {l : Addr} {vs : List Value} {x : Value} {Q : Value → Shared → Prop} (F : Fm H0 e g X True env s.heap m) (hl : s.heap.PlainList l vs.toArray) (hX : ∀ o, e.get? l = some o → X l) (hH : H0.get? l = none) (hz : vs.length ≤ sizeLine)
    (h : ∀ h', Fm H0 e h' X True env h' m → Kp (fun b => b = l) s.heap h' → h'.PlainList l (vs ++ [x]).toArray → Q .none { s with heap := h' }) : wpAny (model prog w) A (call (.builtin "list.append") [.ref l, x]) Q E s := by
  refine wpAny_list_append_plain (hsz := by rw [List.size_toArray]; exact hz) hl fun h' hm hs => ?_
  obtain ⟨o, ho, hld⟩ := isList_dom hl.isList
  obtain ⟨o', ho', _⟩ := isList_dom hm.isList
  obtain ⟨F', k'⟩ := F.mut hs ho hld ⟨o', ho'⟩ hX hH
  exact h h' F' k' (by simpa using hm)

theorem methList {name : Str} {id : String} {pos : Pos} {l : Addr} {xs : Array Value} {trees : List (Bool × Sem Value)} {Q : Value → Shared → Prop} (slot : Slot "list" name id) (hty : typeOf (.builtin id) = pure (.type "method_descriptor")) (hl : s.heap.PlainList l xs)
    (h : wpAny (model prog w) A (callWith pos (.builtin id) [.ref l] trees []) Q E s) : MethodOn prog w A name pos (.ref l) trees Q E s :=
  by obtain ⟨n, e⟩ := hl; exact ⟨"list", id, PySem.F.plainAttrs_list, slot, hty, ⟨_, e, rfl⟩, fun a q => by cases q; exact ⟨_, e, rfl⟩, h⟩
theorem methDict {name : Str} {id : String} {pos : Pos} {d : Addr} {kvs : List (Str × Value)} {trees : List (Bool × Sem Value)} {Q : Value → Shared → Prop} (slot : Slot "dict" name id) (hty : typeOf (.builtin id) = pure (.type "method_descriptor")) (hd : DO prog w s.heap d kvs)
    (h : wpAny (model prog w) A (callWith pos (.builtin id) [.ref d] trees []) Q E s) : MethodOn prog w A name pos (.ref d) trees Q E s :=
  by obtain ⟨⟨o, es, ep, ho, c, r⟩, lo⟩ := hd; exact ⟨"dict", id, PySem.F.plainAttrs_dict, slot, hty, ⟨o, ho, c.1⟩, fun a q => by cases q; exact ⟨_, ho, c.2.1⟩, h⟩

inductive KeysAre : List Value → List Str → Prop
  | nil : KeysAre [] []
  | cons {x : Str} {t : Tok} {vs : List Value} {ks : List Str} : KeysAre vs ks → KeysAre (.str x t :: vs) (x :: ks)
theorem KeysAre.of : ∀ {vs : List Value} {kvs : List (Str × Value)}, vs.length = kvs.length → (∀ (j : Nat) (v : Value), vs[j]? = some v → ∃ k x, kvs[j]? = some (k, x) ∧ (strKind prog w).is k v = true) → KeysAre vs (kvs.map (·.1))
  | [], [], _, _ => .nil
  | v :: vs, (k, x) :: kvs, hl, hv => by
    obtain ⟨k', x', e, hk⟩ := hv 0 v rfl
    simp only [List.getElem?_cons_zero, Option.some.injEq, Prod.mk.injEq] at e
    obtain ⟨rfl, rfl⟩ := e
    obtain ⟨t, rfl⟩ := Value.isStrOf_shape hk
    exact .cons (KeysAre.of (by simpa using hl) fun j u hu => by simpa using hv (j + 1) u (by simpa using hu))
  | [], _ :: _, hl, _ => by simp at hl
  | _ :: _, [], hl, _ => by simp at hl
theorem KeysAre.rds {vs : List Value} {ks : List Str} (k : KeysAre vs ks) {N : Addr → Prop} {h : Heap} : Rds N h vs (ks.map .str) := by
  induction k with
  | nil => exact .nil
  | cons _ ih => exact .cons (.str _ _) ih

theorem listDict {d : Addr} {kvs : List (Str × Value)} {Q : Value → Shared → Prop} (hh : A.handled = none) (F : Fm H0 e g X W env s.heap m) (hd : DO prog w s.heap d kvs) (hz : kvs.length ≤ sizeLine)
    (h : ∀ a h' tk vs, Fm H0 e h' X W env h' m → Kp Nil g h' → Sub s.heap h' → s.heap.get? a = none → h'.PlainList a (List.toArray vs) → KeysAre vs (kvs.map (·.1)) → Q (.ref a) { s with heap := h', toks := tk }) : wpAny (model prog w) A (call (.type "list") [.ref d]) Q E s := by
  obtain ⟨ep, hat⟩ := hd.1.dictAt
  refine kdl_call (kdl_dict (knd := strKind prog w) (kvs := kvs) (ep := ep) hd.2) hh hat hz fun h' tk acc c hk hD hacc => ?_
  exact h _ h' tk acc.toList (F.ext hk) (F.link hk) hk (at_new _) ⟨c, by simpa using hD⟩ (KeysAre.of (prog := prog) (w := w) (by simpa using hacc.1) fun j v hv => hacc.2 j v (by simpa using hv))

theorem compDict {elt iter : Expr} {x : Str} {px : Pos} {ifs : List Expr} {scope : Scope} {cl : List (Str × Addr)} {pos : Pos} {Q : Value → Shared → Prop} {d : Addr} {kvs : List (Str × Value)} (M : Addr → Prop) (J : Nat → Heap → List Value → Prop) (ok : CompOk scope env x cl) (hd : DO prog w s.heap d kvs) (F : Fm H0 e g X W env s.heap m) (hX : ¬ M d) (mk : MOk H0 e s.heap X M env)
    (hn : kvs.length ≤ sizeLine) (hj0 : J 0 s.heap []) (hJ : ∀ i g' g'' ys, J i g' ys → Kp (Three s.heap) g' g'' → J i g'' ys)
    (turn : ∀ i k u t ys C h₁ tk₁ E', kvs[i]? = some (k, u) → Kp M s.heap h₁ → J i h₁ ys → (∀ a, (Three s.heap a ∨ ∃ o, e.get? a = some o) → ∃ o, h₁.get? a = some o) → Fm H0 h₁ h₁ M False (compEnvC scope cl C env) h₁ (compMap scope x (.str k t) m) →
      CTurn prog w A H0 M env scope cl x ifs elt m (J (i + 1)) s (.str k t) ys C h₁ tk₁ E')
    (done : ∀ h₁ tk₁ D ys, Fm H0 e h₁ X W env h₁ m → Kp M s.heap h₁ → s.heap.objs.size ≤ D → s.heap.get? D = none → h₁.PlainList D ys.toArray → ys.length ≤ kvs.length → J kvs.length h₁ ys → Q (.ref D) { s with heap := h₁, toks := tk₁ })
    (hh : A.handled = none) :
    wpAny (model prog w) A (pyIter (.ref d)) (fun it s₂ => CompGoal prog w A E env scope cl (.ListComp elt [⟨.Name x px, iter, ifs, 0⟩] scope pos) (newList []) Q it s₂) E s := by
  obtain ⟨ep, hat⟩ := hd.1.dictAt
  refine wpAny_pyIter_dict hd.2 hat ?_
  obtain ⟨ol, hol, hcl⟩ := hd.dom
  have hclD : ol.cls = .type "dict" := by
    obtain ⟨⟨o, es, ep, ho, c, r⟩, lo⟩ := hd
    rw [hol] at ho; cases ho; exact c.1
  have hne : d ≠ s.heap.objs.size := Nat.ne_of_lt (Heap.lt_size hol)
  have Wk := Walks.dictKeys (prog := prog) (w := w) hh s.heap.objs.size d hne kvs ep (knd := strKind prog w)
  exact compCore (s := { s with heap := s.heap.push { cls := .type "dict_keyiterator", data := .fields #[.ref d, .int 0 0, .int kvs.length 0, .int ep 0] } }) (g := s.heap) M J ok.cell ok.kind ok.var ok.cl Wk (fun b hb => by simpa using hb) F.here _ rfl
    ⟨⟨_, Heap.get?_push_size _ rfl, rfl, rfl⟩, hat.push _⟩
    (fun i h st => by obtain ⟨⟨o', ho', c, _⟩, _⟩ := st; exact ⟨o', ho', by rw [c]; simp, by rw [c]; simp, by unfold ld; rw [c]; simp⟩)
    (fun i h st b hb => by
      rcases List.mem_cons.mp hb with rfl | hb
      · exact .inl rfl
      · rw [List.mem_singleton.mp hb]
        refine .inr ⟨ol, hol, fun _ => hX, fun o' ho' => ?_⟩
        obtain ⟨_, o'', es, ho'', c, _⟩ := st
        rw [ho'] at ho''; cases ho''; rw [c.1, hclD])
    mk.dom mk.out mk.isld mk.loc mk.top hn hj0 hJ
    (by rintro i v ys C h₁ tk₁ E' hi ⟨k, u, hk, hv⟩; exact by obtain ⟨t, rfl⟩ := Value.isStrOf_shape hv; exact turn i k u t ys C h₁ tk₁ E' hk) done
end
end PartQ17
section PartQ18
noncomputable def typD : PyData → String
  | .none => "NoneType"
  | .bool _ => "bool"
  | .int _ => "int"
  | .str _ => "str"
  | .list _ => "list"
  | .tuple _ => "tuple"
  | .dict _ => "dict"
section
variable {prog : Program} {w : World} {A : Around} {E : Value → Shared → Prop} {s : Shared} {H0 e g : Heap} {X : Addr → Prop} {W : Prop} {env : Env} {m : Str → Option Value}

theorem cutF {α : Type} {M : Model} {t : Sem α} {Q : α → Shared → Prop} (F : Fm H0 e g X W env s.heap m) (P : α → Heap → Prop)
    (h : ∀ Q' : α → Shared → Prop, (∀ v h' tk, Sub s.heap h' → Fm H0 e h' X W env h' m → P v h' → Q' v { s with heap := h', toks := tk }) → wpAny M A t Q' E s)
    (k : ∀ v h' tk, Sub s.heap h' → Fm H0 e h' X W env h' m → P v h' → Q v { s with heap := h', toks := tk }) : wpAny M A t Q E s := h Q k

theorem Ints.mem {vs : List Value} {ns : List Int} (h : Ints vs ns) {v : Value} (hv : v ∈ vs) : ∃ i t, v = .int i t := by
  induction h with
  | nil => cases hv
  | cons _ ih =>
    rcases List.mem_cons.mp hv with rfl | hv
    · exact ⟨_, _, rfl⟩
    · exact ih hv
theorem Kp.loopM {M : Addr → Prop} {g g' : Heap} (k : Kp (Loose g M) g g') : Kp M g g' := ⟨fun a o q c => k.keep a o q (c.imp id fun c => c.imp id fun c => ⟨c.1, fun l => l.elim (fun r => by rw [q] at r; cases r) c.2⟩)⟩
theorem Kp.up {M : Addr → Prop} {g h h' : Heap} (k : Kp M h h') : Kp (Loose g M) h h' := k.weaken fun _ x => .inr x
theorem Kp.up0 {M : Addr → Prop} {h h' : Heap} (k : Kp Nil h h') : Kp M h h' := k.weaken fun _ x => x.elim
theorem typeIsH {N : Addr → Prop} {v : Value} {d : PyData} (r : Rd N s.heap v d) : s.TypeIs v (typD d) := by
  obtain ⟨as, r, _⟩ := r
  cases r with
  | none => rfl
  | bool b => rfl
  | int i t => rfl
  | str x t => rfl
  | list e c d r => exact ⟨_, e, c⟩
  | tuple e c d r => exact ⟨_, e, c⟩
  | dict e c d r r' => exact ⟨_, e, c⟩
theorem typeOfH {N : Addr → Prop} {v : Value} {d : PyData} {Q : Value → Shared → Prop} (r : Rd N s.heap v d) (h : Q (.type (typD d)) s) : wpAny (model prog w) A (call (.type "type") [v]) Q E s :=
  call_type_of (typeIsH r) (by cases d <;> simp only [typD] <;> decide) h

theorem empty_dict {h : Heap} {a : Addr} (x : DO prog w h a []) (prog' : Program) (w' : World) : h.DictOf (strKind prog' w') a [] := by
  obtain ⟨⟨o, es, ep, ho, c, hd, hk, p, n⟩, lo⟩ := x
  have he : es = #[] := by
    have := p.length
    simpa using this
  subst he
  exact ⟨o, #[], ep, ho, c, hd, fun _ hm => by simp at hm, .nil, List.nodup_nil⟩
theorem eqEmptyDicts {a b : Addr} (ha : DO prog w s.heap a []) (hb : DO prog w s.heap b []) (hu : A.units + 10 < cLine) : SeqAt.EqAt A s (.ref a) (.ref b) true := by
  by_cases q : a = b
  · subst q; exact SeqAt.EqAt.same _
  · refine SeqAt.EqAt.of_refs q fun prog' w' E Q h => ?_
    exact keq_eq (knd := strKind prog' w') (r := true) ha.2 hb.2 (empty_dict ha _ _) (empty_dict hb _ _) (by omega) (fun _ => .nil) h
theorem eqTupDict {N N' : Addr → Prop} {v u : Value} {Q : Value → Shared → Prop} (r : Rh prog w N s.heap v (.tuple [.dict []])) (r' : Rh prog w N' s.heap u (.tuple [.dict []])) (hu : A.units + 100 < cLine) (h : Q (.bool true) s) :
    wpAny (model prog w) A (compareOp .Eq v u) Q E s := by
  obtain ⟨a, vs, rfl, ht, rs⟩ := r.tupInv
  obtain ⟨b, us, rfl, ht', rs'⟩ := r'.tupInv
  match vs, rs, ht with
  | [x], rs, ht =>
    match us, rs', ht' with
    | [y], rs', ht' =>
      obtain ⟨c, kvs, rfl, hc, hp, _⟩ := rs.uncons.1.dictInv
      obtain ⟨c', kvs', rfl, hc', hp', _⟩ := rs'.uncons.1.dictInv
      have e1 : kvs = [] := List.eq_nil_of_length_eq_zero hp.length
      have e2 : kvs' = [] := List.eq_nil_of_length_eq_zero hp'.length
      subst e1 e2
      refine SeqAt.eq_tupleAt (e := fun _ => true) ht ht' (by omega) (fun j h1 h2 => ?_) (by simpa using h)
      have h1' : j = 0 := by simpa using h1
      subst h1'
      exact eqEmptyDicts hc hc' (by show A.units + 1 + 10 < cLine; omega)
    | [], rs', _ => have := rs'.length; simp at this
    | _ :: _ :: _, rs', _ => have := rs'.length; simp at this
  | [], rs, _ => have := rs.length; simp at this
  | _ :: _ :: _, rs, _ => have := rs.length; simp at this

noncomputable def flatD (d : PyData) : Prop := (depthOk d ∧ isListD d = false ∧ isDictD d = false) ∨ d = .tuple [.dict []]
noncomputable def RkOk : Nat → PyData → Prop
  | n + 1, .list ds => ds.length ≤ 10000 ∧ ∀ d ∈ ds, RkOk n d
  | n + 1, .dict ps => ps.length ≤ 10000 ∧ ∀ p ∈ ps, (∃ k, p.1 = .str k ∧ PyData.strOk k = true) ∧ RkOk n p.2
  | _, d => flatD d
theorem RkOk.dictInv {n : Nat} {ps : List (PyData × PyData)} (h : RkOk n (.dict ps)) : ∃ m, n = m + 1 ∧ ps.length ≤ 10000 ∧ ∀ p ∈ ps, (∃ k, p.1 = .str k ∧ PyData.strOk k = true) ∧ RkOk m p.2 := by
  cases n with
  | zero =>
    have : flatD (.dict ps) := h
    rcases this with ⟨_, _, h⟩ | h
    · cases h
    · cases h
  | succ m => exact ⟨m, rfl, h⟩
theorem RkOk.listInv {n : Nat} {ds : List PyData} (h : RkOk n (.list ds)) : ∃ m, n = m + 1 ∧ ds.length ≤ 10000 ∧ ∀ d ∈ ds, RkOk m d := by
  cases n with
  | zero =>
    have : flatD (.list ds) := h
    rcases this with ⟨_, h, _⟩ | h
    · cases h
    · cases h
  | succ m => exact ⟨m, rfl, h⟩
theorem RkOk.flat {n : Nat} {d : PyData} (h : RkOk n d) (h1 : isDictD d = false) (h2 : isListD d = false) : flatD d := by
  cases n with
  | zero => exact h
  | succ m =>
    cases d with
    | list ds => cases h2
    | dict ps => cases h1
    | _ => exact h
theorem flatEq {N N' : Addr → Prop} {v u : Value} {d : PyData} {Q : Value → Shared → Prop} (f : flatD d) (r : Rh prog w N s.heap v d) (r' : Rh prog w N' s.heap u d) (hu : A.units + 100 < cLine) (h : Q (.bool true) s) :
    wpAny (model prog w) A (compareOp .Eq v u) Q E s := by
  rcases f with ⟨f, _⟩ | rfl
  · exact eqRd r.rd r'.rd f f hu (by rw [SeqAt.eqv_refl d f.1]; exact h)
  · exact eqTupDict r r' hu h
theorem valueAt_get {kvs : List (Str × Value)} (hn : (kvs.map (·.1)).Nodup) {i : Nat} {k : Str} {v : Value} (hx : kvs[i]? = some (k, v)) : valueAt kvs k = some v := valueAt_of_get hn hx
theorem isnotType {T : String} {M : Model} {Q : Value → Shared → Prop} (h : Q (.bool false) s) : wpAny M A (compareOp .IsNot (.type T) (.type T)) Q E s := isnot_type_same h
theorem Rps.key_of {N : Addr → Prop} {h : Heap} {kvs kvs' : List (Str × Value)} {ps : List (PyData × PyData)} {N' : Addr → Prop} (r : Rps prog w N h kvs ps) (r' : Rps prog w N' h kvs' ps) : kvs.map (·.1) = kvs'.map (·.1) := by
  have h1 := r.keys
  have h2 := r'.keys
  rw [h1] at h2
  clear h1 r r'
  induction kvs generalizing kvs' with
  | nil => cases kvs' with
    | nil => rfl
    | cons => simp at h2
  | cons a l ih => cases kvs' with
    | nil => simp at h2
    | cons b l' =>
      simp only [List.map_cons, List.cons.injEq, PyData.str.injEq] at h2 ⊢
      exact ⟨h2.1, ih h2.2⟩
theorem eqv_list_self (ks : List Str) : PyData.eqv (.list (ks.map .str)) (.list (ks.map .str)) = true := by
  simp only [PyData.eqv, eqv_strs]; simp
theorem depthOk_strs {ks : List Str} (h : ∀ k ∈ ks, PyData.strOk k = true) : depthOk (.list (ks.map .str)) := by
  refine ⟨by simpa [PyData.canLay0] using canLay_strs h, ?_⟩
  have := depth_strs ks
  simp only [PyData.depth]; omega
end
end PartQ18
section PartQ19
section
variable {prog : Program} {w : World} {A : Around} {E : Value → Shared → Prop} {s : Shared} {H0 e g : Heap} {X : Addr → Prop} {W : Prop} {env : Env} {m : Str → Option Value}

theorem compCoreD {kx vx iter : Expr} {x : Str} {px : Pos} {ifs : List Expr} {scope : Scope} {cl : List (Str × Addr)} {pos : Pos} {fp wr : List Addr} {n : Nat} {P : Nat → Value → Prop} {St : Nat → Heap → Prop} {Q : Value → Shared → Prop} (M : Addr → Prop) (J : Nat → Heap → List (Str × Value) → Prop) (hlim : H0.NoLimit)
    (hcell : ∀ y ∈ scope.names, y.2 ≠ .cell) (hkind : scope.kind = .function) (hx : scope.names.lookup x = some .local) (hcl : ∀ p ∈ cl, env.cells.lookup p.1 = some p.2 ∧ (env.kindOf p.1 = some .cell ∨ env.kindOf p.1 = some .free) ∧ p.1 ≠ x ∧ scope.names.lookup p.1 ≠ some .local)
    (Wk : Walks prog w A g.objs.size fp wr n P St) (hwr : ∀ b ∈ wr, b = g.objs.size) (F : Fm H0 e g X W env g m) (o₀ : Obj) (hs : s.heap = g.push o₀) (hst : St 0 s.heap)
    (hIc : ∀ i h, St i h → ∃ o, h.get? g.objs.size = some o ∧ Loc o)
    (hfp : ∀ i h, St i h → ∀ b ∈ fp, b = g.objs.size ∨ ∃ o, g.get? b = some o ∧ (ld o → ¬ M b) ∧ ∀ o', h.get? b = some o' → o'.cls = o.cls)
    (hM : ∀ a, M a → ∃ o, g.get? a = some o) (hMX : ∀ a o, M a → e.get? a = some o → X a) (hM0 : ∀ a o, M a → g.get? a = some o → ld o) (hML : ∀ a, M a → a ≠ env.locals ∧ ∀ x c, env.cells.lookup x = some c → a ≠ c) (hM1 : ∀ a o, M a → H0.get? a ≠ some o) (hn : n ≤ sizeLine)
    (hj0 : J 0 g []) (hJ : ∀ i g' g'' ys, J i g' ys → Kp (Three g) g' g'' → J i g'' ys)
    (turn : ∀ i v ys C h₁ tk₁ E', i < n → P i v → Kp M g h₁ → J i h₁ ys → (∀ a, (Three g a ∨ ∃ o, e.get? a = some o) → ∃ o, h₁.get? a = some o) → Fm H0 h₁ h₁ M False (compEnvC scope cl C env) h₁ (compMap scope x v m) →
      wpAny (model prog w) A (testsOf prog w ifs (compEnvC scope cl C env)) (fun ok s₃ => if ok = true then
          wpAny (model prog w) A (eval kx (compEnvC scope cl C env)) (fun kv s₄ => wpAny (model prog w) A (eval vx (compEnvC scope cl C env)) (fun y s₅ => ∃ k t, kv = .str k t ∧ TurnedC H0 h₁ M (compEnvC scope cl C env) (compMap scope x v m) (fun g₂ => J (i + 1) g₂ (stored ys k y)) h₁ s s₅) E' s₄) E' s₃
        else TurnedC H0 h₁ M (compEnvC scope cl C env) (compMap scope x v m) (fun g₂ => J (i + 1) g₂ ys) h₁ s s₃) E' { s with heap := h₁, toks := tk₁ })
    (done : ∀ h₁ tk₁ D ys, Fm H0 e h₁ X W env h₁ m → Kp M g h₁ → g.objs.size ≤ D → g.get? D = none → DO prog w h₁ D ys → ys.length ≤ n → J n h₁ ys → Q (.ref D) { s with heap := h₁, toks := tk₁ }) :
    wpAny (model prog w) A newDict (fun acc s₃ => wpAny (model prog w) A (newFunctionEnv scope env.globals cl [] env.qual none .none (some env)) (fun cenv s₄ =>
      codeAny (model prog w) A (.compStart (.DictComp kx vx [⟨.Name x px, iter, ifs, 0⟩] scope pos) 0 (.ref g.objs.size) acc { cenv with scope := relabel scope env }) (compPost (model prog w) A E none Q acc cenv.locals) s₄) E s₃) E s := by
  refine wpAny_newObj_type (newCompEnv hcell ?_)
  dsimp only
  obtain ⟨sh, sg, sd, sto, so⟩ := s
  dsimp only at hs hst turn done ⊢
  subst hs
  have hD : (g.push o₀).objs.size = g.objs.size + 1 := Heap.size_push ..
  generalize hH2 : (g.push o₀).push { cls := .type "dict", dict := none, data := .dict #[] } = H2
  have hC : H2.objs.size = g.objs.size + 2 := by rw [← hH2, Heap.size_push, hD]
  have hns₁ : (H2.push { cls := .type "dict", data := .dict #[] }).Ns (g.objs.size + 2) (fun _ => none) := hC ▸ Heap.Ns.new H2 (.type "dict")
  have hcls₁ : ∀ o, (H2.push { cls := .type "dict", data := .dict #[] }).get? (g.objs.size + 2) = some o → o.cls = .type "dict" := fun o ho => by rw [← hC, Heap.get?_push_size _ rfl] at ho; cases ho; rfl
  have s3' : Sub H2 (H2.push { cls := .type "dict", data := .dict #[] }) := Sub.push _ _
  rw [hD, hC]
  generalize H2.push { cls := .type "dict", data := .dict #[] } = h₁ at hns₁ hcls₁ s3' ⊢
  have gone : ∀ a, g.objs.size ≤ a → g.get? a = none := fun a ha => nolook ha
  have old : ∀ b o, g.get? b = some o → b < g.objs.size := fun b o q => Heap.lt_size q
  have eI : ∀ a, g.objs.size ≤ a → ∀ o, e.get? a ≠ some o := fun a ha o q => by obtain ⟨o', q'⟩ := F.domE a o q; rw [gone a ha] at q'; cases q'
  have HI : ∀ a, g.objs.size ≤ a → ∀ o, H0.get? a ≠ some o := fun a ha o q => by have := F.vw.old a o q; rw [gone a ha] at this; cases this
  have ltL : env.locals < g.objs.size := by obtain ⟨ml, ⟨oL, _, _, ho, _⟩, _⟩ := F.vw.ns; exact old _ _ ho
  have LI : ∀ a, g.objs.size ≤ a → env.locals ≠ a := fun a ha q => absurd (q ▸ ltL) (Nat.not_lt.mpr ha)
  have CI : ∀ a, g.objs.size ≤ a → ∀ x d, env.cells.lookup x = some d → d ≠ a := fun a ha x d hd q => by
    obtain ⟨v, hv⟩ := F.live x d hd
    exact absurd (old _ _ (q ▸ hv)) (Nat.not_lt.mpr ha)
  have MI : ∀ a, g.objs.size ≤ a → ¬ M a := fun a ha q => by obtain ⟨o, ho⟩ := hM a q; rw [gone a ha] at ho; cases ho
  have ne : ∀ b o c, g.get? b = some o → g.objs.size ≤ c → b ≠ c := fun b o c q hc r => absurd (r ▸ old b o q) (Nat.not_lt.mpr hc)
  have s1 : Sub g (g.push o₀) := Sub.push _ _
  have s2 : Sub (g.push o₀) H2 := hH2 ▸ Sub.push _ _
  have s3 : ∀ b o, b ≠ g.objs.size + 2 → H2.get? b = some o → h₁.get? b = some o := fun b o _ q => s3' b o q
  have n02 : g.objs.size ≠ g.objs.size + 2 := fun q => absurd q (by simp)
  have n12 : g.objs.size + 1 ≠ g.objs.size + 2 := fun q => absurd q (by simp)
  have n01 : g.objs.size ≠ g.objs.size + 1 := fun q => absurd q (by simp)
  have le1 : g.objs.size ≤ g.objs.size + 1 := Nat.le_add_right _ _
  have le2 : g.objs.size ≤ g.objs.size + 2 := Nat.le_add_right _ _
  have hD1 : DO prog w h₁ (g.objs.size + 1) [] := by
    have hlow := low_new ((hlim.keeps F.vw.old).keeps (Sub.push g o₀))
    have hnew : DO prog w H2 (g.objs.size + 1) [] := by rw [← hH2, ← hD]; exact ⟨Heap.DictOf.new _, hlow⟩
    exact hnew.at fun o q => s3 _ _ n12 q
  have keep1 : ∀ b o, b ≠ g.objs.size + 2 → (g.push o₀).get? b = some o → h₁.get? b = some o := fun b o hb q => s3 b o hb (s2 b o q)
  have subg : Sub g h₁ := fun b o q => s3 b o (ne b o _ q le2) (s2 _ _ (s1 _ _ q))
  have F1 : Fm H0 e h₁ X W env h₁ m := F.ext subg
  have three : ∀ c, (c = g.objs.size ∨ c = g.objs.size + 1 ∨ c = g.objs.size + 2) → Three g c := fun c hc => by
    unfold Three
    rcases hc with rfl | rfl | rfl
    · exact ⟨Nat.le_refl _, Nat.lt_add_of_pos_right (by decide)⟩
    · exact ⟨le1, Nat.add_lt_add_left (by decide) _⟩
    · exact ⟨le2, Nat.add_lt_add_left (by decide) _⟩
  have eThree : ∀ c, Three g c → c = g.objs.size ∨ c = g.objs.size + 1 ∨ c = g.objs.size + 2 := fun c hc => by
    unfold Three at hc
    generalize g.objs.size = k at *
    have h1 : k ≤ c := hc.1
    have h2 : c < k + 3 := hc.2
    have : ∀ a b : Nat, a ≤ b → b < a + 3 → b = a ∨ b = a + 1 ∨ b = a + 2 := by omega
    exact this k c h1 h2
  have stC : ∀ i h, St i h → ∃ o, h.get? g.objs.size = some o ∧ Loc o := hIc
  have hst1 : St 0 h₁ := Wk.frame _ _ _ hst fun b hb o q => keep1 b o (fun r => by
    rcases hfp 0 _ hst b hb with rfl | ⟨o', ho', _⟩
    · exact n02 r
    · exact ne b o' _ ho' le2 r) q
  have hfpI : ∀ i h, St i h → ∀ b ∈ fp, ∀ o, h.get? b = some o → (b ≠ g.objs.size + 1 ∧ b ≠ g.objs.size + 2) ∧ (ld o → ¬ M b) := fun i h st b hb o q => by
    rcases hfp i h st b hb with rfl | ⟨o', ho', hc, hcl⟩
    · exact ⟨⟨n01, n02⟩, fun _ => MI _ (Nat.le_refl _)⟩
    · exact ⟨⟨ne b o' _ ho' le1, ne b o' _ ho' le2⟩, fun hl => hc (by unfold ld at hl ⊢; rw [← hcl o q]; exact hl)⟩
  have hIw : ∀ b, b ≠ g.objs.size → b ∉ wr := fun b hb hm => hb (hwr b hm)
  have hkp : (compEnvC scope cl (g.objs.size + 2) env).scope.kind = .function := by simp [compEnvC, relabel, hkind]
  have hp : ((compEnvC scope cl (g.objs.size + 2) env).scope.kind == .class || ((compEnvC scope cl (g.objs.size + 2) env).scope.kind == .module && (compEnvC scope cl (g.objs.size + 2) env).locals != (compEnvC scope cl (g.objs.size + 2) env).globals)) = false := by
    rw [hkp]; rfl
  have hxl : (compEnvC scope cl (g.objs.size + 2) env).kindOf x = some .local := lookup_relabel_local hx
  have relL : ∀ y, (compEnvC scope cl (g.objs.size + 2) env).kindOf y = some .local → scope.names.lookup y = some .local := fun y h => relabel_back h
  have loop : ∀ s₃ : Shared, s₃ = { heap := h₁, gens := sg, drawn := sd, toks := sto, os := so } →
      codeAny (model prog w) A (.compLoop (.DictComp kx vx [⟨.Name x px, iter, ifs, 0⟩] scope pos) 0 (.ref g.objs.size) (.ref (g.objs.size + 1)) (compEnvC scope cl (g.objs.size + 2) env))
        (compPost (model prog w) A E none Q (.ref (g.objs.size + 1)) (g.objs.size + 2)) s₃ := by
    rintro s₃ rfl
    refine codeAny_compLoop_testsD (fun k s' => ∃ h' tk mc ys i, s' = { heap := h', gens := sg, drawn := sd, toks := tk, os := so } ∧ St i h' ∧ Fm H0 e h' X W env h' m ∧ h'.Ns (g.objs.size + 2) mc ∧
        (∀ o, h'.get? (g.objs.size + 2) = some o → o.cls = .type "dict") ∧ DO prog w h' (g.objs.size + 1) ys ∧ Kp M g h' ∧ J i h' ys ∧ ys.length ≤ i ∧ i ≤ n ∧ k = n + 1 - i) ?_ (n + 1)
      ⟨h₁, _, _, [], 0, rfl, hst1, F1, hns₁, hcls₁, hD1, subg.kp, hJ 0 _ _ [] hj0 subg.kp, Nat.zero_le _, Nat.zero_le _, rfl⟩
    · rintro k s' ⟨h', tk, mc, ys, i, rfl, hst', F', hn', hcC, hl', hk', hj', hys, hi, rfl⟩
      -- the iterator's step
      have step : ∀ h₂, (∀ b o, b ∉ wr → h'.get? b = some o → h₂.get? b = some o) → Fm H0 e h₂ X W env h₂ m ∧ Kp (Three g) h' h₂ ∧ h₂.Ns (g.objs.size + 2) mc ∧ DO prog w h₂ (g.objs.size + 1) ys ∧ Kp M g h₂ ∧ (∀ o, h₂.get? (g.objs.size + 2) = some o → o.cls = .type "dict") := by
        intro h₂ hk₂
        have kk : ∀ b o, b ≠ g.objs.size → h'.get? b = some o → h₂.get? b = some o := fun b o hb q => hk₂ b o (hIw b hb) q
        refine ⟨F'.other kk (eI _ (Nat.le_refl _)) (HI _ (Nat.le_refl _)) (LI _ (Nat.le_refl _)) (CI _ (Nat.le_refl _)), ⟨fun a o q c => kk a o (fun r => ?_) q⟩, hn'.at' fun o q => kk _ o (Ne.symm n02) q, hl'.at fun o q => kk _ o (Ne.symm n01) q,
          ⟨fun a o q c => kk a o (ne a o _ q (Nat.le_refl _)) (hk'.keep a o q c)⟩, fun o ho => ?_⟩
        · obtain ⟨o', ho', c1, c2, c3⟩ := stC i h' hst'
          rw [r, ho'] at q; cases q
          rcases c with c | ⟨x, c⟩ | c
          · exact c1 c
          · exact c2 x c
          · exact c3 c.1
        · obtain ⟨oC, _, _, hoC, _⟩ := hn'
          have := kk _ oC (Ne.symm n02) hoC
          rw [this] at ho; cases ho; exact hcC _ hoC
      by_cases hlt : i < n
      · refine Wk.item i _ _ _ hlt hst' fun v h₂ tk₂ hP hst₂ hk₂ => ?_
        obtain ⟨F₂, kp₂, hn₂, hl₂, hm₂, hcC₂⟩ := step h₂ hk₂
        refine wpAny_assign_Name ?_
        rw [storeName_local hxl hp]
        refine nsSet_tag hn₂ fun h₃ hn₃ hs₃ ht₃ => ?_
        have hs₃' : ∀ b o, b ≠ g.objs.size + 2 → h₂.get? b = some o → h₃.get? b = some o := fun b o hb q => (hs₃.2 b hb).trans q
        have F₃ : Fm H0 e h₃ X W env h₃ m := F₂.other hs₃' (eI _ le2) (HI _ le2) (LI _ le2) (CI _ le2)
        have hcC₃ : ∀ o, h₃.get? (g.objs.size + 2) = some o → o.cls = .type "dict" := fun o ho => by obtain ⟨o', ho', hc'⟩ := ht₃ o ho; rw [hc']; exact hcC₂ o' ho'
        have kp₃ : Kp (Three g) h₂ h₃ := ⟨fun a o q c => by
          by_cases r : a = g.objs.size + 2
          · subst r
            have hcc := hcC₂ o q
            rcases c with c | ⟨x, c⟩ | c
            · rw [hcc] at c; simp at c
            · rw [hcc] at c; simp at c
            · exact absurd (three _ (.inr (.inr rfl))) c.2
          · exact hs₃' a o r q⟩
        have hm₃ : Kp M g h₃ := ⟨fun a o q c => hs₃' a o (ne a o _ q le2) (hm₂.keep a o q c)⟩
        have hl₃ := hl₂.at fun o q => hs₃' _ o n12 q
        have hst₃ : St (i + 1) h₃ := Wk.frame _ _ _ hst₂ fun b hb o q => hs₃' b o (hfpI _ _ hst₂ b hb o q).1.2 q
        have Fc : Fm H0 h₃ h₃ M False (compEnvC scope cl (g.objs.size + 2) env) h₃ (compMap scope x v m) := by
          refine ⟨⟨F₃.vw.old, ⟨_, hn₃, fun y u hy hu => ?_⟩, fun y c u hc hkd hu => ?_⟩, fun x => x.elim, fun a o q _ => q, fun a o q => ⟨o, q⟩, fun y c hc => ?_, .refl _⟩
          · unfold compMap at hu
            by_cases hyx : y = x
            · simp only [if_pos hyx] at hu ⊢; exact hu
            · simp only [if_neg hyx, if_pos (relL y hy)] at hu; cases hu
          · obtain ⟨c1, c2, c3, c4⟩ := hcl _ (mem_of_lookup hc)
            unfold compMap at hu
            rw [if_neg c3, if_neg c4] at hu
            exact F₃.vw.cell y c u c1 c2 hu
          · exact F₃.live y c (hcl _ (mem_of_lookup hc)).1
        have alive : ∀ a, (Three g a ∨ ∃ o, e.get? a = some o) → ∃ o, h₃.get? a = some o := fun a ha => by
          rcases ha with ha | ⟨o, ho⟩
          case inr => exact F₃.domE a o ho
          rcases eThree a ha with rfl | rfl | rfl
          · obtain ⟨o, ho, _⟩ := stC _ _ hst₃; exact ⟨o, ho⟩
          · obtain ⟨_, ho, _⟩ := hl₃.dom; exact ⟨_, ho⟩
          · obtain ⟨o, _, _, ho, _⟩ := hn₃; exact ⟨o, ho⟩
        have T := turn i v ys (g.objs.size + 2) h₃ (tk₂ + 1) (notedBy (model prog w) A (compEnvC scope cl (g.objs.size + 2) env) fun e s' => compPost (model prog w) A E none Q (.ref (g.objs.size + 1)) (g.objs.size + 2) (.error e) s') hlt hP hm₃ (hJ _ _ _ _ (hJ _ _ _ _ hj' kp₂) kp₃) alive Fc
        -- what the turn keeps
        have back : ∀ h₄ g₂, Fm H0 h₃ g₂ M False (compEnvC scope cl (g.objs.size + 2) env) h₄ (compMap scope x v m) → Kp M h₃ g₂ →
            Fm H0 e h₄ X W env h₄ m ∧ Kp M g h₄ ∧ h₄.Ns (g.objs.size + 2) (fun y => if y = x then some v else mc y) ∧ (∀ o, h₄.get? (g.objs.size + 2) = some o → o.cls = .type "dict") ∧ DO prog w h₄ (g.objs.size + 1) ys ∧ St (i + 1) h₄ := by
          intro h₄ g₂ F₄ k₄
          have kk : ∀ b o, (ld o → ¬ M b) → h₃.get? b = some o → h₄.get? b = some o := fun b o c q => F₄.keepE b o q c
          have keepL : ∀ o, h₃.get? env.locals = some o → h₄.get? env.locals = some o := fun o q => kk _ o (fun _ hm => (hML _ hm).1 rfl) q
          have keepC : ∀ x c o, env.cells.lookup x = some c → h₃.get? c = some o → h₄.get? c = some o := fun x c o hc q => kk _ o (fun _ hm => (hML _ hm).2 x c hc rfl) q
          have hnC := hn₃.at' fun o q => kk _ o (fun _ => MI _ le2) q
          refine ⟨⟨⟨F₄.vw.old, ?_, fun y c u hc hkd hu => ?_⟩, fun hw => ?_, fun a o q c => ?_, fun a o q => ?_, fun y c hc => ?_, .refl _⟩, ⟨fun a o q c => ?_⟩, hnC, fun o ho => ?_, hl₃.at fun o q => kk _ o (fun _ => MI _ le1) q, Wk.frame _ _ _ hst₃ fun b hb o q => kk b o (hfpI _ _ hst₃ b hb o q).2 q⟩
          · obtain ⟨ml, hn, hm⟩ := F₃.vw.ns
            exact ⟨ml, hn.at' keepL, hm⟩
          · obtain ⟨o, ho, hd⟩ := F₃.vw.cell y c u hc hkd hu
            exact ⟨o, keepC y c o hc ho, hd⟩
          · have wr' := F₃.wr hw
            refine ⟨fun o ho => ?_, wr'.newL, wr'.lowL, fun y c hc => ?_, wr'.apart⟩
            · obtain ⟨ml, ⟨oL, _, _, ho', _⟩, _⟩ := F₃.vw.ns
              have := keepL oL ho'
              rw [this] at ho; cases ho; exact wr'.tagL _ ho'
            · obtain ⟨⟨u, h1⟩, r⟩ := wr'.cells y c hc
              exact ⟨⟨u, keepC y c _ hc h1⟩, r⟩
          · exact kk a o (fun hl hm => c hl (hMX a o hm q)) (F₃.keepE a o q c)
          · obtain ⟨o', q'⟩ := F₃.domE a o q
            exact F₄.domE a o' q'
          · obtain ⟨u, h1⟩ := F₃.live y c hc
            exact ⟨u, keepC y c _ hc h1⟩
          · refine kk a o (fun hl hm => ?_) (hm₃.keep a o q c)
            rcases c with c | ⟨x, c⟩ | c
            · unfold ld at hl; rw [c] at hl; simp at hl
            · unfold ld at hl; rw [c] at hl; simp at hl
            · exact c.2 hm
          · obtain ⟨oC, _, _, hoC, _⟩ := hn₃
            have := kk _ oC (fun _ => MI _ le2) hoC
            rw [this] at ho; cases ho; exact hcC₃ _ hoC
        refine wpAny_mono T (fun ok s₄ h₄ => ?_) fun _ _ x => x
        cases ok with
        | false =>
          simp only [Bool.false_eq_true, if_false] at h₄ ⊢
          obtain ⟨h₅, tk₅, g₂, rfl, F₅, k₅, j₅⟩ := h₄
          obtain ⟨b1, b2, b3, b4, b5, b6⟩ := back h₅ g₂ F₅ k₅
          exact ⟨n + 1 - (i + 1), by omega, h₅, tk₅, _, ys, i + 1, rfl, b6, b1, b3, b4, b5, b2, hJ _ _ _ _ j₅ (F₅.keepG.weaken fun _ x => x.elim), Nat.le_succ_of_le hys, hlt, rfl⟩
        | true =>
          simp only [if_true] at h₄ ⊢
          refine wpAny_mono h₄ (fun kv s₅ h₄' => ?_) fun _ _ x => x
          refine wpAny_mono h₄' (fun y s₅ h₅ => ?_) fun _ _ x => x
          obtain ⟨k, t, rfl, h₅, tk₅, g₂, rfl, F₅, k₅, j₅⟩ := h₅
          obtain ⟨b1, b2, b3, b4, b5, b6⟩ := back h₅ g₂ F₅ k₅
          refine wpAny_dictSet_pairs (hsz := by omega) (strKind_is prog w k t) b5.1 fun h₆ hl₆ hs₆ => ?_
          have kk : ∀ b o, b ≠ g.objs.size + 1 → h₅.get? b = some o → h₆.get? b = some o := fun b o hb q => (hs₆.2 b hb).trans q
          refine ⟨n + 1 - (i + 1), by omega, h₆, _, _, stored ys k y, i + 1, rfl, Wk.frame _ _ _ b6 fun b hb o q => kk b o (hfpI _ _ b6 b hb o q).1.1 q, b1.other kk (eI _ le1) (HI _ le1) (LI _ le1) (CI _ le1), b3.at' fun o q => kk _ o (Ne.symm n12) q,
            fun o ho => ?_, ⟨hl₆, b5.2⟩, ⟨fun a o q c => kk a o (ne a o _ q le1) (b2.keep a o q c)⟩, hJ _ _ _ _ (hJ _ _ _ _ j₅ (F₅.keepG.weaken fun _ x => x.elim)) ⟨fun a o q c => ?_⟩, by have := stored_length_le ys k y; omega, hlt, rfl⟩
          · obtain ⟨oC, _, _, hoC, _⟩ := b3
            have := kk _ oC (Ne.symm n12) hoC
            rw [this] at ho; cases ho; exact b4 _ hoC
          · by_cases r : a = g.objs.size + 1
            · subst r
              have hcl5 : o.cls = .type "dict" := by
                obtain ⟨⟨o', _, _, ho', cc, _⟩, _⟩ := b5
                rw [q] at ho'; cases ho'; exact cc.1
              rcases c with c | ⟨x, c⟩ | c
              · rw [hcl5] at c; simp at c
              · rw [hcl5] at c; simp at c
              · exact absurd (three _ (.inr (.inl rfl))) c.2
            · exact kk a o r q
      · have hin : i = n := by omega
        subst hin
        refine Wk.done _ _ _ hst' fun h₂ tk₂ hk₂ => ?_
        obtain ⟨F₂, kp₂, hn₂, hl₂, hm₂, hcC₂⟩ := step h₂ hk₂
        refine ⟨_, hn₂, fun h₃ hs₃ => ?_⟩
        have hs₃' : ∀ b o, b ≠ g.objs.size + 2 → h₂.get? b = some o → h₃.get? b = some o := fun b o hb q => (hs₃.2 b hb).trans q
        refine done h₃ tk₂ _ ys (F₂.other hs₃' (eI _ le2) (HI _ le2) (LI _ le2) (CI _ le2)) ⟨fun a o q c => hs₃' a o (ne a o _ q le2) (hm₂.keep a o q c)⟩ le1 (gone _ le1) (hl₂.at fun o q => hs₃' _ o n12 q) hys (hJ _ _ _ _ (hJ _ _ _ _ hj' kp₂) ⟨fun a o q c => ?_⟩)
        by_cases r : a = g.objs.size + 2
        · subst r
          have hcc := hcC₂ o q
          rcases c with c | ⟨x, c⟩ | c
          · rw [hcc] at c; simp at c
          · rw [hcc] at c; simp at c
          · exact absurd (three _ (.inr (.inr rfl))) c.2
        · exact hs₃' a o r q
  exact codeAny_compStart_dict (loop _ rfl) (Wk.self 0 _ _ _ hst1 (loop _ rfl))

noncomputable abbrev CompGoalD (prog : Program) (w : World) (A : Around) (E : Value → Shared → Prop) (env : Env) (scope : Scope) (cl : List (Str × Addr)) (e : Expr) (Q : Value → Shared → Prop) (it : Value) (s : Shared) : Prop :=
  wpAny (model prog w) A newDict (fun acc s₃ => wpAny (model prog w) A (newFunctionEnv scope env.globals cl [] env.qual none .none (some env)) (fun cenv s₄ =>
      codeAny (model prog w) A (.compStart e 0 it acc { cenv with scope := relabel scope env }) (compPost (model prog w) A E none Q acc cenv.locals) s₄) E s₃) E s

theorem compEvalD {kx vx iter : Expr} {x : Str} {px : Pos} {ifs : List Expr} {scope : Scope} {cl : List (Str × Addr)} {pos : Pos} {Q : Value → Shared → Prop} (h : wpAny (model prog w) A (eval iter env) (fun xv s₁ => wpAny (model prog w) A (pyIter xv) (fun it s₂ => CompGoalD prog w A E env scope cl (.DictComp kx vx [⟨.Name x px, iter, ifs, 0⟩] scope pos) Q it s₂) E s₁) E s)
    (hclos : closureFor scope env = pure cl) (hnames : ∀ y ∈ scope.names, y.2 = .local → scope.names.lookup y.1 = some .local) (hkind : scope.kind = .function := by rfl)
    (hs : ∀ x, foldedSetIterable iter env x = pure x := by intro _; rfl) :
    wpAny (model prog w) A (eval (.DictComp kx vx [⟨.Name x px, iter, ifs, 0⟩] scope pos) env) Q E s := by
  rw [arm_eval_DictComp]
  exact wpAny_comprehension_free (use := none) rfl hs hclos hkind hnames h

theorem compDictD {kx vx iter : Expr} {x : Str} {px : Pos} {ifs : List Expr} {scope : Scope} {cl : List (Str × Addr)} {pos : Pos} {Q : Value → Shared → Prop} {d : Addr} {kvs : List (Str × Value)} (M : Addr → Prop) (J : Nat → Heap → List (Str × Value) → Prop) (hlim : H0.NoLimit) (ok : CompOk scope env x cl) (hd : DO prog w s.heap d kvs) (F : Fm H0 e g X W env s.heap m) (hX : ¬ M d) (mk : MOk H0 e s.heap X M env)
    (hn : kvs.length ≤ sizeLine) (hj0 : J 0 s.heap []) (hJ : ∀ i g' g'' ys, J i g' ys → Kp (Three s.heap) g' g'' → J i g'' ys)
    (turn : ∀ i k u t ys C h₁ tk₁ E', kvs[i]? = some (k, u) → Kp M s.heap h₁ → J i h₁ ys → (∀ a, (Three s.heap a ∨ ∃ o, e.get? a = some o) → ∃ o, h₁.get? a = some o) → Fm H0 h₁ h₁ M False (compEnvC scope cl C env) h₁ (compMap scope x (.str k t) m) →
      wpAny (model prog w) A (testsOf prog w ifs (compEnvC scope cl C env)) (fun ok s₃ => if ok = true then
          wpAny (model prog w) A (eval kx (compEnvC scope cl C env)) (fun kv s₄ => wpAny (model prog w) A (eval vx (compEnvC scope cl C env)) (fun y s₅ => ∃ k' t', kv = .str k' t' ∧ TurnedC H0 h₁ M (compEnvC scope cl C env) (compMap scope x (.str k t) m) (fun g₂ => J (i + 1) g₂ (stored ys k' y)) h₁ s s₅) E' s₄) E' s₃
        else TurnedC H0 h₁ M (compEnvC scope cl C env) (compMap scope x (.str k t) m) (fun g₂ => J (i + 1) g₂ ys) h₁ s s₃) E' { s with heap := h₁, toks := tk₁ })
    (done : ∀ h₁ tk₁ D ys, Fm H0 e h₁ X W env h₁ m → Kp M s.heap h₁ → s.heap.objs.size ≤ D → s.heap.get? D = none → DO prog w h₁ D ys → ys.length ≤ kvs.length → J kvs.length h₁ ys → Q (.ref D) { s with heap := h₁, toks := tk₁ })
    (hh : A.handled = none) :
    wpAny (model prog w) A (pyIter (.ref d)) (fun it s₂ => CompGoalD prog w A E env scope cl (.DictComp kx vx [⟨.Name x px, iter, ifs, 0⟩] scope pos) Q it s₂) E s := by
  obtain ⟨ep, hat⟩ := hd.1.dictAt
  refine wpAny_pyIter_dict hd.2 hat ?_
  obtain ⟨ol, hol, hcl⟩ := hd.dom
  have hclD : ol.cls = .type "dict" := by
    obtain ⟨⟨o, es, ep, ho, c, r⟩, lo⟩ := hd
    rw [hol] at ho; cases ho; exact c.1
  have hne : d ≠ s.heap.objs.size := Nat.ne_of_lt (Heap.lt_size hol)
  have Wk := Walks.dictKeys (prog := prog) (w := w) hh s.heap.objs.size d hne kvs ep (knd := strKind prog w)
  exact compCoreD (s := { s with heap := s.heap.push { cls := .type "dict_keyiterator", data := .fields #[.ref d, .int 0 0, .int kvs.length 0, .int ep 0] } }) (g := s.heap) M J hlim ok.cell ok.kind ok.var ok.cl Wk (fun b hb => by simpa using hb) F.here _ rfl
    ⟨⟨_, Heap.get?_push_size _ rfl, rfl, rfl⟩, hat.push _⟩
    (fun i h st => by obtain ⟨⟨o', ho', c, _⟩, _⟩ := st; exact ⟨o', ho', by rw [c]; simp, by rw [c]; simp, by unfold ld; rw [c]; simp⟩)
    (fun i h st b hb => by
      rcases List.mem_cons.mp hb with rfl | hb
      · exact .inl rfl
      · rw [List.mem_singleton.mp hb]
        refine .inr ⟨ol, hol, fun _ => hX, fun o' ho' => ?_⟩
        obtain ⟨_, o'', es, ho'', c, _⟩ := st
        rw [ho'] at ho''; cases ho''; rw [c.1, hclD])
    mk.dom mk.out mk.isld mk.loc mk.top hn hj0 hJ
    (by rintro i v ys C h₁ tk₁ E' hi ⟨k, u, hk, hv⟩; exact by obtain ⟨t, rfl⟩ := Value.isStrOf_shape hv; exact turn i k u t ys C h₁ tk₁ E' hk) done
end
end PartQ19
section PartQ20
section
variable {prog : Program} {w : World} {A : Around} {E : Value → Shared → Prop} {s : Shared} {H0 e g : Heap} {X : Addr → Prop} {W : Prop} {env : Env} {m : Str → Option Value}

theorem valueAt_none_iff {kvs : List (Str × Value)} {k : Str} : valueAt kvs k = none ↔ k ∉ kvs.map (·.1) := by
  unfold valueAt
  rw [Option.map_eq_none_iff, List.find?_eq_none]
  simp only [decide_eq_true_eq, List.mem_map, not_exists, not_and]
theorem stored_new {kvs : List (Str × Value)} {k : Str} {v : Value} (h : valueAt kvs k = none) : stored kvs k v = kvs ++ [(k, v)] := by
  have hn := valueAt_none_iff.mp h
  unfold stored
  rw [if_neg]
  simp only [List.any_eq_true, decide_eq_true_eq, not_exists, not_and]
  exact fun x hx q => hn (List.mem_map.mpr ⟨x, hx, q⟩)

theorem setdefaultOld {d : Addr} {kvs : List (Str × Value)} {k : Str} {t : Tok} {v dflt : Value} {Q : Value → Shared → Prop} (hd : DO prog w s.heap d kvs) (hv : valueAt kvs k = some v) (hz : kvs.length ≤ sizeLine) (h : Q v { s with toks := s.toks + 1 }) :
    wpAny (model prog w) A (call (.builtin "dict.setdefault") [.ref d, .str k t, dflt]) Q E s := by
  refine call_meetsIn PySem.F.slot_dict_setdefault hd.1.typeIs PySem.F.entry_dict_setdefault (PySem.F.args_dict_setdefault_3 _ _ _) (meets_dict_setdefault (knd := strKind prog w) (k := k) d (strKind_is prog w k t) hd.2 dflt)
    ⟨valueAt kvs, hd.1.mapOf, ?_, fun v' hv' => ?_, fun hn => ?_⟩
  · intro o es ep ho hdt
    obtain ⟨⟨o', es', ep', ho', c, hd', _, p, _⟩, _⟩ := hd
    rw [ho] at ho'; cases ho'
    rw [hdt] at hd'; cases hd'
    have := p.length
    simp only [Array.length_toList] at this
    omega
  · rw [hv] at hv'; cases hv'; exact h
  · rw [hv] at hn; cases hn

theorem setdefaultNew {d : Addr} {kvs : List (Str × Value)} {k : Str} {t : Tok} {dflt : Value} {Q : Value → Shared → Prop} (F : Fm H0 e g X True env s.heap m) (hd : DO prog w s.heap d kvs) (hv : valueAt kvs k = none) (hX : ∀ o, e.get? d = some o → X d) (hH : H0.get? d = none) (hz : kvs.length ≤ sizeLine)
    (h : ∀ h', Fm H0 e h' X True env h' m → Kp (fun b => b = d) s.heap h' → DO prog w h' d (kvs ++ [(k, dflt)]) → Q dflt { s with heap := h', toks := s.toks + 1 }) :
    wpAny (model prog w) A (call (.builtin "dict.setdefault") [.ref d, .str k t, dflt]) Q E s := by
  refine wpAny_call_entry PySem.F.slot_dict_setdefault hd.1.typeIs PySem.F.entry_dict_setdefault ?_ (PySem.F.args_dict_setdefault_3 _ _ _)
  unfold Builtin.«dict.setdefault»
  refine wpAny_bind ?_
  unfold Builtin.Dict.keyAndDefault
  refine wpAny_bind (wpAny_notOrdered_dict hd.1.typeIs ?_)
  show wpAny _ _ (pure (d, Value.str k t, some dflt)) _ _ s
  refine wpAny_pure ?_
  show wpAny _ _ (if (d == sysModules) = true then _ else (dictSetDefault d (.str k t) dflt >>= _)) _ _ s
  rw [if_neg (by rw [hd.2]; exact Bool.false_ne_true)]
  obtain ⟨⟨o, es, ep, ho, c, hdt, hk, hp, hn⟩, lo⟩ := id hd
  have hkey := strKind_is prog w k t
  have hes : es.size ≤ sizeLine := by
    have := hp.length
    simp only [Array.length_toList] at this
    omega
  refine wpAny_bind ?_
  unfold dictSetDefault
  try with_reducible refine wpAny_holding ?_
  refine wpAny_bind ((strKind prog w).pyHash hkey ?_)
  refine wpAny_bind (wpAny_dictFind_of (s := { s with toks := s.toks + 1 }) hkey ho hdt hk ?_)
  have hnone : (es.findIdx? fun e => (strKind prog w).is k e.key) = none := by
    have h1 := hp.findIdx k
    have h2 : (kvs.findIdx? fun kv => decide (kv.1 = k)) = none := by
      rw [List.findIdx?_eq_none_iff]
      intro kv hkv
      have := valueAt_none_iff.mp hv
      simp only [decide_eq_false_iff_not]
      exact fun q => this (List.mem_map.mpr ⟨kv, hkv, q⟩)
    rw [h2] at h1
    obtain ⟨l⟩ := es
    simpa using h1
  rw [hnone]
  refine wpAny_bind (wpAny_rule (wpAny_bind (wpAny_updateDictKeys (hz := hes) (s := { s with toks := s.toks + 1 }) ho hdt (wpAny_pure (wpAny_pure ?_)))))
  refine ⟨dflt, rfl, ?_⟩
  have hD' : DO prog w (s.heap.update d fun o => o.mapDictKeys fun es => es.push ⟨(strKind prog w).hash k, .str k t, dflt⟩) d (kvs ++ [(k, dflt)]) := by
    refine ⟨⟨_, _, ep + 1, Heap.get?_update_self _ ho (Obj.isFreed_of_dict (Obj.data_mapDictKeys hdt _)), c.mapDictKeys _, Obj.data_mapDictKeys hdt _, hk.push hkey _, ?_, ?_⟩, lo⟩
    · have := hp.append hkey ((strKind prog w).hash k) dflt
      obtain ⟨l⟩ := es
      simpa using this
    · rw [List.map_append, List.nodup_append]
      refine ⟨hn, by simp, fun a ha b hb => ?_⟩
      simp only [List.map_cons, List.map_nil, List.mem_singleton] at hb
      subst hb
      exact fun q => valueAt_none_iff.mp hv (q ▸ ha)
  obtain ⟨o', ho', _⟩ := hD'.dom
  obtain ⟨F', k'⟩ := F.mut (Heap.SameBut.update ..) ho (.inr c.1) ⟨o', ho'⟩ hX hH
  exact h _ F' k' hD'
end
end PartQ20
section PartQ21
section
variable {prog : Program} {w : World} {A : Around} {E : Value → Shared → Prop} {s : Shared} {H0 e g : Heap} {X : Addr → Prop} {W : Prop} {env : Env} {m : Str → Option Value}

theorem Fm.newE {e₀ h : Heap} (F : Fm H0 e g X W env h m) (hee : ∀ a o, e₀.get? a = some o → ∃ o', e.get? a = some o') {a : Addr} (hn : h.get? a = none) : e₀.get? a = none := by
  cases q : e₀.get? a with
  | none => rfl
  | some o =>
    obtain ⟨o', q'⟩ := hee a o q
    obtain ⟨o'', q''⟩ := F.domE a o' q'
    rw [q''] at hn; cases hn
theorem cutM {α : Type} {M : Model} {t : Sem α} {Q : α → Shared → Prop} (F : Fm H0 e g X W env s.heap m) (P : α → Heap → Prop)
    (h : ∀ Q' : α → Shared → Prop, (∀ v h' tk, Fm H0 e h' X W env h' m → P v h' → Q' v { s with heap := h', toks := tk }) → wpAny M A t Q' E s)
    (k : ∀ v h' tk, Fm H0 e h' X W env h' m → P v h' → Q v { s with heap := h', toks := tk }) : wpAny M A t Q E s := h Q k
theorem neEmpty {a b : Addr} {vs : List Value} {Q : Value → Shared → Prop} (ha : s.heap.IsList a vs.toArray) (hb : s.heap.IsList b #[]) (hu : A.units + 100 < cLine) (h : Q (.bool (!decide (vs = []))) s) : wpAny (model prog w) A (compareOp .NotEq (.ref a) (.ref b)) Q E s := by
  by_cases hv : vs = []
  · subst hv
    refine neRd (N := fun _ => True) (N' := fun _ => True) (da := .list []) (db := .list []) (Rd.listOf ha .nil trivial) (Rd.listOf hb .nil trivial) ⟨rfl, by decide⟩ ⟨rfl, by decide⟩ hu ?_
    simpa [PyData.eqv, PyData.eqvAll] using h
  · obtain ⟨⟨cls, dd, data, sl⟩, ho, hc, n, hd⟩ := id ha
    obtain ⟨⟨cls2, dd2, data2, sl2⟩, ho2, hc2, n2, hd2⟩ := id hb
    simp only at hc hd hc2 hd2
    subst hc hd hc2 hd2
    have hz : (vs.toArray.size != (#[] : Array Value).size) = true := by simpa using hv
    have e1 : decide (vs = []) = false := by simpa using hv
    rw [e1] at h
    exact richCompare_meets_room (op := .NotEq) ⟨_, ho, rfl⟩ ⟨_, ho2, rfl⟩ PySem.F.slot_list_ne PySem.F.entry_list_ne (PySem.F.args_list_ne_2 _ _) (SeqAt.list_ne_lengthsAt a b _ _ n n2 dd dd2 sl sl2 hz) ⟨ho, ho2, show Value.bool true ≠ Value.notImplemented ∧ Q (.bool true) s from ⟨(fun x => nomatch x), h⟩⟩ (by omega)
theorem unpackN {t : Addr} {vs : List Value} {n : Nat} {Q : List Value → Shared → Prop} (F : Fm H0 e g X W env s.heap m) (ht : IsTup s.heap t vs.toArray) (hh : A.handled = none) (hn : n = vs.length)
    (h : ∀ h', Fm H0 e h' X W env h' m → Kp Nil g h' → Sub s.heap h' → Q vs { s with heap := h' }) : wpAny (model prog w) A (unpackItems (.ref t) n none) Q E s := by
  subst hn
  have := unpackItems_tuple (prog := prog) (w := w) (E := E) (Q := Q) hh ht fun h' he => by
    have k : Sub s.heap h' := fun b o q => he b o (Nat.ne_of_lt (Heap.lt_size q)) q
    exact h h' (F.ext k) (F.link k) k
  simpa using this
theorem listLast {value slice : Expr} {l : Addr} {vs : List Value} {u : Tok} {v : Value} {Q : Value → Shared → Prop} (hl : s.heap.IsList l (vs ++ [v]).toArray) (hz : vs.length ≤ sizeLine) (h : Q v s)
    (hs : subscripted slice false (.ref l) (.int (-1) u) = operate [.ref l, .int (-1) u] (getItem (.ref l) (.int (-1) u)) := by with_unfolding_all rfl) :
    wpAny (model prog w) A (subscriptTail value slice (.ref l) (.int (-1) u)) Q E s := by
  have hsz : (vs ++ [v]).toArray.size = vs.length + 1 := by simp
  refine tail_any hl.typeIs slot_list_getitem.lookup (wpAny_getItem_list_neg hl (by decide) (by rw [hsz]; omega) (by decide) ?_ h) hs
  rw [hsz]
  have : ((-1 : Int) + ((vs.length + 1 : Nat) : Int)).toNat = vs.length := by omega
  rw [this]
  simp
theorem listCopy {l : Addr} {vs : List Value} {Q : Value → Shared → Prop} (F : Fm H0 e g X W env s.heap m) (hl : s.heap.IsList l vs.toArray) (hz : vs.length ≤ sizeLine)
    (h : ∀ a h', Fm H0 e h' X W env h' m → Kp Nil g h' → Sub s.heap h' → s.heap.get? a = none → h'.PlainList a vs.toArray → Q (.ref a) { s with heap := h' }) : wpAny (model prog w) A (call (.type "list") [.ref l]) Q E s := by
  obtain ⟨o, ho, hc, n, hd⟩ := hl
  exact call_list_seq (hsz := by rw [List.size_toArray]; exact hz) l (.inl rfl) ho hc hd fun h' c' hk hD => h _ h' (F.ext hk) (F.link hk) hk (at_new _) ⟨c', hD⟩
theorem listCopyT {l : Addr} {vs : List Value} {Q : Value → Shared → Prop} (F : Fm H0 e g X W env s.heap m) (hl : IsTup s.heap l vs.toArray) (hz : vs.length ≤ sizeLine)
    (h : ∀ a h', Fm H0 e h' X W env h' m → Kp Nil g h' → Sub s.heap h' → s.heap.get? a = none → h'.PlainList a vs.toArray → Q (.ref a) { s with heap := h' }) : wpAny (model prog w) A (call (.type "list") [.ref l]) Q E s := by
  obtain ⟨o, ho, hc, n, hd⟩ := hl
  exact call_list_seq (hsz := by rw [List.size_toArray]; exact hz) l (.inr rfl) ho hc hd fun h' c' hk hD => h _ h' (F.ext hk) (F.link hk) hk (at_new _) ⟨c', hD⟩
end

section
variable {prog : Program} {w : World}
theorem evInvH {N : Addr → Prop} {h : Heap} {v : Value} {e : Ev} (r : Rh prog w N h v e.d) : ∃ a kv tk tv, v = .ref a ∧ IsTup h a (List.toArray [kv, .str e.kind tk, tv]) ∧ Rd Nil h kv (keyD e.key) ∧ Rh prog w N h tv e.val := by
  obtain ⟨a, vs, rfl, ht, hs⟩ := r.tupInv
  match vs, hs, ht with
  | [x, y, z], hs, ht =>
    obtain ⟨r1, hs⟩ := hs.uncons
    obtain ⟨r2, hs⟩ := hs.uncons
    obtain ⟨r3, _⟩ := hs.uncons
    obtain ⟨t, rfl⟩ := r2.strInv
    exact ⟨a, x, t, z, rfl, ht, r1.key, r3⟩
  | [], hs, _ => have := hs.length; simp at this
  | [_], hs, _ => have := hs.length; simp at this
  | [_, _], hs, _ => have := hs.length; simp at this
  | _ :: _ :: _ :: _ :: _, hs, _ => have := hs.length; simp at this
theorem Rhs.evAt {N : Addr → Prop} {h : Heap} {vs : List Value} {evs : List Ev} {i : Nat} {e : Ev} (r : Rhs prog w N h vs (evs.map Ev.d)) (hi : evs[i]? = some e) : ∃ v, vs[i]? = some v ∧ Rh prog w N h v e.d := r.at (by simp [hi])
theorem Rhs.evGet {N : Addr → Prop} {h : Heap} {vs : List Value} {evs : List Ev} {i : Nat} {v : Value} (r : Rhs prog w N h vs (evs.map Ev.d)) (hi : vs[i]? = some v) : ∃ e, evs[i]? = some e ∧ Rh prog w N h v e.d := by
  obtain ⟨d, hd, hr⟩ := r.get hi
  rw [List.getElem?_map] at hd
  obtain ⟨e, h1, h2⟩ := Option.map_eq_some_iff.mp hd
  exact ⟨e, h1, by rw [h2]; exact hr⟩

inductive Lots (prog : Program) (w : World) (N : Addr → Prop) (h : Heap) (f : Str → List Ev) : List (Str × Value) → List Addr → Prop
  | nil : Lots prog w N h f [] []
  | cons {k : Str} {a : Addr} {vs : List Value} {kvs : List (Str × Value)} {as : List Addr} : h.PlainList a vs.toArray → Rhs prog w N h vs ((f k).map Ev.d) → Lots prog w N h f kvs as → Lots prog w N h f ((k, .ref a) :: kvs) (a :: as)
theorem Lots.kp {N : Addr → Prop} {h h' : Heap} {f f' : Str → List Ev} {X : Addr → Prop} {kvs : List (Str × Value)} {as : List Addr} (l : Lots prog w N h f kvs as) (k : Kp X h h') (hx : ∀ a ∈ as, ¬ X a) (hN : ∀ a, N a → ¬ X a) (hf : ∀ p ∈ kvs, f' p.1 = f p.1) : Lots prog w N h' f' kvs as := by
  induction l with
  | nil => exact .nil
  | cons h1 h2 _ ih => exact .cons (k.plain h1 (hx _ (.head _))) (by rw [hf _ (.head _)]; exact h2.kp k hN) (ih (fun a ha => hx a (.tail _ ha)) fun p hp => hf p (.tail _ hp))
theorem Lots.at {N : Addr → Prop} {h : Heap} {f : Str → List Ev} {kvs : List (Str × Value)} {as : List Addr} (l : Lots prog w N h f kvs as) {k : Str} {v : Value} (hv : valueAt kvs k = some v) : ∃ a vs, v = .ref a ∧ a ∈ as ∧ h.PlainList a (List.toArray vs) ∧ Rhs prog w N h vs ((f k).map Ev.d) := by
  induction l with
  | nil => cases hv
  | @cons k' a vs kvs as h1 h2 _ ih =>
    unfold valueAt at hv ih
    rw [List.find?_cons] at hv
    by_cases e : k' = k
    · simp only [e, decide_true, Option.map_some, Option.some.injEq] at hv
      subst hv; subst e
      exact ⟨a, vs, rfl, .head _, h1, h2⟩
    · simp only [e, decide_false] at hv
      obtain ⟨a', vs', r1, r2, r3⟩ := ih hv
      exact ⟨a', vs', r1, .tail _ r2, r3⟩
theorem Lots.dom {N : Addr → Prop} {h : Heap} {f : Str → List Ev} {kvs : List (Str × Value)} {as : List Addr} (l : Lots prog w N h f kvs as) : ∀ a ∈ as, ∃ o, h.get? a = some o := by
  induction l with
  | nil => exact fun _ hm => nomatch hm
  | cons h1 h2 _ ih =>
    intro a ha
    rcases List.mem_cons.mp ha with rfl | ha
    · exact ⟨_, h1.choose_spec⟩
    · exact ih a ha
theorem Lots.grow {N : Addr → Prop} {h h' : Heap} {f f' : Str → List Ev} {kvs : List (Str × Value)} {as : List Addr} (l : Lots prog w N h f kvs as) (hn : as.Nodup) (hk : (kvs.map (·.1)).Nodup) {k : Str} {a : Addr} {ws : List Value} (hv : valueAt kvs k = some (.ref a)) (hkp : Kp (fun b => b = a) h h') (hN : ∀ b, N b → b ≠ a)
    (hl : h'.PlainList a ws.toArray) (hr : Rhs prog w N h' ws ((f' k).map Ev.d)) (hf : ∀ k', k' ≠ k → f' k' = f k') : Lots prog w N h' f' kvs as := by
  induction l with
  | nil => cases hv
  | @cons k' a' vs kvs as h1 h2 hl' ih =>
    have hn' := List.nodup_cons.mp hn
    have hk' := List.nodup_cons.mp hk
    by_cases e : k' = k
    · have : a' = a := by
        unfold valueAt at hv
        rw [List.find?_cons] at hv
        simp only [e, decide_true, Option.map_some, Option.some.injEq, Value.ref.injEq] at hv
        exact hv
      subst this; subst e
      exact .cons hl hr (hl'.kp hkp (fun b hb q => hn'.1 (q ▸ hb)) hN fun p hp => hf _ fun q => hk'.1 (q ▸ List.mem_map.mpr ⟨p, hp, rfl⟩))
    · have hv' : valueAt kvs k = some (.ref a) := by
        unfold valueAt at hv ⊢
        rw [List.find?_cons] at hv
        simpa only [e, decide_false] using hv
      obtain ⟨a2, _, q1, q2, _⟩ := hl'.at hv'
      cases q1
      refine .cons (hkp.plain h1 fun q => hn'.1 (q ▸ q2)) (by rw [hf _ e]; exact h2.kp hkp hN) (ih hn'.2 hk'.2 hv')
theorem Lots.snoc {N : Addr → Prop} {h : Heap} {f : Str → List Ev} {kvs : List (Str × Value)} {as : List Addr} (l : Lots prog w N h f kvs as) {k : Str} {a : Addr} {ws : List Value} (hl : h.PlainList a ws.toArray) (hr : Rhs prog w N h ws ((f k).map Ev.d)) : Lots prog w N h f (kvs ++ [(k, .ref a)]) (as ++ [a]) := by
  induction l with
  | nil => exact .cons hl hr .nil
  | cons h1 h2 _ ih => exact .cons h1 h2 ih

inductive Row (prog : Program) (w : World) (N : Addr → Prop) (h : Heap) : List Value → List (List Ev) → List Addr → Prop
  | nil : Row prog w N h [] [] []
  | cons {a : Addr} {vs : List Value} {es : List Ev} {rs : List Value} {ess : List (List Ev)} {as : List Addr} : h.PlainList a vs.toArray → Rhs prog w N h vs (es.map Ev.d) → Row prog w N h rs ess as → Row prog w N h (.ref a :: rs) (es :: ess) (a :: as)
theorem Row.kp {N : Addr → Prop} {h h' : Heap} {X : Addr → Prop} {rs : List Value} {ess : List (List Ev)} {as : List Addr} (l : Row prog w N h rs ess as) (k : Kp X h h') (hx : ∀ a ∈ as, ¬ X a) (hN : ∀ a, N a → ¬ X a) : Row prog w N h' rs ess as := by
  induction l with
  | nil => exact .nil
  | cons h1 h2 _ ih => exact .cons (k.plain h1 (hx _ (.head _))) (h2.kp k hN) (ih fun a ha => hx a (.tail _ ha))
theorem Row.snoc {N : Addr → Prop} {h : Heap} {rs : List Value} {ess : List (List Ev)} {as : List Addr} (l : Row prog w N h rs ess as) {a : Addr} {vs : List Value} {es : List Ev} (h1 : h.PlainList a vs.toArray) (h2 : Rhs prog w N h vs (es.map Ev.d)) : Row prog w N h (rs ++ [.ref a]) (ess ++ [es]) (as ++ [a]) := by
  induction l with
  | nil => exact .cons h1 h2 .nil
  | cons k1 k2 _ ih => exact .cons k1 k2 ih
theorem Row.unsnoc {N : Addr → Prop} {h : Heap} {rs : List Value} {ess : List (List Ev)} {as : List Addr} (l : Row prog w N h rs ess as) (hne : rs ≠ []) : ∃ rs' ess' as' a vs es, rs = rs' ++ [.ref a] ∧ ess = ess' ++ [es] ∧ as = as' ++ [a] ∧ Row prog w N h rs' ess' as' ∧ h.PlainList a (List.toArray vs) ∧ Rhs prog w N h vs (es.map Ev.d) := by
  induction l with
  | nil => exact absurd rfl hne
  | @cons a vs es rs ess as h1 h2 hr ih =>
    by_cases q : rs = []
    · subst q
      cases hr
      exact ⟨[], [], [], a, vs, es, rfl, rfl, rfl, .nil, h1, h2⟩
    · obtain ⟨rs', ess', as', a', vs', es', rfl, rfl, rfl, r1, r2, r3⟩ := ih q
      exact ⟨.ref a :: rs', es :: ess', a :: as', a', vs', es', rfl, rfl, rfl, .cons h1 h2 r1, r2, r3⟩
theorem Row.dom {N : Addr → Prop} {h : Heap} {rs : List Value} {ess : List (List Ev)} {as : List Addr} (l : Row prog w N h rs ess as) : ∀ a ∈ as, ∃ o, h.get? a = some o := by
  induction l with
  | nil => exact fun _ hm => nomatch hm
  | cons h1 h2 _ ih =>
    intro a ha
    rcases List.mem_cons.mp ha with rfl | ha
    · exact ⟨_, h1.choose_spec⟩
    · exact ih a ha
theorem Row.length {N : Addr → Prop} {h : Heap} {rs : List Value} {ess : List (List Ev)} {as : List Addr} (l : Row prog w N h rs ess as) : rs.length = ess.length := by
  induction l with
  | nil => rfl
  | cons _ _ _ ih => simp [ih]
theorem Row.at {N : Addr → Prop} {h : Heap} {rs : List Value} {ess : List (List Ev)} {as : List Addr} (l : Row prog w N h rs ess as) {i : Nat} {v : Value} (hv : rs[i]? = some v) : ∃ a vs es, v = .ref a ∧ a ∈ as ∧ ess[i]? = some es ∧ h.PlainList a (List.toArray vs) ∧ Rhs prog w N h vs (es.map Ev.d) := by
  induction l generalizing i with
  | nil => simp at hv
  | @cons a vs es rs ess as h1 h2 hr ih =>
    cases i with
    | zero => simp at hv; subst hv; exact ⟨a, vs, es, rfl, .head _, rfl, h1, h2⟩
    | succ i =>
      simp only [List.getElem?_cons_succ] at hv ⊢
      obtain ⟨a', vs', es', q1, q2, q3⟩ := ih hv
      exact ⟨a', vs', es', q1, .tail _ q2, q3⟩
end
end PartQ21
section PartQ22
noncomputable abbrev frs (outer : List Env) : List Addr := outer.filterMap (·.frame)
structure Stack (A : Around) (h : Heap) (outer : List Env) : Prop where
  fr : A.frames = some outer
  ok : h.FunFrames (hideAll h (frs outer)) outer
noncomputable def Flew (h h' : Heap) (outer : List Env) (x : Addr) (cls : Value) (args : Option (List Value)) : Prop :=
  ∃ a0, Heap.FlyingW (hideAll h (frs outer)) outer x cls a0 h' ∧ h.UpToSlots h' ∧ ∀ vs, args = some vs → ∃ t, a0 = .ref t ∧ h'.TupAt t vs ∧ (hideAll h (frs outer)).get? t = none

theorem funFrames_mono {h h' base base' : Heap} (k : Sub h h') (hb : ∀ a, base.get? a = none → base'.get? a = none) : ∀ {l : List Env}, h.FunFrames base l → h'.FunFrames base' l
  | [], _ => trivial
  | _ :: _, ⟨hk, ⟨L, o, hf, hn, ho, hd⟩, hr⟩ => ⟨hk, ⟨L, o, hf, hb _ hn, k _ _ ho, hd⟩, funFrames_mono k hb hr⟩
theorem hide_mem {h : Heap} {l : List Addr} {a : Addr} : (hideAll h l).get? a = none ↔ a ∈ l ∨ h.get? a = none := by
  constructor
  · intro q
    by_cases hm : a ∈ l
    · exact .inl hm
    · right
      cases e : h.get? a with
      | none => rfl
      | some o => rw [hideAll_get l e hm] at q; cases q
  · rintro (q | q)
    · exact hideAll_none _ q
    · cases e : (hideAll h l).get? a with
      | none => rfl
      | some o => rw [of_hideAll _ e] at q; cases q

section
variable {M : Model} {A : Around} {E : Value → Shared → Prop} {s : Shared} {e h₀ h₁ : Heap} {outer : List Env} {qual : Str} {scope : Scope} {L f x : Addr} {cdv cls : Value} {args : List Value} {Q : Unit → Shared → Prop}

theorem Stack.sub {h h' : Heap} (St : Stack A h outer) (k : Sub h h') (hfr : ∀ a ∈ frs outer, ∃ o, h.get? a = some o) : Stack A h' outer := by
  refine ⟨St.fr, ?_⟩
  have hin : ∀ {l : List Env}, (∀ env ∈ l, env ∈ outer) → h.FunFrames (hideAll h (frs outer)) l → h'.FunFrames (hideAll h' (frs outer)) l := by
    intro l
    induction l with
    | nil => exact fun _ _ => trivial
    | cons env l ih =>
      rintro hm ⟨hk, ⟨L, o, hf, hn, ho, hd⟩, hr⟩
      exact ⟨hk, ⟨L, o, hf, hideAll_none _ (List.mem_filterMap.mpr ⟨env, hm env (.head _), hf⟩), k _ _ ho, hd⟩, ih (fun e he => hm e (.tail _ he)) hr⟩
  exact hin (fun _ h => h) St.ok

theorem frames_at {h base : Heap} : ∀ {l : List Env}, h.FunFrames base l → ∀ a ∈ frs l, ∃ o, h.get? a = some o
  | [], _, a, ha => by simp [frs] at ha
  | env :: l, ⟨hk, ⟨L, o, hf, hn, ho, hd⟩, hr⟩, a, ha => by
    simp only [frs, List.filterMap_cons, hf, List.mem_cons] at ha
    rcases ha with rfl | ha
    · exact ⟨o, ho⟩
    · exact frames_at hr a ha

theorem Stack.push {h : Heap} (St : Stack A e outer) (hs : Sub e h) (hL : e.get? L = none) (hLo : ∃ o, h.get? L = some o ∧ ∀ vs, o.data ≠ .fields vs) (hk : scope.kind = .function) : Stack (A.deeper (envQ qual scope L f cdv)) h (envQ qual scope L f cdv :: outer) := by
  refine ⟨Around.frames_deeper St.fr, by show scope.kind ≠ .module; rw [hk]; decide, ?_, ?_⟩
  · obtain ⟨o, ho, hd⟩ := hLo
    exact ⟨L, o, rfl, hideAll_none _ (.head _), ho, hd⟩
  · have := (St.sub hs (frames_at St.ok)).ok
    refine funFrames_mono (.refl _) (fun a ha => ?_) this
    rw [hide_mem] at ha ⊢
    exact ha.imp (fun q => .tail _ q) id

theorem leaveMade (St : Stack A e outer) (hs : Sub e h₀) (hL : e.get? L = none) (hLo : ∃ o, h₀.get? L = some o ∧ ∀ vs, o.data ≠ .fields vs) (hx : Heap.MadeExcOf h₀ s.heap x cls args) (hk : scope.kind = .function)
    (hQ : ∀ h', Flew e h' outer x cls (some args) → Q () { s with heap := h' }) : wpAny M (A.deeper (envQ qual scope L f cdv)) (leaving (envQ qual scope L f cdv) (.ref x)) Q E s := by
  have hst : (hideAll e (frs outer)).StaysIn h₀ := fun b o q => hs _ _ (of_hideAll _ q)
  have hfr : h₀.FunFrames (hideAll e (frs outer)) (envQ qual scope L f cdv :: outer) := by
    refine ⟨by show scope.kind ≠ .module; rw [hk]; decide, ?_, funFrames_mono hs (fun _ h => h) St.ok⟩
    obtain ⟨o, ho, hd⟩ := hLo
    exact ⟨L, o, rfl, hide_mem.mpr (.inr hL), ho, hd⟩
  refine wpAny_leaves_madeW (Around.frames_deeper St.fr) rfl hst hfr hx fun h' t x1 x2 x3 x4 => hQ h' ⟨.ref t, x1, ?_, fun vs q => by cases q; exact ⟨t, rfl, x2, x3⟩⟩
  exact (Heap.UpToSlots.of_keeps hs).trans ((Heap.UpToSlots.of_keeps hx.keeps).trans x4)

theorem leaveNew {T : String} (St : Stack A e outer) (hs : Sub e h₀) (hL : e.get? L = none) (hLo : ∃ o, h₀.get? L = some o ∧ ∀ vs, o.data ≠ .fields vs) (hx : Heap.NewExc h₀ s.heap x T) (hk : scope.kind = .function)
    (hQ : ∀ h', Flew e h' outer x (.type T) none → Q () { s with heap := h' }) : wpAny M (A.deeper (envQ qual scope L f cdv)) (leaving (envQ qual scope L f cdv) (.ref x)) Q E s := by
  have hst : (hideAll e (frs outer)).StaysIn s.heap := fun b o q => hx.keeps _ _ (hs _ _ (of_hideAll _ q))
  have hfr : s.heap.FunFrames (hideAll e (frs outer)) (envQ qual scope L f cdv :: outer) := by
    refine ⟨by show scope.kind ≠ .module; rw [hk]; decide, ?_, funFrames_mono (hs.trans hx.keeps) (fun _ h => h) St.ok⟩
    obtain ⟨o, ho, hd⟩ := hLo
    exact ⟨L, o, rfl, hide_mem.mpr (.inr hL), hx.keeps _ _ ho, hd⟩
  obtain ⟨ob, tp, he, hcls, hd⟩ := hx.there
  have hen : (hideAll e (frs outer)).get? x = none := hide_mem.mpr (.inr (hs.none hx.new))
  refine wpAny_leaving_firstW (a0 := tp) (Around.frames_deeper St.fr) hfr rfl he hst hen hd rfl rfl fun h' hL' => ?_
  obtain ⟨k1, ⟨_, _, k2⟩, k3, k4⟩ := hL'
  exact hQ h' ⟨tp, ⟨k1, hen, k2, by rw [← hcls]; exact k3⟩, ((Heap.UpToSlots.of_keeps hs).trans (Heap.UpToSlots.of_keeps hx.keeps)).trans k4, fun _ q => nomatch q⟩

theorem leaveOn (St : Stack A e outer) (hs : Sub e h₁) (hL : e.get? L = none) {oa : Option (List Value)} (hx : Flew h₁ s.heap (envQ qual scope L f cdv :: outer) x cls oa)
    (hQ : ∀ h', Flew e h' outer x cls oa → Q () { s with heap := h' }) : wpAny M (A.deeper (envQ qual scope L f cdv)) (leaving (envQ qual scope L f cdv) (.ref x)) Q E s := by
  obtain ⟨a0, x1, x4, x2⟩ := hx
  have hst : (hideAll e (frs outer)).StaysIn (hideAll h₁ (frs (envQ qual scope L f cdv :: outer))) := fun b o q => by
    refine hideAll_get _ (hs _ _ (of_hideAll _ q)) fun hm => ?_
    rcases List.mem_cons.mp hm with rfl | hm
    · rw [of_hideAll _ q] at hL; cases hL
    · rw [hideAll_none _ hm] at q; cases q
  refine wpAny_leaves_onW (Around.frames_deeper St.fr) rfl x1 fun h' y1 y2 => hQ h' ⟨a0, flyingW_base hst y1, (Heap.UpToSlots.of_keeps hs).trans (x4.trans y2), fun vs q => ?_⟩
  obtain ⟨t, q1, q2, q3⟩ := x2 vs q
  exact ⟨t, q1, q2.of_slots y2, fresh_of_stays hst q3⟩
end

theorem Fm.caught {H0 e g h h' : Heap} {X : Addr → Prop} {env : Env} {m : Str → Option Value} (F : Fm H0 e g X True env h m) (k : (hideAll h [env.locals]).StaysIn h') (sm : h.UpToSlots h') : Fm H0 e h' X True env h' m ∧ Kp Nil h h' := by
  have w := F.wr trivial
  have kk : ∀ b o, b ≠ env.locals → h.get? b = some o → h'.get? b = some o := fun b o hb q => k b o (hideAll_get _ q (by simpa using hb))
  have nd : ∀ x c, env.cells.lookup x = some c → c ≠ env.locals := fun x c hc => (w.cells x c hc).2.2.2
  refine ⟨⟨⟨fun b o q => kk b o (fun r => by subst r; rw [w.lowL] at q; cases q) (F.vw.old b o q), ?_, fun x c v hc hk hv => ?_⟩, fun _ => ⟨fun o ho => ?_, w.newL, w.lowL, fun x c hc => ?_, w.apart⟩,
    fun a o q c => kk a o (fun r => by subst r; rw [w.newL] at q; cases q) (F.keepE a o q c), fun a o q => ?_, fun x c hc => ?_, .refl _⟩, ⟨fun a o q c => kk a o (fun r => ?_) q⟩⟩
  · obtain ⟨ml, hn, hm⟩ := F.vw.ns
    exact ⟨ml, sm.ns hn, hm⟩
  · obtain ⟨o, ho, hd⟩ := F.vw.cell x c v hc hk hv
    exact ⟨o, kk c o (nd x c hc) ho, hd⟩
  · obtain ⟨ml, ⟨oL, es, ep, ho', hd, _⟩, _⟩ := F.vw.ns
    obtain ⟨sl, hs⟩ := sm _ _ ho' (fun vs q => by rw [hd] at q; cases q)
    rw [hs] at ho; cases ho
    have := w.tagL _ ho'
    unfold Loc ld at this ⊢
    exact this
  · obtain ⟨⟨v, h1⟩, r⟩ := w.cells x c hc
    exact ⟨⟨v, kk c _ (nd x c hc) h1⟩, r⟩
  · obtain ⟨o', q'⟩ := F.domE a o q
    exact ⟨o', kk a o' (fun r => by subst r; rw [w.newL] at q; cases q) q'⟩
  · obtain ⟨v, h1⟩ := F.live x c hc
    exact ⟨v, kk c _ (nd x c hc) h1⟩
  · subst r
    obtain ⟨t1, t2, t3⟩ := w.tagL o q
    rcases c with c | ⟨y, c⟩ | c
    · exact t1 c
    · exact t2 y c
    · exact t3 c.1

theorem Sub.tch {X : Addr → Prop} {h h' : Heap} (k : Sub h h') : Tch X h h' := ⟨fun b o q _ => k b o q, fun b o q => ⟨o, k b o q⟩⟩
theorem Fm.tch {H0 e g h : Heap} {X : Addr → Prop} {W : Prop} {env : Env} {m : Str → Option Value} (F : Fm H0 e g X W env h m) : Tch X e h := ⟨F.keepE, F.domE⟩
theorem Fm.called {H0 e g h h' : Heap} {X Y : Addr → Prop} {env : Env} {m : Str → Option Value} (F : Fm H0 e g X True env h m) (k : Tch Y h h') (hY : ∀ a o, Y a → e.get? a = some o → X a) (hH : ∀ a, Y a → H0.get? a = none) :
    Fm H0 e h' X True env h' m ∧ Kp Y h h' := by
  have w := F.wr trivial
  have keepL : ∀ o, h.get? env.locals = some o → h'.get? env.locals = some o := fun o q => k.keep _ o q fun hl => absurd hl (w.tagL o q).2.2
  have keepC : ∀ x c o, env.cells.lookup x = some c → h.get? c = some o → h'.get? c = some o := fun x c o hc q => k.keep _ o q fun hl => by
    obtain ⟨⟨v, h1⟩, _⟩ := w.cells x c hc
    rw [h1] at q; cases q
    unfold ld at hl; simp at hl
  refine ⟨⟨⟨fun b o q => k.keep b o (F.vw.old b o q) (fun _ hy => by rw [hH b hy] at q; cases q), ?_, fun x c v hc hk hv => ?_⟩, fun _ => ⟨fun o ho => ?_, w.newL, w.lowL, fun x c hc => ?_, w.apart⟩,
    fun a o q c => k.keep a o (F.keepE a o q c) (fun hl hy => c hl (hY a o hy q)), fun a o q => ?_, fun x c hc => ?_, .refl _⟩, ⟨fun a o q c => k.keep a o q fun hl => ?_⟩⟩
  · obtain ⟨ml, hn, hm⟩ := F.vw.ns
    exact ⟨ml, hn.at' keepL, hm⟩
  · obtain ⟨o, ho, hd⟩ := F.vw.cell x c v hc hk hv
    exact ⟨o, keepC x c o hc ho, hd⟩
  · obtain ⟨ml, ⟨oL, _, _, ho', _⟩, _⟩ := F.vw.ns
    have := keepL oL ho'
    rw [this] at ho; cases ho; exact w.tagL _ ho'
  · obtain ⟨⟨v, h1⟩, r⟩ := w.cells x c hc
    exact ⟨⟨v, keepC x c _ hc h1⟩, r⟩
  · obtain ⟨o', q'⟩ := F.domE a o q
    exact k.dom a o' q'
  · obtain ⟨v, h1⟩ := F.live x c hc
    exact ⟨v, keepC x c _ hc h1⟩
  · rcases c with c | ⟨y, c⟩ | c
    · rcases hl with hl | hl <;> rw [hl] at c <;> simp at c
    · rcases hl with hl | hl <;> rw [hl] at c <;> simp at c
    · exact c.2
end PartQ22
section PartQ23
theorem bindsKw2 {K : Frag} {s : Shared} {M : Model} {A : Around} {E : Value → Shared → Prop} {Q : List (Str × Value) → Shared → Prop} {name qual : Str} {params : Arguments} {body : List Stmt} {scope : Scope} {dV doc pm cdv ct : Value} {an : Option Addr} {d : Addr} {x y z v : Value} {n1 n2 n3 : Str}
   (X : K.In s.heap) (hp : params.posonlyargs = [] ∧ (params.args.map (·.arg)) = [n1, n2] ∧ (params.kwonlyargs.map (·.arg)) = [n3] ∧ params.vararg = none ∧ params.kwarg = none) (h1 : (n2 == n1) = false) (h2 : (n3 == n1) = false) (h3 : (n3 == n2) = false) (h4 : (n1 == n2) = false)
   (e : nsIn K d n3 = some (some v)) (hq : Q [(n1, x), (n2, y), (n3, v)] s) : wpAny M A (bindArgs (fnOf name qual params body scope .none (.ref d) doc pm an cdv ct) ⟨[x, y], []⟩) Q E s := by
  obtain ⟨p1, p2, p3, p4, p5⟩ := hp
  have hns := looks_nsIn (M := M) X e
  unfold bindArgs fnOf
  simp only [p1, p2, p3, p4, p5]

  simp only [List.forIn_nil, List.forIn_cons, pure_bind, List.map_nil, List.nil_append]
  have sn : seqItems? Value.none = pure none := rfl
  have h5 : (n1 == n1) = true := by simp
  have h6 : (n2 == n2) = true := by simp
  have h7 : (n3 == n3) = true := by simp
  simp only [sn, pure_bind, Option.getD_none, List.length_cons, List.length_nil, Nat.zero_add, Nat.reduceAdd, Nat.lt_irrefl, gt_iff_lt, decide_false, Bool.false_and, Bool.false_eq_true, if_false, List.drop_nil, List.take, List.zip_cons_cons, List.zip_nil_left, List.zipWith_nil_right, List.zip, List.zipWith, List.filter, List.lookup_cons, List.lookup_nil, h1, h2, h3, h4, h5, h6, h7, List.isEmpty_nil, Bool.not_true, Option.isNone_none, Option.isNone_some, List.forIn_nil, if_true, bind_assoc, List.toList_toArray, List.drop_length, Nat.sub_self, Nat.sub_zero, Nat.zero_sub]
  refine wpAny_bind (hns _ _ _ _ (fun _ _ e => e) ?_)
  simp only [pure_bind, List.isEmpty_nil, Bool.not_true, Bool.false_eq_true, if_false, List.cons_append, List.nil_append, List.filterMap_cons, List.filterMap_nil, List.lookup_cons, List.lookup_nil, h1, h2, h3, h4, h5, h6, h7, Option.map_some]
  exact wpAny_pure hq
end PartQ23
section PartQ24
set_option maxRecDepth 100000

theorem ke_sub : isSubtype (.type "KeyError") (.type "LookupError") = pure true := by rw [isSubtype_type]; kernel_rfl
theorem ke_self : isSubtype (.type "KeyError") (.type "KeyError") = pure true := by rw [isSubtype_type]; kernel_rfl
theorem ke_attr : isSubtype (.type "KeyError") (.type "AttributeError") = pure false := by rw [isSubtype_type]; kernel_rfl
theorem ke_name : isSubtype (.type "KeyError") (.type "NameError") = pure false := by rw [isSubtype_type]; kernel_rfl
theorem ke_made : Bind.madeHere "BaseException.__new__" (.type "KeyError") = pure () := by kernel_rfl
theorem ke_raise : ExcRaiseFacts "KeyError" where
  isExc := by rw [isSubtype_type]; kernel_rfl
  plainMeta := by kernel_rfl

section
variable {prog : Program} {w : World} {A : Around} {E : Value → Shared → Prop}
theorem ke_new {R : Result → Shared → Prop} {rest : List Value} {hp : Heap} {g : Array GenState} {d : Drawn} {tk : Nat} {os : OsState}
    (h : R (.ok (.ret (.ref (hp.objs.size + 1)))) ⟨(hp.push { cls := .type "tuple", data := .seq rest.toArray }).push { cls := .type "KeyError", data := .fields #[.ref hp.objs.size, .none, .none, .none, .bool false, .none] }, g, d, tk, os⟩)
    (hrest : rest.length ≤ sizeLine) : codeAny (model prog w) A (.builtin "LookupError.__new__" ⟨.type "KeyError" :: rest, []⟩) R ⟨hp, g, d, tk, os⟩ := by
  have hends : ("LookupError.__new__" : String).endsWith ".__new__" = true := by decide +kernel
  have howner : ("LookupError.__new__" : String).dropRight 8 = "LookupError" := by decide +kernel
  have hsub := ke_sub
  have hself := ke_self
  have hna := ke_attr
  have hnn := ke_name
  have hmade := ke_made
  refine codeAny_builtinAt excClass_KeyError.newEntry ?_
  unfold Builtin.«BaseException.__new__»
  refine PySem.wpAt_bind ?_
  show PySem.wpAt _ _ _ (stack >>= _) _ _ _
  refine PySem.wpAt_bind (PySem.wpAt_stack fun p below => PySem.wpAt_of_wpAny ?_)
  wp_walk
  refine PySem.wpAt_of_wpAny ?_
  rw [howner]
  wp_walk
  show R _ _
  rw [Heap.size_push]
  exact h
set_option maxHeartbeats 2000000 in
theorem ke_type_call {I : String} (FC : ExcClass "KeyError" "LookupError.__new__" I) {rest : List Value} {Q : Fin → Shared → Prop} {hp : Heap} {g : Array GenState} {d : Drawn} {tk : Nat} {os : OsState}
    (h : ∀ h' e, Heap.MadeExc hp h' e "KeyError" rest → Q (.done (.ret (.ref e))) ⟨h', g, d, tk, os⟩) (hrest : rest.length ≤ sizeLine) :
    wpAny (model prog w) A (Builtin.«type.__call__» ⟨.type "KeyError" :: rest, []⟩) Q E ⟨hp, g, d, tk, os⟩ := by
  have hnt : (Value.type "KeyError" == Value.type "type") = false := by decide +kernel
  have hcan := FC.canNew
  have hchk := FC.typeCall rest
  obtain ⟨m, hmro, hne⟩ : ∃ m, mroOf (.type "KeyError") = pure m ∧ m.isEmpty = false := ⟨[.type "KeyError", .type "LookupError", .type "Exception", .type "BaseException", .type "object"], by rw [mroOf_type]; kernel_rfl, rfl⟩
  have hmade : Bind.madeBy (.type "KeyError") = pure (some "LookupError.__new__") := by kernel_rfl
  wp_walk
  refine codeAny_call_builtin_code (Code.quiet_builtin _ (by decide +kernel)) (wpAny_of_eq (FC.newCheck rest) ?_)
  refine ke_new ?_ hrest
  show wpAny _ _ _ _ _ _
  have hget : ((hp.push { cls := .type "tuple", data := .seq rest.toArray }).push { cls := .type "KeyError", data := .fields #[.ref hp.objs.size, .none, .none, .none, .bool false, .none] }).get? (hp.objs.size + 1) = some
      { cls := .type "KeyError", data := .fields #[.ref hp.objs.size, .none, .none, .none, .bool false, .none] } := by heap_get
  refine wpAny_bind (wpAny_isInstance ⟨_, hget, rfl⟩ ke_self ?_)
  wp_step
  have hc : ∀ {self : Value} {M : Model} {A' : Around} {s' : Shared} {E' : Value → Shared → Prop} {Q' : Unit → Shared → Prop}, s'.TypeIs self "KeyError" → Q' () s' → wpAny M A' (checkBuiltinCall I ⟨self :: rest, []⟩) Q' E' s' := fun {self M A' s' E' Q'} hT hq => by
    obtain ⟨h', g', d', tk', os'⟩ := s'
    have hsub := ke_self
    have hshort : (("KeyError" : String) != "*") = true := by decide +kernel
    simp only [checkBuiltinCall, FC.initKind, FC.initSplit, FC.initSig]
    wp_walk
    refine wpAny_onRaise ?_
    rw [show ∀ (a b : String) (n : Nat), Bind.check ⟨.positional, "*", "KeyError", .self, [⟨"args", .varPos, false⟩]⟩ a b n (List.map (fun x => x.fst) ({ pos := self :: rest } : Args).kw) = pure () from
      fun a b n => check_star_args _ _ _ _ _ _]
    exact wpAny_pure hq
  refine wpAny_bind (wpAny_holding (wpAny_callSpecial?_slot ⟨_, hget, rfl⟩ FC.init (wpAny_call (codeAny_call_builtin FC.init.plain FC.initEntry (hc ⟨_, hget, rfl⟩ ?_)))))
  wp_walk
  refine h _ _ ⟨fun b o hb => ?_, Heap.get?_none_of_le (Nat.le_succ _), hp.objs.size + 2, ?_, Heap.get?_none_of_le (by omega), ?_⟩
  · rw [Heap.get?_update_other _ _ (Nat.ne_of_gt (Nat.lt_succ_of_lt (Heap.lt_size hb)))]
    exact Heap.get?_push_of_some _ (Heap.get?_push_of_some _ (Heap.get?_push_of_some _ hb))
  · rw [Heap.get?_update_self _ (Heap.get?_push_of_some _ hget) rfl]
    simp only [Heap.size_push]
    rfl
  · rw [Heap.get?_update_other _ _ (show hp.objs.size + 1 ≠ hp.objs.size + 2 by omega)]
    exact Heap.get?_push_at (by simp only [Heap.size_push]) rfl
theorem ke_call {s : Shared} {rest : List Value} {Q : Value → Shared → Prop} (h : ∀ h' e, Heap.MadeExc s.heap h' e "KeyError" rest → Q (.ref e) { s with heap := h' }) (hrest : rest.length ≤ sizeLine) :
    wpAny (model prog w) A (call (.type "KeyError") rest) Q E s := by
  obtain ⟨hp, g, d, tk, os⟩ := s
  refine wpAny_call (codeAny_of_tree ?_)
  show wpAny _ _ (again (.builtin "type.__call__" ⟨.type "KeyError" :: rest, []⟩)) _ _ _
  exact wpAny_pure ⟨Code.quiet_builtin _ (by decide +kernel), codeAny_builtin PySem.entry_typeCall (ke_type_call excClass_KeyError (fun h' e hm => h h' e hm) hrest)⟩

variable {env : Env} {s : Shared}
theorem raiseKey {x : Str} {np cpos pos : Pos} {e₀ : Expr} {rest : List Expr} {Q : Flow → Shared → Prop} (hh : A.handled = none)
    (h : wpAny (model prog w) A (eval (.Name x np) env) (fun f s₁ => f = .type "KeyError" ∧ wpAny (model prog w) A (spliced (backTo cpos (starEach (e₀ :: rest) env)))
      (fun vs s₂ => vs.length ≤ sizeLine ∧ ∀ h' e, Heap.MadeExc s₂.heap h' e "KeyError" vs → E (.ref e) { s₂ with heap := h' }) E s₁) E s)
    (he : starEach (e₀ :: rest) env = (false, eval e₀ env) :: starEach rest env := by rfl) (hplain : (backTo cpos (starEach rest env)).any (·.1) = false := by rfl) :
    wpAny (model prog w) A (exec (.Raise (some (.Call (.Name x np) (e₀ :: rest) [] cpos)) none pos) env) Q E s := by
  refine wpAny_Raise_made ke_raise hh (wpAny_Call_ofName (wpAny_mono h (fun f s₁ h₁ => ?_) fun _ _ x => x))
  obtain ⟨rfl, h₁⟩ := h₁
  rw [he] at h₁ ⊢
  refine callWith_excType (by show (false || (backTo cpos (starEach rest env)).any (·.1)) = false; rw [hplain]; rfl) (Calls.evalArgs_plain (wpAny_mono h₁ (fun vs s₂ h₂ => ?_) fun _ _ x => x))
  refine ke_call (fun h' e hm => ?_) h₂.1
  obtain ⟨t, ht, _, _⟩ := hm.there
  exact ⟨e, t, rfl, ht, h₂.2 h' e hm⟩
end
end PartQ24
section PartQ25
set_option maxRecDepth 100000
open Sem (wp)

section
variable {M : Model} {A : Around} {E : Value → Shared → Prop} {s : Shared} {H0 e g : Heap} {X : Addr → Prop} {W : Prop} {env : Env} {m : Str → Option Value}
theorem Fm.locals {h h' : Heap} {m' ml' : Str → Option Value} (F : Fm H0 e g X True env h m) (hs : Heap.SameBut env.locals h h') (ht : ∀ o', h'.get? env.locals = some o' → ∃ o, h.get? env.locals = some o ∧ o'.cls = o.cls) (hn : h'.Ns env.locals ml')
    (hm : ∀ y u, env.kindOf y = some .local → m' y = some u → ml' y = some u) (hc : ∀ y, env.kindOf y = some .cell ∨ env.kindOf y = some .free → m' y = m y) : Fm H0 e g X True env h' m' := by
  have w := F.wr trivial
  refine F.turn hs w.newL w.lowL w.tagL (fun y c hc => ?_) (fun _ => ⟨fun o' ho' => ?_, w.newL, w.lowL, fun y c hc => ?_, w.apart⟩) ⟨_, hn, hm⟩ fun y c u hl hk hu => ?_
  · obtain ⟨⟨u, hu⟩, c1, c2, c3⟩ := w.cells y c hc
    exact ⟨u, by rw [hs.2 c c3]; exact hu⟩
  · obtain ⟨o, ho, hcl⟩ := ht o' ho'
    have := w.tagL o ho
    unfold Loc ld at this ⊢
    rw [hcl]; exact this
  · obtain ⟨⟨u, hu⟩, c1, c2, c3⟩ := w.cells y c hc
    exact ⟨⟨u, by rw [hs.2 c c3]; exact hu⟩, c1, c2, c3⟩
  · obtain ⟨o, ho, hd⟩ := F.vw.cell y c u hl hk (by rw [← hc y hk]; exact hu)
    exact ⟨o, by rw [hs.2 c (w.cells y c hl).2.2.2]; exact ho, hd⟩
theorem stLS {x : Str} {v : Value} {Q : Unit → Shared → Prop} (F : Fm H0 e g X True env s.heap m) (hl : env.kindOf x = some .local)
    (h : ∀ h', Fm H0 e g X True env h' (fun y => if y = x then some v else m y) → Heap.SameBut env.locals s.heap h' → Q () { s with heap := h', toks := s.toks + 1 })
    (hk : env.scope.kind = .function := by rfl) :
    wpAny M A (storeName env x v) Q E s := by
  have hp : (env.scope.kind == .class || (env.scope.kind == .module && env.locals != env.globals)) = false := by rw [hk]; rfl
  rw [storeName_local hl hp]
  obtain ⟨ml, hn, hm⟩ := F.vw.ns
  refine nsSet_tag hn fun h' hn' hs ht => h h' (F.locals hs ht hn' (fun y u hy hu => ?_) fun y hy => ?_) hs
  · by_cases q : y = x
    · simp only [if_pos q] at hu ⊢; exact hu
    · simp only [if_neg q] at hu ⊢; exact hm y u hy hu
  · by_cases q : y = x
    · subst q; rw [hl] at hy; rcases hy with hy | hy <;> cases hy
    · simp only [if_neg q]
theorem dropName_cls (name : Str) (o : Obj) : (Obj.dropName name o).cls = o.cls := by
  rw [Obj.dropName_eq]
  obtain ⟨c, d, dt, sl⟩ := o
  cases dt <;> simp only [Obj.dropNameByArray]
  split <;> rfl
theorem nsDel_tag {a : Addr} {m : Str → Option Value} {name : Str} {Q : Bool → Shared → Prop} (hn : s.heap.Ns a m)
    (h : ∀ h' v, h'.Ns a (fun x => if x = name then v else m x) → Heap.SameBut a s.heap h' → (∀ o', h'.get? a = some o' → ∃ o, s.heap.get? a = some o ∧ o'.cls = o.cls) → Q (m name).isSome { s with heap := h' }) : wpAny M A (nsDel a name) Q E s := by
  obtain ⟨o, es, ep, ho, hd, hk, hm⟩ := id hn
  have hany : es.any (·.refKey) = false := by
    rw [Array.any_eq_false']; intro e he; obtain ⟨n, t, h⟩ := hk e he; simp [DictEntry.refKey, h]
  obtain ⟨b, hb⟩ : ∃ b, nsHas name o = pure b := by
    rw [nsHas_eq]; unfold nsHasByArray; rw [hd]
    dsimp only
    cases (es.any fun x => x.key.isStr name) with
    | true => exact ⟨true, rfl⟩
    | false => rw [hany]; exact ⟨false, rfl⟩
  intro Γ p hΓ
  have hex : ∀ (Q' : Bool → Pos → Shared → Prop) (E' : Value → Pos → Shared → Prop), wp M Γ (nsDel a name) Q' E' p s = Q' b p { s with heap := if b = true then s.heap.update a (Obj.dropName name) else s.heap } := by
    intro Q' E'
    cases b with
    | true =>
      simp only [nsDel, Sem.wp_bind']
      rw [Sem.wp_loadPart_of M Γ _ p s (o := o) _ ho, hb]
      simp only [Sem.wp_pure', if_true, Sem.wp_bind', Sem.wp_cmd_updatePart]
      exact propext ⟨fun h => h.2, fun h => ⟨by rw [ho]; rfl, h⟩⟩
    | false =>
      simp only [nsDel, Sem.wp_bind']
      rw [Sem.wp_loadPart_of M Γ _ p s (o := o) _ ho, hb]
      simp only [Sem.wp_pure', Bool.false_eq_true, if_false]
  have q := wpAny_nsDel_keeps (M := M) (A := A) (E := fun _ _ => False) (name := name) (Q := fun c s' => c = (m name).isSome ∧ ∃ v, s'.heap.Ns a (fun x => if x = name then v else m x) ∧ Heap.SameBut a s.heap s'.heap) hn (fun h' v h1 h2 => ⟨rfl, v, h1, h2⟩) Γ p hΓ
  rw [hex] at q ⊢
  obtain ⟨rfl, v, h1, h2⟩ := q
  refine h _ v h1 h2 fun o' ho' => ?_
  split at ho'
  · refine ⟨o, ho, ?_⟩
    obtain ⟨o2, es2, ep2, ho2, hd2, _⟩ := h1
    by_cases hf : (Obj.dropName name o).isFreed = false
    · have := Heap.get?_update_self (Obj.dropName name) ho hf
      simp only [this] at ho'
      cases ho'
      exact dropName_cls ..
    · exfalso
      apply hf
      obtain ⟨c, d, dt, sl⟩ := o
      subst hd
      rw [Obj.dropName_eq]
      simp only [Obj.dropNameByArray]
      split <;> rfl
  · exact ⟨o', ho', rfl⟩
theorem nameGone {n : Str} {pos : Pos} {Q : Unit → Shared → Prop} (F : Fm H0 e g X True env s.heap m) (hl : env.kindOf n = some .local)
    (h : ∀ h' tk v, Fm H0 e g X True env h' (fun y => if y = n then v else m y) → Q () { s with heap := h', toks := tk })
    (hk : env.scope.kind = .function := by rfl) : wpAny M A (do bindName env n .none; unbindBehindTheSuite env n pos) Q E s := by
  have hp : (env.scope.kind == .class || (env.scope.kind == .module && env.locals != env.globals)) = false := by rw [hk]; rfl
  refine wpAny_bind (wpAny_bindName ?_)
  rw [storeName_local hl hp]
  obtain ⟨ml, hn, hm⟩ := F.vw.ns
  refine nsSet_tag hn fun h₁ hn₁ hs₁ ht₁ => ?_
  have F₁ : Fm H0 e g X True env h₁ (fun y => if y = n then some .none else m y) := F.locals hs₁ ht₁ hn₁ (fun y u hy hu => by
    by_cases q : y = n
    · simp only [if_pos q] at hu ⊢; exact hu
    · simp only [if_neg q] at hu ⊢; exact hm y u hy hu) fun y hy => by
    by_cases q : y = n
    · subst q; rw [hl] at hy; rcases hy with hy | hy <;> cases hy
    · simp only [if_neg q]
  unfold unbindBehindTheSuite
  refine wpAny_onRaise ?_
  unfold unbindName
  refine wpAny_bind (wpAny_point (wpAny_bind ?_))
  unfold deleteName
  simp only [hl, hp]
  rw [if_neg (by decide)]
  refine wpAny_bind (nsDel_tag hn₁ fun h₂ v hn₂ hs₂ ht₂ => ?_)
  simp only [if_true, Option.isSome_some, Bool.not_true, Bool.false_eq_true, if_false]
  refine wpAny_pure (wpAny_point (h h₂ _ v (F₁.locals hs₂ ht₂ hn₂ (fun y u hy hu => ?_) fun y hy => ?_)))
  · by_cases q : y = n
    · simp only [if_pos q] at hu ⊢; exact hu
    · simp only [if_neg q] at hu ⊢; exact hm y u hy hu
  · by_cases q : y = n
    · subst q; rw [hl] at hy; rcases hy with hy | hy <;> cases hy
    · simp only [if_neg q]
end
end PartQ25
section PartQ26
set_option maxRecDepth 100000

theorem ie_ke : isSubtype (.type "IndexError") (.type "KeyError") = pure false := by rw [isSubtype_type]; kernel_rfl
theorem ie_self : isSubtype (.type "IndexError") (.type "IndexError") = pure true := by rw [isSubtype_type]; kernel_rfl
theorem ke_attrs : ExcAttrFacts "KeyError" where
  ga := .of (owner := "BaseException") (n := "__getattribute__") (by rw [typeLookup_type, builtinLookup_eq_fast]; kernel_rfl) (by decide +kernel) (by decide +kernel) (by decide +kernel)
    (by first | exact .inl (by decide +kernel) | exact .inr (by decide +kernel)) (by rw [isSubtype_type]; kernel_rfl)
  lkArgs := by rw [typeLookup_type, builtinLookup_eq_fast]; kernel_rfl
  sub := by rw [isSubtype_type]; kernel_rfl

section
variable {prog : Program} {w : World} {A : Around} {E : Value → Shared → Prop} {s' : Shared} {H0 e g h : Heap} {X : Addr → Prop} {env : Env} {m : Str → Option Value} {x : Addr} {vs : List Value}
  {tE tI : Expr} {n : Str} {b₀ : Stmt} {suite : List Stmt} {pos : Pos} {rest : List ExceptHandler} {Q : Flow → Shared → Prop}
noncomputable def StandsFor (prog : Program) (w : World) (H0 e : Heap) (X : Addr → Prop) (env : Env) (t : Expr) (T : String) : Prop :=
  ∀ {A' : Around} {E' : Value → Shared → Prop} {s₁ : Shared} {m₁ : Str → Option Value} {Q' : Value → Shared → Prop}, Fm H0 e s₁.heap X True env s₁.heap m₁ → Q' (.type T) s₁ → wpAny (model prog w) A' (eval t env) Q' E' s₁
theorem caughtKey (F : Fm H0 e g X True env h m) (hfr : A.frames = some [env]) (hf : env.frame = some env.locals) (fl : Flew h s'.heap [env] x (.type "KeyError") (some vs)) (hn : StandsFor prog w H0 e X env tE "KeyError") (hl : env.kindOf n = some .local)
    (k : ∀ h' tk oe ws t E₁, Fm H0 e h' X True env h' (fun y => if y = n then some (.ref x) else m y) → Kp Nil h h' → h'.get? x = some oe → oe.cls = .type "KeyError" → oe.data = .fields ws → ws[0]? = some (.ref t) → IsTup h' t vs.toArray →
      wpAny (model prog w) (A.mark (some (.ref x))) (execs (b₀ :: suite) env) (fun f s₄ => wpAny (model prog w) A (do bindName env n .none; unbindBehindTheSuite env n pos) (fun _ s₅ => Q f s₅) E s₄) E₁ { s' with heap := h', toks := tk })
    (hk : env.scope.kind = .function := by rfl) :
    wpAny (model prog w) A (noteFrame (.ref x) env) (fun _ s₂ => wpAny (model prog w) A (setFlight (.ref x) none) (fun _ s₃ => wpAny (model prog w) A (handleBy (.ref x) env (.ExceptHandler (some tE) (some n) (b₀ :: suite) pos :: rest)) Q E s₃) E s₂) E s' := by
  obtain ⟨a0, hfl, hsm, hargs⟩ := fl
  obtain ⟨t, rfl, ht, _⟩ := hargs vs rfl
  have hfrs : frs [env] = [env.locals] := by simp [frs, hf]
  rw [hfrs] at hfl
  refine wpAny_looks_onW hfr hf hfl fun h₄ hheld hsm₄ => ?_
  refine wpAny_landsW hheld fun h₅ hfl₅ hsm₅ => ?_
  obtain ⟨F₅, k₅⟩ := F.caught hfl₅.1 ((hsm.trans hsm₄).trans hsm₅)
  obtain ⟨ob, hob, hobc⟩ := hfl₅.there
  refine wpAny_handleBy_builtin_as (X := "KeyError") (T := "KeyError") (b := true) kr_isExc_KeyError kr_notTuple_KeyError ke_self (hn F₅ ⟨rfl, ⟨ob, hob, hobc⟩, ?_⟩)
  rw [if_pos rfl]
  refine lands_againW hfl₅ fun h₆ hfl₆ hsm₆ => ?_
  obtain ⟨F₆, k₆⟩ := F.caught hfl₆.1 (((hsm.trans hsm₄).trans hsm₅).trans hsm₆)
  have ht₆ := ((ht.of_slots hsm₄).of_slots hsm₅).of_slots hsm₆
  obtain ⟨oe, ws, T, oT, ts, he, ⟨hcls, hw0⟩, hd, _⟩ := hfl₆.2.2.2
  refine stLS F₆ hl (fun h₇ F₇ hs₇ => ?_) hk
  have hL : ∃ o es ep, h₆.get? env.locals = some o ∧ o.data = .dict es ep := by
    obtain ⟨ml, ⟨oL, es, ep, ho', hd', _⟩, _⟩ := F₆.vw.ns
    exact ⟨oL, es, ep, ho', hd'⟩
  obtain ⟨oL, es, ep, hoL, hdL⟩ := hL
  have hx : x ≠ env.locals := fun q => by
    subst q
    rw [he] at hoL; cases hoL
    rw [hd] at hdL; cases hdL
  obtain ⟨ot, nt, hot, hct, hdt⟩ := ht₆
  have htL : t ≠ env.locals := fun q => by
    subst q
    rw [hot] at hoL; cases hoL
    rw [hdt] at hdL; cases hdL
  exact k h₇ _ oe ws t _ F₇.here (k₆.trans F₇.keepG) (by rw [hs₇.2 x hx]; exact he) hcls hd hw0 ⟨ot, by rw [hs₇.2 t htL]; exact hot, hct, nt, hdt⟩
theorem caughtIndex {oa : Option (List Value)} {s₀ : Stmt} {sui : List Stmt} {p₀ : Pos} (F : Fm H0 e g X True env h m) (hfr : A.frames = some [env]) (hf : env.frame = some env.locals) (fl : Flew h s'.heap [env] x (.type "IndexError") oa) (hn : StandsFor prog w H0 e X env tE "KeyError") (hi : StandsFor prog w H0 e X env tI "IndexError")
    (k : ∀ h' tk E₁, Fm H0 e h' X True env h' m → Kp Nil h h' →
      wpAny (model prog w) (A.mark (some (.ref x))) (execs (b₀ :: suite) env) Q E₁ { s' with heap := h', toks := tk }) :
    wpAny (model prog w) A (noteFrame (.ref x) env) (fun _ s₂ => wpAny (model prog w) A (setFlight (.ref x) none) (fun _ s₃ => wpAny (model prog w) A (handleBy (.ref x) env (.ExceptHandler (some tE) (some n) (s₀ :: sui) p₀ :: .ExceptHandler (some tI) none (b₀ :: suite) pos :: rest)) Q E s₃) E s₂) E s' := by
  obtain ⟨a0, hfl, hsm, _⟩ := fl
  have hfrs : frs [env] = [env.locals] := by simp [frs, hf]
  rw [hfrs] at hfl
  refine wpAny_looks_onW hfr hf hfl fun h₄ hheld hsm₄ => ?_
  refine wpAny_landsW hheld fun h₅ hfl₅ hsm₅ => ?_
  obtain ⟨F₅, k₅⟩ := F.caught hfl₅.1 ((hsm.trans hsm₄).trans hsm₅)
  obtain ⟨ob, hob, hobc⟩ := hfl₅.there
  refine wpAny_handleBy_builtin_as (X := "IndexError") (T := "KeyError") (b := false) kr_isExc_KeyError kr_notTuple_KeyError ie_ke (hn F₅ ⟨rfl, ⟨ob, hob, hobc⟩, ?_⟩)
  rw [if_neg (by simp)]
  refine wpAny_handleBy_builtin (X := "IndexError") (T := "IndexError") (b := true) PySem.F.isExc_IndexError PySem.F.notTuple_IndexError ie_self (hi F₅ ⟨rfl, ⟨ob, hob, hobc⟩, ?_⟩)
  rw [if_pos rfl]
  refine lands_againW hfl₅ fun h₆ hfl₆ hsm₆ => ?_
  obtain ⟨F₆, k₆⟩ := F.caught hfl₆.1 (((hsm.trans hsm₄).trans hsm₅).trans hsm₆)
  exact k h₆ _ _ F₆ k₆
end
end PartQ26
section PartQ27
set_option maxRecDepth 100000
section
variable {prog : Program} {w : World} {A : Around} {E : Value → Shared → Prop} {s : Shared} {H0 e g : Heap} {X : Addr → Prop} {W : Prop} {env : Env} {m : Str → Option Value}
noncomputable def insA (k : Int) (x : Value) (xs : Array Value) : Array Value := have j := if k < 0 then (k + ((xs.size : Nat) : Int)).toNat else min k.toNat xs.size; (xs.extract 0 j).push x ++ xs.extract j
theorem insA_list (vs : List Value) (k : Nat) (x : Value) (hk : k ≤ vs.length) : insA (k : Int) x vs.toArray = (vs.take k ++ x :: vs.drop k).toArray := by
  apply Array.toList_inj.mp
  have hmin : min k vs.length = k := by omega
  have h0 : ¬ (k : Int) < 0 := by omega
  unfold insA
  simp [h0, hmin]
  exact List.take_of_length_le (by simp)
theorem insertA {l : Addr} {items : Array Value} {n : Nat} {k : Int} {u : Tok} {x : Value} {Q : Value → Shared → Prop} (F : Fm H0 e g X True env s.heap m) (hl : s.heap.get? l = some { cls := .type "list", data := .seq items n }) (hX : ∀ o, e.get? l = some o → X l) (hH : H0.get? l = none) (hz : items.size ≤ sizeLine) (hf : ¬(!Builtin.List.listFitsIndex k) = true)
    (h : ∀ h', Fm H0 e h' X True env h' m → Kp (fun b => b = l) s.heap h' → h'.PlainList l (insA k x items) → Q .none { s with heap := h' }) : wpAny (model prog w) A (call (.builtin "list.insert") [.ref l, .int k u, x]) Q E s := by
  refine call_meets PySem.F.slot_list_insert ⟨_, hl, rfl⟩ PySem.F.entry_list_insert (PySem.F.args_list_insert_3 _ _ _) (PySem.AutoSeq1.list_insert_list_int_val_1 l items n k u x hf hz) ⟨hl, ?_⟩
  have q := PySem.IsL.update hl (insA k x)
  obtain ⟨F', k'⟩ := F.mut (Heap.SameBut.update ..) hl (.inl rfl) ⟨_, q⟩ hX hH
  exact h _ F' k' ⟨_, q⟩
theorem insertL {l : Addr} {vs : List Value} {k : Nat} {u : Tok} {x : Value} {Q : Value → Shared → Prop} (F : Fm H0 e g X True env s.heap m) (hl : s.heap.PlainList l vs.toArray) (hX : ∀ o, e.get? l = some o → X l) (hH : H0.get? l = none) (hz : vs.length ≤ 10000) (hk : k ≤ vs.length)
    (h : ∀ h', Fm H0 e h' X True env h' m → Kp (fun b => b = l) s.heap h' → h'.PlainList l (vs.take k ++ x :: vs.drop k).toArray → Q .none { s with heap := h' }) : wpAny (model prog w) A (call (.builtin "list.insert") [.ref l, .int k u, x]) Q E s := by
  have hz' : vs.length ≤ sizeLine := by rw [sizeLine_eq]; omega
  obtain ⟨n, e⟩ := hl
  have hf : ¬(!Builtin.List.listFitsIndex (k : Int)) = true := by
    unfold Builtin.List.listFitsIndex
    simp
    omega
  exact insertA F e hX hH (by rw [List.size_toArray]; exact hz') hf fun h' F' k' p => h h' F' k' (by rw [← insA_list vs k x hk]; exact p)
theorem any12 (code : Int) : ([PyData.int 1, PyData.int 2].any fun y => PyData.eqv y (.int code)) = decide (code = 1 ∨ code = 2) := by
  have e1 : ((1 : Int) == code) = decide (code = 1) := by rw [Bool.eq_iff_iff, beq_iff_eq, decide_eq_true_iff]; exact eq_comm
  have e2 : ((2 : Int) == code) = decide (code = 2) := by rw [Bool.eq_iff_iff, beq_iff_eq, decide_eq_true_iff]; exact eq_comm
  simp [PyData.eqv, e1, e2]
theorem in12 {a : Addr} {t u v : Tok} {code : Int} {Q : Value → Shared → Prop} (ht : IsTup s.heap a (List.toArray [.int 1 t, .int 2 u])) (hu : A.units + 100 < cLine) (h : Q (.bool (decide (code = 1 ∨ code = 2))) s) : wpAny (model prog w) A (compareOp .In (.int code v) (.ref a)) Q E s := by
  obtain ⟨_, r, _⟩ : Rd Nil s.heap (.ref a) (.tuple [.int 1, .int 2]) := Rd.tupOf ht (.cons (.int _ _) (.cons (.int _ _) .nil))
  refine SeqAt.in_tuple_reads r (.int code v) (by decide) rfl ?_ (by rw [any12]; exact h)
  have : (PyData.int code).depth = 0 := by simp [PyData.depth]
  rw [this]; omega
theorem notIn12 {a : Addr} {t u v : Tok} {code : Int} {Q : Value → Shared → Prop} (ht : IsTup s.heap a (List.toArray [.int 1 t, .int 2 u])) (hu : A.units + 100 < cLine) (h : Q (.bool (!decide (code = 1 ∨ code = 2))) s) : wpAny (model prog w) A (compareOp .NotIn (.int code v) (.ref a)) Q E s := by
  obtain ⟨_, r, _⟩ : Rd Nil s.heap (.ref a) (.tuple [.int 1, .int 2]) := Rd.tupOf ht (.cons (.int _ _) (.cons (.int _ _) .nil))
  refine SeqAt.notIn_tuple_reads r (.int code v) (by decide) rfl ?_ (by rw [any12]; exact h)
  have : (PyData.int code).depth = 0 := by simp [PyData.depth]
  rw [this]; omega
theorem eqKeys {a b : Value} {ks ls : List Str} {N N' : Addr → Prop} {Q : Value → Shared → Prop} (ra : Rd N s.heap a (keyD ks)) (rb : Rd N' s.heap b (keyD ls)) (ha : keyOk ks) (hb : keyOk ls) (hu : A.units + 100 < cLine) (h : Q (.bool (decide (ks = ls))) s) : wpAny (model prog w) A (compareOp .Eq a b) Q E s :=
  eqRd ra rb (depthOk_key ha) (depthOk_key hb) hu (by rw [eqv_key]; exact h)
theorem neKeys {a b : Value} {ks ls : List Str} {N N' : Addr → Prop} {Q : Value → Shared → Prop} (ra : Rd N s.heap a (keyD ks)) (rb : Rd N' s.heap b (keyD ls)) (ha : keyOk ks) (hb : keyOk ls) (hu : A.units + 100 < cLine) (h : Q (.bool (!decide (ks = ls))) s) : wpAny (model prog w) A (compareOp .NotEq a b) Q E s :=
  neRd ra rb (depthOk_key ha) (depthOk_key hb) hu (by rw [eqv_key]; exact h)
theorem neStrs {a b : Addr} {x y : Str} {t u : Tok} {Q : Value → Shared → Prop} (ha : s.heap.IsList a (List.toArray [.str x t])) (hb : s.heap.IsList b (List.toArray [.str y u])) (hx : PyData.strOk x = true) (hy : PyData.strOk y = true) (hu : A.units + 100 < cLine) (h : Q (.bool (!decide (x = y))) s) : wpAny (model prog w) A (compareOp .NotEq (.ref a) (.ref b)) Q E s := by
  refine neRd (N := fun _ => True) (N' := fun _ => True) (da := .list ([x].map .str)) (db := .list ([y].map .str)) (Rd.listOf ha (.cons (.str _ _) .nil) trivial) (Rd.listOf hb (.cons (.str _ _) .nil) trivial) (depthOk_strs fun k hk => by rw [List.mem_singleton.mp hk]; exact hx) (depthOk_strs fun k hk => by rw [List.mem_singleton.mp hk]; exact hy) hu ?_
  have e : PyData.eqv (.list ([x].map .str)) (.list ([y].map .str)) = decide (x = y) := by
    have := eqv_strs [x] [y]
    show PyData.eqvAll ([x].map .str) ([y].map .str) = _
    rw [this]; simp
  rw [e]; exact h
theorem strInt {n : Nat} {t : Tok} {Q : Value → Shared → Prop} (hn : n ≤ 1000) (h : Q (.str (Str.ofString (toString (n : Int))) s.toks) { s with toks := s.toks + 1 }) : wpAny (model prog w) A (call (.type "str") [.int n t]) Q E s :=
  P.str_of_int (by
    have : Nat.log2 n ≤ n := Nat.log2_le_self n
    have e : (n : Int).natAbs = n := Int.natAbs_natCast n
    rw [e]; omega) h
end
end PartQ27
section PartN1
section
variable {prog : Program} {w : World} {M : Model} {A : Around} {E : Value → Shared → Prop} {h gn' : Heap} {gn : _} {dr : _} {t : Nat} {o : _} {s : Shared} {H0 e g : Heap} {X : Addr → Prop} {W : Prop} {env : Env} {m : Str → Option Value}

-- the rules with the state written out
theorem nInt {i : Int} {k : Nat} {pos : Pos} {Q : Value → Shared → Prop} (q : Q (.int i t) ⟨h, gn, dr, t + 1, o⟩) : wpAny M A (eval (.Constant (.int i) k pos) env) Q E ⟨h, gn, dr, t, o⟩ := wpAny_Constant_int q
theorem nStr {x : Str} {k : Nat} {pos : Pos} {Q : Value → Shared → Prop} (q : Q (.str x t) ⟨h, gn, dr, t + 1, o⟩) : wpAny M A (eval (.Constant (.str x) k pos) env) Q E ⟨h, gn, dr, t, o⟩ := Constant_str q
theorem nAdd {a b : Int} {u v : Tok} {Q : Value → Shared → Prop} (q : Q (.int (a + b) t) ⟨h, gn, dr, t + 1, o⟩) : wpAny (model prog w) A (binaryOp .Add (.int a u) (.int b v)) Q E ⟨h, gn, dr, t, o⟩ := PyProof.Rows.add_int q
theorem nSub {a b : Int} {u v : Tok} {Q : Value → Shared → Prop} (q : Q (.int (a - b) t) ⟨h, gn, dr, t + 1, o⟩) : wpAny (model prog w) A (binaryOp .Sub (.int a u) (.int b v)) Q E ⟨h, gn, dr, t, o⟩ := PyProof.Rows.sub_int q
theorem nIadd {a b : Int} {u v : Tok} {Q : Value → Shared → Prop} (q : Q (.int (a + b) t) ⟨h, gn, dr, t + 1, o⟩) : wpAny (model prog w) A (inplaceOp .Add (.int a u) (.int b v)) Q E ⟨h, gn, dr, t, o⟩ := PyProof.Rows.iadd_int q
theorem nNeg {a : Int} {u : Tok} {Q : Value → Shared → Prop} (q : Q (.int (-a) t) ⟨h, gn, dr, t + 1, o⟩) : wpAny (model prog w) A (unaryOp .USub (.int a u)) Q E ⟨h, gn, dr, t, o⟩ := neg_int q
theorem nMul {a b : Int} {u v : Tok} {Q : Value → Shared → Prop} (q : Q (.int (a * b) t) ⟨h, gn, dr, t + 1, o⟩) (hm : IntMulOk a b) : wpAny (model prog w) A (binaryOp .Mult (.int a u) (.int b v)) Q E ⟨h, gn, dr, t, o⟩ := PyProof.Rows.mul_int q hm
theorem nMod {a b : Int} {u v : Tok} {Q : Value → Shared → Prop} (hb : b ≠ 0) (q : Q (.int (a.fmod b) t) ⟨h, gn, dr, t + 1, o⟩) : wpAny (model prog w) A (binaryOp .Mod (.int a u) (.int b v)) Q E ⟨h, gn, dr, t, o⟩ := PyProof.Rows.mod_int hb q
theorem nFd {a b : Int} {u v : Tok} {Q : Value → Shared → Prop} (hb : b ≠ 0) (q : Q (.int (a.fdiv b) t) ⟨h, gn, dr, t + 1, o⟩) (hp : Builtin.divisionGoesByPylong a b = false ∨ PySem.PylongRoom (model prog w) A ⟨h, gn, dr, t, o⟩ := by first | exact Or.inl (PyProof.noPylong_of_log2 (by decide +kernel)) | exact Or.inl (PyProof.noPylong_small (by omega)) | assumption) :
    wpAny (model prog w) A (binaryOp .FloorDiv (.int a u) (.int b v)) Q E ⟨h, gn, dr, t, o⟩ := PyProof.Rows.floordiv_int (s := ⟨h, gn, dr, t, o⟩) hb q hp
theorem nIfd {a b : Int} {u v : Tok} {Q : Value → Shared → Prop} (hb : b ≠ 0) (q : Q (.int (a.fdiv b) t) ⟨h, gn, dr, t + 1, o⟩) (hp : Builtin.divisionGoesByPylong a b = false ∨ PySem.PylongRoom (model prog w) A ⟨h, gn, dr, t, o⟩ := by first | exact Or.inl (PyProof.noPylong_of_log2 (by decide +kernel)) | exact Or.inl (PyProof.noPylong_small (by omega)) | assumption) :
    wpAny (model prog w) A (inplaceOp .FloorDiv (.int a u) (.int b v)) Q E ⟨h, gn, dr, t, o⟩ := PyProof.Rows.ifloordiv_int (s := ⟨h, gn, dr, t, o⟩) hb q hp
noncomputable def isDbg (x : Str) : Bool := x == Str.ofString "__debug__"
noncomputable def okK (k : NameKind) (env : Env) (x : Str) : Bool := (env.kindOf x == some k) && (env.scope.kind == .function) && !isDbg x
noncomputable def okS (k : NameKind) (env : Env) (x : Str) : Bool := (env.kindOf x == some k) && (env.scope.kind == .function)
noncomputable def okG (env : Env) (x : Str) : Bool := (env.kindOf x == some .globalImplicit) && (env.scope.kind == .function) && !isDbg x && (env.globals == mainGlobals)
noncomputable def okB (env : Env) (x : Str) : Bool := (env.kindOf x == some .globalImplicit) && (env.scope.kind == .function) && !isDbg x && (env.globals == mainGlobals) && (env.builtins == builtinsNs)
theorem nk_eq {a b : Option NameKind} (h : (a == b) = true) : a = b := by rcases a with _ | a <;> rcases b with _ | b <;> (try cases a) <;> (try cases b) <;> first | rfl | exact nomatch h
theorem sk_eq {a b : ScopeKind} (h : (a == b) = true) : a = b := by cases a <;> cases b <;> first | rfl | exact nomatch h
theorem okS.k {k : NameKind} {env : Env} {x : Str} (z : okS k env x = true) : env.kindOf x = some k ∧ env.scope.kind = .function := by
  unfold okS at z; rw [Bool.and_eq_true] at z; exact ⟨nk_eq z.1, sk_eq z.2⟩
theorem okK.k {k : NameKind} {env : Env} {x : Str} (z : okK k env x = true) : env.kindOf x = some k ∧ env.scope.kind = .function ∧ isDbg x = false := by
  unfold okK at z; rw [Bool.and_eq_true, Bool.and_eq_true] at z; exact ⟨nk_eq z.1.1, sk_eq z.1.2, by simpa using z.2⟩
theorem okG.k {env : Env} {x : Str} (z : okG env x = true) : env.kindOf x = some .globalImplicit ∧ env.scope.kind = .function ∧ isDbg x = false ∧ env.globals = mainGlobals := by
  unfold okG at z; rw [Bool.and_eq_true, Bool.and_eq_true, Bool.and_eq_true] at z; exact ⟨nk_eq z.1.1.1, sk_eq z.1.1.2, by simpa using z.1.2, by simpa using z.2⟩
theorem okB.k {env : Env} {x : Str} (z : okB env x = true) : env.kindOf x = some .globalImplicit ∧ env.scope.kind = .function ∧ isDbg x = false ∧ env.globals = mainGlobals ∧ env.builtins = builtinsNs := by
  unfold okB at z; rw [Bool.and_eq_true, Bool.and_eq_true, Bool.and_eq_true, Bool.and_eq_true] at z; exact ⟨nk_eq z.1.1.1.1, sk_eq z.1.1.1.2, by simpa using z.1.1.2, by simpa using z.1.2, by simpa using z.2⟩
theorem nStL {x : Str} {v : Value} {Q : Unit → Shared → Prop} (F : Fm H0 e g X True env h m) (z : okS .local env x = true)
    (q : ∀ h', Fm H0 e g X True env h' (fun y => if y = x then some v else m y) → Q () ⟨h', gn, dr, t + 1, o⟩) : wpAny M A (storeName env x v) Q E ⟨h, gn, dr, t, o⟩ := stL (s := ⟨h, gn, dr, t, o⟩) F (okS.k z).1 q (okS.k z).2
theorem nStC {x : Str} {v : Value} {c : Addr} {Q : Unit → Shared → Prop} (F : Fm H0 e g X True env h m) (z : okS .cell env x = true) (y : env.cells.lookup x = some c)
    (q : ∀ h', Fm H0 e g X True env h' (fun y => if y = x then some v else m y) → Q () ⟨h', gn, dr, t, o⟩) : wpAny M A (storeName env x v) Q E ⟨h, gn, dr, t, o⟩ := Mine.stC (s := ⟨h, gn, dr, t, o⟩) F (okS.k z).1 y q (okS.k z).2
theorem nTup {vs : List Value} {Q : Value → Shared → Prop} (F : Fm H0 e g X W env h m) (z : vs.length ≤ sizeLine)
    (q : ∀ a h', Fm H0 e h' X W env h' m → Kp Nil g h' → Sub h h' → h.get? a = none → IsTup h' a vs.toArray → Q (.ref a) ⟨h', gn, dr, t, o⟩) :
    wpAny M A (newTuple vs) Q E ⟨h, gn, dr, t, o⟩ := tupNew (s := ⟨h, gn, dr, t, o⟩) F q z
theorem nList {vs : List Value} {Q : Value → Shared → Prop} (F : Fm H0 e g X W env h m) (z : vs.length ≤ sizeLine)
    (q : ∀ a h', Fm H0 e h' X W env h' m → Kp Nil g h' → Sub h h' → h.get? a = none → h'.PlainList a vs.toArray → Q (.ref a) ⟨h', gn, dr, t, o⟩) :
    wpAny M A (newList vs) Q E ⟨h, gn, dr, t, o⟩ := listNew (s := ⟨h, gn, dr, t, o⟩) F q z
theorem nDict {pos : Pos} {Q : Value → Shared → Prop} (F : Fm H0 e g X W env h m) (z : H0.NoLimit)
    (q : ∀ a h', Fm H0 e h' X W env h' m → Kp Nil g h' → Sub h h' → h.get? a = none → DO prog w h' a [] → Q (.ref a) ⟨h', gn, dr, t, o⟩) : wpAny (model prog w) A (eval (.Dict [] [] pos) env) Q E ⟨h, gn, dr, t, o⟩ := dictNew (s := ⟨h, gn, dr, t, o⟩) F z q
theorem nRange1 {n : Int} {u : Tok} {Q : Value → Shared → Prop} (F : Fm H0 e g X W env h m) (z : True) (q : ∀ r h' tk t₁ u₁ v₁, Fm H0 e h' X W env h' m → Kp Nil g h' → Sub h h' → IsRange h' r 0 n 1 t₁ u₁ v₁ → Q (.ref r) ⟨h', gn, dr, tk, o⟩) :
    wpAny (model prog w) A (call (.type "range") [.int n u]) Q E ⟨h, gn, dr, t, o⟩ := range1 (s := ⟨h, gn, dr, t, o⟩) F q
theorem nRange2 {a b : Int} {u v : Tok} {Q : Value → Shared → Prop} (F : Fm H0 e g X W env h m) (z : True) (q : ∀ r h' tk t₁ u₁ v₁, Fm H0 e h' X W env h' m → Kp Nil g h' → Sub h h' → IsRange h' r a b 1 t₁ u₁ v₁ → Q (.ref r) ⟨h', gn, dr, tk, o⟩) :
    wpAny (model prog w) A (call (.type "range") [.int a u, .int b v]) Q E ⟨h, gn, dr, t, o⟩ := range2 (s := ⟨h, gn, dr, t, o⟩) F q
theorem nNmL {x : Str} {pos : Pos} {v : Value} {Q : Value → Shared → Prop} (F : Fm H0 e g X W env s.heap m) (z : okK .local env x = true) (nv : m x = some v) (q : Q v s) : wpAny M A (eval (.Name x pos) env) Q E s := nameL F (okK.k z).1 nv q (okK.k z).2.1 (okK.k z).2.2
theorem nNmC {x : Str} {pos : Pos} {c : Addr} {v : Value} {Q : Value → Shared → Prop} (F : Fm H0 e g X W env s.heap m) (z : okK .cell env x = true) (y : env.cells.lookup x = some c) (nv : m x = some v) (q : Q v s) : wpAny M A (eval (.Name x pos) env) Q E s := nameC F (okK.k z).1 y nv q (okK.k z).2.1 (okK.k z).2.2
theorem nNmF {x : Str} {pos : Pos} {c : Addr} {v : Value} {Q : Value → Shared → Prop} (F : Fm H0 e g X W env s.heap m) (z : okK .free env x = true) (y : env.cells.lookup x = some c) (u : (x == ("__classdict__" : Str)) = false) (nv : m x = some v) (q : Q v s) : wpAny M A (eval (.Name x pos) env) Q E s := nameF F (okK.k z).1 y nv q (okK.k z).2.1 (okK.k z).2.2 u
theorem nLdL {x : Str} {v : Value} {Q : Value → Shared → Prop} (F : Fm H0 e g X W env s.heap m) (z : okS .local env x = true) (nv : m x = some v) (q : Q v s) : wpAny M A (loadName env x) Q E s := loadL F (okS.k z).1 nv q (okS.k z).2
theorem nNmG {mg mb : Str → Option Value} {x : Str} {pos : Pos} {v : Value} {Q : Value → Shared → Prop} (F : Fm H0 e g X W env s.heap m) (G : Gl H0 mg mb) (nv : mg x = some v) (q : Q v s)
    (z : okG env x = true) : wpAny M A (eval (.Name x pos) env) Q E s := nameG F G nv q (okG.k z).2.1 (okG.k z).1 (okG.k z).2.2.2 (okG.k z).2.2.1
theorem nNmB {mg mb : Str → Option Value} {x : Str} {pos : Pos} {v : Value} {Q : Value → Shared → Prop} (F : Fm H0 e g X W env s.heap m) (G : Gl H0 mg mb) (nv : mg x = none) (nw : mb x = some v) (q : Q v s)
    (z : okB env x = true) : wpAny M A (eval (.Name x pos) env) Q E s := nameB F G nv nw q (okB.k z).2.1 (okB.k z).1 (okB.k z).2.2.2.1 (okB.k z).2.2.2.2 (okB.k z).2.2.1
theorem nTypArgs {pos : Pos} {T : String} {x : Expr} {rest : List Expr} {Q : Value → Shared → Prop} (q : wpAny M A (spliced (backTo pos (starEach (x :: rest) env))) (fun vs s₁ => wpAny M A (call (.type T) vs) Q E s₁) E s)
    (z : starEach (x :: rest) env = (false, eval x env) :: starEach rest env) (y : (backTo pos (starEach rest env)).any (·.1) = false) : wpAny M A (callWith pos (.type T) [] (backTo pos (starEach (x :: rest) env)) []) Q E s := PyProof.Rows.callWith_type1 q z y
theorem nBltArgs {pos : Pos} {T : String} {x : Expr} {rest : List Expr} {Q : Value → Shared → Prop} (q : wpAny M A (spliced (backTo pos (starEach (x :: rest) env))) (fun vs s₁ => wpAny M A (call (.builtin T) vs) Q E s₁) E s)
    (z : starEach (x :: rest) env = (false, eval x env) :: starEach rest env) (y : (backTo pos (starEach rest env)).any (·.1) = false) : wpAny M A (callWith pos (.builtin T) [] (backTo pos (starEach (x :: rest) env)) []) Q E s := PyProof.Rows.callWith_builtin1 q z y
theorem nMeth1 {pos : Pos} {T : String} {f : Value} {x : Expr} {rest : List Expr} {Q : Value → Shared → Prop} (q : wpAny M A (spliced (backTo pos (starEach (x :: rest) env))) (fun vs s₁ => wpAny M A (call (.builtin T) (f :: vs)) Q E s₁) E s)
    (z : starEach (x :: rest) env = (false, eval x env) :: starEach rest env) (y : (backTo pos (starEach rest env)).any (·.1) = false) : wpAny M A (callWith pos (.builtin T) [f] (backTo pos (starEach (x :: rest) env)) []) Q E s := PyProof.Rows.callWith_method1 q z y
theorem nMeth0 {pos : Pos} {T : String} {f : Value} {Q : Value → Shared → Prop} (q : wpAny M A (call (.builtin T) [f]) Q E s) : wpAny M A (callWith pos (.builtin T) [f] (backTo pos (starEach [] env)) []) Q E s := PyProof.Rows.callWith_method0 q
theorem nExpr {x : Expr} {pos : Pos} {Q : Flow → Shared → Prop} (q : wpAny (model prog w) A (eval x env) (fun _ => Q .next) E s) (z : interactive env = false) (y : swapsWith x none pos.line env = pure false) : wpAny (model prog w) A (exec (.Expr x pos) env) Q E s := wpAny_Expr_any q z y
theorem nAsT {es : List Expr} {k : Nat} {tp : Pos} {v : Expr} {pos : Pos} {Q : Flow → Shared → Prop} (q : wpAny M A (eval v env) (fun v s₁ => wpAny M A (assign (.Tuple es k tp) env v) (fun _ => Q .next) E s₁) E s)
    (z : swapsWithSole [.Tuple es k tp] v pos.line env = pure false) (y : swappedStores [.Tuple es k tp] v env = pure none) : wpAny M A (exec (.Assign [.Tuple es k tp] v pos) env) Q E s := Assign_Tuple q z y
theorem nAsS {es : List Expr} {k : Nat} {tp : Pos} {v : Expr} {pos : Pos} {ns : List Str} {Q : Flow → Shared → Prop} (q : wpAny M A (eval v env) (fun v s₁ => wpAny M A (unpackItems v ns.length none) (fun is s₂ => wpAny M A (assignInOrder (ns.reverse.map fun n => bindName env n) is.reverse) (fun _ => Q .next) E s₂) E s₁) E s)
    (z : swapsWithSole [.Tuple es k tp] v pos.line env = pure false) (y : swappedStores [.Tuple es k tp] v env = pure (some ns)) : wpAny M A (exec (.Assign [.Tuple es k tp] v pos) env) Q E s := Assign_Tuple_swapped q z y
theorem nCmp {l : Expr} {op : CmpOp} {r : Expr} {pos : Pos} {Q : Value → Shared → Prop} (q : wpAny M A (eval l env) (fun a s₁ => wpAny M A (eval r env) (fun b s₂ => wpAny M A (compareOp op a b) Q E s₂) E s₁) E s) (hm : behindInMarks op r = false := by rfl) : wpAny M A (eval (.Compare l [op] [r] pos) env) Q E s := wpAny_Compare1 q hm

-- what an atom comes to
noncomputable def Ev1 (M : Model) (A : Around) (env : Env) (x : Expr) (s : Shared) (v : Value) (s' : Shared) : Prop := ∀ {E : Value → Shared → Prop} {Q : Value → Shared → Prop}, Q v s' → wpAny M A (eval x env) Q E s
noncomputable def EvN (M : Model) (A : Around) (env : Env) (xs : List Expr) (s : Shared) (vs : List Value) (s' : Shared) : Prop := ∀ {E : Value → Shared → Prop} {pos : Pos} {Q : List Value → Shared → Prop}, Q vs s' → wpAny M A (spliced (backTo pos (starEach xs env))) Q E s
theorem aL {x : Str} {pos : Pos} {v : Value} (F : Fm H0 e g X W env h m) (z : okK .local env x = true) (nv : m x = some v) : Ev1 M A env (.Name x pos) ⟨h, gn, dr, t, o⟩ v ⟨h, gn, dr, t, o⟩ := fun q => nameL (s := ⟨h, gn, dr, t, o⟩) F (okK.k z).1 nv q (okK.k z).2.1 (okK.k z).2.2
theorem aC {x : Str} {pos : Pos} {c : Addr} {v : Value} (F : Fm H0 e g X W env h m) (z : okK .cell env x = true) (y : env.cells.lookup x = some c) (nv : m x = some v) : Ev1 M A env (.Name x pos) ⟨h, gn, dr, t, o⟩ v ⟨h, gn, dr, t, o⟩ := fun q => nameC (s := ⟨h, gn, dr, t, o⟩) F (okK.k z).1 y nv q (okK.k z).2.1 (okK.k z).2.2
theorem aI {i : Int} {k : Nat} {pos : Pos} : Ev1 M A env (.Constant (.int i) k pos) ⟨h, gn, dr, t, o⟩ (.int i t) ⟨h, gn, dr, t + 1, o⟩ := fun q => nInt q
theorem aS {x : Str} {k : Nat} {pos : Pos} : Ev1 M A env (.Constant (.str x) k pos) ⟨h, gn, dr, t, o⟩ (.str x t) ⟨h, gn, dr, t + 1, o⟩ := fun q => nStr q
theorem aZ {k : Nat} {pos : Pos} : Ev1 M A env (.Constant .none k pos) s .none s := fun q => wpAny_Constant_none q
theorem aB {b : Bool} {k : Nat} {pos : Pos} : Ev1 M A env (.Constant (.bool b) k pos) s (.bool b) s := fun q => wpAny_Constant_bool q
theorem eN : EvN M A env [] s [] s := fun q => spliced_none q
theorem eC {x : Expr} {xs : List Expr} {s₁ s₂ : Shared} {v : Value} {vs : List Value} (h : Ev1 M A env x s v s₁) (k : EvN M A env xs s₁ vs s₂) (he : starEach (x :: xs) env = (false, eval x env) :: starEach xs env) : EvN M A env (x :: xs) s (v :: vs) s₂ := fun q => spliced_more (h (k q)) he

-- the rules over atoms
theorem mCmpT {l r : Expr} {op : CmpOp} {pos : Pos} {whole : Sem Value} {Q : Bool → Shared → Prop} {a b : Value} {s₁ s₂ : Shared} (hl : Ev1 M A env l s a s₁) (hr : Ev1 M A env r s₁ b s₂)
    (q : wpAny M A (compareOp op a b) (fun c s₃ => wpAny M A (truthy c) Q E s₃) E s₂) (hm : behindInMarks op r = false) : wpAny M A (isTrue (.Compare l [op] [r] pos) env whole) Q E s := wpAny_isTrue_Compare1 (hl (hr q)) hm
theorem mCmp {l r : Expr} {op : CmpOp} {pos : Pos} {Q : Value → Shared → Prop} {a b : Value} {s₁ s₂ : Shared} (hl : Ev1 M A env l s a s₁) (hr : Ev1 M A env r s₁ b s₂)
    (q : wpAny M A (compareOp op a b) Q E s₂) (hm : behindInMarks op r = false) : wpAny M A (eval (.Compare l [op] [r] pos) env) Q E s := wpAny_Compare1 (hl (hr q)) hm
theorem mCmpR {l r : Expr} {op : CmpOp} {pos : Pos} {whole : Sem Value} {Q : Bool → Shared → Prop} {a : Value} {s₁ : Shared} (hl : Ev1 M A env l s a s₁)
    (q : wpAny M A (eval r env) (fun b s₂ => wpAny M A (compareOp op a b) (fun c s₃ => wpAny M A (truthy c) Q E s₃) E s₂) E s₁) (hm : behindInMarks op r = false) : wpAny M A (isTrue (.Compare l [op] [r] pos) env whole) Q E s := wpAny_isTrue_Compare1 (hl q) hm
theorem mBin {l r : Expr} {op : Operator} {pos : Pos} {Q : Value → Shared → Prop} {a b : Value} {s₁ s₂ : Shared} (hl : Ev1 M A env l s a s₁) (hr : Ev1 M A env r s₁ b s₂)
    (q : wpAny M A (binaryOp op a b) Q E s₂) (z : True) : wpAny M A (eval (.BinOp l op r pos) env) Q E s := wpAny_BinOp (hl (hr q))
theorem mSub {x i : Expr} {pos : Pos} {Q : Value → Shared → Prop} {a b : Value} {s₁ s₂ : Shared} (hl : Ev1 M A env x s a s₁) (hr : Ev1 M A env i s₁ b s₂)
    (q : wpAny M A (subscriptTail x i a b) Q E s₂) (z : True) : wpAny M A (eval (.Subscript x i pos) env) Q E s := Subscript_ (hl (hr q))
theorem mTup {xs : List Expr} {k : Nat} {pos : Pos} {Q : Value → Shared → Prop} {vs : List Value} {s₁ : Shared} (h : EvN M A env xs s vs s₁) (q : wpAny M A (newTuple vs) Q E s₁) : wpAny M A (eval (.Tuple xs k pos) env) Q E s := Tuple_ (h q)
theorem mList {xs : List Expr} {pos : Pos} {Q : Value → Shared → Prop} {vs : List Value} {s₁ : Shared} (h : EvN M A env xs s vs s₁) (q : wpAny M A (newList vs) Q E s₁) : wpAny M A (eval (.List xs pos) env) Q E s := List_ (h q)
theorem mSpl {xs : List Expr} {pos : Pos} {Q : List Value → Shared → Prop} {vs : List Value} {s₁ : Shared} (h : EvN M A env xs s vs s₁) (q : Q vs s₁) : wpAny M A (spliced (backTo pos (starEach xs env))) Q E s := h q
theorem mBlt {mg mb : Str → Option Value} {f : Str} {fp pos : Pos} {id : String} {x : Expr} {xs : List Expr} {vs : List Value} {s₁ : Shared} {Q : Value → Shared → Prop} (F : Fm H0 e g X W env s.heap m) (G : Gl H0 mg mb) (hm : mg f = none) (hv : mb f = some (.builtin id))
    (h : EvN M A env (x :: xs) s vs s₁) (q : wpAny M A (call (.builtin id) vs) Q E s₁)
    (y : eval (.Call (.Name f fp) (x :: xs) [] pos) env = (do callWith pos (← eval (.Name f fp) env) [] (backTo pos (starEach (x :: xs) env)) (backToKw pos (keywordEach [] env))))
     (u : starEach (x :: xs) env = (false, eval x env) :: starEach xs env) (v : ((backTo pos (starEach xs env)).any fun x => x.1) = false) (z : okB env f = true) : wpAny M A (eval (.Call (.Name f fp) (x :: xs) [] pos) env) Q E s :=
  Call_ (nNmB F G hm hv (PyProof.Rows.callWith_builtin1 (h q) u v) z) y
theorem mTyp {mg mb : Str → Option Value} {f : Str} {fp pos : Pos} {id : String} {x : Expr} {xs : List Expr} {vs : List Value} {s₁ : Shared} {Q : Value → Shared → Prop} (F : Fm H0 e g X W env s.heap m) (G : Gl H0 mg mb) (hm : mg f = none) (hv : mb f = some (.type id))
    (h : EvN M A env (x :: xs) s vs s₁) (q : wpAny M A (call (.type id) vs) Q E s₁)
    (y : eval (.Call (.Name f fp) (x :: xs) [] pos) env = (do callWith pos (← eval (.Name f fp) env) [] (backTo pos (starEach (x :: xs) env)) (backToKw pos (keywordEach [] env))))
     (u : starEach (x :: xs) env = (false, eval x env) :: starEach xs env) (v : ((backTo pos (starEach xs env)).any fun x => x.1) = false) (z : okB env f = true) : wpAny M A (eval (.Call (.Name f fp) (x :: xs) [] pos) env) Q E s :=
  Call_ (nNmB F G hm hv (PyProof.Rows.callWith_type1 (h q) u v) z) y

-- a statement at the head of its block
theorem kName {x : Str} {p' : Pos} {v : Expr} {p : Pos} {rest : List Stmt} {Q : Flow → Shared → Prop} (q : wpAny M A (eval v env) (fun v s₁ => wpAny M A (storeName env x v) (fun _ s' => wpAny M A (execs rest env) Q E s') E s₁) E s)
    (hs : swapsWith v (some (.Name x p')) p.line env = pure false := by rfl) : wpAny M A (execs (.Assign [.Name x p'] v p :: rest) env) Q E s := wpAny_execs_cons (wpAny_Assign_Name q hs)
theorem kSub {a i : Expr} {p' : Pos} {v : Expr} {p : Pos} {rest : List Stmt} {Q : Flow → Shared → Prop} (q : wpAny M A (eval v env) (fun v s₁ => wpAny M A (eval a env) (fun ov s₂ => wpAny M A (eval i env) (fun iv s₃ => wpAny M A (setItem ov iv v) (fun _ s' => wpAny M A (execs rest env) Q E s') E s₃) E s₂) E s₁) E s)
    (hs : swapsWith v (some (.Subscript a i p')) p.line env = pure false := by rfl) : wpAny M A (execs (.Assign [.Subscript a i p'] v p :: rest) env) Q E s := wpAny_execs_cons (wpAny_Assign_Subscript q hs)
theorem kTup {es : List Expr} {k : Nat} {tp : Pos} {v : Expr} {p : Pos} {rest : List Stmt} {Q : Flow → Shared → Prop} (q : wpAny M A (eval v env) (fun v s₁ => wpAny M A (assign (.Tuple es k tp) env v) (fun _ s' => wpAny M A (execs rest env) Q E s') E s₁) E s)
    (z : swapsWithSole [.Tuple es k tp] v p.line env = pure false) (y : swappedStores [.Tuple es k tp] v env = pure none) : wpAny M A (execs (.Assign [.Tuple es k tp] v p :: rest) env) Q E s := wpAny_execs_cons (Assign_Tuple q z y)
theorem kAug {x : Str} {p' : Pos} {op : Operator} {v : Expr} {p : Pos} {rest : List Stmt} {Q : Flow → Shared → Prop} (q : wpAny M A (loadName env x) (fun old s₁ => wpAny M A (eval v env) (fun v s₂ => wpAny M A (inplaceOp op old v) (fun r s₃ => wpAny M A (storeName env x r) (fun _ s' => wpAny M A (execs rest env) Q E s') E s₃) E s₂) E s₁) E s) :
    wpAny M A (execs (.AugAssign (.Name x p') op v p :: rest) env) Q E s := wpAny_execs_cons (wpAny_AugAssign_Name q)
theorem kRet {x : Expr} {p : Pos} {rest : List Stmt} {Q : Flow → Shared → Prop} (q : wpAny M A (eval x env) (fun v s' => Q (.ret v) s') E s) : wpAny M A (execs (.Return (some x) p :: rest) env) Q E s := wpAny_execs_cons (wpAny_Return_some q)
theorem kExpr {x : Expr} {p : Pos} {rest : List Stmt} {Q : Flow → Shared → Prop} (q : wpAny (model prog w) A (eval x env) (fun _ s' => wpAny (model prog w) A (execs rest env) Q E s') E s) (z : interactive env = false) (y : swapsWith x none p.line env = pure false) :
    wpAny (model prog w) A (execs (.Expr x p :: rest) env) Q E s := wpAny_execs_cons (wpAny_Expr_any q z y)
theorem kCont {p : Pos} {rest : List Stmt} {Q : Flow → Shared → Prop} (q : Q .cont s) : wpAny M A (execs (.Continue p :: rest) env) Q E s := wpAny_execs_cons (wpAny_Continue q)
theorem kBrk {p : Pos} {rest : List Stmt} {Q : Flow → Shared → Prop} (q : Q .brk s) : wpAny M A (execs (.Break p :: rest) env) Q E s := wpAny_execs_cons (wpAny_Break q)
theorem kIf {c : Expr} {bo el : List Stmt} {p : Pos} {rest : List Stmt} {Q : Flow → Shared → Prop} (q : wpAny M A (PySem.isTrue c env (eval c env)) (fun b s₂ => if b = true then wpAny M A (execs bo env) (fun f s' => match f with | .next => wpAny M A (execs rest env) Q E s' | f => Q f s') E s₂ else wpAny M A (execs el env) (fun f s' => match f with | .next => wpAny M A (execs rest env) Q E s' | f => Q f s') E s₂) E s) :
    wpAny M A (execs (.If c bo el p :: rest) env) Q E s := wpAny_execs_cons (wpAny_If q)
end
end PartN1
section PartH02
noncomputable abbrev pwH : Program := PySem.Challenge.pw_kp0041_02
noncomputable def fnParts : Stmt → Option (Arguments × List Stmt × Scope)
  | .FunctionDef _ a b _ _ _ sc _ _ _ => some (a, b, sc)
  | _ => none
noncomputable def clsParts : Stmt → List Stmt
  | .ClassDef _ _ _ b _ _ _ _ _ _ _ => b
  | _ => []
noncomputable def topAt (i : Nat) : Option (Arguments × List Stmt × Scope) := (pwH.main.body[i]?).bind fnParts
noncomputable def methAt (i j : Nat) : Option (Arguments × List Stmt × Scope) := ((pwH.main.body[i]?).bind fun c => (clsParts c)[j]?).bind fnParts
set_option maxRecDepth 100000 in
noncomputable def ob28 : { o : Obj // ∃ a b sc, methAt 1 0 = some (a, b, sc) ∧ o = { cls := PySem.Value.type "function", data := PySem.Data.func { name := PySem.Str.ofString "__init__", qualname := PySem.Str.ofString "NestedDict.__init__", params := a, body := PySem.FuncBody.stmts b, scope := sc, globals := 3, closure := [], defaults := PySem.Value.none, kwdefaults := PySem.Value.none, pyModule := PySem.Value.str (PySem.Str.ofString "cpy313.tomllib._parser") 187, code := PySem.Value.ref 27 } } } := ⟨_, _, _, _, rfl, rfl⟩
set_option maxRecDepth 100000 in
noncomputable def ob36 : { o : Obj // ∃ a b sc, methAt 1 1 = some (a, b, sc) ∧ o = { cls := PySem.Value.type "function", data := PySem.Data.func { name := PySem.Str.ofString "get_or_create_nest", qualname := PySem.Str.ofString "NestedDict.get_or_create_nest", params := a, body := PySem.FuncBody.stmts b, scope := sc, globals := 3, closure := [], defaults := PySem.Value.none, kwdefaults := PySem.Value.ref 29, pyModule := PySem.Value.str (PySem.Str.ofString "cpy313.tomllib._parser") 187, code := PySem.Value.ref 35 } } } := ⟨_, _, _, _, rfl, rfl⟩
set_option maxRecDepth 100000 in
noncomputable def ob43 : { o : Obj // ∃ a b sc, methAt 1 2 = some (a, b, sc) ∧ o = { cls := PySem.Value.type "function", data := PySem.Data.func { name := PySem.Str.ofString "append_nest_to_list", qualname := PySem.Str.ofString "NestedDict.append_nest_to_list", params := a, body := PySem.FuncBody.stmts b, scope := sc, globals := 3, closure := [], defaults := PySem.Value.none, kwdefaults := PySem.Value.none, pyModule := PySem.Value.str (PySem.Str.ofString "cpy313.tomllib._parser") 187, code := PySem.Value.ref 42 } } } := ⟨_, _, _, _, rfl, rfl⟩
set_option maxRecDepth 100000 in
noncomputable def ob57 : { o : Obj // ∃ a b sc, topAt 3 = some (a, b, sc) ∧ o = { cls := PySem.Value.type "function", data := PySem.Data.func { name := PySem.Str.ofString "_law_digits", qualname := PySem.Str.ofString "_law_digits", params := a, body := PySem.FuncBody.stmts b, scope := sc, globals := 3, closure := [], defaults := PySem.Value.none, kwdefaults := PySem.Value.none, pyModule := PySem.Value.str (PySem.Str.ofString "law_kp0041_02") 240, code := PySem.Value.ref 56 } } } := ⟨_, _, _, _, rfl, rfl⟩
set_option maxRecDepth 100000 in
noncomputable def ob64 : { o : Obj // ∃ a b sc, topAt 4 = some (a, b, sc) ∧ o = { cls := PySem.Value.type "function", data := PySem.Data.func { name := PySem.Str.ofString "_law_key", qualname := PySem.Str.ofString "_law_key", params := a, body := PySem.FuncBody.stmts b, scope := sc, globals := 3, closure := [], defaults := PySem.Value.none, kwdefaults := PySem.Value.none, pyModule := PySem.Value.str (PySem.Str.ofString "law_kp0041_02") 240, code := PySem.Value.ref 63 } } } := ⟨_, _, _, _, rfl, rfl⟩
set_option maxRecDepth 100000 in
noncomputable def ob71 : { o : Obj // ∃ a b sc, topAt 5 = some (a, b, sc) ∧ o = { cls := PySem.Value.type "function", data := PySem.Data.func { name := PySem.Str.ofString "_law_thing", qualname := PySem.Str.ofString "_law_thing", params := a, body := PySem.FuncBody.stmts b, scope := sc, globals := 3, closure := [], defaults := PySem.Value.none, kwdefaults := PySem.Value.none, pyModule := PySem.Value.str (PySem.Str.ofString "law_kp0041_02") 240, code := PySem.Value.ref 70 } } } := ⟨_, _, _, _, rfl, rfl⟩
set_option maxRecDepth 100000 in
noncomputable def ob76 : { o : Obj // ∃ a b sc, topAt 6 = some (a, b, sc) ∧ o = { cls := PySem.Value.type "function", data := PySem.Data.func { name := PySem.Str.ofString "_law_alive", qualname := PySem.Str.ofString "_law_alive", params := a, body := PySem.FuncBody.stmts b, scope := sc, globals := 3, closure := [], defaults := PySem.Value.none, kwdefaults := PySem.Value.none, pyModule := PySem.Value.str (PySem.Str.ofString "law_kp0041_02") 240, code := PySem.Value.ref 75 } } } := ⟨_, _, _, _, rfl, rfl⟩
set_option maxRecDepth 100000 in
noncomputable def ob81 : { o : Obj // ∃ a b sc, topAt 7 = some (a, b, sc) ∧ o = { cls := PySem.Value.type "function", data := PySem.Data.func { name := PySem.Str.ofString "_law_bar", qualname := PySem.Str.ofString "_law_bar", params := a, body := PySem.FuncBody.stmts b, scope := sc, globals := 3, closure := [], defaults := PySem.Value.none, kwdefaults := PySem.Value.none, pyModule := PySem.Value.str (PySem.Str.ofString "law_kp0041_02") 240, code := PySem.Value.ref 80 } } } := ⟨_, _, _, _, rfl, rfl⟩
set_option maxRecDepth 100000 in
noncomputable def ob86 : { o : Obj // ∃ a b sc, topAt 8 = some (a, b, sc) ∧ o = { cls := PySem.Value.type "function", data := PySem.Data.func { name := PySem.Str.ofString "_law_tree", qualname := PySem.Str.ofString "_law_tree", params := a, body := PySem.FuncBody.stmts b, scope := sc, globals := 3, closure := [], defaults := PySem.Value.none, kwdefaults := PySem.Value.none, pyModule := PySem.Value.str (PySem.Str.ofString "law_kp0041_02") 240, code := PySem.Value.ref 85 } } } := ⟨_, _, _, _, rfl, rfl⟩
set_option maxRecDepth 100000 in
noncomputable def ob91 : { o : Obj // ∃ a b sc, topAt 9 = some (a, b, sc) ∧ o = { cls := PySem.Value.type "function", data := PySem.Data.func { name := PySem.Str.ofString "_law_part", qualname := PySem.Str.ofString "_law_part", params := a, body := PySem.FuncBody.stmts b, scope := sc, globals := 3, closure := [], defaults := PySem.Value.none, kwdefaults := PySem.Value.none, pyModule := PySem.Value.str (PySem.Str.ofString "law_kp0041_02") 240, code := PySem.Value.ref 90 } } } := ⟨_, _, _, _, rfl, rfl⟩
set_option maxRecDepth 100000 in
noncomputable def ob96 : { o : Obj // ∃ a b sc, topAt 10 = some (a, b, sc) ∧ o = { cls := PySem.Value.type "function", data := PySem.Data.func { name := PySem.Str.ofString "_law_same", qualname := PySem.Str.ofString "_law_same", params := a, body := PySem.FuncBody.stmts b, scope := sc, globals := 3, closure := [], defaults := PySem.Value.none, kwdefaults := PySem.Value.none, pyModule := PySem.Value.str (PySem.Str.ofString "law_kp0041_02") 240, code := PySem.Value.ref 95 } } } := ⟨_, _, _, _, rfl, rfl⟩
set_option maxRecDepth 100000 in
noncomputable def ob103 : { o : Obj // ∃ a b sc, topAt 11 = some (a, b, sc) ∧ o = { cls := PySem.Value.type "function", data := PySem.Data.func { name := PySem.Str.ofString "law", qualname := PySem.Str.ofString "law", params := a, body := PySem.FuncBody.stmts b, scope := sc, globals := 3, closure := [], defaults := PySem.Value.none, kwdefaults := PySem.Value.none, pyModule := PySem.Value.str (PySem.Str.ofString "law_kp0041_02") 240, code := PySem.Value.ref 102 } } } := ⟨_, _, _, _, rfl, rfl⟩
noncomputable def frag (P : Params) : Frag := [(2, { cls := PySem.Value.none, data := PySem.Data.dict #[] }),
  (3, { cls := PySem.Value.type "dict", data := PySem.Data.dict #[{ hash := PySem.PyData.keyHash P (PySem.Str.ofString "__name__"), key := PySem.Value.str (PySem.Str.ofString "__name__") 165, val := PySem.Value.str (PySem.Str.ofString "law_kp0041_02") 240 }, { hash := PySem.PyData.keyHash P (PySem.Str.ofString "__doc__"), key := PySem.Value.str (PySem.Str.ofString "__doc__") 166, val := PySem.Value.none }, { hash := PySem.PyData.keyHash P (PySem.Str.ofString "__package__"), key := PySem.Value.str (PySem.Str.ofString "__package__") 167, val := PySem.Value.none }, { hash := PySem.PyData.keyHash P (PySem.Str.ofString "__loader__"), key := PySem.Value.str (PySem.Str.ofString "__loader__") 168, val := PySem.Value.builtin "__main__.__loader__#opaque" }, { hash := PySem.PyData.keyHash P (PySem.Str.ofString "__spec__"), key := PySem.Value.str (PySem.Str.ofString "__spec__") 169, val := PySem.Value.none }, { hash := PySem.PyData.keyHash P (PySem.Str.ofString "__annotations__"), key := PySem.Value.str (PySem.Str.ofString "__annotations__") 170, val := PySem.Value.ref 6 }, { hash := PySem.PyData.keyHash P (PySem.Str.ofString "__builtins__"), key := PySem.Value.str (PySem.Str.ofString "__builtins__") 171, val := PySem.Value.ref 4 }, { hash := PySem.PyData.keyHash P (PySem.Str.ofString "__file__"), key := PySem.Value.str (PySem.Str.ofString "__file__") 173, val := PySem.Value.str (PySem.Str.ofString "/claim/cut.py") 172 }, { hash := PySem.PyData.keyHash P (PySem.Str.ofString "__cached__"), key := PySem.Value.str (PySem.Str.ofString "__cached__") 174, val := PySem.Value.none }, { hash := PySem.PyData.keyHash P (PySem.Str.ofString "NestedDict"), key := PySem.Value.str (PySem.Str.ofString "NestedDict") 239, val := PySem.Value.ref 46 }, { hash := PySem.PyData.keyHash P (PySem.Str.ofString "_law_digits"), key := PySem.Value.str (PySem.Str.ofString "_law_digits") 253, val := PySem.Value.ref 57 }, { hash := PySem.PyData.keyHash P (PySem.Str.ofString "_law_key"), key := PySem.Value.str (PySem.Str.ofString "_law_key") 261, val := PySem.Value.ref 64 }, { hash := PySem.PyData.keyHash P (PySem.Str.ofString "_law_thing"), key := PySem.Value.str (PySem.Str.ofString "_law_thing") 269, val := PySem.Value.ref 71 }, { hash := PySem.PyData.keyHash P (PySem.Str.ofString "_law_alive"), key := PySem.Value.str (PySem.Str.ofString "_law_alive") 275, val := PySem.Value.ref 76 }, { hash := PySem.PyData.keyHash P (PySem.Str.ofString "_law_bar"), key := PySem.Value.str (PySem.Str.ofString "_law_bar") 281, val := PySem.Value.ref 81 }, { hash := PySem.PyData.keyHash P (PySem.Str.ofString "_law_tree"), key := PySem.Value.str (PySem.Str.ofString "_law_tree") 287, val := PySem.Value.ref 86 }, { hash := PySem.PyData.keyHash P (PySem.Str.ofString "_law_part"), key := PySem.Value.str (PySem.Str.ofString "_law_part") 293, val := PySem.Value.ref 91 }, { hash := PySem.PyData.keyHash P (PySem.Str.ofString "_law_same"), key := PySem.Value.str (PySem.Str.ofString "_law_same") 299, val := PySem.Value.ref 96 }, { hash := PySem.PyData.keyHash P (PySem.Str.ofString "law"), key := PySem.Value.str (PySem.Str.ofString "law") 320, val := PySem.Value.ref 103 }] 19 }),
  (6, { cls := PySem.Value.type "dict", data := PySem.Data.dict #[] }),
  (22, { cls := PySem.Value.type "tuple", data := PySem.Data.seq #[] }),
  (24, { cls := PySem.Value.type "tuple", data := PySem.Data.seq #[PySem.Value.str (PySem.Str.ofString "self") 204] }),
  (25, { cls := PySem.Value.type "tuple", data := PySem.Data.seq #[] }),
  (27, { cls := PySem.Value.type "code", data := PySem.Data.fields #[PySem.Value.str (PySem.Str.ofString "__init__") 201, PySem.Value.str (PySem.Str.ofString "NestedDict.__init__") 202, PySem.Value.str (PySem.Str.ofString "/claim/cut.py") 203, PySem.Value.int 4 0, PySem.Value.int 1 0, PySem.Value.int 0 0, PySem.Value.int 0 0, PySem.Value.int 3 0, PySem.Value.ref 22, PySem.Value.bool Bool.true, PySem.Value.int 181 0, PySem.Value.ref 23, PySem.Value.none, PySem.Value.ref 24, PySem.Value.ref 25, PySem.Value.ref 26, PySem.Value.int 205 0, PySem.Value.int 4 0, PySem.Value.str (PySem.Str.ofString "/claim/cut.py") 206] }),
  (28, ob28.1),
  (29, { cls := PySem.Value.type "dict", data := PySem.Data.dict #[{ hash := PySem.PyData.keyHash P (PySem.Str.ofString "access_lists"), key := PySem.Value.str (PySem.Str.ofString "access_lists") 208, val := PySem.Value.bool Bool.true }] 1 }),
  (30, { cls := PySem.Value.type "tuple", data := PySem.Data.seq #[] }),
  (32, { cls := PySem.Value.type "tuple", data := PySem.Data.seq #[PySem.Value.str (PySem.Str.ofString "self") 212, PySem.Value.str (PySem.Str.ofString "key") 213, PySem.Value.str (PySem.Str.ofString "access_lists") 214, PySem.Value.str (PySem.Str.ofString "cont") 215, PySem.Value.str (PySem.Str.ofString "k") 216] }),
  (33, { cls := PySem.Value.type "tuple", data := PySem.Data.seq #[] }),
  (35, { cls := PySem.Value.type "code", data := PySem.Data.fields #[PySem.Value.str (PySem.Str.ofString "get_or_create_nest") 209, PySem.Value.str (PySem.Str.ofString "NestedDict.get_or_create_nest") 210, PySem.Value.str (PySem.Str.ofString "/claim/cut.py") 211, PySem.Value.int 7 0, PySem.Value.int 2 0, PySem.Value.int 0 0, PySem.Value.int 1 0, PySem.Value.int 3 0, PySem.Value.ref 30, PySem.Value.bool Bool.true, PySem.Value.int 181 0, PySem.Value.ref 31, PySem.Value.none, PySem.Value.ref 32, PySem.Value.ref 33, PySem.Value.ref 34, PySem.Value.int 217 0, PySem.Value.int 7 0, PySem.Value.str (PySem.Str.ofString "/claim/cut.py") 218] }),
  (36, ob36.1),
  (37, { cls := PySem.Value.type "tuple", data := PySem.Data.seq #[] }),
  (39, { cls := PySem.Value.type "tuple", data := PySem.Data.seq #[PySem.Value.str (PySem.Str.ofString "self") 223, PySem.Value.str (PySem.Str.ofString "key") 224, PySem.Value.str (PySem.Str.ofString "cont") 225, PySem.Value.str (PySem.Str.ofString "last_key") 226, PySem.Value.str (PySem.Str.ofString "list_") 227] }),
  (40, { cls := PySem.Value.type "tuple", data := PySem.Data.seq #[] }),
  (42, { cls := PySem.Value.type "code", data := PySem.Data.fields #[PySem.Value.str (PySem.Str.ofString "append_nest_to_list") 220, PySem.Value.str (PySem.Str.ofString "NestedDict.append_nest_to_list") 221, PySem.Value.str (PySem.Str.ofString "/claim/cut.py") 222, PySem.Value.int 19 0, PySem.Value.int 2 0, PySem.Value.int 0 0, PySem.Value.int 0 0, PySem.Value.int 3 0, PySem.Value.ref 37, PySem.Value.bool Bool.true, PySem.Value.int 181 0, PySem.Value.ref 38, PySem.Value.none, PySem.Value.ref 39, PySem.Value.ref 40, PySem.Value.ref 41, PySem.Value.int 228 0, PySem.Value.int 19 0, PySem.Value.str (PySem.Str.ofString "/claim/cut.py") 229] }),
  (43, ob43.1),
  (44, { cls := PySem.Value.type "tuple", data := PySem.Data.seq #[PySem.Value.str (PySem.Str.ofString "dict") 231] }),
  (45, { cls := PySem.Value.type "dict", data := PySem.Data.dict #[{ hash := PySem.PyData.keyHash P (PySem.Str.ofString "__module__"), key := PySem.Value.str (PySem.Str.ofString "__module__") 196, val := PySem.Value.str (PySem.Str.ofString "cpy313.tomllib._parser") 187 }, { hash := PySem.PyData.keyHash P (PySem.Str.ofString "__firstlineno__"), key := PySem.Value.str (PySem.Str.ofString "__firstlineno__") 200, val := PySem.Value.int 2 199 }, { hash := PySem.PyData.keyHash P (PySem.Str.ofString "__init__"), key := PySem.Value.str (PySem.Str.ofString "__init__") 207, val := PySem.Value.ref 28 }, { hash := PySem.PyData.keyHash P (PySem.Str.ofString "get_or_create_nest"), key := PySem.Value.str (PySem.Str.ofString "get_or_create_nest") 219, val := PySem.Value.ref 36 }, { hash := PySem.PyData.keyHash P (PySem.Str.ofString "append_nest_to_list"), key := PySem.Value.str (PySem.Str.ofString "append_nest_to_list") 230, val := PySem.Value.ref 43 }, { hash := PySem.PyData.keyHash P (PySem.Str.ofString "__static_attributes__"), key := PySem.Value.str (PySem.Str.ofString "__static_attributes__") 232, val := PySem.Value.ref 44 }, { hash := PySem.PyData.keyHash P (PySem.Str.ofString "__dict__"), key := PySem.Value.str (PySem.Str.ofString "__dict__") 234, val := PySem.Value.ref 47 }, { hash := PySem.PyData.keyHash P (PySem.Str.ofString "__weakref__"), key := PySem.Value.str (PySem.Str.ofString "__weakref__") 236, val := PySem.Value.ref 48 }, { hash := PySem.PyData.keyHash P (PySem.Str.ofString "__doc__"), key := PySem.Value.str (PySem.Str.ofString "__doc__") 237, val := PySem.Value.none }] 4 }),
  (46, { cls := PySem.Value.type "type", data := PySem.Data.cls { name := PySem.Str.ofString "NestedDict", bases := [PySem.Value.type "object"], mro := [PySem.Value.ref 46, PySem.Value.type "object"], ns := 45, qualname := PySem.Str.ofString "NestedDict" }, slots := #[Option.none, Option.none, Option.some (PySem.Value.str (PySem.Str.ofString "NestedDict") 189), Option.some (PySem.Value.str (PySem.Str.ofString "NestedDict") 197), Option.some (PySem.Value.builtin "object.__new__"), Option.some (PySem.Value.bool Bool.true)] }),
  (47, { cls := PySem.Value.type "getset_descriptor", data := PySem.Data.fields #[PySem.Value.str (PySem.Str.ofString "__dict__") 233, PySem.Value.ref 46, PySem.Value.builtin "function.__dict__", PySem.Value.builtin "function.__dict__#set"] }),
  (48, { cls := PySem.Value.type "getset_descriptor", data := PySem.Data.fields #[PySem.Value.str (PySem.Str.ofString "__weakref__") 235, PySem.Value.ref 46, PySem.Value.builtin "ExceptionGroup.__weakref__", PySem.Value.none] }),
  (51, { cls := PySem.Value.type "tuple", data := PySem.Data.seq #[] }),
  (53, { cls := PySem.Value.type "tuple", data := PySem.Data.seq #[PySem.Value.str (PySem.Str.ofString "script") 245, PySem.Value.str (PySem.Str.ofString "base") 246, PySem.Value.str (PySem.Str.ofString "most") 247, PySem.Value.str (PySem.Str.ofString "digits") 248, PySem.Value.str (PySem.Str.ofString "x") 249, PySem.Value.str (PySem.Str.ofString "n") 250] }),
  (54, { cls := PySem.Value.type "tuple", data := PySem.Data.seq #[] }),
  (56, { cls := PySem.Value.type "code", data := PySem.Data.fields #[PySem.Value.str (PySem.Str.ofString "_law_digits") 242, PySem.Value.str (PySem.Str.ofString "_law_digits") 243, PySem.Value.str (PySem.Str.ofString "/claim/cut.py") 244, PySem.Value.int 30 0, PySem.Value.int 3 0, PySem.Value.int 0 0, PySem.Value.int 0 0, PySem.Value.int 3 0, PySem.Value.ref 51, PySem.Value.bool Bool.true, PySem.Value.int 181 0, PySem.Value.ref 52, PySem.Value.none, PySem.Value.ref 53, PySem.Value.ref 54, PySem.Value.ref 55, PySem.Value.int 251 0, PySem.Value.int 30 0, PySem.Value.str (PySem.Str.ofString "/claim/cut.py") 252] }),
  (57, ob57.1),
  (58, { cls := PySem.Value.type "tuple", data := PySem.Data.seq #[] }),
  (60, { cls := PySem.Value.type "tuple", data := PySem.Data.seq #[PySem.Value.str (PySem.Str.ofString "n") 257, PySem.Value.str (PySem.Str.ofString "key") 258] }),
  (61, { cls := PySem.Value.type "tuple", data := PySem.Data.seq #[] }),
  (63, { cls := PySem.Value.type "code", data := PySem.Data.fields #[PySem.Value.str (PySem.Str.ofString "_law_key") 254, PySem.Value.str (PySem.Str.ofString "_law_key") 255, PySem.Value.str (PySem.Str.ofString "/claim/cut.py") 256, PySem.Value.int 40 0, PySem.Value.int 1 0, PySem.Value.int 0 0, PySem.Value.int 0 0, PySem.Value.int 3 0, PySem.Value.ref 58, PySem.Value.bool Bool.true, PySem.Value.int 181 0, PySem.Value.ref 59, PySem.Value.none, PySem.Value.ref 60, PySem.Value.ref 61, PySem.Value.ref 62, PySem.Value.int 259 0, PySem.Value.int 40 0, PySem.Value.str (PySem.Str.ofString "/claim/cut.py") 260] }),
  (64, ob64.1),
  (65, { cls := PySem.Value.type "tuple", data := PySem.Data.seq #[] }),
  (67, { cls := PySem.Value.type "tuple", data := PySem.Data.seq #[PySem.Value.str (PySem.Str.ofString "code") 265, PySem.Value.str (PySem.Str.ofString "n") 266] }),
  (68, { cls := PySem.Value.type "tuple", data := PySem.Data.seq #[] }),
  (70, { cls := PySem.Value.type "code", data := PySem.Data.fields #[PySem.Value.str (PySem.Str.ofString "_law_thing") 262, PySem.Value.str (PySem.Str.ofString "_law_thing") 263, PySem.Value.str (PySem.Str.ofString "/claim/cut.py") 264, PySem.Value.int 46 0, PySem.Value.int 2 0, PySem.Value.int 0 0, PySem.Value.int 0 0, PySem.Value.int 3 0, PySem.Value.ref 65, PySem.Value.bool Bool.true, PySem.Value.int 181 0, PySem.Value.ref 66, PySem.Value.none, PySem.Value.ref 67, PySem.Value.ref 68, PySem.Value.ref 69, PySem.Value.int 267 0, PySem.Value.int 46 0, PySem.Value.str (PySem.Str.ofString "/claim/cut.py") 268] }),
  (71, ob71.1),
  (72, { cls := PySem.Value.type "tuple", data := PySem.Data.seq #[] }),
  (75, { cls := PySem.Value.type "code", data := PySem.Data.fields #[PySem.Value.str (PySem.Str.ofString "_law_alive") 270, PySem.Value.str (PySem.Str.ofString "_law_alive") 271, PySem.Value.str (PySem.Str.ofString "/claim/cut.py") 272, PySem.Value.int 48 0, PySem.Value.int 2 0, PySem.Value.int 0 0, PySem.Value.int 0 0, PySem.Value.int 3 0, PySem.Value.ref 72, PySem.Value.bool Bool.true, PySem.Value.int 181 0, PySem.Value.ref 73, PySem.Value.none, PySem.Value.none, PySem.Value.none, PySem.Value.ref 74, PySem.Value.int 273 0, PySem.Value.int 48 0, PySem.Value.str (PySem.Str.ofString "/claim/cut.py") 274] }),
  (76, ob76.1),
  (77, { cls := PySem.Value.type "tuple", data := PySem.Data.seq #[] }),
  (80, { cls := PySem.Value.type "code", data := PySem.Data.fields #[PySem.Value.str (PySem.Str.ofString "_law_bar") 276, PySem.Value.str (PySem.Str.ofString "_law_bar") 277, PySem.Value.str (PySem.Str.ofString "/claim/cut.py") 278, PySem.Value.int 52 0, PySem.Value.int 3 0, PySem.Value.int 0 0, PySem.Value.int 0 0, PySem.Value.int 3 0, PySem.Value.ref 77, PySem.Value.bool Bool.true, PySem.Value.int 181 0, PySem.Value.ref 78, PySem.Value.none, PySem.Value.none, PySem.Value.none, PySem.Value.ref 79, PySem.Value.int 279 0, PySem.Value.int 52 0, PySem.Value.str (PySem.Str.ofString "/claim/cut.py") 280] }),
  (81, ob81.1),
  (82, { cls := PySem.Value.type "tuple", data := PySem.Data.seq #[] }),
  (85, { cls := PySem.Value.type "code", data := PySem.Data.fields #[PySem.Value.str (PySem.Str.ofString "_law_tree") 282, PySem.Value.str (PySem.Str.ofString "_law_tree") 283, PySem.Value.str (PySem.Str.ofString "/claim/cut.py") 284, PySem.Value.int 65 0, PySem.Value.int 1 0, PySem.Value.int 0 0, PySem.Value.int 0 0, PySem.Value.int 3 0, PySem.Value.ref 82, PySem.Value.bool Bool.true, PySem.Value.int 181 0, PySem.Value.ref 83, PySem.Value.none, PySem.Value.none, PySem.Value.none, PySem.Value.ref 84, PySem.Value.int 285 0, PySem.Value.int 65 0, PySem.Value.str (PySem.Str.ofString "/claim/cut.py") 286] }),
  (86, ob86.1),
  (87, { cls := PySem.Value.type "tuple", data := PySem.Data.seq #[] }),
  (90, { cls := PySem.Value.type "code", data := PySem.Data.fields #[PySem.Value.str (PySem.Str.ofString "_law_part") 288, PySem.Value.str (PySem.Str.ofString "_law_part") 289, PySem.Value.str (PySem.Str.ofString "/claim/cut.py") 290, PySem.Value.int 71 0, PySem.Value.int 1 0, PySem.Value.int 0 0, PySem.Value.int 0 0, PySem.Value.int 3 0, PySem.Value.ref 87, PySem.Value.bool Bool.true, PySem.Value.int 181 0, PySem.Value.ref 88, PySem.Value.none, PySem.Value.none, PySem.Value.none, PySem.Value.ref 89, PySem.Value.int 291 0, PySem.Value.int 71 0, PySem.Value.str (PySem.Str.ofString "/claim/cut.py") 292] }),
  (91, ob91.1),
  (92, { cls := PySem.Value.type "tuple", data := PySem.Data.seq #[] }),
  (95, { cls := PySem.Value.type "code", data := PySem.Data.fields #[PySem.Value.str (PySem.Str.ofString "_law_same") 294, PySem.Value.str (PySem.Str.ofString "_law_same") 295, PySem.Value.str (PySem.Str.ofString "/claim/cut.py") 296, PySem.Value.int 85 0, PySem.Value.int 2 0, PySem.Value.int 0 0, PySem.Value.int 0 0, PySem.Value.int 3 0, PySem.Value.ref 92, PySem.Value.bool Bool.true, PySem.Value.int 181 0, PySem.Value.ref 93, PySem.Value.none, PySem.Value.none, PySem.Value.none, PySem.Value.ref 94, PySem.Value.int 297 0, PySem.Value.int 85 0, PySem.Value.str (PySem.Str.ofString "/claim/cut.py") 298] }),
  (96, ob96.1),
  (97, { cls := PySem.Value.type "tuple", data := PySem.Data.seq #[] }),
  (99, { cls := PySem.Value.type "tuple", data := PySem.Data.seq #[PySem.Value.str (PySem.Str.ofString "script") 303, PySem.Value.str (PySem.Str.ofString "machine") 304, PySem.Value.str (PySem.Str.ofString "events") 305, PySem.Value.str (PySem.Str.ofString "kept") 306, PySem.Value.str (PySem.Str.ofString "digits") 307, PySem.Value.str (PySem.Str.ofString "n") 308, PySem.Value.str (PySem.Str.ofString "code") 309, PySem.Value.str (PySem.Str.ofString "key") 310, PySem.Value.str (PySem.Str.ofString "way") 311, PySem.Value.str (PySem.Str.ofString "due") 312, PySem.Value.str (PySem.Str.ofString "alive") 313, PySem.Value.str (PySem.Str.ofString "told") 314, PySem.Value.str (PySem.Str.ofString "nest") 315, PySem.Value.str (PySem.Str.ofString "error") 316, PySem.Value.str (PySem.Str.ofString "k") 317] }),
  (100, { cls := PySem.Value.type "tuple", data := PySem.Data.seq #[] }),
  (102, { cls := PySem.Value.type "code", data := PySem.Data.fields #[PySem.Value.str (PySem.Str.ofString "law") 300, PySem.Value.str (PySem.Str.ofString "law") 301, PySem.Value.str (PySem.Str.ofString "/claim/cut.py") 302, PySem.Value.int 93 0, PySem.Value.int 1 0, PySem.Value.int 0 0, PySem.Value.int 0 0, PySem.Value.int 3 0, PySem.Value.ref 97, PySem.Value.bool Bool.true, PySem.Value.int 181 0, PySem.Value.ref 98, PySem.Value.none, PySem.Value.ref 99, PySem.Value.ref 100, PySem.Value.ref 101, PySem.Value.int 318 0, PySem.Value.int 93 0, PySem.Value.str (PySem.Str.ofString "/claim/cut.py") 319] }),
  (103, ob103.1)]
noncomputable def fragAt : List Addr := [2, 3, 6, 22, 24, 25, 27, 28, 29, 30, 32, 33, 35, 36, 37, 39, 40, 42, 43, 44, 45, 46, 47, 48, 51, 53, 54, 56, 57, 58, 60, 61, 63, 64, 65, 67, 68, 70, 71, 72, 75, 76, 77, 80, 81, 82, 85, 86, 87, 90, 91, 92, 95, 96, 97, 99, 100, 102, 103]
theorem frag_at (P : Params) : fragAt = (frag P).map (·.1) := by kernel_rfl
noncomputable def vw : Program := { pwH with main := { pwH.main with body := pwH.main.body.drop 2 } }
noncomputable abbrev hk : Hook := kHook frag fragAt frag_at
noncomputable abbrev rowH : OpenRow := PySem.Challenge.rw_kp0041_02.row
set_option maxRecDepth 100000
theorem head_said : OpenLaw.wellSaid PySem.Challenge.rw_kp0041_02 = true := by kernel_rfl
theorem head_left : LeftO rowH.prog vw [Str.ofString "NestedDict"] (fun s => xlAt vw [] s && recOk rowH.records s) (Hook.obs hk) (Hook.val hk) 1288 := by
  intro w
  kernel_rfl
theorem hdH (walk : ∃ d kwd, (defOf vw rowH.name = some (d, kwd) ∧ rowH.prog.theDef rowH.name = some (d.params, d.body, d.scope) ∧ kwWritten? d.params.kwonlyargs d.params.kw_defaults = some kwd) ∧ WalkO vw [Str.ofString "NestedDict"] (XL vw []) (Hook.says hk) rowH.toRowW d kwd fun f vs => PySem.call f vs) : PySem.Challenge.rw_kp0041_02.Holds := by
  obtain ⟨d, kwd, ⟨h1, h2, h3⟩, walk⟩ := walk
  refine holds_law head_said fun said => ?_
  exact holds_open (Xt := fun s => xlAt vw [] s && recOk rowH.records s) head_left (Hook.of hk) (Hook.keeps hk) (fun s e => xl_of s (Bool.and_eq_true_iff.mp e).1) XL.keeps h1 h2 h3 (fun s e => recFacts_of (Bool.and_eq_true_iff.mp e).2) (by decide +kernel) said (by decide +kernel) ⟨rfl, rfl, rfl, rfl, rfl, by decide +kernel⟩ ⟨[WData.list []], by decide +kernel, by decide +kernel⟩ walk
end PartH02
section PartG2
noncomputable abbrev KK (w : World) : Frag := frag w.params
noncomputable abbrev prog : Program := PySem.Challenge.pw_kp0041_02

structure Cx (w : World) (H0 : Heap) (mg mb : Str → Option Value) : Prop where
  K : (KK w).In H0
  G : Gl H0 mg mb
  bi : ∀ x : Str, x ≠ "__name__" → mb x = bootBuiltins x

theorem Cx.fn {w : World} {H0 : Heap} {mg mb : Str → Option Value} {n : Str} {v : Value} (C : Cx w H0 mg mb) (e : nsIn (KK w) mainGlobals n = some (some v)) : mg n = some v := mg_of C.K C.G.g e
theorem Cx.nofn {w : World} {H0 : Heap} {mg mb : Str → Option Value} {n : Str} (C : Cx w H0 mg mb) (e : nsIn (KK w) mainGlobals n = some none) : mg n = none := mg_none_of C.K C.G.g e
theorem Cx.blt {w : World} {H0 : Heap} {mg mb : Str → Option Value} {n : Str} {v : Value} (C : Cx w H0 mg mb) (hn : n ≠ "__name__") (hv : bootBuiltins n = some v) : mb n = some v := (C.bi n hn).trans hv
section
variable {w : World} {H0 : Heap} {mg mb : Str → Option Value}
theorem g_digits (C : Cx w H0 mg mb) : mg (Str.ofString "_law_digits") = some (.ref 57) := C.fn (by with_unfolding_all rfl)
theorem g_key (C : Cx w H0 mg mb) : mg (Str.ofString "_law_key") = some (.ref 64) := C.fn (by with_unfolding_all rfl)
theorem g_thing (C : Cx w H0 mg mb) : mg (Str.ofString "_law_thing") = some (.ref 71) := C.fn (by with_unfolding_all rfl)
theorem g_alive (C : Cx w H0 mg mb) : mg (Str.ofString "_law_alive") = some (.ref 76) := C.fn (by with_unfolding_all rfl)
theorem g_bar (C : Cx w H0 mg mb) : mg (Str.ofString "_law_bar") = some (.ref 81) := C.fn (by with_unfolding_all rfl)
theorem g_tree (C : Cx w H0 mg mb) : mg (Str.ofString "_law_tree") = some (.ref 86) := C.fn (by with_unfolding_all rfl)
theorem g_part (C : Cx w H0 mg mb) : mg (Str.ofString "_law_part") = some (.ref 91) := C.fn (by with_unfolding_all rfl)
theorem g_same (C : Cx w H0 mg mb) : mg (Str.ofString "_law_same") = some (.ref 96) := C.fn (by with_unfolding_all rfl)
theorem g_NestedDict (C : Cx w H0 mg mb) : mg (Str.ofString "NestedDict") = some (.ref 46) := C.fn (by with_unfolding_all rfl)
theorem n_len (C : Cx w H0 mg mb) : mg (Str.ofString "len") = none := C.nofn (by with_unfolding_all rfl)
theorem b_len (C : Cx w H0 mg mb) : mb (Str.ofString "len") = some (.builtin "len") := C.blt (by decide) (by boot_fast)
theorem n_max (C : Cx w H0 mg mb) : mg (Str.ofString "max") = none := C.nofn (by with_unfolding_all rfl)
theorem b_max (C : Cx w H0 mg mb) : mb (Str.ofString "max") = some (.builtin "max") := C.blt (by decide) (by boot_fast)
theorem n_range (C : Cx w H0 mg mb) : mg (Str.ofString "range") = none := C.nofn (by with_unfolding_all rfl)
theorem b_range (C : Cx w H0 mg mb) : mb (Str.ofString "range") = some (.type "range") := C.blt (by decide) (by boot_fast)
theorem n_list (C : Cx w H0 mg mb) : mg (Str.ofString "list") = none := C.nofn (by with_unfolding_all rfl)
theorem b_list (C : Cx w H0 mg mb) : mb (Str.ofString "list") = some (.type "list") := C.blt (by decide) (by boot_fast)
theorem n_dict (C : Cx w H0 mg mb) : mg (Str.ofString "dict") = none := C.nofn (by with_unfolding_all rfl)
theorem b_dict (C : Cx w H0 mg mb) : mb (Str.ofString "dict") = some (.type "dict") := C.blt (by decide) (by boot_fast)
theorem n_str (C : Cx w H0 mg mb) : mg (Str.ofString "str") = none := C.nofn (by with_unfolding_all rfl)
theorem b_str (C : Cx w H0 mg mb) : mb (Str.ofString "str") = some (.type "str") := C.blt (by decide) (by boot_fast)
theorem n_type (C : Cx w H0 mg mb) : mg (Str.ofString "type") = none := C.nofn (by with_unfolding_all rfl)
theorem b_type (C : Cx w H0 mg mb) : mb (Str.ofString "type") = some (.type "type") := C.blt (by decide) (by boot_fast)
theorem n_isinstance (C : Cx w H0 mg mb) : mg (Str.ofString "isinstance") = none := C.nofn (by with_unfolding_all rfl)
theorem b_isinstance (C : Cx w H0 mg mb) : mb (Str.ofString "isinstance") = some (.builtin "isinstance") := C.blt (by decide) (by boot_fast)
theorem n_KeyError (C : Cx w H0 mg mb) : mg (Str.ofString "KeyError") = none := C.nofn (by with_unfolding_all rfl)
theorem b_KeyError (C : Cx w H0 mg mb) : mb (Str.ofString "KeyError") = some (.type "KeyError") := C.blt (by decide) (by boot_fast)
theorem n_IndexError (C : Cx w H0 mg mb) : mg (Str.ofString "IndexError") = none := C.nofn (by with_unfolding_all rfl)
theorem b_IndexError (C : Cx w H0 mg mb) : mb (Str.ofString "IndexError") = some (.type "IndexError") := C.blt (by decide) (by boot_fast)
end
end PartG2
local macro_rules | `(tactic| walk_at "z") => `(tactic| first | exact Eq.refl true | rfl | exact True.intro | size_fits | exact Gl.lim (Cx.G (by assumption)) | exact IntMulOk.of_left (by decide) | with_unfolding_all rfl | (intro _; rfl))
local macro_rules | `(tactic| walk_at "Z") => `(tactic| case z => walk_at "z")
local macro_rules | `(tactic| walk_at "V") => `(tactic| case nv => first | rfl | assumption)
local macro_rules | `(tactic| walk_at "E") => do
  let a ← (["aI", "aS", "aZ", "aB"].toArray).mapM fun x => `(tactic| with_reducible exact $(Lean.mkIdent x.toName))
  let b ← `(tactic| ((with_reducible refine' aL (by assumption) ?z ?nv); walk_at "Z"; walk_at "V"))
  let c ← `(tactic| ((with_reducible refine' aC (by assumption) ?z ?y ?nv); (case y => rfl); walk_at "Z"; walk_at "V"))
  let all := a ++ #[b, c]
  `(tactic| first $[| $all:tactic]*)
local macro_rules | `(tactic| walk_at "EN") => `(tactic| first | with_reducible exact eN | ((with_reducible refine' eC ?a ?b ?z); (case a => walk_at "E"); (case b => walk_at "EN"); walk_at "Z"))
local macro_rules | `(tactic| walk_at "G") => do
  let a ← ("g_key g_alive g_bar g_tree g_part g_same g_thing g_digits g_NestedDict n_len n_max n_range n_list n_dict n_str n_type n_isinstance n_KeyError n_IndexError b_len b_max b_range b_list b_dict b_str b_type b_isinstance b_KeyError b_IndexError".splitOn " ").toArray.mapM fun x => `(tactic| exact $(Lean.mkIdent x.toName) (by assumption))
  `(tactic| first $[| $a:tactic]*)
local macro_rules | `(tactic| walk_at "S") => do
  let f (s : String) (k : Lean.Ident → Lean.MacroM (Lean.TSyntax `tactic)) := (s.splitOn " ").toArray.mapM fun x => k (Lean.mkIdent x.toName)
  let a ← f "wpAny_execs_cons wpAny_execs_nil wpAny_If wpAny_Return_some wpAny_Continue wpAny_Break nInt nStr wpAny_Constant_none wpAny_Constant_bool Tuple_ List_ spliced_none wpAny_BinOp UnaryOp_ isTrue_and_nil isTrue_or_nil isTrue_and isTrue_or isTrue_not Subscript_ wpAny_Slice evalPart_none evalPart_some IfExp_ BoolOp_one BoolOp_and BoolOp_or tests_nil tests_one wpAny_truthy_bool PyProof.Rows.truthy_int not_of nAdd nSub nIadd PyProof.Rows.gt_int PyProof.Rows.ge_int PyProof.Rows.lt_int PyProof.Rows.eq_int eqStr neStr PyProof.Rows.ite_tt PyProof.Rows.ite_ff ite_nf ite_nt nNeg bindName_ wpAny_assign_Name PyProof.Rows.Attribute_name isnotType wpAny_AugAssign_Name nMeth0" fun x => `(tactic| with_reducible refine $x ?_)
  let b ← f "wpAny_Assign_Name nCmp spliced_more wpAny_isTrue_Compare1 Call_ wpAny_Assign_Subscript plainObj_wpAny_Assign_Attribute nMul wpAny_For isTrue_plain" fun x => `(tactic| ((with_reducible refine' $x ?q ?z); walk_at "Z"))
  let c ← f "nTypArgs nBltArgs nMeth1 nExpr nAsT nAsS" fun x => `(tactic| ((with_reducible refine' $x ?q ?z ?y); (case y => rfl); walk_at "Z"))
  let d ← f "nStL nTup nList nDict nRange1 nRange2" fun x => `(tactic| ((with_reducible refine' $x (by assumption) ?z ?q); walk_at "Z"; intros))
  let e ← f "nNmL nLdL" fun x => `(tactic| ((with_reducible refine' $x (by assumption) ?z ?nv ?q); walk_at "Z"; walk_at "V"))
  let g ← f "PyProof.Rows.mod_int nFd nIfd" fun x => `(tactic| with_reducible refine $x (by decide) ?_)
  let h ← f "compEval compEvalD" fun x => `(tactic| (refine' $x ?q ?z ?cn; (case cn => decide); walk_at "Z"))
  let p ← `(tactic| ((with_reducible refine' nStC (by assumption) ?z ?y ?q); (case y => rfl); walk_at "Z"; intros))
  let q ← `(tactic| ((with_reducible refine' nNmC (by assumption) ?z ?y ?nv ?q); (case y => rfl); walk_at "Z"; walk_at "V"))
  let r ← `(tactic| ((with_reducible refine' nNmF (by assumption) ?z ?y ?u ?nv ?q); (case y => rfl); (case u => rfl); walk_at "Z"; walk_at "V"))
  let t ← `(tactic| ((with_reducible refine' nNmG (by assumption) (Cx.G (by assumption)) ?a ?q ?z); (case a => walk_at "G"); walk_at "Z"))
  let u ← `(tactic| ((with_reducible refine' nNmB (by assumption) (Cx.G (by assumption)) ?a ?b ?q ?z); (case a => walk_at "G"); (case b => walk_at "G"); walk_at "Z"))
  let v ← `(tactic| ((with_reducible show wpAny _ _ (assignInOrder _ []) _ _ _); refine assignInOrder_nil ?_))
  let w ← `(tactic| ((with_reducible show wpAny _ _ (assignInOrder _ (_ :: _)) _ _ _); refine assignInOrder_cons ?_))
  let x ← `(tactic| ((with_reducible show wpAny _ _ (eval (Expr.Call (Expr.Attribute _ _ _) _ [] _) _) _ _ _); refine wpAny_Call_method_late rfl rfl rfl rfl ?_))
  let all := a ++ b ++ c ++ d ++ e ++ g ++ h ++ #[p, q, r, t, u, v, w, x]
  `(tactic| first $[| $all:tactic]*)
local macro_rules | `(tactic| walk_at "N") => do
  let f (s : String) (k : Lean.Ident → Lean.MacroM (Lean.TSyntax `tactic)) := (s.splitOn " ").toArray.mapM fun x => k (Lean.mkIdent x.toName)
  let a ← f "kRet kCont kAug" fun x => `(tactic| with_reducible refine $x ?_)
  let b ← f "kName kSub" fun x => `(tactic| ((with_reducible refine' $x ?q ?z); walk_at "Z"))
  let c ← f "kExpr kTup" fun x => `(tactic| ((with_reducible refine' $x ?q ?z ?y); (case y => rfl); walk_at "Z"))
  let d ← f "mCmpT mCmp mBin mSub" fun x => `(tactic| ((with_reducible refine' $x ?a ?b ?q ?z); (case a => walk_at "E"); (case b => walk_at "E"); walk_at "Z"))
  let e ← f "mTup mList mSpl" fun x => `(tactic| ((with_reducible refine' $x ?a ?q); (case a => walk_at "EN")))
  let g ← f "mBlt mTyp" fun x => `(tactic| ((with_reducible refine' $x (by assumption) (Cx.G (by assumption)) ?a ?b ?c ?q ?y ?u ?v ?z); (case a => walk_at "G"); (case b => walk_at "G"); (case c => walk_at "EN"); (case y => rfl); (case u => rfl); (case v => rfl); walk_at "Z"))
  let all := a ++ b ++ c ++ d ++ e ++ g
  `(tactic| first $[| $all:tactic]*)
local macro_rules | `(tactic| walk_at "R") => `(tactic| repeat ((first | walk_at "N" | walk_at "S"); try dsimp only))
local macro_rules | `(tactic| walk_at "CL") => `(tactic| first | (intro p hp; cases hp; done) | (intro p hp; (try simp only [List.mem_cons, List.mem_nil_iff, or_false, List.not_mem_nil] at hp); (repeat' (rcases hp with hp | hp)); all_goals ((try subst hp); exact ⟨rfl, .inl rfl, by dsimp only; decide, by dsimp only; decide⟩)))
section PartL1
mutual
inductive T where
  | leaf (v : Value) (d : PyData) (as : List Addr)
  | dict (a : Addr) (ks : Ks)
  | list (a : Addr) (ahead : List Value) (ds : List PyData) (as : List Addr) (rs : Rs) (marks : List Nat)
inductive Ks where
  | nil
  | cons (n : Str) (t : T) (r : Ks)
inductive Rs where
  | nil
  | cons (a : Addr) (ks : Ks) (r : Rs)
end

noncomputable def T.val : T → Value
  | .leaf v _ _ => v
  | .dict a _ => .ref a
  | .list a _ _ _ _ _ => .ref a
noncomputable def Ks.kvs : Ks → List (Str × Value)
  | .nil => []
  | .cons n t r => (n, t.val) :: r.kvs
noncomputable def Ks.names : Ks → List Str
  | .nil => []
  | .cons n t r => n :: r.names
noncomputable def Rs.vals : Rs → List Value
  | .nil => []
  | .cons a ks r => .ref a :: r.vals
mutual
noncomputable def T.fp : T → List Addr
  | .leaf _ _ as => as
  | .dict a ks => a :: ks.fp
  | .list a _ _ as rs _ => a :: (as ++ rs.fp)
noncomputable def Ks.fp : Ks → List Addr
  | .nil => []
  | .cons _ t r => t.fp ++ r.fp
noncomputable def Rs.fp : Rs → List Addr
  | .nil => []
  | .cons a ks r => a :: (ks.fp ++ r.fp)
end
noncomputable def upTo (B : Nat) (l : List Nat) : List Nat := l.filter fun k => decide (k < B)
mutual
noncomputable def T.data (B : Nat) : T → PyData
  | .leaf _ d _ => d
  | .dict _ ks => .dict (ks.ps B)
  | .list _ _ ds _ rs marks => .list (ds ++ (rs.data B ++ (upTo B marks).map fun (k : Nat) => PyData.int (k : Int)))
noncomputable def Ks.ps (B : Nat) : Ks → List (PyData × PyData)
  | .nil => []
  | .cons n t r => (.str n, t.data B) :: r.ps B
noncomputable def Rs.data (B : Nat) : Rs → List PyData
  | .nil => []
  | .cons _ ks r => .dict (ks.ps B) :: r.data B
end

section
variable (prog : Program) (w : World) (B : Nat) (h : Heap)
mutual
noncomputable def T.Ok : T → Prop
  | .leaf v d as => Hd prog w h v d as
  | .dict a ks => DO prog w h a ks.kvs ∧ ks.Ok
  | .list a ahead ds as rs marks => (∃ mv, h.PlainList a (ahead ++ (rs.vals ++ mv)).toArray ∧ Ints mv ((upTo B marks).map fun (k : Nat) => (k : Int))) ∧ HdAll prog w h ahead ds as ∧ rs.Ok
noncomputable def Ks.Ok : Ks → Prop
  | .nil => True
  | .cons _ t r => t.Ok ∧ r.Ok
noncomputable def Rs.Ok : Rs → Prop
  | .nil => True
  | .cons a ks r => (DO prog w h a ks.kvs ∧ ks.Ok) ∧ r.Ok
end
end

section
variable {prog : Program} {w : World} {B : Nat} {h h' : Heap} {X : Addr → Prop}
mutual
theorem T.Ok.kp (k : Kp X h h') : ∀ (t : T), t.Ok prog w B h → (∀ a ∈ t.fp, ¬ X a) → t.Ok prog w B h'
  | .leaf v d as, o, hx => Hd.kp k o hx
  | .dict a ks, o, hx => ⟨o.1.kp k (hx a (.head _)), Ks.Ok.kp k ks o.2 fun b hb => hx b (.tail _ hb)⟩
  | .list a ahead ds as rs marks, o, hx => by
    obtain ⟨⟨mv, h1, h2⟩, h3, h4⟩ := o
    exact ⟨⟨mv, k.plain h1 (hx a (.head _)), h2⟩, HdAll.kp k h3 fun b hb => hx b (.tail _ (List.mem_append_left _ hb)), Rs.Ok.kp k rs h4 fun b hb => hx b (.tail _ (List.mem_append_right _ hb))⟩
theorem Ks.Ok.kp (k : Kp X h h') : ∀ (ks : Ks), ks.Ok prog w B h → (∀ a ∈ ks.fp, ¬ X a) → ks.Ok prog w B h'
  | .nil, _, _ => trivial
  | .cons n t r, o, hx => ⟨T.Ok.kp k t o.1 fun b hb => hx b (List.mem_append_left _ hb), Ks.Ok.kp k r o.2 fun b hb => hx b (List.mem_append_right _ hb)⟩
theorem Rs.Ok.kp (k : Kp X h h') : ∀ (rs : Rs), rs.Ok prog w B h → (∀ a ∈ rs.fp, ¬ X a) → rs.Ok prog w B h'
  | .nil, _, _ => trivial
  | .cons a ks r, o, hx => ⟨⟨o.1.1.kp k (hx a (.head _)), Ks.Ok.kp k ks o.1.2 fun b hb => hx b (.tail _ (List.mem_append_left _ hb))⟩, Rs.Ok.kp k r o.2 fun b hb => hx b (.tail _ (List.mem_append_right _ hb))⟩
end
theorem hd_ints {mv : List Value} {ns : List Nat} (i : Ints mv (ns.map fun (k : Nat) => (k : Int))) : HdAll prog w h mv (ns.map fun (k : Nat) => PyData.int (k : Int)) [] := by
  induction ns generalizing mv with
  | nil => cases i; exact .nil
  | cons n ns ih => cases i with
    | cons i => exact .cons (as := []) (bs := []) (.int _ _) (ih i)
theorem HdAll.append {vs ws : List Value} {ds es : List PyData} {as bs : List Addr} (r : HdAll prog w h vs ds as) (r' : HdAll prog w h ws es bs) : HdAll prog w h (vs ++ ws) (ds ++ es) (as ++ bs) := by
  induction vs generalizing ds as with
  | nil => cases r; exact r'
  | cons v vs ih => cases r with
    | cons r rs => rw [List.append_assoc]; exact .cons r (ih rs)
mutual
theorem T.Ok.hd : ∀ (t : T), t.Ok prog w B h → Hd prog w h t.val (t.data B) t.fp
  | .leaf v d as, o => o
  | .dict a ks, o => .dict o.1 (Ks.Ok.hd ks o.2)
  | .list a ahead ds as rs marks, o => by
    obtain ⟨⟨mv, h1, h2⟩, h3, h4⟩ := o
    have := (h3.append ((Rs.Ok.hd rs h4).append (hd_ints h2)))
    rw [List.append_nil] at this
    exact .list h1 this
theorem Ks.Ok.hd : ∀ (ks : Ks), ks.Ok prog w B h → HdPs prog w h ks.kvs (ks.ps B) ks.fp
  | .nil, _ => .nil
  | .cons n t r, o => .cons (T.Ok.hd t o.1) (Ks.Ok.hd r o.2)
theorem Rs.Ok.hd : ∀ (rs : Rs), rs.Ok prog w B h → HdAll prog w h rs.vals (rs.data B) rs.fp
  | .nil, _ => .nil
  | .cons a ks r, o => .cons (as := a :: ks.fp) (.dict o.1.1 (Ks.Ok.hd ks o.1.2)) (Rs.Ok.hd r o.2)
end
theorem Ks.names_kvs : ∀ (ks : Ks), ks.kvs.map (·.1) = ks.names
  | .nil => rfl
  | .cons n t r => by simp only [Ks.kvs, Ks.names, List.map_cons, Ks.names_kvs r]
end

noncomputable def Ks.get : Ks → Str → Option T
  | .nil, _ => none
  | .cons n t r, k => if n = k then some t else r.get k
noncomputable def Ks.set : Ks → Str → T → Ks
  | .nil, _, _ => .nil
  | .cons n t r, k, u => if n = k then .cons n u r else .cons n t (r.set k u)
noncomputable def Ks.snoc : Ks → Str → T → Ks
  | .nil, k, u => .cons k u .nil
  | .cons n t r, k, u => .cons n t (r.snoc k u)
noncomputable def Rs.snoc : Rs → Addr → Ks → Rs
  | .nil, a, ks => .cons a ks .nil
  | .cons b l r, a, ks => .cons b l (r.snoc a ks)

theorem Ks.get_none : ∀ (ks : Ks) (k : Str), ks.get k = none ↔ k ∉ ks.names
  | .nil, k => by simp [Ks.get, Ks.names]
  | .cons n t r, k => by
    unfold Ks.get Ks.names
    by_cases e : n = k
    · simp [e]
    · rw [if_neg e, Ks.get_none r k, List.mem_cons, not_or]
      exact ⟨fun q => ⟨fun x => e x.symm, q⟩, fun q => q.2⟩
theorem Ks.valueAt : ∀ (ks : Ks) (k : Str), PySem.valueAt ks.kvs k = (ks.get k).map T.val
  | .nil, k => rfl
  | .cons n t r, k => by
    have ih := Ks.valueAt r k
    unfold Ks.kvs Ks.get
    unfold PySem.valueAt at ih ⊢
    rw [List.find?_cons]
    by_cases e : n = k
    · simp [e]
    · simp only [e, decide_false, if_false]
      exact ih
theorem Ks.set_names : ∀ (ks : Ks) (k : Str) (u : T), (ks.set k u).names = ks.names
  | .nil, k, u => rfl
  | .cons n t r, k, u => by
    unfold Ks.set
    by_cases e : n = k
    · rw [if_pos e]; rfl
    · rw [if_neg e]; simp only [Ks.names, Ks.set_names r k u]
theorem Ks.snoc_names : ∀ (ks : Ks) (k : Str) (u : T), (ks.snoc k u).names = ks.names ++ [k]
  | .nil, k, u => rfl
  | .cons n t r, k, u => by simp only [Ks.snoc, Ks.names, Ks.snoc_names r k u, List.cons_append]
theorem Ks.snoc_kvs : ∀ (ks : Ks) (k : Str) (u : T), (ks.snoc k u).kvs = ks.kvs ++ [(k, u.val)]
  | .nil, k, u => rfl
  | .cons n t r, k, u => by simp only [Ks.snoc, Ks.kvs, Ks.snoc_kvs r k u, List.cons_append]
theorem Ks.set_kvs : ∀ (ks : Ks) (k : Str) (t u : T), ks.get k = some t → t.val = u.val → (ks.set k u).kvs = ks.kvs
  | .nil, k, t, u, h, _ => nomatch h
  | .cons n t' r, k, t, u, h, hv => by
    unfold Ks.get at h
    unfold Ks.set
    by_cases e : n = k
    · rw [if_pos e] at h ⊢
      cases h
      simp only [Ks.kvs, hv]
    · rw [if_neg e] at h ⊢
      simp only [Ks.kvs, Ks.set_kvs r k t u h hv]
theorem Rs.snoc_vals : ∀ (rs : Rs) (a : Addr) (ks : Ks), (rs.snoc a ks).vals = rs.vals ++ [.ref a]
  | .nil, a, ks => rfl
  | .cons b l r, a, ks => by simp only [Rs.snoc, Rs.vals, Rs.snoc_vals r a ks, List.cons_append]
theorem Ks.snoc_fp : ∀ (ks : Ks) (k : Str) (u : T), (ks.snoc k u).fp = ks.fp ++ u.fp
  | .nil, k, u => by simp only [Ks.snoc, Ks.fp, List.append_nil, List.nil_append]
  | .cons n t r, k, u => by simp only [Ks.snoc, Ks.fp, Ks.snoc_fp r k u, List.append_assoc]
theorem Rs.snoc_fp : ∀ (rs : Rs) (a : Addr) (ks : Ks), (rs.snoc a ks).fp = rs.fp ++ (a :: ks.fp)
  | .nil, a, ks => by simp only [Rs.snoc, Rs.fp, List.append_nil, List.nil_append]
  | .cons b l r, a, ks => by simp only [Rs.snoc, Rs.fp, Rs.snoc_fp r a ks, List.append_assoc, List.cons_append]
noncomputable def Ks.beside : Ks → Str → List Addr
  | .nil, _ => []
  | .cons n t r, k => if n = k then r.fp else t.fp ++ r.beside k
theorem Ks.set_perm : ∀ (ks : Ks) (k : Str) (t u : T), ks.get k = some t → (ks.set k u).fp.Perm (ks.beside k ++ u.fp)
  | .nil, k, t, u, h => nomatch h
  | .cons n t' r, k, t, u, h => by
    unfold Ks.get at h
    unfold Ks.set Ks.beside
    by_cases e : n = k
    · rw [if_pos e, if_pos e]
      exact List.perm_append_comm
    · rw [if_neg e] at h ⊢
      rw [if_neg e]
      simp only [Ks.fp]
      rw [List.append_assoc]
      exact (Ks.set_perm r k t u h).append_left _
theorem Ks.set_self : ∀ (ks : Ks) (k : Str) (t : T), ks.get k = some t → ks.set k t = ks
  | .nil, k, t, h => nomatch h
  | .cons n t' r, k, t, h => by
    unfold Ks.get at h
    unfold Ks.set
    by_cases e : n = k
    · rw [if_pos e] at h ⊢; cases h; rfl
    · rw [if_neg e] at h ⊢; rw [Ks.set_self r k t h]
theorem Ks.get_perm (ks : Ks) (k : Str) (t : T) (h : ks.get k = some t) : ks.fp.Perm (ks.beside k ++ t.fp) := by
  have := Ks.set_perm ks k t t h
  rwa [Ks.set_self ks k t h] at this
noncomputable def Rs.last : Rs → Option (Addr × Ks)
  | .nil => none
  | .cons a ks .nil => some (a, ks)
  | .cons _ _ (.cons b l r) => Rs.last (.cons b l r)
noncomputable def Rs.setLast : Rs → Ks → Rs
  | .nil, _ => .nil
  | .cons a ks .nil, u => .cons a u .nil
  | .cons a ks (.cons b l r), u => .cons a ks (Rs.setLast (.cons b l r) u)
theorem Rs.last_snoc : ∀ (rs : Rs) (a : Addr) (ks : Ks), (rs.snoc a ks).last = some (a, ks)
  | .nil, a, ks => rfl
  | .cons b l .nil, a, ks => rfl
  | .cons b l (.cons c m r), a, ks => by
    have := Rs.last_snoc (.cons c m r) a ks
    simpa [Rs.snoc, Rs.last] using this
theorem Rs.setLast_snoc : ∀ (rs : Rs) (a : Addr) (ks u : Ks), (rs.snoc a ks).setLast u = rs.snoc a u
  | .nil, a, ks, u => rfl
  | .cons b l .nil, a, ks, u => rfl
  | .cons b l (.cons c m r), a, ks, u => by
    have := Rs.setLast_snoc (.cons c m r) a ks u
    simpa [Rs.snoc, Rs.setLast] using this
theorem Rs.split : ∀ (rs : Rs), rs = .nil ∨ ∃ r a ks, rs = Rs.snoc r a ks
  | .nil => .inl rfl
  | .cons a ks r => by
    right
    rcases Rs.split r with rfl | ⟨r', b, l, rfl⟩
    · exact ⟨.nil, a, ks, rfl⟩
    · exact ⟨.cons a ks r', b, l, rfl⟩
end PartL1
section PartL2
noncomputable def pre (ps : List Str) (e : Ev) : Ev := { e with key := ps ++ e.key }
noncomputable def tail1 (n : Str) (e : Ev) : Option Ev := match e.key with
  | [] => none
  | k :: r => if k = n then some { e with key := r } else none
noncomputable def tails (n : Str) (es : List Ev) : List Ev := es.filterMap (tail1 n)
noncomputable def addName (acc : List Str) (e : Ev) : List Str := match e.key with
  | [] => acc
  | k :: _ => if k ∈ acc then acc else acc ++ [k]
noncomputable def namesOf (es : List Ev) : List Str := es.foldl addName []
noncomputable def isMore (e : Ev) : Bool := decide (e.key = []) && decide (e.kind = kMore)
noncomputable def addRound (acc : List (List Ev)) (e : Ev) : List (List Ev) :=
  if isMore e = true then acc ++ [[]] else match acc.getLast? with
    | none => acc
    | some l => acc.dropLast ++ [l ++ [e]]
noncomputable def rounds (es : List Ev) : List (List Ev) := es.foldl addRound []
noncomputable def mark1 (e : Ev) : Option PyData := if e.key = [] ∧ e.kind = kMark then some e.val else none
noncomputable def marksOf (es : List Ev) : List PyData := es.filterMap mark1
noncomputable def noMore (es : List Ev) : Prop := ∀ e ∈ es, isMore e = false

noncomputable def lastOk (ds : List PyData) : Prop := ds.length ≤ 10 ∧ ∀ d, ds.getLast? = some d → isDictD d = false
mutual
noncomputable def MT (B : Nat) : T → List Ev → Prop
  | .leaf _ d _, es => ∃ e r, es = e :: r ∧ e.key = [] ∧ e.kind = kThing ∧ e.val = d ∧ isListD d = false ∧ isDictD d = false
  | .dict _ ks, es => (∃ e r, es = e :: r ∧ (e.key ≠ [] ∨ e.kind = kNest)) ∧ ks.names = namesOf es ∧ noMore es ∧ MKs B ks es
  | .list _ _ ds _ rs marks, es => (∃ e r, es = e :: r ∧ e.key = [] ∧ ((e.kind = kThing ∧ e.val = .list ds ∧ lastOk ds) ∨ (e.kind = kMore ∧ ds = []))) ∧ MRs B rs (rounds es) ∧ marksOf es = (upTo B marks).map fun (k : Nat) => PyData.int (k : Int)
noncomputable def MKs (B : Nat) : Ks → List Ev → Prop
  | .nil, _ => True
  | .cons n t r, es => MT B t (tails n es) ∧ MKs B r es
noncomputable def MRs (B : Nat) : Rs → List (List Ev) → Prop
  | .nil, ess => ess = []
  | .cons _ ks r, ess => ∃ es rest, ess = es :: rest ∧ (ks.names = namesOf es ∧ noMore es ∧ MKs B ks es) ∧ MRs B r rest
end
noncomputable def MKn (B : Nat) (ks : Ks) (es : List Ev) : Prop := ks.names = namesOf es ∧ noMore es ∧ MKs B ks es

theorem pre_nil (e : Ev) : pre [] e = e := rfl
theorem pre_pre (a b : List Str) (e : Ev) : pre a (pre b e) = pre (a ++ b) e := by simp [pre]
theorem map_pre_pre (a b : List Str) (es : List Ev) : (es.map (pre b)).map (pre a) = es.map (pre (a ++ b)) := by
  rw [List.map_map]; congr 1; funext e; exact pre_pre a b e
theorem tails_append (n : Str) (es fs : List Ev) : tails n (es ++ fs) = tails n es ++ tails n fs := List.filterMap_append
theorem tails_pre (n : Str) (es : List Ev) : tails n (es.map (pre [n])) = es := by
  induction es with
  | nil => rfl
  | cons e es ih =>
    have : tail1 n (pre [n] e) = some e := by simp [tail1, pre]
    unfold tails at ih ⊢
    rw [List.map_cons, List.filterMap_cons, this, ih]
theorem tails_pre_ne {n m : Str} (h : m ≠ n) (es : List Ev) : tails m (es.map (pre [n])) = [] := by
  induction es with
  | nil => rfl
  | cons e es ih =>
    have : tail1 m (pre [n] e) = none := by simp [tail1, pre, h.symm]
    unfold tails at ih ⊢
    rw [List.map_cons, List.filterMap_cons, this, ih]
theorem addName_mem {acc : List Str} {e : Ev} {x : Str} : x ∈ addName acc e ↔ x ∈ acc ∨ e.key.head? = some x := by
  unfold addName
  cases hk : e.key with
  | nil => simp
  | cons k r =>
    dsimp only
    by_cases h : k ∈ acc
    · rw [if_pos h]
      simp only [List.head?_cons, Option.some.injEq]
      exact ⟨.inl, fun q => q.elim id fun q => q ▸ h⟩
    · rw [if_neg h]
      simp only [List.mem_append, List.mem_singleton, List.head?_cons, Option.some.injEq]
      exact ⟨fun q => q.imp id Eq.symm, fun q => q.imp id Eq.symm⟩
theorem names_fold {es : List Ev} {acc : List Str} {x : Str} : x ∈ es.foldl addName acc ↔ x ∈ acc ∨ ∃ e ∈ es, e.key.head? = some x := by
  induction es generalizing acc with
  | nil => simp
  | cons e es ih =>
    rw [List.foldl_cons, ih, addName_mem]
    simp only [List.mem_cons, exists_eq_or_imp, or_assoc]
theorem mem_names {es : List Ev} {x : Str} : x ∈ namesOf es ↔ ∃ e ∈ es, e.key.head? = some x := by
  unfold namesOf; rw [names_fold]; simp
theorem tails_ne {es : List Ev} {x : Str} : tails x es ≠ [] ↔ x ∈ namesOf es := by
  rw [mem_names]
  unfold tails
  rw [ne_eq, List.filterMap_eq_nil_iff]
  constructor
  · intro h
    apply Classical.byContradiction
    intro hn
    apply h
    intro e he
    unfold tail1
    cases hk : e.key with
    | nil => rfl
    | cons k r =>
      dsimp only
      by_cases q : k = x
      · exact absurd ⟨e, he, by rw [hk, q]; rfl⟩ hn
      · rw [if_neg q]
  · rintro ⟨e, he, hx⟩ h
    have := h e he
    unfold tail1 at this
    cases hk : e.key with
    | nil => rw [hk] at hx; cases hx
    | cons k r =>
      rw [hk] at hx this
      simp only [List.head?_cons, Option.some.injEq] at hx
      dsimp only at this
      rw [if_pos hx] at this
      cases this
theorem names_pre {acc : List Str} {n : Str} (es : List Ev) (hn : n ∈ acc) : (es.map (pre [n])).foldl addName acc = acc := by
  induction es with
  | nil => rfl
  | cons e es ih =>
    have : addName acc (pre [n] e) = acc := by simp [addName, pre, hn]
    rw [List.map_cons, List.foldl_cons, this, ih]
theorem namesOf_old {es new : List Ev} {n : Str} (h : n ∈ namesOf es) : namesOf (es ++ new.map (pre [n])) = namesOf es := by
  unfold namesOf at h ⊢
  rw [List.foldl_append, names_pre new h]
theorem namesOf_new {es new : List Ev} {n : Str} (h : n ∉ namesOf es) (hn : new ≠ []) : namesOf (es ++ new.map (pre [n])) = namesOf es ++ [n] := by
  cases new with
  | nil => exact absurd rfl hn
  | cons e new =>
    unfold namesOf at h ⊢
    rw [List.foldl_append, List.map_cons, List.foldl_cons]
    have : addName (es.foldl addName []) (pre [n] e) = es.foldl addName [] ++ [n] := by
      have : (pre [n] e).key = n :: e.key := rfl
      simp only [addName, this, if_neg h]
    rw [this, names_pre new (by simp)]
theorem namesOf_nil_keys {es new : List Ev} (h : ∀ e ∈ new, e.key = []) : namesOf (es ++ new) = namesOf es := by
  unfold namesOf
  rw [List.foldl_append]
  generalize es.foldl addName [] = acc
  induction new with
  | nil => rfl
  | cons e new ih =>
    have : addName acc e = acc := by simp [addName, h e (.head _)]
    rw [List.foldl_cons, this, ih fun x hx => h x (.tail _ hx)]
theorem namesOf_nodup (es : List Ev) : (namesOf es).Nodup := by
  unfold namesOf
  suffices ∀ acc : List Str, acc.Nodup → (es.foldl addName acc).Nodup from this [] List.nodup_nil
  induction es with
  | nil => exact fun acc h => h
  | cons e es ih =>
    intro acc h
    rw [List.foldl_cons]
    refine ih _ ?_
    unfold addName
    split
    · exact h
    · rename_i k r hk
      by_cases q : k ∈ acc
      · rw [if_pos q]; exact h
      · rw [if_neg q, List.nodup_append]
        exact ⟨h, by simp, fun a ha b hb => by simp only [List.mem_singleton] at hb; subst hb; exact fun e => q (e ▸ ha)⟩
theorem namesOf_length (es : List Ev) : (namesOf es).length ≤ es.length := by
  unfold namesOf
  suffices ∀ acc : List Str, (es.foldl addName acc).length ≤ acc.length + es.length by simpa using this []
  induction es with
  | nil => exact fun acc => Nat.le_refl _
  | cons e es ih =>
    intro acc
    rw [List.foldl_cons]
    refine Nat.le_trans (ih _) ?_
    have : (addName acc e).length ≤ acc.length + 1 := by
      unfold addName
      split
      · omega
      · split
        · omega
        · simp
    simp only [List.length_cons]; omega
theorem tails_length (n : Str) (es : List Ev) : (tails n es).length ≤ es.length := List.length_filterMap_le _ _
theorem noMore.append {es fs : List Ev} (h : noMore es) (h' : noMore fs) : noMore (es ++ fs) := fun e he => (List.mem_append.mp he).elim (h e) (h' e)
theorem noMore.pre (n : Str) (es : List Ev) : noMore (es.map (pre [n])) := fun e he => by
  obtain ⟨f, _, rfl⟩ := List.mem_map.mp he
  simp [isMore, Mine.pre]

theorem MKs.congr {B : Nat} : ∀ {ks : Ks} {es fs : List Ev}, MKs B ks es → (∀ n ∈ ks.names, tails n fs = tails n es) → MKs B ks fs
  | .nil, _, _, _, _ => trivial
  | .cons n t r, es, fs, h, ht => ⟨by rw [ht n (.head _)]; exact h.1, MKs.congr h.2 fun m hm => ht m (.tail _ hm)⟩
theorem MKs.get {B : Nat} : ∀ {ks : Ks} {es : List Ev} {n : Str} {t : T}, MKs B ks es → ks.get n = some t → MT B t (tails n es)
  | .nil, _, _, _, _, h => nomatch h
  | .cons m u r, es, n, t, h, hg => by
    unfold Ks.get at hg
    by_cases e : m = n
    · rw [if_pos e] at hg; cases hg; subst e; exact h.1
    · rw [if_neg e] at hg; exact MKs.get h.2 hg
theorem MKs.set {B : Nat} : ∀ {ks : Ks} {es : List Ev} {n : Str} {u : T}, MKs B ks es → ks.names.Nodup → MT B u (tails n es) → MKs B (ks.set n u) es
  | .nil, _, _, _, _, _, _ => trivial
  | .cons m t r, es, n, u, h, hn, hu => by
    unfold Ks.set
    by_cases e : m = n
    · rw [if_pos e]; subst e; exact ⟨hu, h.2⟩
    · rw [if_neg e]; exact ⟨h.1, MKs.set h.2 (List.nodup_cons.mp hn).2 hu⟩
theorem MKs.setN {B : Nat} : ∀ {ks : Ks} {es fs : List Ev} {n : Str} {u : T}, MKs B ks es → ks.names.Nodup → MT B u (tails n fs) → (∀ m, m ≠ n → tails m fs = tails m es) → MKs B (ks.set n u) fs
  | .nil, _, _, _, _, _, _, _, _ => trivial
  | .cons m t r, es, fs, n, u, h, hn, hu, hf => by
    have hn' := List.nodup_cons.mp hn
    unfold Ks.set
    by_cases e : m = n
    · rw [if_pos e]; subst e
      exact ⟨hu, MKs.congr h.2 fun k hk => hf k fun q => hn'.1 (q ▸ hk)⟩
    · rw [if_neg e]
      exact ⟨by rw [hf m e]; exact h.1, MKs.setN h.2 hn'.2 hu hf⟩
theorem MKs.snoc {B : Nat} : ∀ {ks : Ks} {es : List Ev} {n : Str} {u : T}, MKs B ks es → MT B u (tails n es) → MKs B (ks.snoc n u) es
  | .nil, _, _, _, _, hu => ⟨hu, trivial⟩
  | .cons m t r, es, n, u, h, hu => ⟨h.1, MKs.snoc h.2 hu⟩

theorem Ks.at {B : Nat} : ∀ {ks : Ks} {i : Nat} {k : Str}, ks.names.Nodup → ks.names[i]? = some k → ∃ t, (ks.ps B)[i]? = some (.str k, t.data B) ∧ ks.get k = some t
  | .nil, i, k, _, h => by simp [Ks.names] at h
  | .cons n t r, 0, k, _, h => by
    simp only [Ks.names, List.getElem?_cons_zero, Option.some.injEq] at h
    subst h
    exact ⟨t, rfl, by simp [Ks.get]⟩
  | .cons n t r, i + 1, k, hn, h => by
    have hn' := List.nodup_cons.mp hn
    simp only [Ks.names, List.getElem?_cons_succ] at h
    obtain ⟨u, h1, h2⟩ := Ks.at hn'.2 h
    have hne : ¬ n = k := fun q => hn'.1 (q ▸ List.mem_of_getElem? h)
    exact ⟨u, by simpa [Ks.ps] using h1, by unfold Ks.get; rw [if_neg hne]; exact h2⟩
theorem Ks.ps_length {B : Nat} : ∀ (ks : Ks), (ks.ps B).length = ks.names.length
  | .nil => rfl
  | .cons n t r => by simp only [Ks.ps, Ks.names, List.length_cons, Ks.ps_length r]
theorem MKn.nodup {B : Nat} {ks : Ks} {es : List Ev} (h : MKn B ks es) : ks.names.Nodup := h.1 ▸ namesOf_nodup es
theorem MKn.set {B : Nat} {ks : Ks} {es new : List Ev} {n : Str} {t u : T} (h : MKn B ks es) (hg : ks.get n = some t) (hu : MT B u (tails n es ++ new)) : MKn B (ks.set n u) (es ++ new.map (pre [n])) := by
  have hm : n ∈ ks.names := Classical.byContradiction fun q => by rw [(ks.get_none n).mpr q] at hg; cases hg
  refine ⟨by rw [Ks.set_names, namesOf_old (h.1 ▸ hm)]; exact h.1, h.2.1.append (noMore.pre n new), MKs.setN h.2.2 h.nodup (by rw [tails_append, tails_pre]; exact hu) fun m hm => by rw [tails_append, tails_pre_ne hm, List.append_nil]⟩
theorem MKn.snoc {B : Nat} {ks : Ks} {es new : List Ev} {n : Str} {u : T} (h : MKn B ks es) (hn : n ∉ ks.names) (hne : new ≠ []) (hu : MT B u new) : MKn B (ks.snoc n u) (es ++ new.map (pre [n])) := by
  have hn' : n ∉ namesOf es := h.1 ▸ hn
  have ht : tails n es = [] := Classical.byContradiction fun q => hn' (tails_ne.mp q)
  refine ⟨by rw [Ks.snoc_names, namesOf_new hn' hne, h.1], h.2.1.append (noMore.pre n new), MKs.snoc (MKs.congr h.2.2 fun m hm => ?_) (by rw [tails_append, tails_pre, ht]; exact hu)⟩
  have : m ≠ n := fun q => hn (q ▸ hm)
  rw [tails_append, tails_pre_ne this, List.append_nil]
noncomputable def nestOnly (new : List Ev) : Prop := ∀ e ∈ new, e.key = [] → e.kind = kNest
theorem nestOnly.noMore {new : List Ev} (h : nestOnly new) : noMore new := fun e he => by
  unfold isMore
  by_cases q : e.key = []
  · rw [h e he q, decide_eq_false (by decide : ¬ kNest = kMore), Bool.and_false]
  · simp [q]
theorem nestOnly.noMark {new : List Ev} (h : nestOnly new) : marksOf new = [] := by
  unfold marksOf
  rw [List.filterMap_eq_nil_iff]
  intro e he
  unfold mark1
  rw [if_neg]
  rintro ⟨q, r⟩
  rw [h e he q] at r
  exact absurd r (by decide)
theorem MT.dict_ext {B : Nat} {a : Addr} {ks ks' : Ks} {es new : List Ev} (h : MT B (.dict a ks) es) (h' : MKn B ks' (es ++ new)) : MT B (.dict a ks') (es ++ new) := by
  obtain ⟨⟨e, r, rfl, hc⟩, _⟩ := h
  exact ⟨⟨e, r ++ new, rfl, hc⟩, h'⟩
theorem MT.dict_new {B : Nat} {a : Addr} {ks' : Ks} {new : List Ev} (hne : new ≠ []) (hn : nestOnly new) (h' : MKn B ks' new) : MT B (.dict a ks') new := by
  cases new with
  | nil => exact absurd rfl hne
  | cons e r =>
    refine ⟨⟨e, r, rfl, ?_⟩, h'⟩
    by_cases q : e.key = []
    · exact .inr (hn e (.head _) q)
    · exact .inl q
theorem MT.ne {B : Nat} {t : T} {es : List Ev} (h : MT B t es) : es ≠ [] := by
  cases t with
  | leaf v d as => obtain ⟨e, r, rfl, _⟩ := h; simp
  | dict a ks => obtain ⟨⟨e, r, rfl, _⟩, _⟩ := h; simp
  | list a ahead ds as rs marks => obtain ⟨⟨e, r, rfl, _⟩, _⟩ := h; simp

theorem rounds_append (es new : List Ev) : rounds (es ++ new) = new.foldl addRound (rounds es) := by unfold rounds; rw [List.foldl_append]
theorem addRounds_last {acc : List (List Ev)} {l new : List Ev} (h : noMore new) : new.foldl addRound (acc ++ [l]) = acc ++ [l ++ new] := by
  induction new generalizing l with
  | nil => simp
  | cons e new ih =>
    have : addRound (acc ++ [l]) e = acc ++ [l ++ [e]] := by
      unfold addRound
      rw [if_neg (by rw [h e (.head _)]; simp)]
      simp
    rw [List.foldl_cons, this, ih (fun x hx => h x (.tail _ hx))]
    simp
theorem addRounds_none {new : List Ev} (h : noMore new) : new.foldl addRound [] = [] := by
  induction new with
  | nil => rfl
  | cons e new ih =>
    have : addRound [] e = [] := by
      unfold addRound
      rw [if_neg (by rw [h e (.head _)]; simp)]
      rfl
    rw [List.foldl_cons, this, ih fun x hx => h x (.tail _ hx)]
theorem rounds_bound (es : List Ev) : (rounds es).length ≤ es.length ∧ ∀ l ∈ rounds es, l.length ≤ es.length ∧ ∀ e ∈ l, e ∈ es := by
  suffices ∀ r : List Ev, (rounds r.reverse).length ≤ r.length ∧ ∀ l ∈ rounds r.reverse, l.length ≤ r.length ∧ ∀ e ∈ l, e ∈ r by
    have h := this es.reverse
    rw [List.reverse_reverse, List.length_reverse] at h
    exact ⟨h.1, fun l hl => ⟨(h.2 l hl).1, fun e he => List.mem_reverse.mp ((h.2 l hl).2 e he)⟩⟩
  intro r
  induction r with
  | nil => exact ⟨Nat.le_refl _, fun l hl => nomatch hl⟩
  | cons x r ih =>
    rw [List.reverse_cons, rounds_append, List.foldl_cons, List.foldl_nil, List.length_cons]
    obtain ⟨h1, h2⟩ := ih
    unfold addRound
    split
    · refine ⟨by simp; omega, fun l hl => ?_⟩
      rcases List.mem_append.mp hl with hl | hl
      · exact ⟨Nat.le_succ_of_le (h2 l hl).1, fun e he => .tail _ ((h2 l hl).2 e he)⟩
      · rw [List.mem_singleton.mp hl]; exact ⟨Nat.zero_le _, fun e he => nomatch he⟩
    · split
      · exact ⟨Nat.le_succ_of_le h1, fun l hl => ⟨Nat.le_succ_of_le (h2 l hl).1, fun e he => .tail _ ((h2 l hl).2 e he)⟩⟩
      · rename_i l0 hl0
        have hm0 : l0 ∈ rounds r.reverse := List.mem_of_getLast? hl0
        refine ⟨by rw [List.length_append, List.length_dropLast, List.length_singleton]; omega, fun l hl => ?_⟩
        rcases List.mem_append.mp hl with hl | hl
        · have := List.dropLast_subset _ hl
          exact ⟨Nat.le_succ_of_le (h2 l this).1, fun e he => .tail _ ((h2 l this).2 e he)⟩
        · rw [List.mem_singleton.mp hl]
          refine ⟨by have := (h2 l0 hm0).1; simp; omega, fun e he => ?_⟩
          rcases List.mem_append.mp he with he | he
          · exact .tail _ ((h2 l0 hm0).2 e he)
          · rw [List.mem_singleton.mp he]; exact .head _
theorem MRs.at {B : Nat} : ∀ {rs : Rs} {ess : List (List Ev)} {i : Nat} {es : List Ev}, MRs B rs ess → ess[i]? = some es → ∃ ks, (rs.data B)[i]? = some (.dict (ks.ps B)) ∧ MKn B ks es
  | .nil, ess, i, es, h, hi => by
    have : ess = [] := h
    subst this; simp at hi
  | .cons a ks r, ess, i, es, h, hi => by
    obtain ⟨e1, rest, rfl, h1, h2⟩ := h
    cases i with
    | zero => simp only [List.getElem?_cons_zero, Option.some.injEq] at hi; subst hi; exact ⟨ks, rfl, h1⟩
    | succ i =>
      simp only [List.getElem?_cons_succ] at hi
      obtain ⟨ks', h3, h4⟩ := MRs.at h2 hi
      exact ⟨ks', by simpa [Rs.data] using h3, h4⟩
theorem MRs.length {B : Nat} : ∀ {rs : Rs} {ess : List (List Ev)}, MRs B rs ess → (rs.data B).length = ess.length
  | .nil, ess, h => by
    have : ess = [] := h
    subst this; rfl
  | .cons a ks r, ess, h => by
    obtain ⟨e1, rest, rfl, h1, h2⟩ := h
    simp only [Rs.data, List.length_cons, MRs.length h2]
theorem marksOf_length (es : List Ev) : (marksOf es).length ≤ es.length := List.length_filterMap_le _ _
theorem MRs.snoc {B : Nat} : ∀ {rs : Rs} {ess : List (List Ev)} {a : Addr} {ks : Ks} {es : List Ev}, MRs B rs ess → MKn B ks es → MRs B (rs.snoc a ks) (ess ++ [es])
  | .nil, ess, a, ks, es, h, h' => by
    have : ess = [] := h
    subst this
    exact ⟨es, [], rfl, h', rfl⟩
  | .cons b l r, ess, a, ks, es, h, h' => by
    obtain ⟨e1, rest, rfl, h1, h2⟩ := h
    exact ⟨e1, rest ++ [es], rfl, h1, MRs.snoc h2 h'⟩
theorem MRs.unsnoc {B : Nat} : ∀ {rs : Rs} {ess : List (List Ev)} {a : Addr} {ks : Ks}, MRs B (rs.snoc a ks) ess → ∃ ess' es, ess = ess' ++ [es] ∧ MRs B rs ess' ∧ MKn B ks es
  | .nil, ess, a, ks, h => by
    obtain ⟨es, rest, rfl, h1, h2⟩ := h
    have : rest = [] := h2
    subst this
    exact ⟨[], es, rfl, rfl, h1⟩
  | .cons b l r, ess, a, ks, h => by
    obtain ⟨e1, rest, rfl, h1, h2⟩ := h
    obtain ⟨ess', es, rfl, h3, h4⟩ := MRs.unsnoc h2
    exact ⟨e1 :: ess', es, rfl, ⟨e1, ess', rfl, h1, h3⟩, h4⟩
theorem MT.list_ext {B : Nat} {a a' : Addr} {ahead : List Value} {ds : List PyData} {as : List Addr} {rs : Rs} {marks : List Nat} {ks : Ks} {es : List Ev} (h : MT B (.list a ahead ds as (rs.snoc a' ks) marks) es) :
    ∃ ess' es', rounds es = ess' ++ [es'] ∧ MKn B ks es' ∧ ∀ ks' new, nestOnly new → MKn B ks' (es' ++ new) → MT B (.list a ahead ds as (rs.snoc a' ks') marks) (es ++ new) := by
  obtain ⟨⟨e, r, rfl, hc⟩, hr, hm⟩ := h
  obtain ⟨ess', es', he, h1, h2⟩ := hr.unsnoc
  refine ⟨ess', es', he, h2, fun ks' new hn h3 => ⟨⟨e, r ++ new, rfl, hc⟩, ?_, ?_⟩⟩
  · rw [rounds_append, he, addRounds_last hn.noMore]
    exact h1.snoc h3
  · have : marksOf (e :: r ++ new) = marksOf (e :: r) ++ marksOf new := List.filterMap_append
    rw [this, hn.noMark, List.append_nil, hm]
theorem MKn.nil {B : Nat} : MKn B .nil [] := ⟨rfl, fun _ h => (nomatch h), trivial⟩
theorem MKn.nest {B : Nat} {ks : Ks} {es new : List Ev} (h : MKn B ks es) (hn : nestOnly new) (hk : ∀ e ∈ new, e.key = []) : MKn B ks (es ++ new) := by
  refine ⟨by rw [namesOf_nil_keys hk]; exact h.1, h.2.1.append hn.noMore, MKs.congr h.2.2 fun n _ => ?_⟩
  rw [tails_append]
  have : tails n new = [] := by
    unfold tails
    rw [List.filterMap_eq_nil_iff]
    intro e he
    unfold tail1; rw [hk e he]
  rw [this, List.append_nil]
theorem MT.more {B : Nat} {a a' : Addr} {ahead : List Value} {ds : List PyData} {as : List Addr} {rs : Rs} {marks : List Nat} {es : List Ev} {v : PyData} (h : MT B (.list a ahead ds as rs marks) es) : MT B (.list a ahead ds as (rs.snoc a' .nil) marks) (es ++ [⟨[], kMore, v⟩]) := by
  obtain ⟨⟨e, r, rfl, hc⟩, hr, hm⟩ := h
  refine ⟨⟨e, r ++ [_], rfl, hc⟩, ?_, ?_⟩
  · rw [rounds_append]
    have : addRound (rounds (e :: r)) ⟨[], kMore, v⟩ = rounds (e :: r) ++ [[]] := by
      unfold addRound; rw [if_pos (by simp [isMore])]
    rw [List.foldl_cons, List.foldl_nil, this]
    exact hr.snoc .nil
  · have : marksOf (e :: r ++ [⟨[], kMore, v⟩]) = marksOf (e :: r) ++ marksOf [⟨[], kMore, v⟩] := List.filterMap_append
    rw [this, hm]
    have : marksOf [⟨[], kMore, v⟩] = [] := by
      unfold marksOf mark1
      rw [List.filterMap_cons, if_neg]
      · rfl
      · rintro ⟨_, q⟩; exact absurd q (by show ¬ kMore = kMark; decide)
    rw [this, List.append_nil]
theorem upTo_snoc_lt {B k : Nat} {l : List Nat} (h : k < B) : upTo B (l ++ [k]) = upTo B l ++ [k] := by unfold upTo; rw [List.filter_append]; simp [h]
theorem upTo_snoc_ge {B k : Nat} {l : List Nat} (h : B ≤ k) : upTo B (l ++ [k]) = upTo B l := by unfold upTo; rw [List.filter_append]; simp; omega
theorem MKn.mark {B : Nat} {ks : Ks} {es : List Ev} {v : PyData} (h : MKn B ks es) : MKn B ks (es ++ [⟨[], kMark, v⟩]) := by
  refine ⟨by rw [namesOf_nil_keys (by intro e he; rw [List.mem_singleton.mp he])]; exact h.1, h.2.1.append (fun e he => by rw [List.mem_singleton.mp he]; unfold isMore; simp; decide), MKs.congr h.2.2 fun n _ => ?_⟩
  rw [tails_append]
  have : tails n [⟨[], kMark, v⟩] = [] := rfl
  rw [this, List.append_nil]
theorem MT.mark {B k : Nat} {a : Addr} {ahead : List Value} {ds : List PyData} {as : List Addr} {rs : Rs} {marks : List Nat} {es : List Ev} (hk : k < B) (h : MT B (.list a ahead ds as rs marks) es) : MT B (.list a ahead ds as rs (marks ++ [k])) (es ++ [⟨[], kMark, .int k⟩]) := by
  obtain ⟨⟨e, r, rfl, hc⟩, hr, hm⟩ := h
  refine ⟨⟨e, r ++ [_], rfl, hc⟩, ?_, ?_⟩
  · rw [rounds_append, List.foldl_cons, List.foldl_nil]
    have hnm : isMore ⟨[], kMark, .int k⟩ = false := by unfold isMore; simp; decide
    rcases rs.split with rfl | ⟨rs', b, l, rfl⟩
    · have h1 : rounds (e :: r) = [] := hr
      rw [h1]
      have : addRound [] ⟨[], kMark, .int k⟩ = [] := by unfold addRound; rw [if_neg (by simp [hnm])]; rfl
      rw [this]
      exact (rfl : ([] : List (List Ev)) = [])
    · obtain ⟨ess', es', he, h1, h2⟩ := hr.unsnoc
      rw [he]
      have : addRound (ess' ++ [es']) ⟨[], kMark, .int k⟩ = ess' ++ [es' ++ [⟨[], kMark, .int k⟩]] := by unfold addRound; rw [if_neg (by simp [hnm])]; simp
      rw [this]
      exact h1.snoc h2.mark
  · have : marksOf (e :: r ++ [⟨[], kMark, .int k⟩]) = marksOf (e :: r) ++ [.int k] := by
      unfold marksOf
      rw [List.filterMap_append]
      congr 1
    rw [this, hm, upTo_snoc_lt hk, List.map_append]; rfl
theorem MT.mark' {B k : Nat} {a : Addr} {ahead : List Value} {ds : List PyData} {as : List Addr} {rs : Rs} {marks : List Nat} {es : List Ev} (hk : B ≤ k) (h : MT B (.list a ahead ds as rs marks) es) : MT B (.list a ahead ds as rs (marks ++ [k])) es := by
  obtain ⟨hc, hr, hm⟩ := h
  exact ⟨hc, hr, by rw [hm, upTo_snoc_ge hk]⟩
end PartL2
section PartL3
noncomputable def dropK (n : Nat) (e : Ev) : Ev := { e with key := e.key.drop n }
noncomputable def Pl (evs : List Ev) (ps : List Str) : List Ev := (aliveF evs ps).map (dropK ps.length)
noncomputable def Ql (evs : List Ev) (ps : List Str) : List Ev := afterLast isMore (Pl evs ps)

theorem snocRec {α : Type} {P : List α → Prop} (l : List α) (h0 : P []) (h1 : ∀ l x, P l → P (l ++ [x])) : P l := by
  have : ∀ r : List α, P r.reverse := fun r => by
    induction r with
    | nil => exact h0
    | cons x r ih => rw [List.reverse_cons]; exact h1 _ _ ih
  have h := this l.reverse
  rwa [List.reverse_reverse] at h
theorem afterLast_map {α β : Type} (f : α → β) (p : β → Bool) (l : List α) : afterLast p (l.map f) = (afterLast (fun x => p (f x)) l).map f := by
  induction l with
  | nil => rfl
  | cons x l ih =>
    have : (l.map f).any p = l.any fun x => p (f x) := by rw [List.any_map]; rfl
    rw [List.map_cons]
    simp only [afterLast, this, ih]
    split
    · rfl
    · split
      · rfl
      · rw [List.map_cons]
theorem afterLast_congr {α : Type} {p q : α → Bool} {l : List α} (h : ∀ x ∈ l, p x = q x) : afterLast p l = afterLast q l := by
  induction l with
  | nil => rfl
  | cons x l ih =>
    have h1 : l.any p = l.any q := by
      rw [Bool.eq_iff_iff, List.any_eq_true, List.any_eq_true]
      constructor
      · rintro ⟨y, hy, e⟩; exact ⟨y, hy, by rw [← h y (.tail _ hy)]; exact e⟩
      · rintro ⟨y, hy, e⟩; exact ⟨y, hy, by rw [h y (.tail _ hy)]; exact e⟩
    unfold afterLast
    rw [h1, h x (.head _), ih fun y hy => h y (.tail _ hy)]
theorem afterLast_id {α : Type} {p : α → Bool} {l : List α} (h : ∀ x ∈ l, p x = false) : afterLast p l = l :=
  afterLast_none (by rw [List.any_eq_false]; intro x hx; rw [h x hx]; simp)
theorem afterLast_snoc {α : Type} {p : α → Bool} {l : List α} {x : α} : afterLast p (l ++ [x]) = if p x = true then [] else afterLast p l ++ [x] := by
  induction l with
  | nil =>
    rw [List.nil_append]
    unfold afterLast
    simp only [List.any_nil, Bool.false_eq_true, if_false]
    by_cases h : p x = true <;> simp [h, afterLast]
  | cons y l ih =>
    rw [List.cons_append]
    unfold afterLast
    rw [ih, List.any_append]
    simp only [List.any_cons, List.any_nil, Bool.or_false, Bool.or_eq_true]
    by_cases hx : p x = true
    · simp [hx]
    · simp only [hx, Bool.false_eq_true, or_false, if_false]
      split
      · rfl
      · split
        · rfl
        · rfl
theorem afterLast_or {α : Type} {p q : α → Bool} (l : List α) : afterLast (fun x => p x || q x) l = afterLast q (afterLast p l) := by
  induction l using snocRec with
  | h0 => rfl
  | h1 l x ih =>
  rw [afterLast_snoc, afterLast_snoc, ih]
  by_cases hp : p x = true
  · simp [hp, afterLast]
  · simp only [hp, Bool.false_or, Bool.false_eq_true, if_false]
    rw [afterLast_snoc]
theorem afterLast_filter {α : Type} {p q : α → Bool} (h : ∀ x, p x = true → q x = true) (l : List α) : afterLast p (l.filter q) = (afterLast p l).filter q := by
  induction l using snocRec with
  | h0 => rfl
  | h1 l x ih =>
  rw [afterLast_snoc, List.filter_append]
  by_cases hq : q x = true
  · rw [List.filter_cons, if_pos hq, List.filter_nil, afterLast_snoc, ih]
    split
    · rfl
    · rw [List.filter_append, List.filter_cons, if_pos hq, List.filter_nil]
  · have hp : ¬ p x = true := fun e => hq (h x e)
    rw [List.filter_cons, if_neg hq, List.filter_nil, List.append_nil, ih, if_neg hp, List.filter_append, List.filter_cons, if_neg hq, List.filter_nil, List.append_nil]

theorem begins_snoc (ps : List Str) (k : Str) : begins (ps ++ [k]) = begins ps ++ [ps] := by
  unfold begins
  rw [List.length_append, List.length_singleton, List.range_succ, List.map_append]
  congr 1
  · apply List.map_congr_left
    intro i hi
    rw [List.take_append_of_le_length (Nat.le_of_lt (List.mem_range.mp hi))]
  · simp
theorem cuts_snoc (ps : List Str) (k : Str) (e : Ev) : cuts (ps ++ [k]) e = (cuts ps e || (decide (e.kind = kMore) && decide (e.key = ps))) := by
  unfold cuts
  rw [begins_snoc]
  by_cases h : e.kind = kMore
  · simp [h, List.mem_append]
  · simp [h]
theorem take_snoc_iff {l ps : List Str} {k : Str} : l.take (ps ++ [k]).length = ps ++ [k] ↔ l.take ps.length = ps ∧ (l.drop ps.length).head? = some k := by
  rw [List.length_append, List.length_singleton]
  constructor
  · intro h
    have h1 : l.take ps.length = ps := by
      have := congrArg (List.take ps.length) h
      rw [List.take_take, Nat.min_eq_left (Nat.le_succ _), List.take_append_of_le_length (Nat.le_refl _), List.take_length] at this
      exact this
    refine ⟨h1, ?_⟩
    rw [List.take_add_one, h1] at h
    have h2 := List.append_cancel_left h
    rw [List.head?_drop]
    cases hg : l[ps.length]? with
    | none => rw [hg] at h2; simp at h2
    | some x => rw [hg] at h2; simp at h2; rw [h2]
  · rintro ⟨h1, h2⟩
    rw [List.take_add_one, h1]
    rw [List.head?_drop] at h2
    rw [h2]; rfl
theorem filter_map_tail {ps : List Str} {k : Str} (l : List Ev) (h : ∀ e ∈ l, e.key.take ps.length = ps) :
    (l.filter fun e => decide (e.key.take (ps ++ [k]).length = ps ++ [k])).map (dropK (ps ++ [k]).length) = tails k (l.map (dropK ps.length)) := by
  induction l with
  | nil => rfl
  | cons e l ih =>
    have ih' := ih fun x hx => h x (.tail _ hx)
    have he := h e (.head _)
    unfold tails at ih' ⊢
    rw [List.filter_cons, List.map_cons, List.filterMap_cons, ← ih']
    by_cases hk : e.key.take (ps ++ [k]).length = ps ++ [k]
    · rw [if_pos (decide_eq_true hk), List.map_cons]
      have hd := (take_snoc_iff.mp hk).2
      have : tail1 k (dropK ps.length e) = some (dropK (ps ++ [k]).length e) := by
        unfold tail1 dropK
        dsimp only
        cases hl : e.key.drop ps.length with
        | nil => rw [hl] at hd; cases hd
        | cons x r =>
          rw [hl] at hd
          simp only [List.head?_cons, Option.some.injEq] at hd
          dsimp only
          rw [if_pos hd, List.length_append, List.length_singleton, ← List.drop_drop, hl]
          rfl
      rw [this]
    · rw [if_neg (by simpa using hk)]
      have : tail1 k (dropK ps.length e) = none := by
        unfold tail1 dropK
        dsimp only
        cases hl : e.key.drop ps.length with
        | nil => rfl
        | cons x r =>
          dsimp only
          rw [if_neg]
          intro q
          exact hk (take_snoc_iff.mpr ⟨he, by rw [hl, q]; rfl⟩)
      rw [this]
theorem aliveF_key {evs : List Ev} {ps : List Str} {e : Ev} (h : e ∈ aliveF evs ps) : e.key.take ps.length = ps := by
  unfold aliveF at h
  exact of_decide_eq_true (List.mem_filter.mp h).2
theorem drop_nil_iff {l ps : List Str} (h : l.take ps.length = ps) : l.drop ps.length = [] ↔ l = ps := by
  constructor
  · intro q
    have := List.take_append_drop ps.length l
    rw [h, q, List.append_nil] at this
    exact this.symm
  · rintro rfl; exact List.drop_length
theorem Pl_snoc (evs : List Ev) (ps : List Str) (k : Str) : Pl evs (ps ++ [k]) = tails k (Ql evs ps) := by
  unfold Pl Ql Pl
  rw [afterLast_map]
  have h1 : afterLast (fun x => isMore (dropK ps.length x)) (aliveF evs ps) = afterLast (fun e => decide (e.kind = kMore) && decide (e.key = ps)) (aliveF evs ps) := by
    refine afterLast_congr fun e he => ?_
    have := aliveF_key he
    unfold isMore dropK
    dsimp only
    rw [Bool.and_comm]
    congr 1
    rw [decide_eq_decide]
    exact drop_nil_iff this
  rw [h1]
  have h2 : afterLast (fun e : Ev => decide (e.kind = kMore) && decide (e.key = ps)) (aliveF evs ps) = (afterLast (cuts (ps ++ [k])) evs).filter fun e => decide (e.key.take ps.length = ps) := by
    unfold aliveF
    rw [afterLast_filter (fun x hx => by
      simp only [Bool.and_eq_true, decide_eq_true_eq] at hx ⊢
      rw [hx.2, List.take_length])]
    rw [← afterLast_or]
    congr 1
    refine afterLast_congr fun e _ => ?_
    exact (cuts_snoc ps k e).symm
  rw [h2, ← filter_map_tail]
  · unfold aliveF
    rw [List.filter_filter]
    congr 1
    apply List.filter_congr
    intro e _
    rw [Bool.eq_iff_iff]
    simp only [decide_eq_true_eq, Bool.and_eq_true]
    exact ⟨fun q => ⟨q, (take_snoc_iff.mp q).1⟩, fun q => q.1⟩
  · intro e he
    exact of_decide_eq_true (List.mem_filter.mp he).2
theorem Pl_nil (evs : List Ev) : Pl evs [] = evs := by
  unfold Pl aliveF
  have : afterLast (cuts []) evs = evs := afterLast_id fun x _ => by simp [cuts, begins]
  rw [this]
  have h1 : (evs.filter fun e => decide (e.key.take ([] : List Str).length = [])) = evs := by rw [List.filter_eq_self]; intro e _; simp
  rw [h1]
  have h2 : dropK ([] : List Str).length = id := by funext e; simp [dropK]
  rw [h2, List.map_id]
theorem Ql_nil {evs : List Ev} (h : noMore evs) : Ql evs [] = evs := by
  unfold Ql; rw [Pl_nil]; exact afterLast_id h

noncomputable def barS (P : List Ev) (lists : Bool) : Option Str := match P with
  | [] => some (Str.ofString "")
  | e :: r => if ¬ e.key = [] ∨ e.kind = kNest then none
      else if (e.kind = kThing ∧ isListD e.val = false) ∨ lists = false then some noNest
      else if (e :: r).any isMore = false then some (if isNilD e.val = true then nothing else noNest) else none
theorem barAt_eq (evs : List Ev) (way : List Str) (lists : Bool) (size : Nat) : barAt evs way lists size = barS (Pl evs (way.take size)) lists := by
  unfold barAt barS Pl
  cases hal : aliveF evs (way.take size) with
  | nil => rfl
  | cons e r =>
    rw [List.map_cons]
    dsimp only
    have hk := aliveF_key (evs := evs) (ps := way.take size) (by rw [hal]; exact .head _)
    have e1 : (dropK (way.take size).length e).key = [] ↔ e.key = way.take size := drop_nil_iff hk
    have e2 : (dropK (way.take size).length e).kind = e.kind := rfl
    have e3 : (dropK (way.take size).length e).val = e.val := rfl
    rw [e2, e3]
    have e4 : ((e :: r).filter (fun o => decide (o.key = way.take size) && decide (o.kind = kMore)) = []) ↔ ((dropK (way.take size).length e :: r.map (dropK (way.take size).length)).any isMore = false) := by
      have hiso : ∀ o ∈ e :: r, isMore (dropK (way.take size).length o) = (decide (o.key = way.take size) && decide (o.kind = kMore)) := fun o ho => by
        have ho' := drop_nil_iff (aliveF_key (evs := evs) (ps := way.take size) (by rw [hal]; exact ho))
        unfold isMore dropK
        dsimp only
        congr 1
        rw [decide_eq_decide]; exact ho'
      rw [← List.map_cons, List.any_map, List.filter_eq_nil_iff, List.any_eq_false]
      constructor
      · intro h o ho
        simp only [Function.comp]
        rw [hiso o ho]; exact h o ho
      · intro h o ho
        have := h o ho
        simp only [Function.comp] at this
        rw [hiso o ho] at this; exact this
    by_cases c1 : e.key = way.take size
    · have c1' := e1.mpr c1
      simp only [c1, c1', not_true, false_or, e4]
    · have c1' : ¬ (dropK (way.take size).length e).key = [] := fun q => c1 (e1.mp q)
      simp only [c1, c1', not_false_eq_true, true_or, if_true]

theorem rounds_last {es : List Ev} (h : es.any isMore = true) : ∃ ess, rounds es = ess ++ [afterLast isMore es] := by
  induction es using snocRec with
  | h0 => simp at h
  | h1 l x ih =>
  rw [rounds_append, afterLast_snoc, List.foldl_cons, List.foldl_nil]
  by_cases hx : isMore x = true
  · exact ⟨rounds l, by unfold addRound; rw [if_pos hx, if_pos hx]⟩
  · have hl : l.any isMore = true := by
      rw [List.any_append] at h
      simpa [hx] using h
    obtain ⟨ess, he⟩ := ih hl
    refine ⟨ess, ?_⟩
    unfold addRound
    rw [if_neg hx, if_neg hx, he]
    simp
theorem rounds_none {es : List Ev} (h : es.any isMore = false) : rounds es = [] := by
  have : noMore es := fun e he => by
    have := List.any_eq_false.mp h e he
    simpa using this
  exact addRounds_none this

section
variable {B : Nat} {P : List Ev} {lists : Bool}
theorem bar_leaf {v : Value} {d : PyData} {as : List Addr} (h : MT B (.leaf v d as) P) : barS P lists = some noNest := by
  obtain ⟨e, r, rfl, h1, h2, h3, h4⟩ := h
  unfold barS
  dsimp only
  have hk : ¬ e.kind = kNest := by rw [h2]; decide
  rw [if_neg (fun q => q.elim (fun q => q h1) hk), if_pos (.inl ⟨h2, h3 ▸ h4.1⟩)]
theorem bar_dict {a : Addr} {ks : Ks} (h : MT B (.dict a ks) P) : barS P lists = none := by
  obtain ⟨⟨e, r, rfl, h1⟩, _⟩ := h
  unfold barS
  dsimp only
  rw [if_pos h1]
theorem bar_list_no {a : Addr} {ahead : List Value} {ds : List PyData} {as : List Addr} {rs : Rs} {marks : List Nat} (h : MT B (.list a ahead ds as rs marks) P) : barS P false = some noNest := by
  obtain ⟨⟨e, r, rfl, h1, h2⟩, _⟩ := h
  unfold barS
  dsimp only
  have hk : ¬ e.kind = kNest := by rcases h2 with h2 | h2 <;> rw [h2.1] <;> decide
  rw [if_neg (fun q => q.elim (fun q => q h1) hk), if_pos (.inr rfl)]
theorem bar_list_nil {a : Addr} {ahead : List Value} {ds : List PyData} {as : List Addr} {marks : List Nat} (h : MT B (.list a ahead ds as .nil marks) P) : barS P true = some (if ds = [] then nothing else noNest) := by
  obtain ⟨⟨e, r, rfl, h1, h2⟩, h3, _⟩ := h
  have hr : rounds (e :: r) = [] := h3
  have ha : (e :: r).any isMore = false := by
    cases hc : (e :: r).any isMore with
    | false => rfl
    | true => obtain ⟨ess, he⟩ := rounds_last hc; rw [hr] at he; simp at he
  unfold barS
  dsimp only
  rcases h2 with ⟨h2, h4⟩ | ⟨h2, h4⟩
  · have hk : ¬ e.kind = kNest := by rw [h2]; decide
    have hl : isListD e.val = true := by rw [h4.1]; rfl
    rw [if_neg (fun q => q.elim (fun q => q h1) hk), if_neg (fun q => q.elim (fun q => by rw [hl] at q; cases q.2) (fun q => by cases q)), if_pos ha, h4.1]
    cases ds <;> simp [isNilD]
  · exfalso
    have : isMore e = true := by simp [isMore, h1, h2]
    simp [this] at ha
theorem bar_list_snoc {a a' : Addr} {ahead : List Value} {ds : List PyData} {as : List Addr} {rs : Rs} {ks : Ks} {marks : List Nat} (h : MT B (.list a ahead ds as (rs.snoc a' ks) marks) P) : barS P true = none ∧ P.any isMore = true := by
  obtain ⟨⟨e, r, rfl, h1, h2⟩, h3, _⟩ := h
  obtain ⟨ess', es', he, _, _⟩ := h3.unsnoc
  have ha : (e :: r).any isMore = true := by
    cases hc : (e :: r).any isMore with
    | true => rfl
    | false => rw [rounds_none hc] at he; simp at he
  refine ⟨?_, ha⟩
  unfold barS
  dsimp only
  have hk : ¬ e.kind = kNest := by rcases h2 with h2 | h2 <;> rw [h2.1] <;> decide
  have hl : ¬ (e.kind = kThing ∧ isListD e.val = false) := by
    rintro ⟨q1, q2⟩
    rcases h2 with ⟨h2, h4⟩ | ⟨h2, h4⟩
    · rw [h4.1] at q2; cases q2
    · rw [q1] at h2; exact absurd h2 (by decide)
  rw [if_neg (fun q => q.elim (fun q => q h1) hk), if_neg (fun q => q.elim hl (fun q => by cases q)), if_neg (by rw [ha]; simp)]
end
end PartL3
section PartL4
mutual
noncomputable def T.mk : T → List (Addr × List Nat)
  | .leaf _ _ _ => []
  | .dict _ ks => ks.mk
  | .list a _ _ _ rs marks => (a, marks) :: rs.mk
noncomputable def Ks.mk : Ks → List (Addr × List Nat)
  | .nil => []
  | .cons _ t r => t.mk ++ r.mk
noncomputable def Rs.mk : Rs → List (Addr × List Nat)
  | .nil => []
  | .cons _ ks r => ks.mk ++ r.mk
end
noncomputable def Ks.besideM : Ks → Str → List (Addr × List Nat)
  | .nil, _ => []
  | .cons n t r, k => if n = k then r.mk else t.mk ++ r.besideM k
theorem Ks.set_mk : ∀ (ks : Ks) (k : Str) (t u : T), ks.get k = some t → (ks.set k u).mk.Perm (ks.besideM k ++ u.mk)
  | .nil, k, t, u, h => nomatch h
  | .cons n t' r, k, t, u, h => by
    unfold Ks.get at h
    unfold Ks.set Ks.besideM
    by_cases e : n = k
    · rw [if_pos e, if_pos e]
      exact List.perm_append_comm
    · rw [if_neg e] at h ⊢
      rw [if_neg e]
      simp only [Ks.mk]
      rw [List.append_assoc]
      exact (Ks.set_mk r k t u h).append_left _
theorem Ks.snoc_mk : ∀ (ks : Ks) (k : Str) (u : T), (ks.snoc k u).mk = ks.mk ++ u.mk
  | .nil, k, u => by simp only [Ks.snoc, Ks.mk, List.append_nil, List.nil_append]
  | .cons n t r, k, u => by simp only [Ks.snoc, Ks.mk, Ks.snoc_mk r k u, List.append_assoc]
theorem Rs.snoc_mk : ∀ (rs : Rs) (a : Addr) (ks : Ks), (rs.snoc a ks).mk = rs.mk ++ ks.mk
  | .nil, a, ks => by simp only [Rs.snoc, Rs.mk, List.append_nil, List.nil_append]
  | .cons b l r, a, ks => by simp only [Rs.snoc, Rs.mk, Rs.snoc_mk r a ks, List.append_assoc]

section
variable {prog : Program} {w : World} {B : Nat} {h h' : Heap} {X : Addr → Prop}
theorem Ks.Ok.set (k : Kp X h h') : ∀ {ks : Ks} {n : Str} {u : T}, ks.Ok prog w B h → (∀ b ∈ ks.beside n, ¬ X b) → u.Ok prog w B h' → (ks.set n u).Ok prog w B h'
  | .nil, _, _, _, _, _ => trivial
  | .cons m t r, n, u, o, hx, ou => by
    unfold Ks.set
    unfold Ks.beside at hx
    by_cases e : m = n
    · rw [if_pos e] at hx ⊢
      exact ⟨ou, Ks.Ok.kp k r o.2 hx⟩
    · rw [if_neg e] at hx ⊢
      exact ⟨T.Ok.kp k t o.1 fun b hb => hx b (List.mem_append_left _ hb), Ks.Ok.set k o.2 (fun b hb => hx b (List.mem_append_right _ hb)) ou⟩
theorem Ks.Ok.get : ∀ {ks : Ks} {n : Str} {t : T}, ks.Ok prog w B h → ks.get n = some t → t.Ok prog w B h
  | .nil, _, _, _, e => nomatch e
  | .cons m u r, n, t, o, e => by
    unfold Ks.get at e
    by_cases q : m = n
    · rw [if_pos q] at e; cases e; exact o.1
    · rw [if_neg q] at e; exact Ks.Ok.get o.2 e
theorem Ks.Ok.snoc : ∀ {ks : Ks} {n : Str} {u : T}, ks.Ok prog w B h → u.Ok prog w B h → (ks.snoc n u).Ok prog w B h
  | .nil, _, _, _, ou => ⟨ou, trivial⟩
  | .cons m t r, n, u, o, ou => ⟨o.1, Ks.Ok.snoc o.2 ou⟩
theorem Rs.Ok.snoc : ∀ {rs : Rs} {a : Addr} {ks : Ks}, rs.Ok prog w B h → DO prog w h a ks.kvs → ks.Ok prog w B h → (rs.snoc a ks).Ok prog w B h
  | .nil, _, _, _, h1, h2 => ⟨⟨h1, h2⟩, trivial⟩
  | .cons b l r, a, ks, o, h1, h2 => ⟨o.1, Rs.Ok.snoc o.2 h1 h2⟩
theorem Rs.Ok.unsnoc : ∀ {rs : Rs} {a : Addr} {ks : Ks}, (rs.snoc a ks).Ok prog w B h → rs.Ok prog w B h ∧ DO prog w h a ks.kvs ∧ ks.Ok prog w B h
  | .nil, _, _, o => ⟨trivial, o.1⟩
  | .cons b l r, a, ks, o => by obtain ⟨h1, h2⟩ := Rs.Ok.unsnoc o.2; exact ⟨⟨o.1, h1⟩, h2⟩
end

structure Hole (prog : Program) (w : World) (g : Heap) (a0 : Addr) (evF : Nat → List Ev) (plug : Ks → Ks) (a : Addr) (rest : List Addr) (mrest : List (Addr × List Nat)) (ps : List Str) (esF : Nat → List Ev) : Prop where
  perm : ∀ ks', (a0 :: (plug ks').fp).Perm (rest ++ (a :: ks'.fp))
  mks : ∀ ks', (plug ks').mk.Perm (mrest ++ ks'.mk)
  heap : ∀ g' X ks', Kp X g g' → (∀ b ∈ rest, ¬ X b) → DO prog w g' a ks'.kvs → ks'.Ok prog w 0 g' → DO prog w g' a0 (plug ks').kvs ∧ (plug ks').Ok prog w 0 g'
  pure : ∀ B ks' new, new ≠ [] → nestOnly new → MKn B ks' (esF B ++ new) → MKn B (plug ks') (evF B ++ new.map (pre ps))

structure At (prog : Program) (w : World) (g : Heap) (a0 : Addr) (evF : Nat → List Ev) (plug : Ks → Ks) (a : Addr) (rest : List Addr) (mrest : List (Addr × List Nat)) (ps : List Str) (esF : Nat → List Ev) (ks : Ks) : Prop where
  hole : Hole prog w g a0 evF plug a rest mrest ps esF
  mkn : ∀ B, MKn B ks (esF B)
  dict : DO prog w g a ks.kvs
  ok : ks.Ok prog w 0 g
  nd : (rest ++ (a :: ks.fp)).Nodup

section
variable {prog : Program} {w : World} {g g' : Heap} {a0 a : Addr} {evF esF : Nat → List Ev} {plug : Ks → Ks} {rest : List Addr} {mrest : List (Addr × List Nat)} {ps : List Str} {ks : Ks}

theorem nestOnly.pre (k : Str) (new : List Ev) : nestOnly (new.map (pre [k])) := fun e he hk => by
  obtain ⟨f, _, rfl⟩ := List.mem_map.mp he
  simp [Mine.pre] at hk
theorem At.root {B : Nat} {root : Ks} (hm : ∀ B, MKn B root (evF B)) (hd : DO prog w g a0 root.kvs) (ho : root.Ok prog w 0 g) (hn : (a0 :: root.fp).Nodup) : At prog w g a0 evF id a0 [] [] [] evF root where
  hole := ⟨fun _ => .refl _, fun _ => .refl _, fun g' X ks' _ _ h1 h2 => ⟨h1, h2⟩, fun B ks' new _ _ h => by
    have : new.map (pre []) = new := by rw [show pre [] = id from funext fun e => pre_nil e, List.map_id]
    rw [this]; exact h⟩
  mkn := hm
  dict := hd
  ok := ho
  nd := hn

theorem At.kp {X : Addr → Prop} (H : At prog w g a0 evF plug a rest mrest ps esF ks) (k : Kp X g g') (hx : ∀ b ∈ rest ++ (a :: ks.fp), ¬ X b) : At prog w g' a0 evF plug a rest mrest ps esF ks where
  hole := ⟨H.hole.perm, H.hole.mks, fun g'' Y ks' k' hy h1 h2 => H.hole.heap g'' (fun b => X b ∨ Y b) ks' ((k.weaken fun _ x => .inl x).trans (k'.weaken fun _ x => .inr x)) (fun b hb q => q.elim (hx b (List.mem_append_left _ hb)) (hy b hb)) h1 h2, H.hole.pure⟩
  mkn := H.mkn
  dict := H.dict.kp k (hx a (List.mem_append_right _ (.head _)))
  ok := Ks.Ok.kp k ks H.ok fun b hb => hx b (List.mem_append_right _ (.tail _ hb))
  nd := H.nd
theorem At.kp0 (H : At prog w g a0 evF plug a rest mrest ps esF ks) (k : Kp Nil g g') : At prog w g' a0 evF plug a rest mrest ps esF ks := H.kp k fun _ _ x => x

theorem At.dom (H : At prog w g a0 evF plug a rest mrest ps esF ks) : ∀ b ∈ rest ++ (a :: ks.fp), ∃ o, g.get? b = some o := fun b hb => by
  obtain ⟨h1, h2⟩ := H.hole.heap g Nil ks (.refl _) (fun _ _ x => x) H.dict H.ok
  have hm : b ∈ a0 :: (plug ks).fp := (H.hole.perm ks).mem_iff.mpr hb
  rcases List.mem_cons.mp hm with rfl | hm
  · obtain ⟨o, ho, _⟩ := h1.dom; exact ⟨o, ho⟩
  · obtain ⟨o, ho, _⟩ := (Ks.Ok.hd _ h2).dom b hm; exact ⟨o, ho⟩
theorem At.dictC (H : At prog w g a0 evF plug a rest mrest ps esF ks) {k : Str} {a' : Addr} {l : Ks} (hg : ks.get k = some (.dict a' l)) :
    At prog w g a0 evF (fun x => plug (ks.set k (.dict a' x))) a' (rest ++ (a :: ks.beside k)) (mrest ++ ks.besideM k) (ps ++ [k]) (fun B => tails k (esF B)) l := by
  have hT := H.ok.get hg
  have hp : (rest ++ (a :: ks.fp)).Perm ((rest ++ (a :: ks.beside k)) ++ (a' :: l.fp)) := by
    rw [List.append_assoc]
    refine List.Perm.append_left _ ?_
    rw [List.cons_append]
    exact (Ks.get_perm ks k _ hg).cons _
  refine ⟨⟨fun x => ?_, fun x => ?_, fun g' X x kk hx h1 h2 => ?_, fun B x new hne hno h1 => ?_⟩, fun B => ?_, hT.1, hT.2, hp.nodup_iff.mp H.nd⟩
  · refine (H.hole.perm _).trans ?_
    rw [List.append_assoc]
    refine List.Perm.append_left _ ?_
    rw [List.cons_append]
    exact (Ks.set_perm ks k _ _ hg).cons _
  · refine (H.hole.mks _).trans ?_
    rw [List.append_assoc]
    exact (Ks.set_mk ks k _ _ hg).append_left _
  · refine H.hole.heap g' X _ kk (fun b hb => hx b (List.mem_append_left _ hb)) ?_ ?_
    · rw [Ks.set_kvs ks k _ (.dict a' x) hg rfl]
      exact H.dict.kp kk (hx a (by simp))
    · exact Ks.Ok.set kk H.ok (fun b hb => hx b (by simp [hb])) ⟨h1, h2⟩
  · have h2 : MT B (.dict a' l) (tails k (esF B)) := (H.mkn B).2.2.get hg
    have := H.hole.pure B _ (new.map (pre [k])) (by simpa using hne) (nestOnly.pre k new) ((H.mkn B).set hg (h2.dict_ext h1))
    rwa [map_pre_pre] at this
  · exact ((H.mkn B).2.2.get hg).2

theorem At.listC (H : At prog w g a0 evF plug a rest mrest ps esF ks) {k : Str} {al a' : Addr} {ahead : List Value} {ds : List PyData} {as : List Addr} {r : Rs} {l : Ks} {marks : List Nat} (hg : ks.get k = some (.list al ahead ds as (r.snoc a' l) marks)) :
    At prog w g a0 evF (fun x => plug (ks.set k (.list al ahead ds as (r.snoc a' x) marks))) a' (rest ++ (a :: (ks.beside k ++ (al :: (as ++ r.fp))))) (mrest ++ (ks.besideM k ++ ((al, marks) :: r.mk))) (ps ++ [k]) (fun B => afterLast isMore (tails k (esF B))) l := by
  have hT := H.ok.get hg
  obtain ⟨hL, hA, hR⟩ := hT
  obtain ⟨hR1, hR2, hR3⟩ := hR.unsnoc
  have fpe : ∀ x : Ks, (T.list al ahead ds as (r.snoc a' x) marks).fp = (al :: (as ++ r.fp)) ++ (a' :: x.fp) := fun x => by simp only [T.fp, Rs.snoc_fp, List.cons_append, List.append_assoc]
  have mke : ∀ x : Ks, (T.list al ahead ds as (r.snoc a' x) marks).mk = ((al, marks) :: r.mk) ++ x.mk := fun x => by simp only [T.mk, Rs.snoc_mk, List.cons_append]
  have hp : (rest ++ (a :: ks.fp)).Perm ((rest ++ (a :: (ks.beside k ++ (al :: (as ++ r.fp))))) ++ (a' :: l.fp)) := by
    rw [List.append_assoc]
    refine List.Perm.append_left _ ?_
    rw [List.cons_append, List.append_assoc, ← fpe]
    exact (Ks.get_perm ks k _ hg).cons _
  have hlast : ∀ B, ∃ ess', rounds (tails k (esF B)) = ess' ++ [afterLast isMore (tails k (esF B))] := fun B => rounds_last (bar_list_snoc ((H.mkn B).2.2.get hg)).2
  have hext : ∀ B, MKn B l (afterLast isMore (tails k (esF B))) ∧ ∀ ks' new, nestOnly new → MKn B ks' (afterLast isMore (tails k (esF B)) ++ new) → MT B (.list al ahead ds as (r.snoc a' ks') marks) (tails k (esF B) ++ new) := fun B => by
    obtain ⟨ess', es', h1, h2, h3⟩ := MT.list_ext ((H.mkn B).2.2.get hg)
    obtain ⟨ess2, h4⟩ := hlast B
    rw [h4] at h1
    have : es' = afterLast isMore (tails k (esF B)) := by
      have := congrArg List.getLast? h1
      simpa using this.symm
    subst this
    exact ⟨h2, h3⟩
  refine ⟨⟨fun x => ?_, fun x => ?_, fun g' X x kk hx h1 h2 => ?_, fun B x new hne hno h1 => ?_⟩, fun B => (hext B).1, hR2, hR3, hp.nodup_iff.mp H.nd⟩
  · refine (H.hole.perm _).trans ?_
    rw [List.append_assoc]
    refine List.Perm.append_left _ ?_
    rw [List.cons_append, List.append_assoc, ← fpe]
    exact (Ks.set_perm ks k _ _ hg).cons _
  · refine (H.hole.mks _).trans ?_
    rw [List.append_assoc, List.append_assoc, ← mke]
    exact (Ks.set_mk ks k _ _ hg).append_left _
  · refine H.hole.heap g' X _ kk (fun b hb => hx b (List.mem_append_left _ hb)) ?_ ?_
    · rw [Ks.set_kvs ks k _ (.list al ahead ds as (r.snoc a' x) marks) hg rfl]
      exact H.dict.kp kk (hx a (by simp))
    · refine Ks.Ok.set kk H.ok (fun b hb => hx b (by simp [hb])) ⟨?_, HdAll.kp kk hA fun b hb => hx b (by simp [hb]), Rs.Ok.snoc (Rs.Ok.kp kk r hR1 fun b hb => hx b (by simp [hb])) h1 h2⟩
      obtain ⟨mv, q1, q2⟩ := hL
      refine ⟨mv, ?_, q2⟩
      rw [Rs.snoc_vals] at q1 ⊢
      exact kk.plain q1 (hx al (by simp))
  · have := H.hole.pure B _ (new.map (pre [k])) (by simpa using hne) (nestOnly.pre k new) ((H.mkn B).set hg ((hext B).2 x new hno h1))
    rwa [map_pre_pre] at this

theorem At.newC (H : At prog w g a0 evF plug a rest mrest ps esF ks) {k : Str} {a' : Addr} (hk : k ∉ ks.names) (kk : Kp (fun b => b = a) g g') (hd : DO prog w g' a (ks.kvs ++ [(k, .ref a')])) (hd' : DO prog w g' a' []) (hn : a' ∉ rest ++ (a :: ks.fp)) :
    At prog w g' a0 evF (fun x => plug (ks.snoc k (.dict a' x))) a' (rest ++ (a :: ks.fp)) (mrest ++ ks.mk) (ps ++ [k]) (fun _ => []) .nil := by
  have nd := H.nd
  have hra : ∀ b ∈ rest, b ≠ a := fun b hb q => by
    subst q
    exact (List.nodup_append.mp nd).2.2 b hb b (.head _) rfl
  have hka : ∀ b ∈ ks.fp, b ≠ a := fun b hb q => by
    subst q
    exact (List.nodup_cons.mp (List.nodup_append.mp nd).2.1).1 hb
  refine ⟨⟨fun x => ?_, fun x => ?_, fun g'' X x k2 hx h1 h2 => ?_, fun B x new hne hno h1 => ?_⟩, fun B => .nil, hd', trivial, ?_⟩
  · refine (H.hole.perm _).trans ?_
    rw [Ks.snoc_fp, List.append_assoc, List.cons_append]
    exact .refl _
  · refine (H.hole.mks _).trans ?_
    rw [Ks.snoc_mk, List.append_assoc]
    exact .refl _
  · refine H.hole.heap g'' (fun b => b = a ∨ X b) _ ((kk.weaken fun _ q => .inl q).trans (k2.weaken fun _ q => .inr q)) (fun b hb q => q.elim (hra b hb) (hx b (List.mem_append_left _ hb))) ?_ ?_
    · rw [Ks.snoc_kvs]
      exact hd.kp k2 (hx a (by simp))
    · refine Ks.Ok.snoc (Ks.Ok.kp ((kk.weaken fun _ q => .inl q).trans (k2.weaken fun _ q => .inr q)) ks H.ok fun b hb (q : b = a ∨ X b) => q.elim (hka b hb) (hx b (by simp [hb]))) ⟨h1, h2⟩
  · have := H.hole.pure B _ (new.map (pre [k])) (by simpa using hne) (nestOnly.pre k new) ((H.mkn B).snoc hk hne (MT.dict_new (a := a') hne hno (by simpa using h1)))
    rwa [map_pre_pre] at this
  · rw [List.nodup_append]
    refine ⟨nd, by simp [Ks.fp], fun b hb c hc => ?_⟩
    simp only [Ks.fp, List.mem_singleton] at hc
    subst hc
    exact fun q => hn (q ▸ hb)
theorem At.put (H : At prog w g a0 evF plug a rest mrest ps esF ks) {X : Addr → Prop} {ks' : Ks} {new : List Ev} (kk : Kp X g g') (hx : ∀ b ∈ rest, ¬ X b) (hd : DO prog w g' a ks'.kvs) (ho : ks'.Ok prog w 0 g') (hne : new ≠ []) (hno : nestOnly new) (hm : ∀ B, MKn B ks' (esF B ++ new)) (hn : (rest ++ (a :: ks'.fp)).Nodup) :
    (DO prog w g' a0 (plug ks').kvs ∧ (plug ks').Ok prog w 0 g') ∧ (∀ B, MKn B (plug ks') (evF B ++ new.map (pre ps))) ∧ (a0 :: (plug ks').fp).Nodup :=
  ⟨H.hole.heap g' X ks' kk hx hd ho, fun B => H.hole.pure B ks' new hne hno (hm B), (H.hole.perm ks').nodup_iff.mpr hn⟩
end
end PartL4
section PartL5
noncomputable def otherS (P : List Ev) : Bool := match P with
  | [] => false
  | e :: _ => decide (¬ e.key = []) || (decide (¬ e.kind = kMore) && !isListD e.val)
noncomputable def valOk (es : List Ev) : Prop := ∀ e ∈ es, e.kind = kNest → isListD e.val = false
theorem tails_val {k : Str} {es : List Ev} {e : Ev} (h : e ∈ tails k es) : ∃ f ∈ es, f.kind = e.kind ∧ f.val = e.val := by
  obtain ⟨f, hf, hq⟩ := List.mem_filterMap.mp h
  refine ⟨f, hf, ?_⟩
  unfold tail1 at hq
  split at hq
  · cases hq
  · split at hq
    · cases hq; exact ⟨rfl, rfl⟩
    · cases hq
theorem valOk.tails {k : Str} {es : List Ev} (h : valOk es) : valOk (tails k es) := fun e he hk => by
  obtain ⟨f, hf, h1, h2⟩ := tails_val he
  exact h2 ▸ h f hf (h1.trans hk)
theorem valOk.Pl {es : List Ev} (h : valOk es) (ps : List Str) : valOk (Pl es ps) := fun e he hk => by
  unfold Mine.Pl at he
  obtain ⟨f, hf, rfl⟩ := List.mem_map.mp he
  exact h f (aliveF_mem hf) hk
theorem valOk.Ql {es : List Ev} (h : valOk es) (ps : List Str) : valOk (Ql es ps) := fun e he hk => h.Pl ps e (afterLast_mem he) hk
section
variable {B : Nat} {P : List Ev}
theorem other_leaf {v : Value} {d : PyData} {as : List Addr} (h : MT B (.leaf v d as) P) : otherS P = true := by
  obtain ⟨e, r, rfl, h1, h2, h3, h4, h5⟩ := h
  have hk : ¬ e.kind = kMore := by rw [h2]; decide
  unfold otherS
  simp [h1, hk, h3, h4]
theorem other_dict {a : Addr} {ks : Ks} (h : MT B (.dict a ks) P) (hv : valOk P) : otherS P = true := by
  obtain ⟨⟨e, r, rfl, h1⟩, _⟩ := h
  unfold otherS
  rcases h1 with h1 | h1
  · simp [h1]
  · have hk : ¬ e.kind = kMore := by rw [h1]; decide
    simp [hk, hv e (.head _) h1]
theorem other_list {a : Addr} {ahead : List Value} {ds : List PyData} {as : List Addr} {rs : Rs} {marks : List Nat} (h : MT B (.list a ahead ds as rs marks) P) : otherS P = false := by
  obtain ⟨⟨e, r, rfl, h1, h2⟩, _⟩ := h
  unfold otherS
  rcases h2 with ⟨h2, h3, _⟩ | ⟨h2, _⟩
  · simp [h1, h3, isListD]
  · simp [h1, h2]
end
theorem other_eq (evs : List Ev) (key : List Str) : otherS (Pl evs key) = match aliveF evs key with
    | [] => false
    | e :: _ => decide (¬ e.key = key) || (decide (¬ e.kind = kMore) && !isListD e.val) := by
  unfold Pl
  cases h : aliveF evs key with
  | nil => rfl
  | cons e r =>
    have hm : e ∈ aliveF evs key := by rw [h]; exact .head _
    have := drop_nil_iff (aliveF_key hm)
    show (decide (¬ e.key.drop key.length = []) || _) = _
    rw [decide_eq_decide.mpr (not_congr this)]
    rfl

structure Tree (prog : Program) (w : World) (h : Heap) (a0 : Addr) (root : Ks) (evF : Nat → List Ev) : Prop where
  mkn : ∀ B, MKn B root (evF B)
  dict : DO prog w h a0 root.kvs
  ok : root.Ok prog w 0 h
  nd : (a0 :: root.fp).Nodup
structure Grown (h0 : Heap) (a0 : Addr) (root root' : Ks) : Prop where
  fr : ∀ b ∈ root'.fp, b ∈ a0 :: root.fp ∨ h0.get? b = none
  mk1 : ∀ p ∈ root'.mk, p ∈ root.mk ∨ (p.2 = [] ∧ h0.get? p.1 = none)
  mk2 : ∀ p ∈ root.mk, p ∈ root'.mk
theorem Tree.at {prog : Program} {w : World} {h : Heap} {a0 : Addr} {root : Ks} {evF : Nat → List Ev} (t : Tree prog w h a0 root evF) : At prog w h a0 evF id a0 [] [] [] evF root := At.root (B := 0) t.mkn t.dict t.ok t.nd
theorem Tree.kp {prog : Program} {w : World} {h h' : Heap} {a0 : Addr} {root : Ks} {evF : Nat → List Ev} {X : Addr → Prop} (t : Tree prog w h a0 root evF) (k : Kp X h h') (hx : ∀ b ∈ a0 :: root.fp, ¬ X b) : Tree prog w h' a0 root evF :=
  ⟨t.mkn, t.dict.kp k (hx _ (.head _)), Ks.Ok.kp k _ t.ok fun b hb => hx b (.tail _ hb), t.nd⟩
theorem Tree.kp0 {prog : Program} {w : World} {h h' : Heap} {a0 : Addr} {root : Ks} {evF : Nat → List Ev} (t : Tree prog w h a0 root evF) (k : Kp Nil h h') : Tree prog w h' a0 root evF := t.kp k fun _ _ x => x

section
variable {prog : Program} {w : World} {g g' : Heap} {a0 a : Addr} {evF esF newF : Nat → List Ev} {plug : Ks → Ks} {rest : List Addr} {mrest : List (Addr × List Nat)} {ps : List Str} {ks : Ks}
theorem At.putF (H : At prog w g a0 evF plug a rest mrest ps esF ks) {X : Addr → Prop} {ks' : Ks} (kk : Kp X g g') (hx : ∀ b ∈ rest, ¬ X b) (hd : DO prog w g' a ks'.kvs) (ho : ks'.Ok prog w 0 g') (hne : ∀ B, newF B ≠ []) (hno : ∀ B, nestOnly (newF B)) (hm : ∀ B, MKn B ks' (esF B ++ newF B)) (hn : (rest ++ (a :: ks'.fp)).Nodup) :
    Tree prog w g' a0 (plug ks') (fun B => evF B ++ (newF B).map (pre ps)) :=
  let ⟨h1, h2⟩ := H.hole.heap g' X ks' kk hx hd ho
  ⟨fun B => H.hole.pure B ks' (newF B) (hne B) (hno B) (hm B), h1, h2, (H.hole.perm ks').nodup_iff.mpr hn⟩
theorem At.grown (H : At prog w g a0 evF plug a rest mrest ps esF ks) {h0 : Heap} {root ks' : Ks} (hf : ∀ b ∈ rest ++ (a :: ks.fp), b ∈ a0 :: root.fp ∨ h0.get? b = none) (hm : (mrest ++ ks.mk).Perm root.mk)
    (h1 : ∀ b ∈ ks'.fp, b ∈ ks.fp ∨ h0.get? b = none) (h2 : ∀ p ∈ ks'.mk, p ∈ ks.mk ∨ (p.2 = [] ∧ h0.get? p.1 = none)) (h3 : ∀ p ∈ ks.mk, p ∈ ks'.mk) : Grown h0 a0 root (plug ks') where
  fr b hb := by
    have : b ∈ rest ++ (a :: ks'.fp) := (H.hole.perm ks').mem_iff.mp (.tail _ hb)
    rcases List.mem_append.mp this with q | q
    · exact hf b (List.mem_append_left _ q)
    · rcases List.mem_cons.mp q with rfl | q
      · exact hf b (List.mem_append_right _ (.head _))
      · exact (h1 b q).elim (fun q => hf b (List.mem_append_right _ (.tail _ q))) .inr
  mk1 p hp := by
    rcases List.mem_append.mp ((H.hole.mks ks').mem_iff.mp hp) with q | q
    · exact .inl (hm.mem_iff.mp (List.mem_append_left _ q))
    · exact (h2 p q).imp (fun q => hm.mem_iff.mp (List.mem_append_right _ q)) id
  mk2 p hp := by
    refine (H.hole.mks ks').mem_iff.mpr ?_
    rcases List.mem_append.mp (hm.mem_iff.mpr hp) with q | q
    · exact List.mem_append_left _ q
    · exact List.mem_append_right _ (h3 p q)
end
theorem MT.one {B : Nat} {a6 a5 : Addr} {v : PyData} : MT B (.list a6 [] [] [] (.cons a5 .nil .nil) []) [⟨[], kMore, v⟩] :=
  ⟨⟨_, [], rfl, rfl, .inr ⟨rfl, rfl⟩⟩, ⟨[], [], rfl, ⟨rfl, fun _ h => (nomatch h), trivial⟩, rfl⟩, rfl⟩
end PartL5
section PartA1
set_option maxHeartbeats 2000000 in
theorem alive_spec {w : World} {A : Around} {s : Shared} {H0 : Heap} {mg mb : Str → Option Value} (C : Cx w H0 mg mb) (hH : Sub H0 s.heap) (hd : A.depth < recursionLimit) (hh : A.handled = none) (hu : A.units + 200 < cLine)
    {N : Addr → Prop} {ev pl : Value} {evs : List Ev} {ps : List Str} (he : Rd N s.heap ev (.list (evs.map Ev.d))) (hp : Rd Nil s.heap pl (keyD ps)) (hz : evs.length ≤ 10000) (ok : ∀ e ∈ evs, keyOk e.key) (okp : keyOk ps) {Q E : Value → Shared → Prop}
    (hq : ∀ h' tk' a vs, Sub s.heap h' → s.heap.get? a = none → h'.PlainList a (List.toArray vs) → Rds N h' vs ((aliveF evs ps).map Ev.d) → Q (.ref a) { s with heap := h', toks := tk' }) : wpAny (model prog w) A (call (.ref 76) [ev, pl]) Q E s := by
  refine enterR (X := Nil) (binds := [(Str.ofString "events", ev), (Str.ofString "place", pl)]) hH hd (C.K _ _ rfl) C.G.lim (codeRec_of C.K rfl) (BindsTo.of_eq rfl) rfl ?_
  intro L h₁ tk₁ F
  have hul : A.units + 3 + 100 < cLine := by omega
  obtain ⟨ea, es, rfl, hel, hes, hNe⟩ := he.listInv
  obtain ⟨pa, pv, rfl, hpt, hps⟩ := hp.tupInv
  have hplen : pv.length = ps.length := by rw [hps.length, List.length_map]
  have helen : es.length = evs.length := by rw [hes.length, List.length_map]
  have hzp : ps.length ≤ 10000 := Nat.le_trans okp.2 (by decide)
  have zl : (10000 : Nat) ≤ sizeLine := by rw [sizeLine_eq]; omega
  walk_at "R"
  refine lenTup (by exact F.keepG.tup hpt) (by omega) ?_
  intro t₂ tk₂
  walk_at "R"
  rename_i r₃ h₃ _ _ _ _ F₃ k₃ _ hr₃
  rw [hplen] at hr₃
  refine compRange Nil (fun i g ys => Rds Nil g ys ((List.range i).map fun k => keyD (ps.take k))) ⟨by decide, rfl, rfl, by walk_at "CL"⟩ hr₃ (smallUp _ 0 (by omega) (by decide)) (sizeUp _ 0) F₃ .nil (by omega) .nil (fun i g g' ys r k => r.imm k) ?_ ?_ hh
  · intro i v tk ys C' h₄ tk₄ E' hi hv k₄ hj _ F₄
    obtain rfl : v = (i : Int) := by omega
    walk_at "R"
    refine tupSlice (vs := pv) 0 (min i pv.length) ((min i pv.length : Nat)) F₄ rfl (k₄.tup (k₃.tup hpt)) .none (.int _ _) (adj_upto i _) (by rw [places_is]; omega) (by omega) ?_
    intro r h₅ F₅ k₅ s₅ t₅
    refine ⟨_, _, _, rfl, F₅, k₅, ?_⟩
    rw [List.range_succ, List.map_append]
    refine (hj.imm k₅).append (.cons (Rd.tupOf t₅ ?_) .nil)
    have e1 : (pv.drop 0).take (min i pv.length) = pv.take i := by rw [List.drop_zero, ← List.take_eq_take_min]
    rw [e1, List.map_take]
    exact ((((hps.imm k₃).imm k₄).imm k₅).take i)
  intro h₄ tk₄ D ys F₄ k₄ _ hD hl₄ _ hys
  have hahead : ((List.range (ps.length - 0)).map fun k => keyD (ps.take k)) = (begins ps).map keyD := by unfold begins; rw [List.map_map, Nat.sub_zero]; rfl
  rw [hahead] at hys
  walk_at "R"
  rename_i h₆ F₆ b₅ h₅ F₅ k₅ s₅ _ hb₅
  have Kall : Kp Nil s.heap h₅ := k₃.trans (k₄.trans k₅)
  refine lenList (by exact Kall.list hel (fun x => x)) (by omega) ?_
  intro t₆ tk₆
  rw [helen]
  walk_at "R"
  rename_i r₇ h₇ _ _ _ _ F₇ k₇ _ hr₇
  have cutP : ∀ i : Nat, (evs[i]?).any (cuts ps) = true ↔ ∃ x, evs[i]? = some x ∧ cuts ps x = true := fun i => by rw [Option.any_eq_true]
  refine compRange Nil (fun i g ys => Ints ys (((List.range i).filter fun j => (evs[j]?).any (cuts ps)).map fun (j : Nat) => (j : Int) + 1)) ⟨by decide, rfl, rfl, by walk_at "CL"⟩ hr₇ (smallUp _ 0 (by omega) (by decide)) (sizeUp _ 0) F₇ .nil (by omega) .nil (fun i g g' ys r k => r) ?_ ?_ hh
  · intro i v tk ys C' h₈ tk₈ E' hi hv k₈ hj _ F₈
    obtain rfl : v = (i : Int) := by omega
    have hlt : i < evs.length := by omega
    have K8 := Kall.trans (k₇.trans k₈)
    have hel8 := K8.list hel (fun x => x)
    have hes8 := hes.kp0 K8
    obtain ⟨x, hx⟩ : ∃ x, evs[i]? = some x := ⟨evs[i], by simp [hlt]⟩
    obtain ⟨xv, hxv, hxr⟩ := hes8.at (d := x.d) (i := i) (by simp [hx])
    obtain ⟨xa, xs, rfl, hxt, hxs⟩ := hxr.tupInv
    obtain ⟨v0, hv0, r0⟩ := hxs.at (i := 0) rfl
    obtain ⟨v1, hv1, r1⟩ := hxs.at (i := 1) rfl
    obtain ⟨t1, rfl⟩ := r1.strInv
    have hfil : ((List.range (i + 1)).filter fun j => (evs[j]?).any (cuts ps)) = ((List.range i).filter fun j => (evs[j]?).any (cuts ps)) ++ if cuts ps x = true then [i] else [] := by
      rw [List.range_succ, List.filter_append]
      congr 1
      rw [List.filter_cons, hx]
      simp
    have hbound : (i : Int) < 2 ^ 62 := by omega
    walk_at "R"
    refine listAt hel8 (by omega) (by simpa using hxv) (by omega) ?_
    walk_at "R"
    refine item_tupleT hxt (by decide) (by decide) (j := 1) (by have := hxs.length; unfold seqIndex?; simp [this]) hv1 ?_
    walk_at "R"
    by_cases hm : x.kind = kMore
    · rw [if_pos (decide_eq_true hm)]
      walk_at "R"
      refine listAt hel8 (by omega) (by simpa using hxv) (by omega) ?_
      walk_at "R"
      refine item_tupleT hxt (by decide) (by decide) (j := 0) (by have := hxs.length; unfold seqIndex?; simp [this]) hv0 ?_
      walk_at "R"
      have kk : Kp Nil h₄ h₈ := k₅.trans (k₇.trans k₈)
      have rahead : Rd (fun _ => True) h₈ (.ref D) (.list ((begins ps).map keyD)) := Rd.listOf (kk.list hl₄.isList (fun x => x)) ((hys.imm kk).mono fun _ x => x.elim) trivial
      refine inRd rahead r0 (canLay_keys fun k hk => ?_) (depthOk_key (ok x (List.mem_of_getElem? hx))) (by exact hul) ?_
      · obtain ⟨j, _, rfl⟩ := List.mem_map.mp hk; exact okp.take j
      rw [any_keys]
      by_cases hk : x.key ∈ begins ps
      · have hc : cuts ps x = true := by unfold cuts; simp [hm, hk]
        rw [decide_eq_true hk]
        walk_at "R"
        refine ⟨_, _, _, rfl, F₈, .refl _, ?_⟩
        rw [hfil, if_pos hc, List.map_append]
        exact hj.snoc _ _
      · have hc : cuts ps x = false := by unfold cuts; simp [hk]
        rw [decide_eq_false hk]
        walk_at "R"
        refine ⟨_, _, _, rfl, F₈, .refl _, ?_⟩
        rw [hfil, if_neg (by simp [hc]), List.append_nil]
        exact hj
    · have hc : cuts ps x = false := by unfold cuts; simp [hm]
      rw [if_neg (by simpa using hm)]
      walk_at "R"
      refine ⟨_, _, _, rfl, F₈, .refl _, ?_⟩
      rw [hfil, if_neg (by simp [hc]), List.append_nil]
      exact hj
  intro h₈ tk₈ D₈ ys₈ F₈ k₈ _ hD₈ hl₈ hlen₈ hi₈
  refine addLists F₈ (vs := [_]) ((k₇.trans k₈).list hb₅.isList (fun x => x)) hl₈.isList ?_ (by have := hlen₈; simp only [List.length_cons, List.length_nil]; rw [sizeLine_eq]; omega)
  intro r₉ h₉ F₉ k₉ s₉ _ hl₉
  walk_at "R"
  refine maxInts (ns := 0 :: _) (by exact hh) F₉ hl₉.isList (.cons hi₈) (by simp) ?_
  intro h₁₀ M tM tk₁₀ F₁₀ k₁₀ s₁₀ hM hMax
  walk_at "R"
  rename_i h₁₁ F₁₁
  have Kall2' : Kp Nil s.heap h₁₀ := Kall.trans (k₇.trans (k₈.trans (k₉.trans k₁₀)))
  have Kall2 := Kall2'.trans F₁₁.keepG
  have h0M : 0 ≤ M := hMax 0 (.head _)
  obtain ⟨M, rfl⟩ := Int.eq_ofNat_of_zero_le h0M
  have hdrop : evs.drop M = afterLast (cuts ps) evs := by
    refine afterLast_drop _ _ _ ?_ fun i x hx hp => ?_
    · rcases List.mem_cons.mp hM with hM | hM
      · exact .inl (by omega)
      · obtain ⟨j, hj, hjM⟩ := List.mem_map.mp hM
        obtain ⟨_, hj2⟩ := List.mem_filter.mp hj
        obtain ⟨x, hx, hp⟩ := (cutP j).mp hj2
        have : M - 1 = j := by omega
        exact .inr ⟨x, by rw [this]; exact hx, hp, by omega⟩
    · have hlt : i < evs.length := (List.getElem?_eq_some_iff.mp hx).1
      have := hMax ((i : Int) + 1) (.tail _ (List.mem_map.mpr ⟨i, List.mem_filter.mpr ⟨List.mem_range.mpr (by omega), (cutP i).mpr ⟨x, hx, hp⟩⟩, rfl⟩))
      omega
  refine listFrom (vs := es) F₁₁ rfl (Kall2.list hel (fun x => x)) (by omega) ?_
  intro r₁₂ h₁₂ F₁₂ k₁₂ s₁₂ n₁₂ hl₁₂
  have K12 := Kall2'.trans k₁₂
  have hes12 : Rds N h₁₂ (es.drop M) ((afterLast (cuts ps) evs).map Ev.d) := by rw [← hdrop, List.map_drop]; exact (hes.kp0 K12).drop M
  have hlen12 : (es.drop M).length = (afterLast (cuts ps) evs).length := by rw [hes12.length, List.length_map]
  refine compList Nil (fun i g ys => Rds (In N h₁₂) g ys ((((afterLast (cuts ps) evs).take i).filter fun (e : Ev) => decide (e.key.take ps.length = ps)).map Ev.d)) ⟨by decide, rfl, rfl, by walk_at "CL"⟩ hl₁₂.isList F₁₂ (fun x => x) .nil (by simp; omega) .nil (fun i g g' ys r k => r.kp k in_three) ?_ ?_ hh
  · intro i v ys C' h₁₃ tk₁₃ E' hi k₁₃ hj _ F₁₃
    have hes13 := hes12.dom.kp0 k₁₃
    have K13 := K12.trans k₁₃
    obtain ⟨d, hd, hr⟩ := hes13.get hi
    obtain ⟨x, hx, rfl⟩ : ∃ x, (afterLast (cuts ps) evs)[i]? = some x ∧ x.d = d := by
      rw [List.getElem?_map] at hd
      obtain ⟨x, h1, h2⟩ := Option.map_eq_some_iff.mp hd
      exact ⟨x, h1, h2⟩
    have hxm : x ∈ evs := by
      rw [← hdrop] at hx
      exact List.mem_of_mem_drop (List.mem_of_getElem? hx)
    have htk : (afterLast (cuts ps) evs).take (i + 1) = (afterLast (cuts ps) evs).take i ++ [x] := by rw [List.take_add_one, hx]; rfl
    obtain ⟨xa, xs, rfl, hxt, hxs⟩ := hr.tupInv
    obtain ⟨v0, hv0, r0⟩ := hxs.at (i := 0) rfl
    obtain ⟨ka, kv, rfl, hkt, hks⟩ := r0.tupInv
    have hklen : kv.length ≤ 10000 := by have := (ok x hxm).2; rw [hks.length, List.length_map]; omega
    walk_at "R"
    refine item_tupleT hxt (by decide) (by decide) (j := 0) (by have := hxs.length; unfold seqIndex?; simp [this]) hv0 ?_
    walk_at "R"
    refine lenTup (by exact K13.tup hpt) (by omega) ?_
    intro t₁₄ tk₁₄
    rw [hplen]
    walk_at "R"
    refine tupSlice (vs := kv) 0 (min ps.length kv.length) ((min ps.length kv.length : Nat)) F₁₃ rfl hkt .none (.int _ _) (adj_upto _ _) (by rw [places_is]; omega) (by omega) ?_
    intro r₁₄ h₁₄ F₁₄ k₁₄ s₁₄ t₁₄'
    walk_at "R"
    have e1 : (kv.drop 0).take (min ps.length kv.length) = kv.take ps.length := by rw [List.drop_zero, ← List.take_eq_take_min]
    rw [e1] at t₁₄'
    refine eqRd (da := keyD (x.key.take ps.length)) (db := keyD ps) (Rd.tupOf t₁₄' (by rw [List.map_take]; exact (hks.kp0 k₁₄).take _)) (hp.imm (K13.trans k₁₄)) (depthOk_key ((ok x hxm).take _)) (depthOk_key okp) (by exact hul) ?_
    rw [eqv_key]
    walk_at "R"
    by_cases hk : x.key.take ps.length = ps
    · rw [decide_eq_true hk]
      walk_at "R"
      refine ⟨_, _, _, rfl, F₁₄, k₁₄, ?_⟩
      rw [htk, List.filter_append, List.map_append]
      refine (hj.kp0 k₁₄).append ?_
      rw [List.filter_cons, if_pos (decide_eq_true hk)]
      exact .cons (hr.kp0 k₁₄) .nil
    · rw [decide_eq_false hk]
      walk_at "R"
      refine ⟨_, _, _, rfl, F₁₄, k₁₄, ?_⟩
      rw [htk, List.filter_append, List.filter_cons, if_neg (by simpa using hk), List.filter_nil, List.append_nil]
      exact hj.kp0 k₁₄
  intro h₁₃ tk₁₃ D₁₃ ys₁₃ F₁₃ k₁₃ _ hD₁₃ hl₁₃ _ hj₁₃
  rw [List.take_of_length_le (by omega)] at hj₁₃
  exact hq _ _ _ _ F₁₃.sub (F₁₂.sub.none hD₁₃) hl₁₃ (hj₁₃.mono fun _ x => x.1)
end PartA1
section PartA2
set_option maxHeartbeats 4000000 in
theorem bar_spec {w : World} {A : Around} {s : Shared} {H0 : Heap} {mg mb : Str → Option Value} (C : Cx w H0 mg mb) (hH : Sub H0 s.heap) (hd : A.depth + 2 < recursionLimit) (hh : A.handled = none) (hu : A.units + 300 < cLine)
    {N : Addr → Prop} {ev wv : Value} {evs : List Ev} {way : List Str} {lists : Bool} (he : Rd N s.heap ev (.list (evs.map Ev.d))) (hp : Rd Nil s.heap wv (keyD way)) (hz : evs.length ≤ 10000) (ok : ∀ e ∈ evs, keyOk e.key) (okv : ∀ e ∈ evs, isListD e.val = true ∨ e.val = .none ∨ e.kind = kThing) (okp : keyOk way) {Q E : Value → Shared → Prop}
    (hq : ∀ h' tk' t, Sub s.heap h' → Q (.str (barF evs way lists) t) { s with heap := h', toks := tk' }) : wpAny (model prog w) A (call (.ref 81) [ev, wv, .bool lists]) Q E s := by
  refine enterR (X := Nil) (binds := [(Str.ofString "events", ev), (Str.ofString "way", wv), (Str.ofString "lists", .bool lists)]) hH (by omega) (C.K _ _ rfl) C.G.lim (codeRec_of C.K rfl) (BindsTo.of_eq rfl) rfl ?_
  intro L h₁ tk₁ F
  obtain ⟨wa, wvs, rfl, hwt, hws⟩ := hp.tupInv
  have hwlen : wvs.length = way.length := by rw [hws.length, List.length_map]
  have zl : (10000 : Nat) ≤ sizeLine := by rw [sizeLine_eq]; omega
  have hwz : way.length ≤ 1000 := okp.2
  walk_at "R"
  refine lenTup (by exact F.keepG.tup hwt) (by omega) ?_
  intro t₂ tk₂
  rw [hwlen]
  walk_at "R"
  rename_i r₃ h₃ _ _ _ _ F₃ k₃ _ hr₃
  have he3 := (he.kp0 k₃).dom
  have hp3 := hp.imm k₃
  have e0 : ((way.length : Int) + 1) = ((way.length + 1 : Nat) : Int) := by omega
  rw [e0] at hr₃
  refine forRange Nil (fun i g m => m (Str.ofString "events") = some ev ∧ m (Str.ofString "way") = some (.ref wa) ∧ m (Str.ofString "lists") = some (.bool lists) ∧ ∀ j, j < i → barAt evs way lists (j + 1) = none) (a := ((1 : Nat) : Int)) hr₃ (smallUp _ 1 (by omega) (by decide)) (sizeUp _ 1) F₃ (fun _ _ x => x.elim) ⟨rfl, rfl, rfl, fun j hj => absurd hj (Nat.not_lt_zero _)⟩ (fun i g g' m j k => j) ?_ ?_ (by exact hh) .never (cellsOkQ (by decide))
  · rintro i v tk e' g₁ h₄ m₁ tk₄ hi hv k₄ ⟨hm1, hm2, hm3, hJ⟩ F₄ _
    obtain rfl : v = ((i + 1 : Nat) : Int) := by omega
    have he4 : Rd N g₁ ev (.list (evs.map Ev.d)) := (he3.kp k₄ in_loose).mono fun _ x => x.1
    have hp4 := hp3.imm k₄
    have hwt4 := k₄.tup (k₃.tup hwt)
    unfold TurnP
    walk_at "R"
    rename_i h₅ F₅
    refine callFn (C.K _ _ rfl) rfl ?_
    walk_at "R"
    refine tupSlice (vs := wvs) 0 (min (i + 1) wvs.length) ((min (i + 1) wvs.length : Nat)) F₅ rfl (F₅.keepG.tup hwt4) .none (.int _ _) (adj_upto _ _) (by rw [places_is]; omega) (by omega) ?_
    intro r₆ h₆ F₆ k₆ s₆ t₆
    walk_at "R"
    have e1 : (wvs.drop 0).take (min (i + 1) wvs.length) = wvs.take (i + 1) := by rw [List.drop_zero, ← List.take_eq_take_min]
    rw [e1] at t₆
    have hpl : Rd Nil h₆ (.ref r₆) (keyD (way.take (i + 1))) := Rd.tupOf t₆ (by rw [List.map_take]; exact ((hws.imm (k₃.trans (k₄.loop.trans k₆))).take _))
    refine ⟨F₆.vw.old, alive_spec (N := In N g₁) C F₆.vw.old (dpt0 hd (by decide)) (by exact hh) (unt hu (by decide)) (he4.dom.kp0 k₆) hpl hz ok (okp.take _) ?_⟩
    intro h₇ tk₇ a₇ vs₇ s₇ n₇ l₇ r₇
    have F₇ := F₆.ext s₇
    walk_at "R"
    rename_i h₈ F₈ b₉ h₉ F₉ k₉ s₉ n₉ l₉
    refine eqEmpty (k₉.list l₇.isList (fun x => x)) l₉.isList (unt hu (by decide)) ?_
    walk_at "R"
    have hlen7 : vs₇.length = (aliveF evs (way.take (i + 1))).length := by rw [r₇.length, List.length_map]
    have hal7 : (aliveF evs (way.take (i + 1))).length ≤ 10000 := Nat.le_trans aliveF_length hz
    cases hal : aliveF evs (way.take (i + 1)) with
    | nil =>
      have hv : vs₇ = [] := by rw [hal] at hlen7; exact List.eq_nil_of_length_eq_zero hlen7
      rw [if_pos (decide_eq_true hv)]
      walk_at "R"
      have hb : barAt evs way lists (i + 1) = some (Str.ofString "") := by unfold barAt; rw [hal]
      exact ⟨_, _, _, _, rfl, F₉, (k₆.trans (s₇.kp.trans k₉)).weaken fun _ x => x.elim, fun F'' _ => by rw [← barF_at hi hJ hb]; exact hq _ _ _ F''.sub⟩
    | cons x al =>
      rw [hal] at r₇ hlen7 hal7
      have hxm : x ∈ evs := aliveF_mem (ps := way.take (i + 1)) (by rw [hal]; exact .head _)
      have hv : vs₇ ≠ [] := by intro q; rw [q] at hlen7; simp at hlen7
      rw [if_neg (by simpa using hv)]
      obtain ⟨v0, hv0, r0⟩ := r₇.evAt (i := 0) rfl
      obtain ⟨xa, kv, tkk, tv, rfl, hxt, hkv, htv⟩ := evInv r0
      walk_at "R"
      refine listAt (k₉.list l₇.isList (fun x => x)) (by decide) hv0 (by omega) ?_
      walk_at "R"
      refine unpackTup F₉ (k₉.tup hxt) (by exact hh) rfl ?_
      intro h₁₀ F₁₀ k₁₀ s₁₀
      walk_at "R"
      rename_i h₁₁ F₁₁ h₁₂ F₁₂ h₁₃ F₁₃
      have kw : Kp Nil h₃ h₁₃ := k₄.loop.trans (k₆.trans (s₇.kp.trans (k₉.trans (k₁₀.trans F₁₃.keepG))))
      refine tupSlice (vs := wvs) 0 (min (i + 1) wvs.length) ((min (i + 1) wvs.length : Nat)) F₁₃ rfl (kw.tup (k₃.tup hwt)) .none (.int _ _) (adj_upto _ _) (by rw [places_is]; omega) (by omega) ?_
      intro r₁₄ h₁₄ F₁₄ k₁₄ s₁₄ t₁₄
      walk_at "R"
      rw [e1] at t₁₄
      refine neRd (da := keyD x.key) (db := keyD (way.take (i + 1))) (hkv.imm (k₉.trans (k₁₀.trans k₁₄))) (Rd.tupOf t₁₄ (by rw [List.map_take]; exact (hws.imm (k₃.trans (k₄.loop.trans (k₆.trans (s₇.kp.trans (k₉.trans (k₁₀.trans k₁₄))))))).take _)) (depthOk_key (ok x hxm)) (depthOk_key (okp.take _)) (unt hu (by decide)) ?_
      rw [eqv_key]
      have Kt : Kp Nil g₁ h₁₄ := k₆.trans (s₇.kp.trans (k₉.trans (k₁₀.trans k₁₄)))
      by_cases c1 : x.key = way.take (i + 1)
      · rw [decide_eq_true c1]
        walk_at "R"
        by_cases c2 : x.kind = kNest
        · rw [if_pos (decide_eq_true c2)]
          walk_at "R"
          have hb : barAt evs way lists (i + 1) = none := by unfold barAt; rw [hal]; exact if_pos (.inr c2)
          refine ⟨_, _, _, _, rfl, F₁₄, Kt.weaken fun _ x => x.elim, hm1, hm2, hm3, fun j hj => ?_⟩
          rcases Nat.lt_succ_iff_lt_or_eq.mp hj with hj | rfl
          · exact hJ j hj
          · exact hb
        · rw [if_neg (by simpa using c2)]
          walk_at "S"
          try dsimp only
          walk_at "S"
          try dsimp only
          walk_at "S"
          try dsimp only
          walk_at "S"
          try dsimp only
          walk_at "S"
          try dsimp only
          refine cutB (decide ((x.kind = kThing ∧ isListD x.val = false) ∨ lists = false)) (fun Q' hQ' => ?_) ?_
          · by_cases c3 : x.kind = kThing
            · walk_at "R"
              rw [if_pos (decide_eq_true c3)]
              walk_at "R"
              refine isiList (htv.kp0 (k₉.trans (k₁₀.trans k₁₄))) ?_
              intro tk₁₅
              walk_at "R"
              cases hl : isListD x.val with
              | false =>
                walk_at "R"
                have e2 : decide ((x.kind = kThing ∧ isListD x.val = false) ∨ lists = false) = true := decide_eq_true (.inl ⟨c3, hl⟩)
                rw [e2] at hQ'
                exact hQ' _
              | true =>
                walk_at "R"
                cases lists with
                | true =>
                  walk_at "R"
                  have e2 : decide ((x.kind = kThing ∧ isListD x.val = false) ∨ true = false) = false := by rw [hl]; simp
                  rw [e2] at hQ'
                  exact hQ' _
                | false =>
                  walk_at "R"
                  have e2 : decide ((x.kind = kThing ∧ isListD x.val = false) ∨ false = false) = true := by simp
                  rw [e2] at hQ'
                  exact hQ' _
            · walk_at "R"
              rw [if_neg (by simpa using c3)]
              walk_at "R"
              cases lists with
              | true =>
                walk_at "R"
                have e2 : decide ((x.kind = kThing ∧ isListD x.val = false) ∨ true = false) = false := by simp [c3]
                rw [e2] at hQ'
                exact hQ' _
              | false =>
                walk_at "R"
                have e2 : decide ((x.kind = kThing ∧ isListD x.val = false) ∨ false = false) = true := by simp
                rw [e2] at hQ'
                exact hQ' _
          · intro tk₁₅
            by_cases c4 : (x.kind = kThing ∧ isListD x.val = false) ∨ lists = false
            · rw [decide_eq_true c4]
              walk_at "R"
              have hb : barAt evs way lists (i + 1) = some noNest := by unfold barAt; rw [hal]; exact (if_neg (fun q => q.elim (fun q => q c1) c2)).trans (if_pos c4)
              refine ⟨_, _, _, _, rfl, F₁₄, Kt.weaken fun _ x => x.elim, fun F'' _ => ?_⟩
              have := hq _ (tk₁₅ + 1) tk₁₅ F''.sub
              rw [barF_at hi hJ hb] at this
              exact this
            · rw [decide_eq_false c4]
              walk_at "R"
              have K14 : Kp Nil h₇ h₁₄ := k₉.trans (k₁₀.trans k₁₄)
              have l14 := K14.list l₇.isList (fun x => x)
              have r14 := (r₇.dom.kp0 K14).dom
              have kt14 : IsTup h₁₄ wa wvs.toArray := Kt.tup hwt4
              have kw14 : Rds Nil h₁₄ wvs (way.map .str) := hws.imm (k₃.trans (k₄.loop.trans Kt))
              let Pm : Ev → Bool := fun o => decide (o.key = way.take (i + 1)) && decide (o.kind = kMore)
              refine compList Nil (fun j g ys => ys.length = (((x :: al).take j).filter Pm).length) ⟨by decide, rfl, rfl, by walk_at "CL"⟩ l14 F₁₄ (fun x => x) .nil (by omega) rfl (fun i g g' ys r k => r) ?_ ?_ (by exact hh)
              · intro j v ys C' h₁₅ tk₁₆ E' hj k₁₅ hJ2 _ F₁₅
                obtain ⟨d, hd, hr⟩ := (r14.kp0 k₁₅).get hj
                obtain ⟨o, ho, rfl⟩ : ∃ o, (x :: al)[j]? = some o ∧ o.d = d := by
                  rw [List.getElem?_map] at hd
                  obtain ⟨x, h1, h2⟩ := Option.map_eq_some_iff.mp hd
                  exact ⟨x, h1, h2⟩
                have hom : o ∈ evs := aliveF_mem (ps := way.take (i + 1)) (by rw [hal]; exact List.mem_of_getElem? ho)
                have htk : (x :: al).take (j + 1) = (x :: al).take j ++ [o] := by rw [List.take_add_one, ho]; rfl
                obtain ⟨oa, ok1, okt, ov, rfl, hot, hok, hov⟩ := evInv hr
                walk_at "R"
                refine item_tupleT hot (by decide) (by decide) (j := 0) (by unfold seqIndex?; simp) rfl ?_
                walk_at "R"
                refine tupSlice (vs := wvs) 0 (min (i + 1) wvs.length) ((min (i + 1) wvs.length : Nat)) F₁₅ rfl (k₁₅.tup kt14) .none (.int _ _) (adj_upto _ _) (by rw [places_is]; omega) (by omega) ?_
                intro r₁₆ h₁₆ F₁₆ k₁₆ s₁₆ t₁₆
                walk_at "R"
                rw [e1] at t₁₆
                refine eqRd (da := keyD o.key) (db := keyD (way.take (i + 1))) (hok.imm k₁₆) (Rd.tupOf t₁₆ (by rw [List.map_take]; exact (kw14.imm (k₁₅.trans k₁₆)).take _)) (depthOk_key (ok o hom)) (depthOk_key (okp.take _)) (unt hu (by decide)) ?_
                rw [eqv_key]
                by_cases d1 : o.key = way.take (i + 1)
                · rw [decide_eq_true d1]
                  walk_at "R"
                  refine item_tupleT (k₁₆.tup hot) (by decide) (by decide) (j := 1) (by unfold seqIndex?; simp) rfl ?_
                  walk_at "R"
                  by_cases d2 : o.kind = kMore
                  · rw [if_pos (decide_eq_true d2)]
                    walk_at "R"
                    refine ⟨_, _, _, rfl, F₁₆, k₁₆, ?_⟩
                    have e3 : Pm o = true := by simp [Pm, d1, d2]
                    rw [htk, List.filter_append, List.filter_cons, if_pos e3, List.length_append, List.length_append, hJ2]; rfl
                  · rw [if_neg (by simpa using d2)]
                    walk_at "R"
                    refine ⟨_, _, _, rfl, F₁₆, k₁₆, ?_⟩
                    have e3 : ¬ Pm o = true := by simp [Pm, d2]
                    rw [htk, List.filter_append, List.filter_cons, if_neg e3, List.filter_nil, List.append_nil, hJ2]
                · rw [decide_eq_false d1]
                  walk_at "R"
                  refine ⟨_, _, _, rfl, F₁₆, k₁₆, ?_⟩
                  have e3 : ¬ Pm o = true := by simp [Pm, d1]
                  rw [htk, List.filter_append, List.filter_cons, if_neg e3, List.filter_nil, List.append_nil, hJ2]
              intro h₁₅ tk₁₆ D₁₅ ys₁₅ F₁₅ k₁₅ _ hD₁₅ l₁₅ _ hj₁₅
              rw [hlen7, ← hal, List.take_of_length_le (Nat.le_refl _), hal] at hj₁₅
              walk_at "R"
              rename_i b₁₆ h₁₆ F₁₆ k₁₆ s₁₆ n₁₆ l₁₆
              refine eqEmpty (k₁₆.list l₁₅.isList (fun x => x)) l₁₆.isList (unt hu (by decide)) ?_
              walk_at "R"
              have hlen15 : ys₁₅ = [] ↔ (x :: al).filter Pm = [] := by rw [← List.length_eq_zero_iff, ← List.length_eq_zero_iff, hj₁₅]
              by_cases e4 : (x :: al).filter Pm = []
              · rw [if_pos (decide_eq_true (hlen15.mpr e4))]
                walk_at "R"
                rename_i b₁₇ h₁₇ F₁₇ k₁₇ s₁₇ n₁₇ l₁₇
                refine cutB (Value.bool (isNilD x.val)) (fun Q' hQ' => ?_) ?_
                · have htv17 := htv.kp0 (K14.trans (k₁₅.trans (k₁₆.trans k₁₇)))
                  cases hxv : x.val with
                  | list ds =>
                    rw [hxv] at htv17 hQ'
                    obtain ⟨la, lvs, rfl, hll, hlr, _⟩ := htv17.listInv
                    refine eqEmpty hll l₁₇.isList (unt hu (by decide)) ?_
                    have e5 : decide (lvs = []) = isNilD (.list ds) := nil_isNil hlr.length
                    rw [e5]
                    exact hQ' _
                  | none =>
                    rw [hxv] at htv17 hQ'
                    refine eqRd (da := .none) (db := .list []) htv17 (Rd.listOf (vs := []) (N := fun _ => True) l₁₇.isList .nil trivial) ⟨rfl, by decide⟩ ⟨rfl, by decide⟩ (unt hu (by decide)) ?_
                    exact hQ' _
                  | _ =>
                    exfalso
                    have hl : isListD x.val = false := by rw [hxv]; rfl
                    rcases okv x hxm with q | q | q
                    · rw [hl] at q; cases q
                    · rw [hxv] at q; cases q
                    · exact c4 (.inl ⟨q, hl⟩)
                · intro tk₁₈
                  have hb : barAt evs way lists (i + 1) = some (if isNilD x.val = true then nothing else noNest) := by
                    unfold barAt; rw [hal]
                    exact (if_neg (fun q => q.elim (fun q => q c1) c2)).trans ((if_neg c4).trans (if_pos e4))
                  walk_at "R"
                  cases hn : isNilD x.val with
                  | true =>
                    rw [hn] at hb
                    walk_at "R"
                    refine ⟨_, _, _, _, rfl, F₁₇, (Kt.trans (k₁₅.trans (k₁₆.trans k₁₇))).weaken fun _ x => x.elim, fun F'' _ => ?_⟩
                    have := hq _ (tk₁₈ + 1) tk₁₈ F''.sub
                    rw [barF_at hi hJ hb] at this
                    exact this
                  | false =>
                    rw [hn] at hb
                    walk_at "R"
                    refine ⟨_, _, _, _, rfl, F₁₇, (Kt.trans (k₁₅.trans (k₁₆.trans k₁₇))).weaken fun _ x => x.elim, fun F'' _ => ?_⟩
                    have := hq _ (tk₁₈ + 1) tk₁₈ F''.sub
                    rw [barF_at hi hJ hb] at this
                    exact this
              · rw [if_neg (by simpa using fun q => e4 (hlen15.mp q))]
                walk_at "R"
                have hb : barAt evs way lists (i + 1) = none := by
                  unfold barAt; rw [hal]
                  exact (if_neg (fun q => q.elim (fun q => q c1) c2)).trans ((if_neg c4).trans (if_neg e4))
                refine ⟨_, _, _, _, rfl, F₁₆, (Kt.trans (k₁₅.trans k₁₆)).weaken fun _ x => x.elim, hm1, hm2, hm3, fun j hj => ?_⟩
                rcases Nat.lt_succ_iff_lt_or_eq.mp hj with hj | rfl
                · exact hJ j hj
                · exact hb
      · rw [decide_eq_false c1]
        walk_at "R"
        have hb : barAt evs way lists (i + 1) = none := by unfold barAt; rw [hal]; exact if_pos (.inl c1)
        refine ⟨_, _, _, _, rfl, F₁₄, Kt.weaken fun _ x => x.elim, hm1, hm2, hm3, fun j hj => ?_⟩
        rcases Nat.lt_succ_iff_lt_or_eq.mp hj with hj | rfl
        · exact hJ j hj
        · exact hb
  · rintro g₁ h₄ m₁ tk₄ k₄ ⟨hm1, hm2, hm3, hJ⟩ F₄
    walk_at "R"
    rw [← barF_none (evs := evs) (lists := lists) (way := way) (fun j hj => hJ j (by omega))]
    exact hq _ _ _ F₄.sub
end PartA2
section PartA3
set_option maxHeartbeats 4000000 in
theorem same_spec : ∀ (n : Nat) {w : World} {A : Around} {s : Shared} {H0 : Heap} {mg mb : Str → Option Value} (C : Cx w H0 mg mb) (hH : Sub H0 s.heap) (hd : A.depth + n < recursionLimit) (hh : A.handled = none) (hu : A.units + 4 * n + 200 < cLine)
    {N N' : Addr → Prop} {v v' : Value} {d : PyData} (r : Rh prog w N s.heap v d) (r' : Rh prog w N' s.heap v' d) (ok : RkOk n d) {Q E : Value → Shared → Prop}
    (hq : ∀ h' tk', Sub s.heap h' → Q (.bool true) { s with heap := h', toks := tk' }), wpAny (model prog w) A (call (.ref 96) [v, v']) Q E s := by
  intro n
  induction n using Nat.strongRecOn with
  | _ n ih =>
  intro w A s H0 mg mb C hH hd hh hu N N' v v' d r r' ok Q E hq
  refine enterR (X := Nil) (binds := [(Str.ofString "one", v), (Str.ofString "other", v')]) hH (by omega) (C.K _ _ rfl) C.G.lim (codeRec_of C.K rfl) (BindsTo.of_eq rfl) rfl ?_
  intro L h₁ tk₁ F
  walk_at "R"
  refine typeOfH (r.rd.kp0 F.keepG) ?_
  walk_at "R"
  refine typeOfH (r'.rd.kp0 F.keepG) ?_
  walk_at "R"
  refine isiDict (r.rd.kp0 F.keepG) ?_
  intro tk₂
  walk_at "R"
  cases hdd : isDictD d with
  | true =>
    obtain ⟨ps, rfl⟩ : ∃ ps, d = .dict ps := by cases d <;> first | exact ⟨_, rfl⟩ | cases hdd
    obtain ⟨n', rfl, hpz, hpo⟩ := ok.dictInv
    obtain ⟨a, kvs, rfl, hD, hP, _⟩ := r.dictInv
    obtain ⟨a', kvs', rfl, hD', hP', _⟩ := r'.dictInv
    have zl : (10000 : Nat) ≤ sizeLine := by rw [sizeLine_eq]; omega
    have hl1 : kvs.length ≤ 10000 := by rw [hP.length]; exact hpz
    have hl2 : kvs'.length ≤ 10000 := by rw [hP'.length]; exact hpz
    have hkk : kvs.map (·.1) = kvs'.map (·.1) := hP.key_of hP'
    have hko : ∀ k ∈ kvs.map (·.1), PyData.strOk k = true := fun k hk => by
      obtain ⟨p, hp, rfl⟩ := List.mem_map.mp hk
      obtain ⟨i, hi⟩ := List.getElem?_of_mem hp
      obtain ⟨d, hd1, _⟩ := hP.get (k := p.1) (v := p.2) hi
      obtain ⟨⟨k', hk', ho⟩, _⟩ := hpo _ (List.mem_of_getElem? hd1)
      simp only [PyData.str.injEq] at hk'
      rw [hk']; exact ho
    walk_at "R"
    refine listDict (by exact hh) F (hD.kp F.keepG (fun x => x)) (by omega) ?_
    intro b₃ h₃ tk₃ vs₃ F₃ k₃ s₃ n₃ l₃ ka₃
    walk_at "R"
    refine listDict (by exact hh) F₃ (hD'.kp k₃ (fun x => x)) (by omega) ?_
    intro b₄ h₄ tk₄ vs₄ F₄ k₄ s₄ n₄ l₄ ka₄
    walk_at "R"
    have e3 : Rd (fun _ => True) h₄ (.ref b₃) (.list ((kvs.map (·.1)).map .str)) := Rd.listOf (k₄.list l₃.isList (fun x => x)) ka₃.rds trivial
    have e4 : Rd (fun _ => True) h₄ (.ref b₄) (.list ((kvs.map (·.1)).map .str)) := by rw [hkk]; exact Rd.listOf l₄.isList ka₄.rds trivial
    refine eqRd e3 e4 (depthOk_strs hko) (depthOk_strs hko) (by show A.units + 3 + 100 < _; omega) ?_
    rw [eqv_list_self]
    walk_at "R"
    have K4 : Kp Nil s.heap h₄ := k₃.trans k₄
    refine compDict Nil (fun i g ys => ys = []) ⟨by decide, rfl, rfl, by walk_at "CL"⟩ (hD.kp K4 (fun x => x)) F₄ (fun x => x) .nil (by omega) rfl (fun i g g' ys r k => r) ?_ ?_ (by exact hh)
    · intro i k u t ys C' h₅ tk₅ E' hi k₅ hJ _ F₅
      have K5 : Kp Nil s.heap h₅ := K4.trans k₅
      have hu1 : valueAt kvs k = some u := valueAt_get hD.nodup hi
      obtain ⟨du, hdu, ru⟩ := hP.get hi
      obtain ⟨k2, u2, hi2, hk2, ru2⟩ := hP'.at hdu
      simp only [PyData.str.injEq] at hk2
      subst hk2
      have hu2 : valueAt kvs' k = some u2 := valueAt_get hD'.nodup hi2
      walk_at "R"
      refine callFn (C.K _ _ rfl) rfl ?_
      walk_at "R"
      refine getDict (hD.kp K5 (fun x => x)) hu1 ?_
      walk_at "R"
      refine getDict (hD'.kp K5 (fun x => x)) hu2 ?_
      walk_at "R"
      refine ⟨F₅.vw.old, ih n' (by omega) C F₅.vw.old (by show A.depth + 1 + n' < _; omega) (by exact hh) (by show A.units + 3 + 4 * n' + 200 < _; omega) (ru.kp0 K5) (ru2.kp0 K5) (hpo _ (List.mem_of_getElem? hdu)).2 ?_⟩
      intro h₆ tk₆ s₆
      walk_at "R"
      exact ⟨_, _, _, rfl, F₅.ext s₆, s₆.kp, hJ⟩
    intro h₅ tk₅ D ys F₅ k₅ _ hD₅ l₅ _ hys
    subst hys
    walk_at "R"
    rename_i b₆ h₆ F₆ k₆ s₆ n₆ l₆
    refine eqEmpty (vs := []) (k₆.list l₅.isList (fun x => x)) l₆.isList (by show A.units + 3 + 100 < _; omega) ?_
    walk_at "R"
    exact hq _ _ F₆.sub
  | false =>
    walk_at "R"
    refine isiList (r.rd.kp0 F.keepG) ?_
    intro tk₃
    cases hdl : isListD d with
    | true =>
      obtain ⟨ds, rfl⟩ : ∃ ds, d = .list ds := by cases d <;> first | exact ⟨_, rfl⟩ | cases hdl
      obtain ⟨n', rfl, hpz, hpo⟩ := ok.listInv
      obtain ⟨a, vs, rfl, hD, hP, _⟩ := r.listInv
      obtain ⟨a', vs', rfl, hD', hP', _⟩ := r'.listInv
      have zl : (10000 : Nat) ≤ sizeLine := by rw [sizeLine_eq]; omega
      have hl1 : vs.length = ds.length := hP.length
      have hl2 : vs'.length = ds.length := hP'.length
      walk_at "R"
      refine lenList (F.keepG.list hD.isList (fun x => x)) (by omega) ?_
      intro t₄ tk₄
      walk_at "R"
      refine lenList (F.keepG.list hD'.isList (fun x => x)) (by omega) ?_
      intro t₅ tk₅
      rw [hl1, hl2]
      walk_at "R"
      rw [if_pos (by simp)]
      walk_at "R"
      refine lenList (F.keepG.list hD.isList (fun x => x)) (by omega) ?_
      intro t₆ tk₆
      rw [hl1]
      walk_at "R"
      rename_i r₇ h₇ _ _ _ _ F₇ k₇ _ hr₇
      refine compRange Nil (fun i g ys => ys = []) ⟨by decide, rfl, rfl, by walk_at "CL"⟩ hr₇ (smallUp _ 0 (by omega) (by decide)) (sizeUp _ 0) F₇ .nil (by omega) rfl (fun i g g' ys r k => r) ?_ ?_ (by exact hh)
      · intro i v tk ys C' h₈ tk₈ E' hi hv k₈ hJ _ F₈
        obtain rfl : v = (i : Int) := by omega
        have K8 : Kp Nil s.heap h₈ := k₇.trans k₈
        obtain ⟨di, hdi⟩ : ∃ di, ds[i]? = some di := ⟨ds[i]'(by omega), List.getElem?_eq_getElem (by omega)⟩
        obtain ⟨u, hu1, ru⟩ := hP.at hdi
        obtain ⟨u2, hu2, ru2⟩ := hP'.at hdi
        walk_at "R"
        refine callFn (C.K _ _ rfl) rfl ?_
        walk_at "R"
        refine listAt (K8.list hD.isList (fun x => x)) (by omega) (by simpa using hu1) (by omega) ?_
        walk_at "R"
        refine listAt (K8.list hD'.isList (fun x => x)) (by omega) (by simpa using hu2) (by omega) ?_
        walk_at "R"
        refine ⟨F₈.vw.old, ih n' (by omega) C F₈.vw.old (by show A.depth + 1 + n' < _; omega) (by exact hh) (by show A.units + 3 + 4 * n' + 200 < _; omega) (ru.kp0 K8) (ru2.kp0 K8) (hpo _ (List.mem_of_getElem? hdi)) ?_⟩
        intro h₉ tk₉ s₉
        walk_at "R"
        exact ⟨_, _, _, rfl, F₈.ext s₉, s₉.kp, hJ⟩
      intro h₈ tk₈ D ys F₈ k₈ _ hD₈ l₈ _ hys
      subst hys
      walk_at "R"
      rename_i b₉ h₉ F₉ k₉ s₉ n₉ l₉
      refine eqEmpty (vs := []) (k₉.list l₈.isList (fun x => x)) l₉.isList (by show A.units + 3 + 100 < _; omega) ?_
      walk_at "R"
      exact hq _ _ F₉.sub
    | false =>
      walk_at "R"
      refine flatEq (ok.flat hdd hdl) (r.kp0 F.keepG) (r'.kp0 F.keepG) (by show A.units + 3 + 100 < _; omega) ?_
      walk_at "R"
      exact hq _ _ F.sub
end PartA3
section PartA4
noncomputable def thingD (code n : Nat) : PyData :=
  if code = 3 then (if (((n : Int).fdiv 2).fmod 2 != 0) = true then .tuple [.dict []] else .int n)
  else if code = 4 then .str (Txt.mul (Str.ofString "a") ((n : Int).fmod 2))
  else if code = 5 then .list []
  else if code = 6 then .list [.int n]
  else if code = 7 then .list [.list [.dict []]]
  else .list [.dict [], .int n]
theorem mulOk_a (n : Nat) : MulOk (Str.ofString "a") ((n : Int).fmod 2) := by
  have h : (n : Int).fmod 2 = 0 ∨ (n : Int).fmod 2 = 1 := by
    rw [Int.fmod_eq_emod_of_nonneg _ (by decide)]; omega
  rcases h with h | h <;> rw [h]
  · exact ⟨by decide, fun h _ => absurd (by decide) h, fun h _ => absurd (by decide) h⟩
  · exact ⟨by decide, fun _ h => absurd h (by decide), fun _ h => absurd h (by decide)⟩
set_option maxHeartbeats 4000000 in
theorem thing_spec {w : World} {A : Around} {s : Shared} {H0 : Heap} {mg mb : Str → Option Value} (C : Cx w H0 mg mb) (hH : Sub H0 s.heap) (hd : A.depth < recursionLimit) (hh : A.handled = none) (hu : A.units + 200 < cLine)
    {code n : Nat} {t u : Tok} (hc : 3 ≤ code ∧ code ≤ 8) (hn : n ≤ 100) {Q E : Value → Shared → Prop}
    (hq : ∀ h' tk' r as, Sub s.heap h' → Hd prog w h' r (thingD code n) as → as.Nodup → (∀ a ∈ as, s.heap.get? a = none) → Q r { s with heap := h', toks := tk' }) : wpAny (model prog w) A (call (.ref 71) [.int code t, .int n u]) Q E s := by
  refine enterR (X := Nil) (binds := [(Str.ofString "code", .int code t), (Str.ofString "n", .int n u)]) hH (by omega) (C.K _ _ rfl) C.G.lim (codeRec_of C.K rfl) (BindsTo.of_eq rfl) rfl ?_
  intro L h₁ tk₁ F
  iterate 5 (walk_at "S"; try dsimp only)
  refine cutF F (fun v h' => ∃ as, Hd prog w h' v (thingD 3 n) as ∧ as.Nodup ∧ (∀ a ∈ as, s.heap.get? a = none)) (fun Q' hQ' => ?_) ?_
  · walk_at "R"
    by_cases c : (((n : Int).fdiv 2).fmod 2 != 0) = true
    · rw [if_pos c]
      walk_at "R"
      rename_i a₂ h₂ F₂ k₂ s₂ n₂ d₂ a₃ h₃ F₃ k₃ s₃ n₃ t₃
      refine hQ' _ _ _ (s₂.trans s₃) F₃ ⟨[a₂], ?_, by simp, fun a ha => ?_⟩
      · have e1 : thingD 3 n = .tuple [.dict []] := by unfold thingD; rw [if_pos rfl, if_pos c]
        rw [e1]
        exact .tuple t₃ (.cons (as := [a₂]) (bs := []) (.dict (d₂.kp (X := Nil) s₃.kp (fun x => x)) .nil) .nil)
      · rw [List.mem_singleton.mp ha]; exact F.sub.none n₂
    · rw [if_neg c]
      walk_at "R"
      refine hQ' _ _ _ (.refl _) F.here ⟨[], ?_, by simp, fun a ha => nomatch ha⟩
      have e1 : thingD 3 n = .int n := by unfold thingD; rw [if_pos rfl, if_neg c]
      rw [e1]
      exact .int _ _
  · rintro v h₂ tk₂ s₂ F₂ ⟨as₂, H₂, nd₂, fr₂⟩
    walk_at "R"
    refine SB.mul (mulOk_a n) ?_
    intro t₃ tk₃
    walk_at "R"
    rename_i a4 h4 F4 k4 s4 n4 t4 a5 h5 F5 k5 s5 n5 t5 a6 h6 F6 k6 s6 n6 t6 a7 h7 F7 k7 s7 n7 t7 a8 h8 F8 k8 s8 n8 t8 a9 h9 F9 k9 s9 n9 t9 a10 h10 F10 k10 s10 n10 t10 a11 h11 F11 k11 s11 n11 t11
    have S11 : Sub h₂ h11 := s4.trans (s5.trans (s6.trans (s7.trans (s8.trans (s9.trans (s10.trans s11))))))
    have S6 : Sub h6 h11 := s7.trans (s8.trans (s9.trans (s10.trans s11)))
    have f4 := F₂.sub.none n4
    have f5 := F4.sub.none n5
    have f6 := F5.sub.none n6
    have f7 := F6.sub.none n7
    have f8 := F7.sub.none n8
    have f9 := F8.sub.none n9
    have f10 := F9.sub.none n10
    have d76 : a6 ≠ a7 := fun q => by obtain ⟨o, ho, _⟩ := t6.dom; subst q; simp only [ho] at n7; cases n7
    have d87 : a7 ≠ a8 := fun q => by obtain ⟨o, ho, _⟩ := isList_dom t7.isList; subst q; simp only [ho] at n8; cases n8
    have d86 : a6 ≠ a8 := fun q => by obtain ⟨o, ho, _⟩ := t6.dom; subst q; simp only [s7 _ _ ho] at n8; cases n8
    have d109 : a9 ≠ a10 := fun q => by obtain ⟨o, ho, _⟩ := t9.dom; subst q; simp only [ho] at n10; cases n10
    have p4 : h11.PlainList a4 (List.toArray []) := Kp.plain (X := Nil) (s5.trans (s6.trans (s7.trans (s8.trans (s9.trans (s10.trans s11)))))).kp t4 (fun x => x)
    have p5 : h11.PlainList a5 (List.toArray [_]) := Kp.plain (X := Nil) (s6.trans (s7.trans (s8.trans (s9.trans (s10.trans s11))))).kp t5 (fun x => x)
    have p6 := t6.kp (X := Nil) S6.kp (fun x => x)
    have p7 : h11.PlainList a7 (List.toArray [_]) := Kp.plain (X := Nil) (s8.trans (s9.trans (s10.trans s11))).kp t7 (fun x => x)
    have p8 : h11.PlainList a8 (List.toArray [_]) := Kp.plain (X := Nil) (s9.trans (s10.trans s11)).kp t8 (fun x => x)
    have p9 := t9.kp (X := Nil) (s10.trans s11).kp (fun x => x)
    have p10 : h11.PlainList a10 (List.toArray [_, _]) := Kp.plain (X := Nil) s11.kp t10 (fun x => x)
    have zl : (10000 : Nat) ≤ sizeLine := by rw [sizeLine_eq]; omega
    have S : Sub s.heap h11 := F11.sub
    obtain rfl | rfl | rfl | rfl | rfl | rfl : code = 3 ∨ code = 4 ∨ code = 5 ∨ code = 6 ∨ code = 7 ∨ code = 8 := by omega
    · refine listAt (vs := [_, _, _, _, _, _]) t11.isList (by decide) rfl (by simp; omega) ?_
      walk_at "R"
      exact hq _ _ _ as₂ S (H₂.kp (X := Nil) S11.kp fun _ _ x => x) nd₂ fr₂
    · refine listAt (vs := [_, _, _, _, _, _]) t11.isList (by decide) rfl (by simp; omega) ?_
      walk_at "R"
      exact hq _ _ _ [] S (.str _ _) (by simp) (fun a ha => nomatch ha)
    · refine listAt (vs := [_, _, _, _, _, _]) t11.isList (by decide) rfl (by simp; omega) ?_
      walk_at "R"
      exact hq _ _ _ [a4] S (.list p4 .nil) (by simp) (fun a ha => by rw [List.mem_singleton.mp ha]; exact f4)
    · refine listAt (vs := [_, _, _, _, _, _]) t11.isList (by decide) rfl (by simp; omega) ?_
      walk_at "R"
      exact hq _ _ _ [a5] S (.list (as := []) p5 (.cons (as := []) (bs := []) (.int _ _) .nil)) (by simp) (fun a ha => by rw [List.mem_singleton.mp ha]; exact f5)
    · refine listAt (vs := [_, _, _, _, _, _]) t11.isList (by decide) rfl (by simp; omega) ?_
      walk_at "R"
      refine hq _ _ _ [a8, a7, a6] S (.list (as := [a7, a6]) p8 (.cons (as := [a7, a6]) (bs := []) (.list (as := [a6]) p7 (.cons (as := [a6]) (bs := []) (.dict p6 .nil) .nil)) .nil)) ?_ ?_
      · simp [d87.symm, d86.symm, d76.symm]
      · intro a ha
        simp only [List.mem_cons, List.not_mem_nil, or_false] at ha
        rcases ha with rfl | rfl | rfl
        · exact f8
        · exact f7
        · exact f6
    · refine listAt (vs := [_, _, _, _, _, _]) t11.isList (by decide) rfl (by simp; omega) ?_
      walk_at "R"
      refine hq _ _ _ [a10, a9] S (.list (as := [a9]) p10 (.cons (as := [a9]) (bs := []) (.dict p9 .nil) (.cons (as := []) (bs := []) (.int _ _) .nil))) ?_ ?_
      · simp [d109.symm]
      · intro a ha
        simp only [List.mem_cons, List.not_mem_nil, or_false] at ha
        rcases ha with rfl | rfl
        · exact f10
        · exact f9
end PartA4
section PartA5
noncomputable def Digs (b : Int) (vs : List Value) : Prop := ∀ v ∈ vs, ∃ i t, v = .int i t ∧ 0 ≤ i ∧ i < b
set_option maxHeartbeats 4000000 in
theorem digits_spec {w : World} {A : Around} {s : Shared} {H0 : Heap} {mg mb : Str → Option Value} (C : Cx w H0 mg mb) (hH : Sub H0 s.heap) (hd : A.depth < recursionLimit) (hh : A.handled = none) (hu : A.units + 200 < cLine)
    {sa : Addr} {vs : List Value} {ns : List Int} {t u : Tok} (hl : s.heap.IsList sa vs.toArray) (hi : Ints vs ns) (hz : vs.length ≤ 63) {Q E : Value → Shared → Prop}
    (hq : ∀ h' tk' a vs, Sub s.heap h' → s.heap.get? a = none → h'.PlainList a (List.toArray vs) → Digs 1089 vs → vs.length ≤ 60 → Q (.ref a) { s with heap := h', toks := tk' }) : wpAny (model prog w) A (call (.ref 57) [.ref sa, .int 1089 t, .int 60 u]) Q E s := by
  refine enterR (X := Nil) (binds := [(Str.ofString "script", .ref sa), (Str.ofString "base", .int 1089 t), (Str.ofString "most", .int 60 u)]) hH (by omega) (C.K _ _ rfl) C.G.lim (codeRec_of C.K rfl) (BindsTo.of_eq rfl) rfl ?_
  intro L h₁ tk₁ F
  have zl : (10000 : Nat) ≤ sizeLine := by rw [sizeLine_eq]; omega
  walk_at "R"
  rename_i D h₂ F₂ k₂ s₂ n₂ l₂ h₃ F₃
  have K3 : Kp Nil s.heap h₃ := k₂.trans F₃.keepG
  have l3 : h₃.PlainList D (List.toArray []) := F₃.keepG.plain l₂ (fun x => x)
  have nD : s.heap.get? D = none := F.sub.none n₂
  have nH : H0.get? D = none := hH.none nD
  refine lenList (K3.list hl (fun x => x)) (by omega) ?_
  intro t₄ tk₄
  walk_at "R"
  rename_i a₅ h₅ F₅ k₅ s₅ n₅ l₅
  refine addLists F₅ (vs := vs) (ws := [_]) ((k₂.trans k₅).list hl (fun x => x)) l₅.isList ?_ (by simp; omega)
  intro r₆ h₆ F₆ k₆ s₆ n₆ l₆
  walk_at "R"
  have hi6 : Ints (vs ++ [.int (vs.length : Int) t₄]) (ns ++ [(vs.length : Int)]) := hi.snoc _ _
  refine forList (fun a => a = D) (fun i g m => m (Str.ofString "digits") = some (.ref D) ∧ m (Str.ofString "base") = some (.int 1089 t) ∧ m (Str.ofString "most") = some (.int 60 u) ∧ ∃ ws, g.PlainList D (List.toArray ws) ∧ Digs 1089 ws ∧ ws.length ≤ 60 + i) l₆.isList F₆ ⟨fun x => x, fun q => ?_⟩ (fun a o q e => by subst q; rw [nD] at e; cases e) ⟨rfl, rfl, rfl, [], (k₅.trans k₆).plain l₂ (fun x => x), (fun _ hm => nomatch hm), by simp⟩ (by rintro i g g' m ⟨j1, j2, j3, ws, j4, j5⟩ k; exact ⟨j1, j2, j3, ws, k.plain j4 (fun x => x), j5⟩) ?_ ?_ (by exact hh) .never (cellsOkQ (by decide))
  · obtain ⟨o, ho, _⟩ := isList_dom l3.isList
    subst q
    have := s₅ _ _ ho
    simp only [this] at n₆
    cases n₆
  · rintro i v e' g₁ h₇ m₁ tk₇ hiv k₇ ⟨j1, j2, j3, ws, j4, j5, j6⟩ F₇ _
    obtain ⟨x, tx, rfl⟩ : ∃ x tx, v = .int x tx := by
      clear j6 F₇ k₇ hl l₆
      have : v ∈ vs ++ [Value.int (vs.length : Int) t₄] := List.mem_of_getElem? hiv
      exact hi6.mem this
    have hilen : i < 64 := by
      have := (List.getElem?_eq_some_iff.mp hiv).1
      simp at this; omega
    unfold TurnP
    iterate 4 (walk_at "S"; try dsimp only)
    rename_i h₈ F₈
    refine cutF F₈ (fun v h' => ∃ N t, v = .int N t) (fun Q' hQ' => ?_) ?_
    · walk_at "R"
      by_cases c : (0 : Int) ≤ x
      · rw [if_pos (decide_eq_true c)]
        walk_at "R"
        exact hQ' _ _ _ (.refl _) F₈.here ⟨_, _, rfl⟩
      · rw [if_neg (by simpa using c)]
        walk_at "R"
        exact hQ' _ _ _ (.refl _) F₈.here ⟨_, _, rfl⟩
    · rintro v h₉ tk₉ s₉ F₉ ⟨N, tN, rfl⟩
      walk_at "R"
      rename_i h₁₀ F₁₀
      have l₁₀ : h₁₀.PlainList D ws.toArray := F₁₀.keepG.plain (s₉.kp.plain (X := Nil) (F₈.keepG.plain j4 (fun x => x)) (fun x => x)) (fun x => x)
      refine methList PySem.F.slot_list_append PySem.F.type_list_append l₁₀ ?_
      walk_at "R"
      refine appendL F₁₀ l₁₀ (fun _ _ => .inr (.inr rfl)) nH (by omega) ?_
      intro h₁₁ F₁₁ k₁₁ l₁₁
      have K11 : Kp (fun a => a = D) g₁ h₁₁ := F₈.keepG.up0.trans (s₉.kp.trans (F₁₀.keepG.up0.trans k₁₁))
      walk_at "R"
      rename_i h₁₂ F₁₂
      have d1 : Digs 1089 (ws ++ [Value.int (N.fmod 1089) (tk₉ + 1)]) := by
        intro v hv
        rcases List.mem_append.mp hv with hv | hv
        · exact j5 v hv
        · rw [List.mem_singleton.mp hv]
          exact ⟨_, _, rfl, by rw [Int.fmod_eq_emod_of_nonneg _ (by decide)]; omega, by rw [Int.fmod_eq_emod_of_nonneg _ (by decide)]; omega⟩
      refine whileQ (n₀ := (N.fdiv 1089).toNat) (fun a => a = D) (fun k g m => m (Str.ofString "digits") = some (.ref D) ∧ m (Str.ofString "base") = some (.int 1089 t) ∧ m (Str.ofString "most") = some (.int 60 u) ∧ (∃ N' t', m (Str.ofString "n") = some (.int N' t') ∧ N'.toNat = k) ∧ ∃ ws, g.PlainList D (List.toArray ws) ∧ Digs 1089 ws ∧ ws.length ≤ 60 + (i + 1)) F₁₂ ⟨j1, j2, j3, ⟨_, _, rfl, rfl⟩, _, F₁₂.keepG.plain l₁₁ (fun x => x), d1, by simp; omega⟩ ?_ .never
      rintro k g₂ h₁₃ m₂ tk₁₃ k₁₃ ⟨i1, i2, i3, ⟨N2, t2, i4, i5⟩, ws2, i6, i7, i8⟩ F₁₃
      have fin : Kp (Loose h₆ fun a => a = D) g₁ g₂ := (K11.trans (F₁₂.keepG.up0.trans k₁₃.loopM)).up
      walk_at "R"
      by_cases c : (0 : Int) < N2
      · rw [if_pos (decide_eq_true c)]
        walk_at "R"
        have l₁₃ : h₁₃.PlainList D ws2.toArray := F₁₃.keepG.plain i6 (fun x => x)
        refine lenList l₁₃.isList (by omega) ?_
        intro t₁₄ tk₁₄
        walk_at "R"
        by_cases c2 : (ws2.length : Int) < 60
        · rw [if_pos (decide_eq_true c2)]
          walk_at "R"
          refine methList PySem.F.slot_list_append PySem.F.type_list_append l₁₃ ?_
          walk_at "R"
          refine appendL F₁₃ l₁₃ (fun _ _ => .inr (.inr rfl)) nH (by omega) ?_
          intro h₁₅ F₁₅ k₁₅ l₁₅
          walk_at "R"
          rename_i h₁₆ F₁₆
          refine ⟨(N2.fdiv 1089).toNat, ?_, _, _, _, _, rfl, F₁₆, (F₁₃.keepG.up0.trans k₁₅).up, i1, i2, i3, ⟨_, _, rfl, rfl⟩, _, l₁₅, ?_, by simp; omega⟩
          · rw [← i5, Int.fdiv_eq_ediv_of_nonneg _ (by decide)]; omega
          · intro v hv
            rcases List.mem_append.mp hv with hv | hv
            · exact i7 v hv
            · rw [List.mem_singleton.mp hv]
              exact ⟨_, _, rfl, by rw [Int.fmod_eq_emod_of_nonneg _ (by decide)]; omega, by rw [Int.fmod_eq_emod_of_nonneg _ (by decide)]; omega⟩
        · rw [if_neg (by simpa using c2)]
          walk_at "R"
          exact ⟨_, _, _, _, rfl, F₁₃, fin, i1, i2, i3, ws2, i6, i7, i8⟩
      · rw [if_neg (by simpa using c)]
        walk_at "R"
        exact ⟨_, _, _, _, rfl, F₁₃, fin, i1, i2, i3, ws2, i6, i7, i8⟩
  · rintro g₁ h₇ m₁ tk₇ k₇ ⟨j1, j2, j3, ws, j4, j5, j6⟩ F₇
    have hvl : (vs ++ [Value.int (vs.length : Int) t₄]).length = vs.length + 1 := by simp
    rw [hvl] at j6
    walk_at "R"
    refine listUpto (k := 60) F₇ rfl (F₇.keepG.plain j4 (fun x => x)).isList (by omega) ?_
    intro r₈ h₈ F₈ k₈ s₈ n₈ l₈
    refine hq _ _ _ _ F₈.sub (F₇.sub.none n₈) l₈ (fun v hv => j5 v (List.mem_of_mem_take hv)) (by rw [List.length_take]; omega)
end PartA5
section PartA6
noncomputable def evOk (n : Nat) (e : Ev) : Prop := e.key.length ≤ n ∧ keyOk e.key ∧ PyData.strOk e.kind = true
noncomputable def treeP (n : Nat) : Prop := ∀ {w : World} {A : Around} {s : Shared} {H0 : Heap} {mg mb : Str → Option Value} (C : Cx w H0 mg mb) (hH : Sub H0 s.heap) (hd : A.depth + 2 * n + 3 < recursionLimit) (hh : A.handled = none) (hu : A.units + 8 * n + 300 < cLine)
    {N : Addr → Prop} {ev : Value} {es : List Ev} {B : Nat} {ks : Ks} (he : Rh prog w N s.heap ev (.list (es.map Ev.d))) (hz : es.length ≤ 4000) (ok : ∀ e ∈ es, evOk n e) (hm : MKn B ks es) {Q E : Value → Shared → Prop}
    (hq : ∀ h' tk' r, Sub s.heap h' → Rh prog w (Or N s.heap) h' r (.dict (ks.ps B)) → Q r { s with heap := h', toks := tk' }), wpAny (model prog w) A (call (.ref 86) [ev]) Q E s
noncomputable def partP (n : Nat) : Prop := ∀ {w : World} {A : Around} {s : Shared} {H0 : Heap} {mg mb : Str → Option Value} (C : Cx w H0 mg mb) (hH : Sub H0 s.heap) (hd : A.depth + 2 * n + 4 < recursionLimit) (hh : A.handled = none) (hu : A.units + 8 * n + 304 < cLine)
    {N : Addr → Prop} {ev : Value} {es : List Ev} {B : Nat} {t : T} (he : Rh prog w N s.heap ev (.list (es.map Ev.d))) (hz : es.length ≤ 4000) (ok : ∀ e ∈ es, evOk n e) (hm : MT B t es) {Q E : Value → Shared → Prop}
    (hq : ∀ h' tk' r, Sub s.heap h' → Rh prog w (Or N s.heap) h' r (t.data B) → Q r { s with heap := h', toks := tk' }), wpAny (model prog w) A (call (.ref 91) [ev]) Q E s

set_option maxHeartbeats 4000000 in
theorem tree_step (n : Nat) (ih : ∀ m, m < n → partP m) : treeP n := by
  intro w A s H0 mg mb C hH hd hh hu N ev es B ks he hz ok hm Q E hq
  refine enterR (X := Nil) (binds := [(Str.ofString "events", ev)]) hH (by omega) (C.K _ _ rfl) C.G.lim (codeRec_of C.K rfl) (BindsTo.of_eq rfl) rfl ?_
  intro L h₁ tk₁ F
  obtain ⟨ea, evs, rfl, hel, hes, hNe⟩ := he.listInv
  have helen : evs.length = es.length := by rw [hes.length, List.length_map]
  have zl : (10000 : Nat) ≤ sizeLine := by rw [sizeLine_eq]; omega
  walk_at "R"
  rename_i P h₂ F₂ k₂ s₂ n₂ d₂ h₃ F₃
  have nP : s.heap.get? P = none := F.sub.none n₂
  have nPH : H0.get? P = none := hH.none nP
  have K3 : Kp Nil s.heap h₃ := k₂.trans F₃.keepG
  have d3 : DO prog w h₃ P [] := d₂.kp F₃.keepG (fun x => x)
  have hes1 : Rhs prog w (In N s.heap) s.heap evs (es.map Ev.d) := hes.dom
  have hN1 : ∀ a, In N s.heap a → ¬ Loose h₃ (fun a => s.heap.get? a = none) a := fun a ⟨_, o, ho⟩ hl => by
    rcases hl with hl | hl
    · rw [F₃.sub _ _ ho] at hl; cases hl
    · rw [ho] at hl; cases hl
  have hNn : ∀ a, In N s.heap a → s.heap.get? a ≠ none := fun a ⟨_, o, ho⟩ hl => by rw [ho] at hl; cases hl
  refine forList (fun a => s.heap.get? a = none) (fun i g m => m (Str.ofString "parts") = some (.ref P) ∧ ∃ kvs as, DO prog w g P kvs ∧ kvs.map (·.1) = namesOf (es.take i) ∧ Lots prog w (In N s.heap) g (fun k => tails k (es.take i)) kvs as ∧ as.Nodup ∧ P ∉ as ∧ ∀ a ∈ as, s.heap.get? a = none)
    (K3.list hel.isList (fun x => x)) F₃ ⟨fun x => x, fun q => by obtain ⟨o, ho, _⟩ := isList_dom hel.isList; rw [q] at ho; cases ho⟩ (fun a o q e => by rw [q] at e; cases e) ⟨rfl, [], [], d3, rfl, .nil, List.nodup_nil, (fun hm => nomatch hm), fun a hm => nomatch hm⟩
    (by rintro i g g' m ⟨j1, kvs, as, j2, j3, j4, j5⟩ k; exact ⟨j1, kvs, as, j2.kp k (fun x => x), j3, j4.kp k (fun _ _ x => x) (fun _ _ x => x) (fun _ _ => rfl), j5⟩) ?_ ?_ (by exact hh) .never (cellsOkQ (by decide))
  · rintro i v e' g₁ h₄ m₁ tk₄ hiv k₄ ⟨j1, kvs, as, j2, j3, j4, j5, j6, j7⟩ F₄ hee
    have hes4 : Rhs prog w (In N s.heap) g₁ evs (es.map Ev.d) := (hes1.kp0 K3).kp k₄ hN1
    obtain ⟨e, hei, hre⟩ := hes4.evGet hiv
    obtain ⟨ta, kv, tkk, tv, rfl, htt, hkv, htv⟩ := evInvH hre
    have hem : e ∈ es := List.mem_of_getElem? hei
    have htk : es.take (i + 1) = es.take i ++ [e] := by rw [List.take_add_one, hei]; rfl
    have hkz : kvs.length ≤ 4000 := by
      have := namesOf_length (es.take i)
      rw [← j3, List.length_map, List.length_take] at this
      omega
    unfold TurnP
    refine unpackTup F₄ (F₄.keepG.tup htt) (by exact hh) rfl ?_
    intro h₅ F₅ k₅ s₅
    walk_at "R"
    rename_i h₆ F₆ h₇ F₇ h₈ F₈ a₉ h₉ F₉ k₉ s₉ n₉ t₉
    have K9 : Kp Nil g₁ h₉ := k₅.trans k₉
    refine neRd (da := keyD e.key) (db := keyD []) (hkv.imm K9) (Rd.tupOf (vs := []) (N := Nil) t₉ .nil) (depthOk_key (ok e hem).2.1) (depthOk_key ⟨(fun _ hm => nomatch hm), by simp⟩) (by show A.units + 3 + 100 < _; omega) ?_
    rw [eqv_key]
    have hl₉ := j4.kp (K9.trans (.refl _)) (fun _ _ x => x) (fun _ _ x => x) (fun _ _ => rfl) (f' := fun k => tails k (es.take i))
    have hd₉ := j2.kp K9 (fun x => x)
    have tk1 : ∀ k, tails k (es.take (i + 1)) = tails k (es.take i) ++ tails k [e] := fun k => by rw [htk, tails_append]
    cases hk : e.key with
    | nil =>
      rw [show decide (([] : List Str) = []) = true from rfl]
      walk_at "R"
      refine ⟨_, _, _, _, rfl, F₉, K9.weaken fun _ x => x.elim, j1, kvs, as, hd₉, ?_, ?_, j5, j6, j7⟩
      · rw [htk, namesOf_nil_keys (by intro x hx; rw [List.mem_singleton.mp hx]; exact hk)]; exact j3
      · refine j4.kp K9 (fun _ _ x => x) (fun _ _ x => x) (fun p _ => ?_)
        have : tails p.1 [e] = [] := by simp [tails, tail1, hk]
        rw [tk1, this, List.append_nil]
    | cons k0 kr =>
      have hke : e = pre [k0] { e with key := kr } := by
        obtain ⟨ek, e2, e3⟩ := e
        simp only at hk; subst hk; rfl
      have tk2 : tails k0 (es.take (i + 1)) = tails k0 (es.take i) ++ [{ e with key := kr }] := by
        rw [tk1]; congr 1
        simp [tails, tail1, hk]
      have tk3 : ∀ k, k ≠ k0 → tails k (es.take (i + 1)) = tails k (es.take i) := fun k hne => by
        rw [tk1]
        have : tails k [e] = [] := by simp [tails, tail1, hk, hne.symm]
        rw [this, List.append_nil]
      rw [show decide (k0 :: kr = ([] : List Str)) = false from decide_eq_false (by simp)]
      walk_at "R"
      refine methDict PySem.F.slot_dict_setdefault PySem.F.type_dict_setdefault hd₉ ?_
      walk_at "R"
      obtain ⟨ka, kvv, rfl, hkt, hks⟩ := hkv.tupInv
      rw [hk] at hks
      obtain ⟨kv0, hkv0, rk0⟩ := hks.at (i := 0) rfl
      obtain ⟨kt0, rfl⟩ := rk0.strInv
      have hkl : kvv.length = kr.length + 1 := by rw [hks.length]; simp
      have hkz2 : kvv.length ≤ 1000 := by
        have := (ok e hem).2.1.2
        rw [hk] at this
        simp only [List.length_cons] at this; omega
      refine item_tupleT (K9.tup hkt) (by decide) (by decide) (j := 0) (by unfold seqIndex?; simp [hkl]) (by simpa using hkv0) ?_
      walk_at "R"
      rename_i aL h₁₀ F₁₀ k₁₀ s₁₀ n₁₀ l₁₀
      have K10 : Kp Nil g₁ h₁₀ := K9.trans k₁₀
      have hl₁₀ := hl₉.kp k₁₀ (fun _ _ x => x) (fun _ _ x => x) (fun _ _ => rfl) (f' := fun k => tails k (es.take i))
      have hd₁₀ := hd₉.kp k₁₀ (fun x => x)
      have nL : s.heap.get? aL = none := F₉.newE hee.dom n₁₀
      have htv10 := htv.kp0 K10
      have hPL : P ≠ aL := fun q => by obtain ⟨o, ho, _⟩ := hd₉.dom; rw [q] at ho; simp only [ho] at n₁₀; cases n₁₀
      have hLas : aL ∉ as := fun q => by
        obtain ⟨o, ho⟩ := hl₉.dom _ q
        simp only [ho] at n₁₀; cases n₁₀
      have hkk : (kvs.map (·.1)).Nodup := by rw [j3]; exact namesOf_nodup _
      refine cutM F₁₀ (fun v h' => ∃ kvs' as' a ws, v = .ref a ∧ Kp (fun b => s.heap.get? b = none) h₁₀ h' ∧ DO prog w h' P kvs' ∧ kvs'.map (·.1) = namesOf (es.take (i + 1)) ∧ Lots prog w (In N s.heap) h' (fun k => tails k (es.take i)) kvs' as' ∧ as'.Nodup ∧ P ∉ as' ∧ (∀ a ∈ as', s.heap.get? a = none) ∧
        valueAt kvs' k0 = some (.ref a) ∧ a ∈ as' ∧ h'.PlainList a (List.toArray ws) ∧ Rhs prog w (In N s.heap) h' ws ((tails k0 (es.take i)).map Ev.d)) (fun Q' hQ' => ?_) ?_
      · cases hva : valueAt kvs k0 with
        | some va =>
          obtain ⟨a, ws, rfl, haas, hla, hra⟩ := hl₁₀.at hva
          refine setdefaultOld hd₁₀ hva (by omega) ?_
          have hin : k0 ∈ namesOf (es.take i) := by
            rw [← j3]
            exact Classical.byContradiction fun q => by rw [valueAt_none_iff.mpr q] at hva; cases hva
          refine hQ' _ _ _ F₁₀.here ⟨kvs, as, a, ws, rfl, .refl _, hd₁₀, ?_, hl₁₀, j5, j6, j7, hva, haas, hla, hra⟩
          rw [htk, hke]
          exact j3.trans (namesOf_old (new := [_]) hin).symm
        | none =>
          refine setdefaultNew F₁₀ hd₁₀ hva (fun _ _ => .inr (.inr nP)) nPH (by omega) ?_
          intro h₁₁ F₁₁ k₁₁ hd₁₁
          have hin : k0 ∉ namesOf (es.take i) := by rw [← j3]; exact valueAt_none_iff.mp hva
          have ht0 : tails k0 (es.take i) = [] := Classical.byContradiction fun q => hin (tails_ne.mp q)
          have l11 : h₁₁.PlainList aL (List.toArray []) := k₁₁.plain l₁₀ (fun q => hPL q.symm)
          have hl11 := hl₁₀.kp k₁₁ (fun a ha q => j6 (q ▸ ha)) (fun a ha q => hNn a ha (q ▸ nP)) (fun _ _ => rfl) (f' := fun k => tails k (es.take i))
          refine hQ' _ _ _ F₁₁ ⟨kvs ++ [(k0, .ref aL)], as ++ [aL], aL, [], rfl, k₁₁.weaken fun b q => q ▸ nP, hd₁₁, ?_, hl11.snoc l11 (by rw [ht0]; exact .nil), ?_, ?_, ?_, ?_, by simp, l11, by rw [ht0]; exact .nil⟩
          · rw [htk, hke, List.map_append, j3]
            exact (namesOf_new (new := [_]) hin (by simp)).symm
          · rw [List.nodup_append]
            exact ⟨j5, by simp, fun a ha b hb => by simp only [List.mem_singleton] at hb; subst hb; exact fun q => hLas (q ▸ ha)⟩
          · simp only [List.mem_append, List.mem_singleton, not_or]; exact ⟨j6, hPL⟩
          · intro a ha
            rcases List.mem_append.mp ha with ha | ha
            · exact j7 a ha
            · rw [List.mem_singleton.mp ha]; exact nL
          · exact valueAt_of_get (by rw [List.map_append, List.nodup_append]; exact ⟨hkk, by simp, fun a ha b hb => by simp only [List.map_cons, List.map_nil, List.mem_singleton] at hb; subst hb; exact fun q => valueAt_none_iff.mp hva (q ▸ ha)⟩) (i := kvs.length) (by simp)
      · rintro _ h₁₁ tk₁₁ F₁₁ ⟨kvs', as', a, ws, rfl, k₁₁, hd₁₁, hn₁₁, hl₁₁, nd₁₁, hP₁₁, fr₁₁, hva, haas, hla, hra⟩
        have hwz : ws.length ≤ 4000 := by
          have h1 := tails_length k0 (es.take i)
          have h2 := hra.length
          rw [List.length_map] at h2
          rw [List.length_take] at h1; omega
        have haH : H0.get? a = none := hH.none (fr₁₁ a haas)
        have K11 : Kp (fun b => s.heap.get? b = none) g₁ h₁₁ := K10.up0.trans k₁₁
        walk_at "R"
        refine methList PySem.F.slot_list_append PySem.F.type_list_append hla ?_
        walk_at "R"
        refine tupSlice (vs := kvv) (min 1 kvv.length) (kvv.length - min 1 kvv.length) (kvv.length : Nat) F₁₁ rfl (K11.tup hkt) (.int _ _) .none (adj_from 1 _) (by rw [places_is]) (by omega) ?_
        intro r₁₂ h₁₂ F₁₂ k₁₂ s₁₂ t₁₂
        walk_at "R"
        rename_i a₁₃ h₁₃ F₁₃ k₁₃ s₁₃ n₁₃ t₁₃
        have K13 : Kp Nil h₁₁ h₁₃ := k₁₂.trans k₁₃
        refine appendL F₁₃ (K13.plain hla (fun x => x)) (fun _ _ => .inr (.inr (fr₁₁ a haas))) haH (by omega) ?_
        intro h₁₄ F₁₄ k₁₄ l₁₄
        walk_at "R"
        have K14 : Kp (fun b => s.heap.get? b = none) g₁ h₁₄ := K11.trans (K13.up0.trans (k₁₄.weaken fun b q => q ▸ fr₁₁ a haas))
        have e1 : (kvv.drop (min 1 kvv.length)).take (kvv.length - min 1 kvv.length) = kvv.drop 1 := by
          have : min 1 kvv.length = 1 := by omega
          rw [this, List.take_of_length_le (by rw [List.length_drop]; exact Nat.le_refl _)]
        rw [e1] at t₁₂
        have hKs : Rds Nil h₁₃ (kvv.drop 1) (kr.map .str) := by
          have := ((hks.imm K11).imm K13).drop 1
          simpa using this
        have hx : Rh prog w (In N s.heap) h₁₃ (.ref a₁₃) (Ev.d { e with key := kr }) :=
          Rh.tupOf t₁₃ (.cons (Rd.keyH (Rd.tupOf (k₁₃.tup t₁₂) hKs)) (.cons (.str _ _) (.cons (((htv.kp K11 fun a q r => hNn a q r)).kp0 K13) .nil)))
        have hl13 := hl₁₁.kp K13 (fun _ _ x => x) (fun _ _ x => x) (fun _ _ => rfl) (f' := fun k => tails k (es.take i))
        refine ⟨_, _, _, _, rfl, F₁₄, K14.up, j1, kvs', as', hd₁₁.kp (K13.up0.trans k₁₄) (fun q => hP₁₁ (q ▸ haas)), hn₁₁, ?_, nd₁₁, hP₁₁, fr₁₁⟩
        refine hl13.grow nd₁₁ (by rw [hn₁₁]; exact namesOf_nodup _) hva k₁₄ (fun b q r => hNn b q (r ▸ fr₁₁ a haas)) l₁₄ ?_ (fun k hne => tk3 k hne)
        rw [tk2, List.map_append]
        exact ((hra.kp0 K13).append (.cons hx .nil)).kp k₁₄ (fun b q r => hNn b q (r ▸ fr₁₁ a haas))
  · rintro g₁ h₄ m₁ tk₄ k₄ ⟨j1, kvs, as, j2, j3, j4, j5, j6, j7⟩ F₄
    rw [helen, List.take_of_length_le (Nat.le_refl _)] at j3 j4
    walk_at "R"
    have K4 : Kp Nil g₁ h₄ := F₄.keepG
    have d4 := j2.kp K4 (fun x => x)
    have l4 := j4.kp K4 (fun _ _ x => x) (fun _ _ x => x) (fun _ _ => rfl) (f' := fun k => tails k es)
    have hkz : kvs.length ≤ 4000 := by
      have := namesOf_length es
      rw [← j3, List.length_map] at this
      omega
    have hnames : ks.names = kvs.map (·.1) := hm.1.trans j3.symm
    have hdup : ks.names.Nodup := hm.nodup
    refine compDictD Nil (fun i g ys => Rps prog w (fun a => In N s.heap a ∨ (s.heap.get? a = none ∧ ¬ Three h₄ a)) g ys ((ks.ps B).take i) ∧ ys.map (·.1) = ks.names.take i) C.G.lim ⟨by decide, rfl, rfl, by walk_at "CL"⟩ d4 F₄ (fun x => x) .nil (by omega) ⟨.nil, rfl⟩
      (fun i g g' ys r k => ⟨r.1.kp k fun a ha => ?_, r.2⟩) ?_ ?_ (by exact hh)
    · rcases ha with ⟨_, o, ho⟩ | ha
      · exact fun ht => absurd (Heap.lt_size (F₄.sub _ _ ho)) (Nat.not_lt.mpr ht.1)
      · exact ha.2
    · intro i k u t ys C' h₅ tk₅ E' hi k₅ hJ hal F₅
      have hki : ks.names[i]? = some k := by rw [hnames, List.getElem?_map, hi]; rfl
      obtain ⟨tt, hps, hget⟩ := Ks.at (B := B) hdup hki
      have hmt : MT B tt (tails k es) := hm.2.2.get hget
      have hu : valueAt kvs k = some u := valueAt_get (by rw [← hnames]; exact hdup) hi
      have d5 := d4.kp k₅ (fun x => x)
      have l5 := l4.kp k₅ (fun _ _ x => x) (fun _ _ x => x) (fun _ _ => rfl) (f' := fun k => tails k es)
      obtain ⟨a, ws, rfl, haas, hla, hra⟩ := l5.at hu
      have hn1 : 1 ≤ n := by
        have h1 : k ∈ namesOf es := hm.1 ▸ List.mem_of_getElem? hki
        obtain ⟨e, he1, he2⟩ := mem_names.mp h1
        have := (ok e he1).1
        cases hk : e.key with
        | nil => rw [hk] at he2; cases he2
        | cons x r => rw [hk] at this; simp at this; omega
      walk_at "R"
      refine callFn (C.K _ _ rfl) rfl ?_
      walk_at "R"
      refine getDict d5 hu ?_
      walk_at "R"
      have hev : Rh prog w (fun a => In N s.heap a ∨ (s.heap.get? a = none ∧ ¬ Three h₄ a)) h₅ (.ref a) (.list ((tails k es).map Ev.d)) := by
        refine Rh.listOf hla (hra.mono fun b hb => .inl hb) (.inr ⟨j7 a haas, fun ht => ?_⟩)
        obtain ⟨o, ho⟩ := l4.dom a haas
        exact absurd (Heap.lt_size ho) (Nat.not_lt.mpr ht.1)
      refine ⟨F₅.vw.old, ih (n - 1) (by omega) C F₅.vw.old (by show A.depth + 1 + 2 * (n - 1) + 4 < _; omega) (by exact hh) (by show A.units + 3 + 8 * (n - 1) + 304 < _; omega) hev (Nat.le_trans (tails_length k es) hz) (fun e he => ?_) hmt ?_⟩
      · unfold tails at he
        obtain ⟨e0, he0, he1⟩ := List.mem_filterMap.mp he
        have ho := ok e0 he0
        unfold tail1 at he1
        cases hk : e0.key with
        | nil => rw [hk] at he1; cases he1
        | cons x r =>
          rw [hk] at he1
          dsimp only at he1
          by_cases hx : x = k
          · rw [if_pos hx] at he1; cases he1
            have h1 := ho.1
            have h2 := ho.2.1
            rw [hk] at h1 h2
            exact ⟨by simp at h1; simp only; omega, by simpa using h2.drop 1, ho.2.2⟩
          · rw [if_neg hx] at he1; cases he1
      intro h₆ tk₆ r₆ s₆ hr₆
      refine ⟨k, t, rfl, _, _, _, rfl, F₅.ext s₆, s₆.kp, ?_, ?_⟩
      · have hnew : valueAt ys k = none := valueAt_none_iff.mpr (by
          rw [hJ.2]
          intro hmem
          obtain ⟨j, hj⟩ := List.getElem?_of_mem hmem
          rw [List.getElem?_take] at hj
          split at hj
          · rename_i hlt
            have := List.getElem?_inj (i := i) (j := j) (List.getElem?_eq_some_iff.mp hki).1 hdup |>.mp (hki.trans hj.symm)
            omega
          · cases hj)
        rw [stored_new hnew, List.take_add_one, hps]
        refine (hJ.1.kp0 s₆.kp).snoc (hr₆.mono fun b hb => ?_)
        rcases hb with hb | hb
        · exact hb
        · right
          refine ⟨?_, fun ht => ?_⟩
          · cases q : s.heap.get? b with
            | none => rfl
            | some o =>
              obtain ⟨o', ho'⟩ := hal b (.inr ⟨o, q⟩)
              simp only [ho'] at hb; cases hb
          · obtain ⟨o', ho'⟩ := hal b (.inl ht)
            simp only [ho'] at hb; cases hb
      · have hnew : valueAt ys k = none := valueAt_none_iff.mpr (by
          rw [hJ.2]
          intro hmem
          obtain ⟨j, hj⟩ := List.getElem?_of_mem hmem
          rw [List.getElem?_take] at hj
          split at hj
          · rename_i hlt
            have := List.getElem?_inj (i := i) (j := j) (List.getElem?_eq_some_iff.mp hki).1 hdup |>.mp (hki.trans hj.symm)
            omega
          · cases hj)
        rw [stored_new hnew, List.map_append, hJ.2, List.take_add_one, hki]; rfl
    · intro h₅ tk₅ D ys F₅ k₅ _ hD d₅ _ hJ
      have hlen : kvs.length = (ks.ps B).length := by rw [Ks.ps_length, hnames, List.length_map]
      rw [hlen, List.take_of_length_le (Nat.le_refl _)] at hJ
      have hD' : s.heap.get? D = none := F₄.sub.none hD
      refine hq _ _ _ F₅.sub (Rh.dictOf d₅ (hJ.1.mono fun b hb => ?_) (.inr hD'))
      rcases hb with hb | hb
      · exact .inl hb.1
      · exact .inr hb.1
end PartA6
section PartA7
theorem strOk_mark : PyData.strOk kMark = true := by decide +kernel
set_option maxHeartbeats 4000000 in
theorem part_step (n : Nat) (it : treeP n) : partP n := by
  intro w A s H0 mg mb C hH hd hh hu N ev es B t he hz ok hm Q E hq
  refine enterR (X := Nil) (binds := [(Str.ofString "part", ev)]) hH (by omega) (C.K _ _ rfl) C.G.lim (codeRec_of C.K rfl) (BindsTo.of_eq rfl) rfl ?_
  intro L h₁ tk₁ F
  obtain ⟨ea, evs, rfl, hel, hes, hNe⟩ := he.listInv
  have helen : evs.length = es.length := by rw [hes.length, List.length_map]
  have zl : (10000 : Nat) ≤ sizeLine := by rw [sizeLine_eq]; omega
  obtain ⟨e, er, hes0⟩ : ∃ e r, es = e :: r := by
    cases es with
    | nil => exact absurd rfl hm.ne
    | cons e r => exact ⟨e, r, rfl⟩
  have hem : e ∈ es := by rw [hes0]; exact .head _
  obtain ⟨v0, hv0, r0⟩ := hes.evAt (i := 0) (e := e) (by rw [hes0]; rfl)
  obtain ⟨ta, kv, tkk, tv, rfl, htt, hkv, htv⟩ := evInvH r0
  walk_at "R"
  refine listAt (F.keepG.list hel.isList (fun x => x)) (by decide) hv0 (by omega) ?_
  walk_at "R"
  refine unpackTup F (F.keepG.tup htt) (by exact hh) rfl ?_
  intro h₂ F₂ k₂ s₂
  walk_at "R"
  rename_i h₃ F₃ h₄ F₄ h₅ F₅ a₆ h₆ F₆ k₆ s₆ n₆ t₆
  have K6 : Kp Nil s.heap h₆ := k₂.trans k₆
  refine neRd (da := keyD e.key) (db := keyD []) (hkv.imm K6) (Rd.tupOf (vs := []) (N := Nil) t₆ .nil) (depthOk_key (ok e hem).2.1) (depthOk_key ⟨(fun _ hm => nomatch hm), by simp⟩) (by show A.units + 3 + 100 < _; omega) ?_
  rw [eqv_key]
  have kind : ∀ x : Str, PyData.strOk e.kind = true := fun _ => (ok e hem).2.2
  have toTree : ∀ {ks : Ks} {g' h' : Heap} {tk' : Nat} {m' : Str → Option Value} {L' : Addr} {A' : Around} {Q' E' : Value → Shared → Prop}, MKn B ks es → Sub s.heap h' → A'.depth = A.depth + 1 → A'.units = A.units + 3 → A'.handled = none → (∀ h'' tk'' r, Sub h' h'' → Rh prog w (Or N s.heap) h'' r (.dict (ks.ps B)) → Q' r { s with heap := h'', toks := tk'' }) →
      wpAny (model prog w) A' (call (.ref 86) [.ref ea]) Q' E' { s with heap := h', toks := tk' } := fun {ks g' h' tk' m' L' A' Q' E'} hmk hS hd' hu' hh' hq' => by
    refine it C (hH.trans hS) (by show A'.depth + 2 * n + 3 < _; omega) hh' (by show A'.units + 8 * n + 300 < _; omega) (he.sub hS) hz ok hmk ?_
    intro h'' tk'' r hS' hr
    exact hq' h'' tk'' r hS' (hr.mono fun b hb => hb.imp id fun hb => hS.none hb)
  cases t with
  | dict a ks =>
    obtain ⟨⟨e', r', heq, hc⟩, hmk⟩ := hm
    rw [hes0] at heq
    cases heq
    by_cases ck : e.key = []
    · have ckn : e.kind = kNest := hc.resolve_left (fun q => q ck)
      rw [decide_eq_true ck]
      walk_at "R"
      rw [if_pos (decide_eq_true ckn)]
      walk_at "R"
      refine callFn (C.K _ _ rfl) rfl ?_
      walk_at "R"
      refine ⟨F₆.vw.old, toTree (m' := fun _ => none) (L' := 0) (g' := s.heap) hmk F₆.sub rfl rfl (by exact hh) ?_⟩
      intro h'' tk'' r hS' hr
      exact hq _ _ _ (F₆.sub.trans hS') hr
    · rw [decide_eq_false ck]
      walk_at "R"
      refine callFn (C.K _ _ rfl) rfl ?_
      walk_at "R"
      refine ⟨F₆.vw.old, toTree (m' := fun _ => none) (L' := 0) (g' := s.heap) hmk F₆.sub rfl rfl (by exact hh) ?_⟩
      intro h'' tk'' r hS' hr
      exact hq _ _ _ (F₆.sub.trans hS') hr
  | leaf v d as =>
    obtain ⟨e', r', heq, h1, h2, h3, h4, _⟩ := hm
    rw [hes0] at heq
    cases heq
    rw [decide_eq_true h1]
    walk_at "R"
    rw [if_neg (by rw [h2]; decide)]
    walk_at "R"
    rw [if_pos (decide_eq_true h2)]
    walk_at "R"
    refine isiList (htv.rd.kp0 K6) ?_
    intro tk₇
    rw [h3, h4]
    walk_at "R"
    exact hq _ _ _ F₆.sub ((h3 ▸ htv.kp0 K6).mono fun b hb => .inl hb)
  | list a ahead ds as rs marks =>
    obtain ⟨⟨e', r', heq, h1, h2⟩, h3, h4⟩ := hm
    rw [hes0] at heq
    cases heq
    have hnn : ¬ e.kind = kNest := by rcases h2 with h2 | h2 <;> rw [h2.1] <;> decide
    rw [decide_eq_true h1]
    walk_at "R"
    rw [if_neg (by simpa using hnn)]
    iterate 5 (walk_at "S"; try dsimp only)
    refine cutB false (fun Q' hQ' => ?_) ?_
    · rcases h2 with ⟨h2, h5, _⟩ | ⟨h2, h5⟩
      · walk_at "R"
        rw [if_pos (decide_eq_true h2)]
        walk_at "R"
        refine isiList (htv.rd.kp0 K6) ?_
        intro tk₇
        rw [h5]
        walk_at "R"
        exact hQ' _
      · walk_at "R"
        rw [if_neg (by rw [h2]; decide)]
        exact hQ' _
    intro tk₇
    walk_at "R"
    rename_i R h₈ F₈ k₈ s₈ n₈ l₈ h₉ F₉
    have nR : s.heap.get? R = none := F₆.sub.none n₈
    have nRH : H0.get? R = none := hH.none nR
    have K9 : Kp Nil s.heap h₉ := K6.trans (k₈.trans F₉.keepG)
    have l9 : h₉.PlainList R (List.toArray []) := F₉.keepG.plain l₈ (fun x => x)
    have hes1 : Rhs prog w (In N s.heap) s.heap evs (es.map Ev.d) := hes.dom
    have hN1 : ∀ a, In N s.heap a → ¬ Loose h₉ (fun a => s.heap.get? a = none) a := fun a ⟨_, o, ho⟩ hl => by
      rcases hl with hl | hl
      · rw [F₉.sub _ _ ho] at hl; cases hl
      · rw [ho] at hl; cases hl
    have hNn : ∀ a, In N s.heap a → s.heap.get? a ≠ none := fun a ⟨_, o, ho⟩ hl => by rw [ho] at hl; cases hl
    refine forList (fun a => s.heap.get? a = none) (fun i g m => m (Str.ofString "rounds") = some (.ref R) ∧ m (Str.ofString "part") = some (.ref ea) ∧ m (Str.ofString "kind") = some (.str e.kind tkk) ∧ m (Str.ofString "thing") = some tv ∧
        ∃ rvs as, g.PlainList R (List.toArray rvs) ∧ Row prog w (In N s.heap) g rvs (rounds (es.take i)) as ∧ as.Nodup ∧ R ∉ as ∧ ∀ a ∈ as, s.heap.get? a = none)
      (K9.list hel.isList (fun x => x)) F₉ ⟨fun x => x, fun q => by obtain ⟨o, ho, _⟩ := isList_dom hel.isList; rw [q] at ho; cases ho⟩ (fun a o q e => by rw [q] at e; cases e) ⟨rfl, rfl, rfl, rfl, [], [], l9, .nil, List.nodup_nil, (fun hm => nomatch hm), fun a hm => nomatch hm⟩
      (by rintro i g g' m ⟨j1, j2, j3, j4, rvs, as, j5, j6, j7⟩ k; exact ⟨j1, j2, j3, j4, rvs, as, k.plain j5 (fun x => x), j6.kp k (fun _ _ x => x) (fun _ _ x => x), j7⟩) ?_ ?_ (by exact hh) .never (cellsOkQ (by decide))
    · rintro i v e' g₁ h₁₀ m₁ tk₁₀ hiv k₁₀ ⟨j1, j2, j3, j4, rvs, as', j5, j6, j7, j8, j9⟩ F₁₀ hee
      have hes4 : Rhs prog w (In N s.heap) g₁ evs (es.map Ev.d) := (hes1.kp0 K9).kp k₁₀ hN1
      obtain ⟨eo, hei, hre⟩ := hes4.evGet hiv
      obtain ⟨oa, okv, otk, otv, rfl, hot, hokv, hotv⟩ := evInvH hre
      have hom : eo ∈ es := List.mem_of_getElem? hei
      have htk : es.take (i + 1) = es.take i ++ [eo] := by rw [List.take_add_one, hei]; rfl
      have hrl : rvs.length ≤ 4000 := by
        have h1 := (rounds_bound (es.take i)).1
        have h2 := j6.length
        rw [List.length_take] at h1; omega
      have hrs : rounds (es.take (i + 1)) = addRound (rounds (es.take i)) eo := by rw [htk, rounds_append]; rfl
      unfold TurnP
      iterate 4 (walk_at "S"; try dsimp only)
      rename_i h₁₁ F₁₁
      have K11 := F₁₁.keepG
      refine cutF F₁₁ (fun b h' => b = isMore eo) (fun Q' hQ' => ?_) ?_
      · walk_at "R"
        refine item_tupleT (K11.tup hot) (by decide) (by decide) (j := 0) (by unfold seqIndex?; simp) rfl ?_
        walk_at "R"
        rename_i a₁₂ h₁₂ F₁₂ k₁₂ s₁₂ n₁₂ t₁₂
        refine eqRd (da := keyD eo.key) (db := keyD []) (hokv.imm k₁₂) (Rd.tupOf (vs := []) (N := Nil) t₁₂ .nil) (depthOk_key (ok eo hom).2.1) (depthOk_key ⟨(fun _ hm => nomatch hm), by simp⟩) (by show A.units + 3 + 100 < _; omega) ?_
        rw [eqv_key]
        by_cases ck : eo.key = []
        · rw [decide_eq_true ck]
          walk_at "R"
          refine item_tupleT (k₁₂.tup hot) (by decide) (by decide) (j := 1) (by unfold seqIndex?; simp) rfl ?_
          walk_at "R"
          by_cases cm : eo.kind = kMore
          · rw [if_pos (decide_eq_true cm)]
            walk_at "R"
            exact hQ' _ _ _ s₁₂ F₁₂ (by simp [isMore, ck, cm])
          · rw [if_neg (by simpa using cm)]
            exact hQ' _ _ _ s₁₂ F₁₂ (by simp [isMore, cm])
        · rw [decide_eq_false ck]
          walk_at "R"
          refine hQ' _ _ _ s₁₂ F₁₂ ?_
          simp [isMore, ck]
      · rintro _ h₁₂ tk₁₂ s₁₂ F₁₂ rfl
        have K12 : Kp Nil g₁ h₁₂ := K11.trans s₁₂.kp
        cases hmo : isMore eo with
        | true =>
          have hrs' : rounds (es.take (i + 1)) = rounds (es.take i) ++ [[]] := by rw [hrs]; unfold addRound; rw [if_pos hmo]
          walk_at "R"
          refine methList PySem.F.slot_list_append PySem.F.type_list_append (K12.plain j5 (fun x => x)) ?_
          walk_at "R"
          rename_i a₁₃ h₁₃ F₁₃ k₁₃ s₁₃ n₁₃ l₁₃
          have K13 : Kp Nil g₁ h₁₃ := K12.trans k₁₃
          have nA : s.heap.get? a₁₃ = none := F₁₂.newE hee.dom n₁₃
          have dR : ∀ b ∈ as', b ≠ a₁₃ := fun b hb q => by
            obtain ⟨o, ho⟩ := (j6.kp K12 (fun _ _ x => x) (fun _ _ x => x)).dom b hb
            rw [q] at ho; simp only [ho] at n₁₃; cases n₁₃
          have dA : R ≠ a₁₃ := fun q => by
            obtain ⟨n', ho⟩ := (K12.plain j5 (fun x => x))
            rw [q] at ho; simp only [ho] at n₁₃; cases n₁₃
          refine appendL F₁₃ (K13.plain j5 (fun x => x)) (fun _ _ => .inr (.inr nR)) nRH (by omega) ?_
          intro h₁₄ F₁₄ k₁₄ l₁₄
          walk_at "R"
          refine ⟨_, _, _, _, rfl, F₁₄, (K13.up0.trans (k₁₄.weaken fun b q => (q ▸ nR : s.heap.get? b = none))).up, j1, j2, j3, j4, rvs ++ [.ref a₁₃], as' ++ [a₁₃], l₁₄, ?_, ?_, ?_, ?_⟩
          · rw [hrs']
            exact ((j6.kp K13 (fun _ _ x => x) (fun _ _ x => x)).kp k₁₄ (fun b hb q => j8 (q ▸ hb)) (fun b hb q => hNn b hb (q ▸ nR))).snoc (k₁₄.plain l₁₃ fun q => dA q.symm) .nil
          · rw [List.nodup_append]
            exact ⟨j7, by simp, fun b hb c hc => by simp only [List.mem_singleton] at hc; subst hc; exact dR b hb⟩
          · simp only [List.mem_append, List.mem_singleton, not_or]; exact ⟨j8, dA⟩
          · intro b hb
            rcases List.mem_append.mp hb with hb | hb
            · exact j9 b hb
            · rw [List.mem_singleton.mp hb]; exact nA
        | false =>
          walk_at "R"
          rename_i a₁₃ h₁₃ F₁₃ k₁₃ s₁₃ n₁₃ l₁₃
          have K13 : Kp Nil g₁ h₁₃ := K12.trans k₁₃
          refine neEmpty (K13.list j5.isList (fun x => x)) l₁₃.isList (by show A.units + 3 + 100 < _; omega) ?_
          by_cases hre0 : rvs = []
          · rw [decide_eq_true hre0]
            walk_at "R"
            have hro : rounds (es.take i) = [] := List.eq_nil_of_length_eq_zero (by rw [← j6.length, hre0]; rfl)
            refine ⟨_, _, _, _, rfl, F₁₃, K13.weaken fun _ x => x.elim, j1, j2, j3, j4, rvs, as', K13.plain j5 (fun x => x), ?_, j7, j8, j9⟩
            have : rounds (es.take (i + 1)) = rounds (es.take i) := by rw [hrs, hro]; unfold addRound; rw [if_neg (by simp [hmo])]; rfl
            rw [this]
            exact j6.kp K13 (fun _ _ x => x) (fun _ _ x => x)
          · rw [decide_eq_false hre0]
            walk_at "R"
            obtain ⟨rvs', ess', as2, al, ws, el, rfl, hess, rfl, q1, q2, q3⟩ := (j6.kp K13 (fun _ _ x => x) (fun _ _ x => x)).unsnoc hre0
            have hwz : ws.length ≤ 4000 := by
              have h1 := ((rounds_bound (es.take i)).2 el (by rw [hess]; simp)).1
              have h2 := q3.length
              rw [List.length_map] at h2
              rw [List.length_take] at h1; omega
            have nAl : s.heap.get? al = none := j9 al (by simp)
            refine listLast (K13.list j5.isList (fun x => x)) (by simp at hrl; omega) ?_
            walk_at "R"
            refine methList PySem.F.slot_list_append PySem.F.type_list_append q2 ?_
            walk_at "R"
            refine appendL F₁₃ q2 (fun _ _ => .inr (.inr nAl)) (hH.none nAl) (by omega) ?_
            intro h₁₄ F₁₄ k₁₄ l₁₄
            walk_at "R"
            have dAl : al ∉ as2 := fun q => by
              have := (List.nodup_append.mp j7).2.2 al q al (by simp)
              exact this rfl
            have hrs' : rounds (es.take (i + 1)) = ess' ++ [el ++ [eo]] := by rw [hrs, hess]; unfold addRound; rw [if_neg (by simp [hmo])]; simp
            refine ⟨_, _, _, _, rfl, F₁₄, (K13.up0.trans (k₁₄.weaken fun b q => (q ▸ nAl : s.heap.get? b = none))).up, j1, j2, j3, j4, rvs' ++ [.ref al], as2 ++ [al], k₁₄.plain (K13.plain j5 (fun x => x)) (fun q => j8 (q ▸ by simp)), ?_, j7, j8, j9⟩
            rw [hrs']
            refine (q1.kp k₁₄ (fun b hb q => dAl (q ▸ hb)) (fun b hb q => hNn b hb (q ▸ nAl))).snoc l₁₄ ?_
            rw [List.map_append]
            exact (q3.append (.cons (hre.kp0 K13) .nil)).kp k₁₄ (fun b hb q => hNn b hb (q ▸ nAl))
    · rintro g₁ h₁₀ m₁ tk₁₀ k₁₀ ⟨j1, j2, j3, j4, rvs, as', j5, j6, j7, j8, j9⟩ F₁₀
      rw [helen, List.take_of_length_le (Nat.le_refl _)] at j6
      iterate 4 (walk_at "S"; try dsimp only)
      have K10 : Kp Nil g₁ h₁₀ := F₁₀.keepG
      have hesG : Rhs prog w (In N s.heap) g₁ evs (es.map Ev.d) := (hes1.kp0 K9).kp k₁₀ hN1
      have hes10 := hesG.kp0 K10
      have htv10 : Rh prog w (In N s.heap) h₁₀ tv e.val := ((htv.dom.kp0 K9).kp k₁₀ hN1).kp0 K10
      refine cutF F₁₀ (fun v h' => ∃ a vs, v = .ref a ∧ s.heap.get? a = none ∧ h'.PlainList a (List.toArray vs) ∧ Rhs prog w (In N s.heap) h' vs ds) (fun Q' hQ' => ?_) ?_
      · walk_at "R"
        rcases h2 with ⟨h2, h5, h6, _⟩ | ⟨h2, h5⟩
        · rw [if_pos (decide_eq_true h2)]
          rw [h5] at htv10
          obtain ⟨la, lvs, rfl, hll, hlr, _⟩ := htv10.listInv
          walk_at "R"
          have hlz : lvs.length ≤ sizeLine := by rw [hlr.length]; omega
          refine listCopy F₁₀ hll.isList hlz ?_
          intro a₁₁ h₁₁ F₁₁ k₁₁ s₁₁ n₁₁ l₁₁
          exact hQ' _ _ _ s₁₁ F₁₁ ⟨a₁₁, lvs, rfl, F₁₀.sub.none n₁₁, l₁₁, hlr.sub s₁₁⟩
        · rw [if_neg (by rw [h2]; decide)]
          walk_at "R"
          rename_i a₁₁ h₁₁ F₁₁ k₁₁ s₁₁ n₁₁ l₁₁
          refine hQ' _ _ _ s₁₁ F₁₁ ⟨a₁₁, [], rfl, F₁₀.sub.none n₁₁, l₁₁, ?_⟩
          rw [h5]; exact .nil
      rintro _ h₁₁ tk₁₁ s₁₁ F₁₁ ⟨ah, avs, rfl, nah, lah, rah⟩
      walk_at "R"
      have K11 : Kp Nil g₁ h₁₁ := K10.trans s₁₁.kp
      have hes11 := hesG.kp0 K11
      have heaN : ¬ s.heap.get? ea = none := fun q => by obtain ⟨o, ho, _⟩ := isList_dom hel.isList; rw [q] at ho; cases ho
      have lea : h₁₁.IsList ea evs.toArray := K11.list (k₁₀.list (K9.list hel.isList (fun x => x)) (fun x => x.elim (fun q => by obtain ⟨o, ho, _⟩ := isList_dom (K9.list hel.isList (fun x => x)); rw [q] at ho; cases ho) heaN)) (fun x => x)
      refine compList Nil (fun i g ys => Rhs prog w (In N s.heap) g ys (marksOf (es.take i))) ⟨by decide, rfl, rfl, by walk_at "CL"⟩ lea F₁₁ (fun x => x) .nil (by omega) .nil (fun i g g' ys r k => r.kp k fun a ⟨_, o, ho⟩ ht => absurd (Heap.lt_size (F₁₁.sub _ _ ho)) (Nat.not_lt.mpr ht.1)) ?_ ?_ (by exact hh)
      · intro i v ys C' h₁₂ tk₁₂ E' hi k₁₂ hJ hal F₁₂
        obtain ⟨eo, hei, hre⟩ := (hes11.kp0 k₁₂).evGet hi
        obtain ⟨oa, okv, otk, otv, rfl, hot, hokv, hotv⟩ := evInvH hre
        have hom : eo ∈ es := List.mem_of_getElem? hei
        have htk : es.take (i + 1) = es.take i ++ [eo] := by rw [List.take_add_one, hei]; rfl
        have hmk : marksOf (es.take (i + 1)) = marksOf (es.take i) ++ marksOf [eo] := by rw [htk]; exact List.filterMap_append
        walk_at "R"
        refine tupSlice (vs := [okv, .str eo.kind otk, otv]) 0 2 ((2 : Nat) : Int) F₁₂ rfl hot .none (.int _ _) (adj_upto 2 3) (places_is 0 2) (by simp; omega) ?_
        intro r₁₃ h₁₃ F₁₃ k₁₃ s₁₃ t₁₃
        walk_at "R"
        rename_i a₁₄ h₁₄ F₁₄ k₁₄ s₁₄ n₁₄ t₁₄ a₁₅ h₁₅ F₁₅ k₁₅ s₁₅ n₁₅ t₁₅
        have K15 : Kp Nil h₁₂ h₁₅ := k₁₃.trans (k₁₄.trans k₁₅)
        have okk := (ok eo hom).2.1
        have oks := (ok eo hom).2.2
        refine eqRd (N := Nil) (N' := Nil) (da := .tuple [keyD eo.key, .str eo.kind]) (db := .tuple [keyD [], .str kMark]) ?_ ?_ ⟨?_, ?_⟩ ⟨?_, by decide⟩ (by show A.units + 3 + 100 < _; omega) ?_
        · exact Rd.tupOf (vs := [okv, .str eo.kind otk]) ((k₁₄.trans k₁₅).tup t₁₃) (.cons (hokv.imm K15) (.cons (.str _ _) .nil))
        · exact Rd.tupOf (vs := [.ref a₁₄, .str kMark _]) t₁₅ (.cons (Rd.tupOf (vs := []) (k₁₅.tup t₁₄) .nil) (.cons (.str _ _) .nil))
        · have := (depthOk_key okk).1
          simp only [PyData.canLay0, PyData.canLayAll0, Bool.and_eq_true, and_true]
          exact ⟨this, oks⟩
        · have := depth_strs eo.key
          simp only [PyData.depth, PyData.depthAll, keyD]; omega
        · have := (depthOk_key (ks := []) ⟨(fun _ hm => nomatch hm), by simp⟩).1
          simp only [PyData.canLay0, PyData.canLayAll0, Bool.and_eq_true, and_true]
          exact ⟨this, strOk_mark⟩
        have heq : PyData.eqv (.tuple [keyD eo.key, .str eo.kind]) (.tuple [keyD [], .str kMark]) = decide (eo.key = [] ∧ eo.kind = kMark) := by
          have := eqv_key eo.key []
          simp only [PyData.eqv, PyData.eqvAll, strBeq, Bool.and_true] at this ⊢
          rw [this, Bool.eq_iff_iff]; simp
        rw [heq]
        by_cases cm : eo.key = [] ∧ eo.kind = kMark
        · rw [decide_eq_true cm]
          walk_at "R"
          refine item_tupleT (K15.tup hot) (by decide) (by decide) (j := 2) (by unfold seqIndex?; simp) rfl ?_
          refine ⟨_, _, _, rfl, F₁₅, K15, ?_⟩
          have : marksOf [eo] = [eo.val] := by simp [marksOf, mark1, cm.1, cm.2]
          rw [hmk, this]
          exact (hJ.kp0 K15).append (.cons (hotv.kp0 K15) .nil)
        · rw [decide_eq_false cm]
          walk_at "R"
          refine ⟨_, _, _, rfl, F₁₅, K15, ?_⟩
          have : marksOf [eo] = [] := by simp only [marksOf, mark1, List.filterMap_cons, if_neg cm, List.filterMap_nil]
          rw [hmk, this, List.append_nil]
          exact hJ.kp0 K15
      intro h₁₂ tk₁₂ D ys F₁₂ k₁₂ _ hD l₁₂ _ hys
      rw [helen, List.take_of_length_le (Nat.le_refl _), h4] at hys
      walk_at "R"
      rename_i a₁₃ h₁₃ F₁₃ k₁₃ s₁₃ n₁₃ t₁₃
      refine unpackN (vs := [.ref ah, .ref D]) F₁₃ t₁₃ (by exact hh) rfl ?_
      intro h₁₄ F₁₄ k₁₄ s₁₄
      show wpAny _ _ (assignInOrder [bindName _ (Str.ofString "marks"), bindName _ (Str.ofString "ahead")] [_, _]) _ _ _
      walk_at "R"
      rename_i h₁₅ F₁₅ h₁₆ F₁₆
      have K16 : Kp Nil g₁ h₁₆ := K11.trans (k₁₂.trans (k₁₃.trans (k₁₄.trans F₁₆.keepG)))
      have lR := K16.plain j5 (fun x => x)
      have rR := j6.kp K16 (fun _ _ x => x) (fun _ _ x => x)
      have hrl : rvs.length ≤ 4000 := by
        have h1 := (rounds_bound es).1
        have h2 := j6.length
        omega
      refine compList Nil (fun i g ys => Rhs prog w (fun a => In N s.heap a ∨ (s.heap.get? a = none ∧ ¬ Three h₁₆ a)) g ys ((rs.data B).take i)) ⟨by decide, rfl, rfl, by walk_at "CL"⟩ lR.isList F₁₆ (fun x => x) .nil (by omega) .nil (fun i g g' ys r k => r.kp k fun a ha => ?_) ?_ ?_ (by exact hh)
      · rcases ha with ⟨_, o, ho⟩ | ha
        · exact fun ht => absurd (Heap.lt_size (F₁₆.sub _ _ ho)) (Nat.not_lt.mpr ht.1)
        · exact ha.2
      · intro i v ys C' h₁₇ tk₁₇ E' hi k₁₇ hJ hal F₁₇
        obtain ⟨al, ws, el, rfl, hala, hel2, hlw, hrw⟩ := (rR.kp k₁₇ (fun _ _ x => x) (fun _ _ x => x)).at hi
        obtain ⟨ksi, hdi, hmi⟩ := h3.at hel2
        have hlm : el ∈ rounds es := List.mem_of_getElem? hel2
        have hbd := (rounds_bound es).2 el hlm
        walk_at "R"
        refine callFn (C.K _ _ rfl) rfl ?_
        walk_at "R"
        have hev : Rh prog w (fun a => In N s.heap a ∨ (s.heap.get? a = none ∧ ¬ Three h₁₆ a)) h₁₇ (.ref al) (.list (el.map Ev.d)) := by
          refine Rh.listOf hlw (hrw.mono fun b hb => .inl hb) (.inr ⟨j9 al hala, fun ht => ?_⟩)
          obtain ⟨o, ho⟩ := rR.dom al hala
          exact absurd (Heap.lt_size ho) (Nat.not_lt.mpr ht.1)
        refine ⟨F₁₇.vw.old, it C F₁₇.vw.old (by show A.depth + 1 + 2 * n + 3 < _; omega) (by exact hh) (by show A.units + 3 + 8 * n + 300 < _; omega) hev (Nat.le_trans hbd.1 hz) (fun x hx => ok x (hbd.2 x hx)) hmi ?_⟩
        intro h₁₈ tk₁₈ r₁₈ s₁₈ hr₁₈
        refine ⟨_, _, _, rfl, F₁₇.ext s₁₈, s₁₈.kp, ?_⟩
        rw [List.take_add_one, hdi]
        refine (hJ.kp0 s₁₈.kp).append (.cons (hr₁₈.mono fun b hb => ?_) .nil)
        rcases hb with hb | hb
        · exact hb
        · right
          refine ⟨?_, fun ht => ?_⟩
          · cases q : s.heap.get? b with
            | none => rfl
            | some o =>
              obtain ⟨o', ho'⟩ := hal b (.inr ⟨o, q⟩)
              simp only [ho'] at hb; cases hb
          · obtain ⟨o', ho'⟩ := hal b (.inl ht)
            simp only [ho'] at hb; cases hb
      intro h₁₇ tk₁₇ D₂ ys₂ F₁₇ k₁₇ _ hD₂ l₁₇ _ hJ₂
      have hrd : rvs.length = (rs.data B).length := by rw [h3.length, j6.length]
      rw [hrd, List.take_of_length_le (Nat.le_refl _)] at hJ₂
      have Kb : Kp Nil h₁₁ h₁₇ := k₁₂.trans (k₁₃.trans (k₁₄.trans (F₁₆.keepG.trans k₁₇)))
      have Kc : Kp Nil h₁₂ h₁₇ := k₁₃.trans (k₁₄.trans (F₁₆.keepG.trans k₁₇))
      have hdl : avs.length ≤ 10 := by
        rw [rah.length]
        rcases h2 with ⟨_, _, h6, _⟩ | ⟨_, h5⟩
        · exact h6
        · rw [h5]; simp
      have hys2 : ys₂.length ≤ 4000 := by rw [hJ₂.length, ← hrd]; exact hrl
      have hysl : ys.length ≤ 4000 := by
        have h1 := marksOf_length es
        rw [hys.length, ← h4]; omega
      refine addLists (vs := avs) (ws := ys₂) F₁₇ (Kb.list lah.isList (fun x => x)) l₁₇.isList ?_ (by omega)
      intro r₁₈ h₁₈ F₁₈ k₁₈ s₁₈ n₁₈ l₁₈
      walk_at "R"
      refine addLists (vs := avs ++ ys₂) (ws := ys) F₁₈ l₁₈.isList ((Kc.trans s₁₈.kp).list l₁₂.isList (fun x => x)) ?_ (by rw [List.length_append]; omega)
      intro r₁₉ h₁₉ F₁₉ k₁₉ s₁₉ n₁₉ l₁₉
      refine hq _ _ _ F₁₉.sub (Rh.listOf l₁₉ ?_ (.inr (F₁₈.sub.none n₁₉)))
      have S19 : Sub h₁₇ h₁₉ := s₁₈.trans s₁₉
      rw [← List.append_assoc]
      refine ((((rah.kp0 Kb).sub S19).mono fun b hb => ?_).append ((hJ₂.sub S19).mono fun b hb => ?_)).append (((hys.kp0 Kc).sub S19).mono fun b hb => ?_)
      · exact .inl hb.1
      · exact hb.elim (fun hb => .inl hb.1) (fun hb => .inr hb.1)
      · exact .inl hb.1
theorem tree_part : ∀ n, treeP n ∧ partP n := by
  have h : ∀ n, treeP n := fun n => by
    induction n using Nat.strongRecOn with
    | _ n ih => exact tree_step n fun m hm => part_step m (ih m hm)
  exact fun n => ⟨h n, part_step n (h n)⟩
end PartA7
section PartG3
noncomputable def ownOd (w : World) (a : Addr) (tk n : Nat) : Obj := { cls := .type "dict", data := .dict #[⟨PyData.keyHash w.params (Str.ofString "dict"), .str (Str.ofString "dict") tk, .ref a⟩] n }
structure Mach (w : World) (h : Heap) (x dx a : Addr) : Prop where
  inst : h.get? x = some (instObj 46 dx)
  own : ∃ tk n, h.get? dx = some (ownOd w a tk n)
theorem Mach.at {w : World} {h : Heap} {x dx a : Addr} (M : Mach w h x dx a) : ∃ tk n, InstAt h x (instObj 46 dx) 46 (some (ownOd w a tk n)) :=
  by obtain ⟨tk, n, e⟩ := M.own; exact ⟨tk, n, M.inst, rfl, rfl, e⟩
theorem Mach.kp {w : World} {h h' : Heap} {x dx a : Addr} {X : Addr → Prop} (M : Mach w h x dx a) (k : Kp X h h') (hx : ¬ X dx) : Mach w h' x dx a :=
  ⟨k.keep _ _ M.inst (.inr (.inl ⟨46, rfl⟩)), by obtain ⟨tk, n, e⟩ := M.own; exact ⟨tk, n, k.keep _ _ e (.inr (.inr ⟨.inr rfl, hx⟩))⟩⟩
section
variable {w : World} {A : Around} {E : Value → Shared → Prop} {s : Shared} {H0 : Heap} {mg mb : Str → Option Value}
theorem mach_get (C : Cx w H0 mg mb) (hH : Sub H0 s.heap) {x dx a : Addr} (M : Mach w s.heap x dx a) {Q : Value → Shared → Prop} {expr : Bool} (h : Q (.ref a) { s with toks := s.toks + 1 }) :
    wpAny (model prog w) A (getAttr (.ref x) (Str.ofString "dict") expr) Q E s := by
  obtain ⟨tk, n, I⟩ := M.at
  exact get_value (C.K.keeps hH) I (by rfl) (findObj_own (by rfl) (attr := none) (by rfl) (by rfl) (by rfl)) rfl h
theorem mach_meth (C : Cx w H0 mg mb) (hH : Sub H0 s.heap) {x dx a f : Addr} {name : Str} (M : Mach w s.heap x dx a) {pl : Sem Bool} {Q : Value × List Value → Shared → Prop} (hf : findIn (KK w) (.ref 46) name = some (some (.ref f))) (ht : typeIn (KK w) (.ref f) = some (.type "function")) (hs : ∀ tk n, shadowIn (some (ownOd w a tk n)) name = some false)
    (h : Q (.ref f, [.ref x]) s) : wpAny (model prog w) A (getMethod (.ref x) name pl) Q E s := by
  obtain ⟨tk, n, I⟩ := M.at
  exact method_fn (C.K.keeps hH) I (by rfl) (by rfl) hf ht (hs tk n) h
theorem nsSet_put {M : Model} {a : Addr} {m : Str → Option Value} {name : Str} {v : Value} {Q : Unit → Shared → Prop} (hn : s.heap.Ns a m)
    (h : Q () { s with heap := s.heap.update a (Obj.putName name (PyData.keyHash M.w.params name) (.str name s.toks) v), toks := s.toks + 1 }) : wpAny M A (nsSet a name v) Q E s := fun Γ p hΓ => by
  rw [nsSet_exact hn]; exact h
theorem empty_ns {h : Heap} {a : Addr} (e : h.get? a = some emptyDict) : h.Ns a (fun _ => none) := by
  have := Heap.Ns.new ({} : Heap) (.type "dict")
  obtain ⟨o, es, ep, ho, r⟩ := this
  rw [Heap.get?_push_size _ rfl] at ho
  cases ho
  exact ⟨_, es, ep, e, r⟩
theorem setOwn {e g : Heap} {X : Addr → Prop} {env : Env} {m : Str → Option Value} (C : Cx w H0 mg mb) {x dx a : Addr} (F : Fm H0 e g X True env s.heap m) (hx : s.heap.get? x = some (instObj 46 dx)) (hdx : s.heap.get? dx = some emptyDict) (hX : ∀ o, e.get? dx = some o → X dx) (hH0 : H0.get? dx = none) {Q : Unit → Shared → Prop}
    (h : ∀ h' tk, Fm H0 e h' X True env h' m → Kp (fun b => b = dx) s.heap h' → Mach w h' x dx a → Q () { s with heap := h', toks := tk }) : wpAny (model prog w) A (setAttr (.ref x) (Str.ofString "dict") (.ref a)) Q E s := by
  have XX := C.K.keeps F.vw.old
  have I : InstAt s.heap x (instObj 46 dx) 46 (some emptyDict) := ⟨hx, rfl, rfl, hdx⟩
  refine set_plain XX I (by rfl) ?_
  refine osa_open (s := { s with toks := s.toks + 1 }) XX I (by rfl) (r := none) (by rfl) fun b => ?_
  obtain ⟨cd, hc, hd'⟩ : ∃ cd, clsIn (KK w) 46 = some cd ∧ cd.hasDict = true := ⟨_, rfl, rfl⟩
  refine wpAny_bind (wpAny_pure (wpAny_bind (wpAny_bind (wpAny_loadPart hx (wpAny_bind ((looks_clsIn XX hc) _ _ _ _ (fun _ _ e => e) ?_))))))
  rw [hd']
  refine wpAny_pure (a := some dx) (wpAny_bind (wpAny_pure (wpAny_bind ?_)))
  have e' : Obj.putName (Str.ofString "dict") (PyData.keyHash w.params (Str.ofString "dict")) (.str (Str.ofString "dict") (s.toks + 1)) (.ref a) emptyDict = ownOd w a (s.toks + 1) 1 := rfl
  have D' : (s.heap.update dx (Obj.putName (Str.ofString "dict") (PyData.keyHash w.params (Str.ofString "dict")) (.str (Str.ofString "dict") (s.toks + 1)) (.ref a))).get? dx = some (ownOd w a (s.toks + 1) 1) := by
    rw [Heap.get?_update_self _ hdx (by rw [e']; rfl), e']
  refine nsSet_put (empty_ns hdx) ?_
  refine wpAny_bind (wpAny_lookBehind D' (pastItsLine_dict (by rw [List.size_toArray, sizeLine_eq]; show 1 ≤ 16777216 + 1; decide)) ?_)
  refine wpAny_pure ?_
  obtain ⟨F', k'⟩ := F.mut (Heap.SameBut.update ..) hdx (.inr rfl) ⟨_, D'⟩ hX hH0
  exact h _ _ F' k' ⟨k'.keep _ _ hx (.inr (.inl ⟨46, rfl⟩)), ⟨_, _, D'⟩⟩
end
set_option maxHeartbeats 4000000 in
theorem init_spec {w : World} {A : Around} {s : Shared} {H0 : Heap} {mg mb : Str → Option Value} (C : Cx w H0 mg mb) (hH : Sub H0 s.heap) (hd : A.depth + 2 < recursionLimit) (hh : A.handled = none) (hu : A.units + 200 < cLine) {Q E : Value → Shared → Prop}
    (hq : ∀ h' tk' x dx a, Sub s.heap h' → Mach w h' x dx a → DO prog w h' a [] → s.heap.get? x = none → s.heap.get? dx = none → s.heap.get? a = none → a ≠ dx → Q (.ref x) { s with heap := h', toks := tk' }) : wpAny (model prog w) A (call (.ref 46) []) Q E s := by
  refine wpAny_call ?_
  obtain ⟨sh, sg, sd, st, so⟩ := s
  dsimp only at hH hq ⊢
  have X := C.K.keeps hH
  refine make_core (init := .ref 28) (makes_of X (by rfl)) (looks_findIn X (by rfl)) (fun self => bind_fn X self (by rfl)) (.inl rfl) ?_
  refine enterC (s := { heap := (sh.push emptyDict).push (instObj 46 sh.objs.size), gens := sg, drawn := sd, toks := st, os := so }) (X := fun b => b = sh.objs.size) (binds := [(Str.ofString "self", .ref (sh.objs.size + 1))]) (hH.trans ((Sub.push _ _).trans (Sub.push _ _))) (upn hd (by decide)) (C.K _ _ rfl) C.G.lim (codeRec_of C.K rfl) (BindsTo.of_eq rfl) rfl ?_
  intro L h₁ tk₁ F
  walk_at "R"
  rename_i a₂ h₂ F₂ k₂ s₂ n₂ d₂
  have hx1 : ((sh.push emptyDict).push (instObj 46 sh.objs.size)).get? (sh.objs.size + 1) = some (instObj 46 sh.objs.size) := by
    have : ((sh.push emptyDict).push (instObj 46 sh.objs.size)).get? (sh.push emptyDict).objs.size = some (instObj 46 sh.objs.size) := Heap.get?_push_size _ rfl
    rwa [Heap.size_push] at this
  have hd1 : ((sh.push emptyDict).push (instObj 46 sh.objs.size)).get? sh.objs.size = some emptyDict := Heap.get?_push_of_some _ (Heap.get?_push_size _ rfl)
  have nd : sh.get? sh.objs.size = none := at_new _
  have nx : sh.get? (sh.objs.size + 1) = none := nolook (Nat.le_succ _)
  have S : Sub sh h₂ := fun b o q => F₂.keepE b o (Heap.get?_push_of_some _ (Heap.get?_push_of_some _ q)) (fun _ r => by subst r; rw [nd] at q; cases q)
  have x2 : h₂.get? (sh.objs.size + 1) = some (instObj 46 sh.objs.size) := k₂.keep _ _ hx1 (.inr (.inl ⟨46, rfl⟩))
  have d2 : h₂.get? sh.objs.size = some emptyDict := k₂.keep _ _ hd1 (.inr (.inr ⟨.inr rfl, fun x => x⟩))
  refine setOwn (s := { heap := h₂, gens := sg, drawn := sd, toks := tk₁, os := so }) C F₂ x2 d2 (fun _ _ => rfl) (hH.none nd) ?_
  intro h₃ tk₃ F₃ k₃ M₃
  walk_at "R"
  have hne : a₂ ≠ sh.objs.size := fun q => by
    obtain ⟨o, ho⟩ := F.domE _ _ hd1
    subst q
    simp only [ho] at n₂; cases n₂
  refine ⟨rfl, hq _ _ _ _ _ (fun b o q => ?_) M₃ (d₂.kp k₃ hne) nx nd (F.newE (e₀ := sh) (fun b o q => ⟨o, Heap.get?_push_of_some _ (Heap.get?_push_of_some _ q)⟩) n₂) hne⟩
  exact F₃.keepE b o (Heap.get?_push_of_some _ (Heap.get?_push_of_some _ q)) (fun _ r => by subst r; rw [nd] at q; cases q)
end PartG3
section PartA8
theorem HdAll.unsnoc {prog : Program} {w : World} {h : Heap} {v : Value} {vs : List Value} : ∀ {ds : List PyData} {as : List Addr}, HdAll prog w h (vs ++ [v]) ds as → ∃ ds' d as' bs, ds = ds' ++ [d] ∧ as = as' ++ bs ∧ HdAll prog w h vs ds' as' ∧ Hd prog w h v d bs := by
  induction vs with
  | nil =>
    intro ds as x
    cases x with
    | cons r rs => cases rs; exact ⟨[], _, [], _, rfl, by simp, .nil, r⟩
  | cons u vs ih =>
    intro ds as x
    cases x with
    | cons r rs =>
      obtain ⟨ds', d, as', bs, rfl, rfl, h1, h2⟩ := ih rs
      exact ⟨_ :: ds', d, _ ++ as', bs, rfl, by rw [List.append_assoc], .cons r h1, h2⟩
theorem HdAll.length {prog : Program} {w : World} {h : Heap} {vs : List Value} : ∀ {ds : List PyData} {as : List Addr}, HdAll prog w h vs ds as → vs.length = ds.length := by
  induction vs with
  | nil => intro ds as x; cases x; rfl
  | cons u vs ih =>
    intro ds as x
    cases x with
    | cons r rs => rw [List.length_cons, List.length_cons, ih rs]
theorem afterLast_length {α : Type} (p : α → Bool) (l : List α) : (afterLast p l).length ≤ l.length := by
  induction l with
  | nil => exact Nat.le_refl _
  | cons x l ih =>
    unfold afterLast
    split
    · exact Nat.le_succ_of_le ih
    · split
      · exact Nat.le_succ _
      · exact Nat.le_refl _
theorem Ql_length (evs : List Ev) (ps : List Str) : (Ql evs ps).length ≤ evs.length := by
  unfold Ql Pl
  refine Nat.le_trans (afterLast_length _ _) ?_
  rw [List.length_map]; exact aliveF_length
theorem Ks.get_mk (ks : Ks) (k : Str) (t : T) (h : ks.get k = some t) : ks.mk.Perm (ks.besideM k ++ t.mk) := by
  have := Ks.set_mk ks k t t h
  rwa [Ks.set_self ks k t h] at this
structure GocJ (w : World) (h0 : Heap) (a0 : Addr) (fp0 : List Addr) (evF : Nat → List Ev) (mk0 : List (Addr × List Nat)) (way : List Str) (lists : Bool) (i : Nat) (g : Heap) (a : Addr) (plug : Ks → Ks) (rest : List Addr) (mrest : List (Addr × List Nat)) (esF : Nat → List Ev) (ks : Ks) : Prop where
  at_ : At prog w g a0 evF plug a rest mrest (way.take i) esF ks
  es : esF 0 = Ql (evF 0) (way.take i)
  fr : ∀ b ∈ rest ++ (a :: ks.fp), b ∈ fp0 ∨ h0.get? b = none
  mks : (mrest ++ ks.mk).Perm mk0
  bar : ((∀ j, j < i → barAt (evF 0) way lists (j + 1) = none) ∧ Kp Nil h0 g) ∨ (barF (evF 0) way lists = Str.ofString "" ∧ esF 0 = [])
noncomputable def forBody : List Stmt → List Stmt
  | [] => []
  | .For _ _ b _ _ :: _ => b
  | _ :: r => forBody r
noncomputable abbrev gocScope : Scope := { kind := .function, names := [(Str.ofString "self", .local), (Str.ofString "key", .local), (Str.ofString "access_lists", .local), (Str.ofString "cont", .local), (Str.ofString "k", .local), (Str.ofString "isinstance", .globalImplicit), (Str.ofString "list", .globalImplicit), (Str.ofString "dict", .globalImplicit), (Str.ofString "KeyError", .globalImplicit)], isGenerator := false, isCoroutine := false }
noncomputable abbrev gocEnv (L : Addr) : Env := envQ (Str.ofString "NestedDict.get_or_create_nest") gocScope L 36 (.ref 35)
set_option maxRecDepth 100000 in
noncomputable def gocFn (w : World) : { b : List Stmt // ∃ oc od name qual params scope dV kV doc pm an cdv ct osl, (KK w).lookup 36 = some ⟨oc, od, .func (fnOf name qual params b scope dV kV doc pm an cdv ct), osl⟩ } := ⟨_, _, _, _, _, _, _, _, _, _, _, _, _, _, _, rfl⟩
noncomputable abbrev gocS (w : World) (k : Nat) : Stmt := ((forBody (gocFn w).1)[k]?).getD (Stmt.Pass default)
section
variable {w : World} {A : Around} {E : Value → Shared → Prop} {s : Shared} {H0 e g : Heap} {mg mb : Str → Option Value} {X N : Addr → Prop} {L a : Addr} {m : Str → Option Value} {Q : Flow → Shared → Prop} {kvs : List (Str × Value)} {k : Str} {kt : Tok} {v : Value} {d : PyData} {lists : Bool}
theorem goc_in (F : Fm H0 e g X True (gocEnv L) s.heap m) (hk : m (Str.ofString "k") = some (.str k kt)) (hc : m (Str.ofString "cont") = some (.ref a)) (hd : DO prog w s.heap a kvs) (hv : valueAt kvs k = some v) (q : ∀ tk, Q .next { s with toks := tk }) : wpAny (model prog w) A (exec (gocS w 0) (gocEnv L)) Q E s := by
  dsimp only [gocS, gocFn, forBody, List.getElem?_cons_succ, List.getElem?_cons_zero, Option.getD_some]
  walk_at "R"
  refine notInDict hd ?_
  rw [hv]
  dsimp only [Option.isSome_some, Option.isSome_none]
  walk_at "R"
  exact q _
theorem goc_new (C : Cx w H0 mg mb) (F : Fm H0 e g X True (gocEnv L) s.heap m) (hk : m (Str.ofString "k") = some (.str k kt)) (hc : m (Str.ofString "cont") = some (.ref a)) (hd : DO prog w s.heap a kvs) (hv : valueAt kvs k = none) (hX : ∀ o, e.get? a = some o → X a) (hH : H0.get? a = none) (hz : kvs.length ≤ sizeLine)
    (q : ∀ h' tk a', Fm H0 e h' X True (gocEnv L) h' m → Kp (fun b => b = a) s.heap h' → DO prog w h' a (kvs ++ [(k, .ref a')]) → DO prog w h' a' [] → s.heap.get? a' = none → Q .next { s with heap := h', toks := tk }) : wpAny (model prog w) A (exec (gocS w 0) (gocEnv L)) Q E s := by
  obtain ⟨sh, sg, sd, st, so⟩ := s
  dsimp only at F hd q ⊢
  replace F := F.here
  dsimp only [gocS, gocFn, forBody, List.getElem?_cons_succ, List.getElem?_cons_zero, Option.getD_some]
  walk_at "R"
  refine notInDict hd ?_
  rw [hv]
  dsimp only [Option.isSome_some, Option.isSome_none]
  walk_at "R"
  rename_i a₁ h₁ F₁ k₁ s₁ n₁ d₁
  refine setDict F₁ (hd.kp k₁ (fun q => q)) hX hH hz ?_
  intro h₂ F₂ k₂ d₂
  rw [stored_new hv] at d₂
  walk_at "R"
  obtain ⟨o, ho, _⟩ := hd.dom
  exact q _ _ a₁ F₂ (k₁.up0.trans k₂) d₂ (d₁.kp k₂ fun z => by rw [z] at n₁; simp only [ho] at n₁; cases n₁) n₁
theorem goc_get (F : Fm H0 e g X True (gocEnv L) s.heap m) (hk : m (Str.ofString "k") = some (.str k kt)) (hc : m (Str.ofString "cont") = some (.ref a)) (hd : DO prog w s.heap a kvs) (hv : valueAt kvs k = some v)
    (q : ∀ h' tk, Fm H0 e g X True (gocEnv L) h' (fun y => if y = Str.ofString "cont" then some v else m y) → Q .next { s with heap := h', toks := tk }) : wpAny (model prog w) A (exec (gocS w 1) (gocEnv L)) Q E s := by
  dsimp only [gocS, gocFn, forBody, List.getElem?_cons_succ, List.getElem?_cons_zero, Option.getD_some]
  walk_at "R"
  refine getDict hd hv ?_
  walk_at "R"
  rename_i h₁ F₁
  exact q _ _ F₁
theorem goc_if (C : Cx w H0 mg mb) (F : Fm H0 e g X True (gocEnv L) s.heap m) (hl : m (Str.ofString "access_lists") = some (.bool lists)) (hc : m (Str.ofString "cont") = some v) (rd : Rd N s.heap v d) (hld : lists = false ∨ isListD d = false) (q : ∀ tk, Q .next { s with toks := tk }) : wpAny (model prog w) A (exec (gocS w 2) (gocEnv L)) Q E s := by
  dsimp only [gocS, gocFn, forBody, List.getElem?_cons_succ, List.getElem?_cons_zero, Option.getD_some]
  walk_at "R"
  cases lists with
  | false =>
    walk_at "R"
    exact q _
  | true =>
    walk_at "R"
    refine isiList rd ?_
    intro tk
    rw [hld.resolve_left (by simp)]
    walk_at "R"
    exact q _
theorem goc_last (C : Cx w H0 mg mb) (F : Fm H0 e g X True (gocEnv L) s.heap m) (hl : m (Str.ofString "access_lists") = some (.bool true)) (hc : m (Str.ofString "cont") = some (.ref a)) (rd : Rd N s.heap (.ref a) d) (hld : isListD d = true) {vs : List Value} (hL : s.heap.IsList a (vs ++ [v]).toArray) (hz : vs.length ≤ sizeLine)
    (q : ∀ h' tk, Fm H0 e g X True (gocEnv L) h' (fun y => if y = Str.ofString "cont" then some v else m y) → Q .next { s with heap := h', toks := tk }) : wpAny (model prog w) A (exec (gocS w 2) (gocEnv L)) Q E s := by
  dsimp only [gocS, gocFn, forBody, List.getElem?_cons_succ, List.getElem?_cons_zero, Option.getD_some]
  walk_at "R"
  refine isiList rd ?_
  intro tk
  rw [hld]
  walk_at "R"
  refine listLast hL hz ?_
  walk_at "R"
  rename_i h₁ F₁
  exact q _ _ F₁
theorem goc_out (C : Cx w H0 mg mb) (hh : A.handled = none) (F : Fm H0 e g X True (gocEnv L) s.heap m) (hl : m (Str.ofString "access_lists") = some (.bool true)) (hc : m (Str.ofString "cont") = some (.ref a)) (rd : Rd N s.heap (.ref a) d) (hld : isListD d = true) (hL : s.heap.IsList a #[])
    (q : ∀ h' tk ex, Heap.NewExc s.heap h' ex "IndexError" → E (.ref ex) { s with heap := h', toks := tk }) : wpAny (model prog w) A (exec (gocS w 2) (gocEnv L)) Q E s := by
  dsimp only [gocS, gocFn, forBody, List.getElem?_cons_succ, List.getElem?_cons_zero, Option.getD_some]
  walk_at "R"
  refine isiList rd ?_
  intro tk
  rw [hld]
  walk_at "R"
  exact item_outK hh hL (.inl (by simp)) (by decide) (by decide) fun h₆ tk₆ ex hx => q _ _ _ hx
theorem goc_dict (C : Cx w H0 mg mb) (F : Fm H0 e g X True (gocEnv L) s.heap m) (hc : m (Str.ofString "cont") = some v) (rd : Rd N s.heap v d) (hdd : isDictD d = true) (q : ∀ tk, Q .next { s with toks := tk }) : wpAny (model prog w) A (exec (gocS w 3) (gocEnv L)) Q E s := by
  dsimp only [gocS, gocFn, forBody, List.getElem?_cons_succ, List.getElem?_cons_zero, Option.getD_some]
  walk_at "R"
  refine isiDict rd ?_
  intro tk
  rw [hdd]
  walk_at "R"
  exact q _
theorem goc_raise (C : Cx w H0 mg mb) (hh : A.handled = none) (F : Fm H0 e g X True (gocEnv L) s.heap m) (hc : m (Str.ofString "cont") = some v) (rd : Rd N s.heap v d) (hdd : isDictD d = false) (q : ∀ h' tk ex t, Heap.MadeExc s.heap h' ex "KeyError" [.str noNest t] → E (.ref ex) { s with heap := h', toks := tk }) : wpAny (model prog w) A (exec (gocS w 3) (gocEnv L)) Q E s := by
  dsimp only [gocS, gocFn, forBody, List.getElem?_cons_succ, List.getElem?_cons_zero, Option.getD_some]
  walk_at "R"
  refine isiDict rd ?_
  intro tk
  rw [hdd]
  walk_at "R"
  refine raiseKey hh ?_
  walk_at "R"
  refine ⟨rfl, ?_⟩
  walk_at "R"
  exact ⟨by show 1 ≤ sizeLine; rw [sizeLine_eq]; decide, fun h₆ ex hme => q _ _ _ _ hme⟩
end
inductive GocI (w : World) (h0 : Heap) (a0 : Addr) (fp0 : List Addr) (evF : Nat → List Ev) (mk0 : List (Addr × List Nat)) (way : List Str) (lists : Bool) (i : Nat) (g : Heap) (m : Str → Option Value) : Prop
  | mk (a : Addr) (plug : Ks → Ks) (rest : List Addr) (mrest : List (Addr × List Nat)) (esF : Nat → List Ev) (ks : Ks) : m (Str.ofString "access_lists") = some (.bool lists) → m (Str.ofString "cont") = some (.ref a) → GocJ w h0 a0 fp0 evF mk0 way lists i g a plug rest mrest esF ks → GocI w h0 a0 fp0 evF mk0 way lists i g m
theorem GocJ.kp0 {w : World} {h0 g g' : Heap} {a0 : Addr} {fp0 : List Addr} {evF : Nat → List Ev} {mk0 : List (Addr × List Nat)} {way : List Str} {lists : Bool} {i : Nat} {a : Addr} {plug : Ks → Ks} {rest : List Addr} {mrest : List (Addr × List Nat)} {esF : Nat → List Ev} {ks : Ks}
    (J : GocJ w h0 a0 fp0 evF mk0 way lists i g a plug rest mrest esF ks) (k : Kp Nil g g') : GocJ w h0 a0 fp0 evF mk0 way lists i g' a plug rest mrest esF ks :=
  ⟨J.at_.kp0 k, J.es, J.fr, J.mks, J.bar.imp (fun q => ⟨q.1, q.2.trans k⟩) id⟩
set_option maxHeartbeats 4000000 in
theorem goc_spec {w : World} {A : Around} {s : Shared} {H0 : Heap} {mg mb : Str → Option Value} (C : Cx w H0 mg mb) (hH : Sub H0 s.heap) (hd : A.depth + 2 < recursionLimit) (hh : A.handled = none) (hu : A.units + 200 < cLine)
    {outer : List Env} (St : Stack A s.heap outer) {x dx a0 : Addr} (M : Mach w s.heap x dx a0) {wv : Value} {way : List Str} (hw : Rd Nil s.heap wv (keyD way)) (okw : keyOk way) {lists : Bool} {root : Ks} {evF : Nat → List Ev}
    (hR : At prog w s.heap a0 evF id a0 [] [] [] evF root) (h0 : ∀ b ∈ a0 :: root.fp, H0.get? b = none) (hdx : dx ∉ a0 :: root.fp) (hz : (evF 0).length ≤ 4000) {kw : List (Str × Value)} (hkw : (kw = [] ∧ lists = true) ∨ kw = [(Str.ofString "access_lists", .bool lists)]) {Q E : Value → Shared → Prop}
    (hq : ∀ h' tk' a plug rest mrest esF ks, Tch (fun b => b ∈ a0 :: root.fp) s.heap h' → GocJ w s.heap a0 (a0 :: root.fp) evF root.mk way lists way.length h' a plug rest mrest esF ks → barF (evF 0) way lists = Str.ofString "" → Q (.ref a) { s with heap := h', toks := tk' })
    (hk : ∀ h' tk' e t, Flew s.heap h' outer e (.type "KeyError") (some [.str noNest t]) → barF (evF 0) way lists = noNest → E (.ref e) { s with heap := h', toks := tk' })
    (hi : ∀ h' tk' e, Flew s.heap h' outer e (.type "IndexError") none → barF (evF 0) way lists = nothing → E (.ref e) { s with heap := h', toks := tk' }) :
    wpAny (model prog w) A (call (.ref 36) [.ref x, wv] kw) Q E s := by
  obtain ⟨wa, wvs, rfl, hwt, hws⟩ := hw.tupInv
  have hwlen : wvs.length = way.length := by rw [hws.length, List.length_map]
  have zl : (10000 : Nat) ≤ sizeLine := by rw [sizeLine_eq]; omega
  refine wpAny_call ?_
  refine enterC (X := fun b => b ∈ a0 :: root.fp) (binds := [(Str.ofString "self", .ref x), (Str.ofString "key", .ref wa), (Str.ofString "access_lists", .bool lists)]) hH (by omega) (C.K _ _ rfl) C.G.lim (codeRec_of C.K rfl) ?_ rfl ?_
  · rcases hkw with ⟨rfl, rfl⟩ | rfl
    · exact fun M A E Q hq => bindsKw2 (dV := .none) (z := .none) (C.K.keeps hH) (d := 29) (v := .bool true) ⟨rfl, rfl, rfl, rfl, rfl⟩ (by decide) (by decide) (by decide) (by decide) (by rfl) hq
    · exact BindsTo.of_eq rfl
  intro L h₁ tk₁ F
  have hdX : ¬ (fun b => b ∈ a0 :: root.fp) dx := hdx
  walk_at "R"
  refine mach_get C F.vw.old (M.kp F.keepG (fun x => x)) ?_
  walk_at "R"
  rename_i h₂ F₂
  have R2 := hR.kp0 F₂.keepG
  have K2 : Kp Nil s.heap h₂ := F₂.keepG
  refine forTup (fun b => b ∈ (a0 :: root.fp) ∨ s.heap.get? b = none) (GocI w s.heap a0 (a0 :: root.fp) evF root.mk way lists)
    (K2.tup hwt) F₂ (fun b o q e => q.elim id fun q => by rw [q] at e; cases e) (.mk a0 id [] [] evF root rfl rfl ⟨R2, (Ql_nil (hR.mkn 0).2.1).symm, fun b hb => .inl (by simpa using hb), .refl _, .inl ⟨fun j hj => absurd hj (Nat.not_lt_zero _), K2⟩⟩)
    (fun i g g' m J k => by cases J with | mk a plug rest mrest esF ks j1 j2 j3 => exact .mk a plug rest mrest esF ks j1 j2 (j3.kp0 k)) ?_ ?_ (by exact hh) .leaving (cellsOkQ (by decide))
  · intro i v e' g₁ h₃ m₁ tk₃ hiv k₃ J F₃ hee
    obtain ⟨a, plug, rest, mrest, esF, ks, j1, j2, j3⟩ := J
    obtain ⟨d, hd1, hr1⟩ := hws.get hiv
    obtain ⟨k, hk1, rfl⟩ : ∃ k, way[i]? = some k ∧ PyData.str k = d := by
      rw [List.getElem?_map] at hd1
      exact Option.map_eq_some_iff.mp hd1
    obtain ⟨kt, rfl⟩ := hr1.strInv
    have htk : way.take (i + 1) = way.take i ++ [k] := by rw [List.take_add_one, hk1]; rfl
    have hlt : i < way.length := (List.getElem?_eq_some_iff.mp hk1).1
    have hbar : barAt (evF 0) way lists (i + 1) = barS (tails k (esF 0)) lists := by rw [barAt_eq, htk, Pl_snoc, ← j3.es]
    have hkz : ks.kvs.length ≤ 4000 := by
      have h1 := (j3.at_.mkn 0).1
      have h2 := namesOf_length (esF 0)
      have h3 := Ql_length (evF 0) (way.take i)
      rw [← j3.es] at h3
      have h4 : ks.kvs.length = ks.names.length := by rw [← Ks.names_kvs, List.length_map]
      rw [h4, h1]; exact Nat.le_trans h2 (Nat.le_trans h3 hz)
    have hMa : ∀ b ∈ rest ++ (a :: ks.fp), b ∈ a0 :: root.fp ∨ s.heap.get? b = none := j3.fr
    have hHa : ∀ b ∈ rest ++ (a :: ks.fp), H0.get? b = none := fun b hb => (hMa b hb).elim (h0 b) hH.none
    unfold TurnP
    iterate 2 (walk_at "S"; try dsimp only)
    rename_i h₄ F₄
    have A4 := j3.at_.kp0 F₄.keepG
    refine wpAny_execs_cons ?_
    cases hg : ks.get k with
    | none =>
      have hkn : k ∉ ks.names := (ks.get_none k).mp hg
      have hv0 : valueAt ks.kvs k = none := by rw [Ks.valueAt, hg]; rfl
      refine goc_new C F₄ rfl j2 A4.dict hv0 (fun _ _ => .inr (.inr (hMa a (by simp)))) (hHa a (by simp)) (Nat.le_trans hkz (Nat.le_trans (by decide) zl)) ?_
      intro h₆ tk₆ a₅ F₆ k₆ d₆ d5' n₅
      dsimp only
      have hdup : ((ks.kvs ++ [(k, Value.ref a₅)]).map (·.1)).Nodup := d₆.nodup
      have ha5 : a₅ ∉ rest ++ (a :: ks.fp) := fun hm => by
        obtain ⟨o, ho⟩ := A4.dom a₅ hm
        simp only [ho] at n₅; cases n₅
      have AN := A4.newC hkn k₆ d₆ d5' ha5
      have nE : s.heap.get? a₅ = none := F₄.newE hee.dom n₅
      refine wpAny_execs_cons ?_
      refine goc_get F₆ rfl j2 d₆ (valueAt_of_get hdup (i := ks.kvs.length) (v := .ref a₅) (by simp)) ?_
      intro h₇ tk₇ F₇
      dsimp only
      have htl : tails k (esF 0) = [] := Classical.byContradiction fun q => ((j3.at_.mkn 0).1 ▸ hkn) (tails_ne.mp q)
      have hbf : barF (evF 0) way lists = Str.ofString "" := by
        rcases j3.bar with ⟨q, _⟩ | ⟨q, _⟩
        · exact barF_at hlt q (by rw [hbar, htl]; rfl)
        · exact q
      have rd : Rd (fun _ => True) h₇ (.ref a₅) (.dict []) := (Rh.dictOf (d5'.kp F₇.keepG (fun x => x)) .nil trivial).rd
      refine wpAny_execs_cons ?_
      refine goc_if C F₇ j1 rfl rd (.inr rfl) ?_
      intro tk₈
      dsimp only
      refine wpAny_execs_cons ?_
      refine goc_dict C F₇ rfl rd rfl ?_
      intro tk₉
      dsimp only
      refine wpAny_execs_nil ?_
      refine ⟨_, _, _, _, rfl, F₇, F₄.keepG.up0.trans (k₆.weaken fun b q => q ▸ .inr (hMa a (by simp))), .mk a₅ _ _ _ _ _ j1 rfl ⟨by rw [htk]; exact AN, ?_, fun b hb => ?_, by rw [Ks.mk, List.append_nil]; exact j3.mks, .inr ⟨hbf, rfl⟩⟩⟩
      · have : Pl (evF 0) (way.take (i + 1)) = [] := by rw [htk, Pl_snoc, ← j3.es]; exact htl
        unfold Ql; rw [this]; rfl
      · rcases List.mem_append.mp hb with hb | hb
        · exact hMa b hb
        · simp only [Ks.fp, List.mem_singleton] at hb
          exact .inr (hb ▸ nE)
    | some t =>
      have hin : k ∈ namesOf (esF 0) := by
        rw [← (j3.at_.mkn 0).1]
        exact Classical.byContradiction fun q => by rw [(ks.get_none k).mpr q] at hg; cases hg
      obtain ⟨hbefore, kNil⟩ : (∀ j, j < i → barAt (evF 0) way lists (j + 1) = none) ∧ Kp Nil s.heap g₁ := j3.bar.resolve_right fun q => by rw [q.2] at hin; cases hin
      have hT0 : t.Ok prog w 0 g₁ := j3.at_.ok.get hg
      have hm0 : MT 0 t (tails k (esF 0)) := (j3.at_.mkn 0).2.2.get hg
      have hva : valueAt ks.kvs k = some t.val := by rw [Ks.valueAt, hg]; rfl
      have hPl : Pl (evF 0) (way.take (i + 1)) = tails k (esF 0) := by rw [htk, Pl_snoc, ← j3.es]
      refine goc_in F₄ rfl j2 A4.dict hva ?_
      intro tk₅
      dsimp only
      refine wpAny_execs_cons ?_
      refine goc_get F₄ rfl j2 A4.dict hva ?_
      intro h₅ tk₆ F₅
      dsimp only
      have rd5 : Rd (fun b => b ∈ t.fp) h₅ t.val (t.data 0) := (Rh.kp0 (prog := prog) (w := w) ⟨_, T.Ok.hd t hT0, fun _ h => h⟩ F₅.keepG).rd
      -- what is raised leaves the function
      have sub : ∀ {h' m'}, Fm H0 e' g₁ (fun b => b ∈ a0 :: root.fp ∨ Loose h₂ (fun b => b ∈ a0 :: root.fp ∨ s.heap.get? b = none) b) True (gocEnv L) h' m' → Sub s.heap h' ∧ ∃ o, h'.get? L = some o ∧ ∀ vs, o.data ≠ .fields vs := fun {h' m'} F' => by
        refine ⟨fun b o q => ?_, ?_⟩
        · by_cases hl : ld o
          · exact F'.keepG.keep b o (kNil.keep b o q (.inr (.inr ⟨hl, fun x => x⟩))) (.inr (.inr ⟨hl, fun x => x⟩))
          · exact F'.keepE b o (hee.keep b o q (fun q => absurd q hl)) (fun q => absurd q hl)
        · obtain ⟨ml, ⟨oL, _, _, ho', hd', _⟩, _⟩ := F'.vw.ns
          exact ⟨oL, ho', fun vs q => by rw [hd'] at q; cases q⟩
      have refuse : ∀ {h' : Heap} {m' : Str → Option Value} {h₆ : Heap} {tk : Nat} {ex : Addr} {t : Tok}, Fm H0 e' g₁ (fun b => b ∈ a0 :: root.fp ∨ Loose h₂ (fun b => b ∈ a0 :: root.fp ∨ s.heap.get? b = none) b) True (gocEnv L) h' m' → barAt (evF 0) way lists (i + 1) = some noNest → Heap.MadeExc h' h₆ ex "KeyError" [.str noNest t] →
          wpAny (model prog w) (A.deeper (gocEnv L)) (leaving (gocEnv L) (.ref ex)) (fun _ s'' => E (.ref ex) s'') (fun e' s'' => E e' s'') { s with heap := h₆, toks := tk } := fun {h' m' h₆ tk ex t} F' hb hme =>
        leaveMade (s := { s with heap := h₆, toks := tk }) St (sub F').1 (F.wr trivial).newL (sub F').2 hme.of rfl fun h₇ fl => hk _ _ _ _ fl (barF_at hlt hbefore hb)
      refine wpAny_execs_cons ?_
      cases t with
      | leaf v d as =>
        obtain ⟨ev, er, hes, hm1, hm2, hm3, hm4, hm5⟩ := id hm0
        refine goc_if C F₅ j1 rfl rd5 (.inr hm4) ?_
        intro tk₇
        dsimp only
        refine wpAny_execs_cons ?_
        refine goc_raise C (by exact hh) F₅ rfl rd5 hm5 ?_
        intro h₆ tk₈ ex t hme
        exact refuse F₅ (by rw [hbar]; exact bar_leaf hm0) hme
      | dict a' l =>
        have hnm : noMore (tails k (esF 0)) := hm0.2.2.1
        have hp : (rest ++ (a :: ks.fp)).Perm ((rest ++ (a :: ks.beside k)) ++ (a' :: l.fp)) := by
          rw [List.append_assoc]
          refine List.Perm.append_left _ ?_
          rw [List.cons_append]
          exact (Ks.get_perm ks k _ hg).cons _
        refine goc_if C F₅ j1 rfl rd5 (.inr rfl) ?_
        intro tk₇
        dsimp only
        refine wpAny_execs_cons ?_
        refine goc_dict C F₅ rfl rd5 rfl ?_
        intro tk₈
        dsimp only
        refine wpAny_execs_nil ?_
        refine ⟨_, _, _, _, rfl, F₅, .refl _, .mk a' _ _ _ _ _ j1 rfl ⟨by rw [htk]; exact j3.at_.dictC hg, ?_, fun b hb => hMa b (hp.mem_iff.mpr hb), (by rw [List.append_assoc]; exact ((Ks.get_mk ks k _ hg).append_left _).symm.trans j3.mks), .inl ⟨fun j hj => ?_, kNil⟩⟩⟩
        · unfold Ql; rw [hPl]; exact (afterLast_id hnm).symm
        · rcases Nat.lt_succ_iff_lt_or_eq.mp hj with q | rfl
          · exact hbefore j q
          · rw [hbar]; exact bar_dict hm0
      | list al ahead ds as rs marks =>
        obtain ⟨⟨mv, hL, hmv⟩, hA, hRs⟩ := id hT0
        have hmv0 : mv = [] := by
          have : upTo 0 marks = [] := by unfold upTo; exact List.filter_eq_nil_iff.mpr fun a _ => by simp
          rw [this] at hmv
          cases hmv; rfl
        subst hmv0
        rw [List.append_nil] at hL
        by_cases hli : lists = true
        · subst hli
          have hlen : (ahead ++ rs.vals).length ≤ sizeLine := by
            have h1 := hA.length
            have h2 : ds.length ≤ 10 := by
              obtain ⟨⟨e, r, _, _, q⟩, _⟩ := id hm0
              rcases q with ⟨_, _, q⟩ | ⟨_, q⟩
              · exact q.1
              · simp [q]
            have h3 := (Rs.Ok.hd _ hRs).length
            have h4 := MRs.length (id hm0).2.1
            have h5 := (rounds_bound (tails k (esF 0))).1
            have h6 := tails_length k (esF 0)
            have h7 := Ql_length (evF 0) (way.take i)
            rw [← j3.es] at h7
            rw [List.length_append]
            omega
          have hL5 := (F₅.keepG.plain hL (fun x => x)).isList
          rcases rs.split with rfl | ⟨r, a', l, rfl⟩
          · rw [show Rs.vals .nil = [] from rfl, List.append_nil] at hL5 hlen
            have hbl := bar_list_nil hm0
            rw [← hbar] at hbl
            rcases List.eq_nil_or_concat ahead with rfl | ⟨ahead', v, rfl⟩
            · have hds : ds = [] := by cases hA; rfl
              rw [if_pos hds] at hbl
              refine goc_out C (by exact hh) F₅ j1 rfl rd5 rfl hL5 ?_
              intro h₆ tk₇ ex hx
              exact leaveNew (s := { s with heap := h₆, toks := tk₇ }) St (sub F₅).1 (F.wr trivial).newL (sub F₅).2 hx rfl fun h₇ fl => hi _ _ _ fl (barF_at hlt hbefore hbl)
            · rw [List.concat_eq_append] at hL5 hA hlen
              obtain ⟨ds', d, as', bs, rfl, rfl, hA1, hA2⟩ := HdAll.unsnoc hA
              have hne : ds' ++ [d] ≠ [] := by simp
              rw [if_neg hne] at hbl
              have hlast : isDictD d = false := by
                obtain ⟨⟨e, r, _, _, q⟩, _⟩ := id hm0
                rcases q with ⟨_, _, q⟩ | ⟨_, q⟩
                · exact q.2 d (by simp)
                · exact absurd q hne
              refine goc_last C F₅ j1 rfl rd5 rfl hL5 (Nat.le_trans (by rw [List.length_append]; exact Nat.le_add_right _ _) hlen) ?_
              intro h₆ tk₇ F₆
              dsimp only
              refine wpAny_execs_cons ?_
              refine goc_raise C (by exact hh) F₆ rfl (N := fun b => b ∈ bs) (d := d) (Rh.rd ⟨bs, hA2.kp F₆.keepG (fun _ _ x => x), fun _ h => h⟩) hlast ?_
              intro h₇ tk₈ ex t hme
              exact refuse F₆ hbl hme
          · rw [Rs.snoc_vals, ← List.append_assoc] at hL5 hlen
            obtain ⟨hb1, hb2⟩ := bar_list_snoc hm0
            rw [← hbar] at hb1
            obtain ⟨hR1, hR2, hR3⟩ := hRs.unsnoc
            refine goc_last C F₅ j1 rfl rd5 rfl hL5 (by rw [List.length_append, List.length_singleton] at hlen; exact Nat.le_of_succ_le hlen) ?_
            intro h₆ tk₇ F₆
            dsimp only
            refine wpAny_execs_cons ?_
            refine goc_dict C F₆ rfl (N := fun b => b ∈ a' :: l.fp) (d := .dict (l.ps 0)) (Rh.rd (Rh.kp0 (prog := prog) (w := w) ⟨a' :: l.fp, .dict hR2 (Ks.Ok.hd l hR3), fun _ h => h⟩ F₆.keepG)) rfl ?_
            intro tk₈
            dsimp only
            refine wpAny_execs_nil ?_
            have fpe : ∀ x : Ks, (T.list al ahead ds as (r.snoc a' x) marks).fp = (al :: (as ++ r.fp)) ++ (a' :: x.fp) := fun x => by simp only [T.fp, Rs.snoc_fp, List.cons_append, List.append_assoc]
            have hp : (rest ++ (a :: ks.fp)).Perm ((rest ++ (a :: (ks.beside k ++ (al :: (as ++ r.fp))))) ++ (a' :: l.fp)) := by
              rw [List.append_assoc]
              refine List.Perm.append_left _ ?_
              rw [List.cons_append, List.append_assoc, ← fpe]
              exact (Ks.get_perm ks k _ hg).cons _
            refine ⟨_, _, _, _, rfl, F₆, .refl _, .mk a' _ _ _ _ _ j1 rfl ⟨by rw [htk]; exact j3.at_.listC hg, ?_, fun b hb => hMa b (hp.mem_iff.mpr hb), (by rw [List.append_assoc, List.append_assoc, ← show (T.list al ahead ds as (r.snoc a' l) marks).mk = ((al, marks) :: r.mk) ++ l.mk by simp only [T.mk, Rs.snoc_mk, List.cons_append]]; exact ((Ks.get_mk ks k _ hg).append_left _).symm.trans j3.mks), .inl ⟨fun j hj => ?_, kNil⟩⟩⟩
            · unfold Ql; rw [hPl]
            · rcases Nat.lt_succ_iff_lt_or_eq.mp hj with q | rfl
              · exact hbefore j q
              · exact hb1
        · have hlf : lists = false := by cases lists <;> simp_all
          subst hlf
          refine goc_if C F₅ j1 rfl rd5 (.inl rfl) ?_
          intro tk₇
          dsimp only
          refine wpAny_execs_cons ?_
          refine goc_raise C (by exact hh) F₅ rfl rd5 rfl ?_
          intro h₆ tk₈ ex t hme
          exact refuse F₅ (by rw [hbar]; exact bar_list_no hm0) hme
  · intro g₁ h₃ m₁ tk₃ k₃ J F₃
    obtain ⟨a, plug, rest, mrest, esF, ks, j1, j2, j3⟩ := J
    walk_at "R"
    rw [hwlen] at j3
    refine hq _ _ a plug rest mrest esF ks F₃.tch (j3.kp0 F₃.keepG) ?_
    rcases j3.bar with ⟨q, _⟩ | ⟨q, _⟩
    · exact barF_none q
    · exact q
end PartA8
section PartA9
local macro_rules | `(tactic| walk_at "S") => `(tactic| ((with_reducible show wpAny _ _ (eval (Expr.Call (Expr.Attribute (Expr.Name _ _) (PySem.Str.ofString "get_or_create_nest") _) _ [] _) _) _ _ _); refine MethodCall_ ?_))
section
variable {prog : Program} {w : World} {A : Around} {E : Value → Shared → Prop} {s : Shared} {env : Env} {H0 : Heap}
theorem callFirst {f : Addr} {o : Obj} {fd : FuncData} {pos : Pos} {first : List Value} {x : Expr} {rest : List Expr} {Q : Value → Shared → Prop} (ho : H0.get? f = some o) (hd : o.data = .func fd)
    (h : wpAny (model prog w) A (spliced (backTo pos (starEach (x :: rest) env))) (fun vs s₁ => Sub H0 s₁.heap ∧ wpAny (model prog w) A (call (.ref f) (first ++ vs)) Q E s₁) E s)
    (he : starEach (x :: rest) env = (false, eval x env) :: starEach rest env := by rfl) :
    wpAny (model prog w) A (callWith pos (.ref f) first (backTo pos (starEach (x :: rest) env)) []) Q E s := by
  rw [he] at h ⊢
  exact callWith_function (o := o) (fd := fd) (evalArgs_plain (wpAny_mono h (fun vs s₁ h₁ => ⟨⟨h₁.1 _ _ ho, hd⟩, h₁.2⟩) fun _ _ x => x))
end
theorem nodup_snoc {l : List Addr} {x : Addr} (h : l.Nodup) (hx : x ∉ l) : (l ++ [x]).Nodup := by
  rw [List.nodup_append]
  exact ⟨h, by simp, fun a ha b hb => by rw [List.mem_singleton.mp hb]; exact fun q => hx (q ▸ ha)⟩
theorem Fm.subK {H0 e g h : Heap} {X : Addr → Prop} {W : Prop} {env : Env} {m : Str → Option Value} (F : Fm H0 e g X W env h m) (k : Kp Nil e h) : Sub e h := fun b o q => by
  by_cases hl : ld o
  · exact k.keep b o q (.inr (.inr ⟨hl, fun x => x⟩))
  · exact F.keepE b o q (fun q => absurd q hl)
noncomputable def otherW : Str := Str.ofString "An object other than list found behind this key"
set_option maxHeartbeats 4000000 in
theorem append_spec {w : World} {A : Around} {s : Shared} {H0 : Heap} {mg mb : Str → Option Value} (C : Cx w H0 mg mb) (hH : Sub H0 s.heap) (hd : A.depth + 3 < recursionLimit) (hh : A.handled = none) (hu : A.units + 300 < cLine)
    {outer : List Env} (St : Stack A s.heap outer) {x dx a0 : Addr} (M : Mach w s.heap x dx a0) {wv : Value} {way : List Str} {last : Str} (hw : Rd Nil s.heap wv (keyD (way ++ [last]))) (okw : keyOk (way ++ [last]))
    {root : Ks} {evF : Nat → List Ev} (hR : Tree prog w s.heap a0 root evF) (h0 : ∀ b ∈ a0 :: root.fp, H0.get? b = none) (hdx : dx ∉ a0 :: root.fp) (hz : (evF 0).length ≤ 4000) (hv : valOk (evF 0)) {Q E : Value → Shared → Prop}
    (hq : ∀ h' tk' root', Tch (fun b => b ∈ a0 :: root.fp) s.heap h' → Tree prog w h' a0 root' (fun B => evF B ++ [⟨way ++ [last], kMore, .none⟩]) → Grown s.heap a0 root root' → barF (evF 0) way true = Str.ofString "" → otherS (Pl (evF 0) (way ++ [last])) = false → Q .none { s with heap := h', toks := tk' })
    (hk : ∀ h' tk' e t, Flew s.heap h' outer e (.type "KeyError") (some [.str noNest t]) → barF (evF 0) way true = noNest → E (.ref e) { s with heap := h', toks := tk' })
    (ho : ∀ h' tk' e t, Flew s.heap h' outer e (.type "KeyError") (some [.str otherW t]) → barF (evF 0) way true = Str.ofString "" → otherS (Pl (evF 0) (way ++ [last])) = true → E (.ref e) { s with heap := h', toks := tk' })
    (hi : ∀ h' tk' e, Flew s.heap h' outer e (.type "IndexError") none → barF (evF 0) way true = nothing → E (.ref e) { s with heap := h', toks := tk' }) :
    wpAny (model prog w) A (call (.ref 43) [.ref x, wv]) Q E s := by
  obtain ⟨wa, wvs, rfl, hwt, hws⟩ := hw.tupInv
  have hwlen : wvs.length = way.length + 1 := by rw [hws.length, List.length_map, List.length_append]; rfl
  have zl : (10000 : Nat) ≤ sizeLine := by rw [sizeLine_eq]; omega
  have hwz : way.length ≤ 1000 := by have := okw.2; rw [List.length_append] at this; omega
  have hslot : way.take way.length = way := List.take_length
  obtain ⟨lv, hlv, hlr⟩ := hws.at (i := way.length) (d := .str last) (by simp)
  obtain ⟨lt, rfl⟩ := hlr.strInv
  refine wpAny_call ?_
  refine enterC (X := fun b => b ∈ a0 :: root.fp) (binds := [(Str.ofString "self", .ref x), (Str.ofString "key", .ref wa)]) hH (by omega) (C.K _ _ rfl) C.G.lim (codeRec_of C.K rfl) (BindsTo.of_eq rfl) rfl ?_
  intro L h₁ tk₁ F
  walk_at "R"
  refine mach_meth (f := 36) C F.vw.old (M.kp F.keepG (fun x => x)) (by rfl) (by rfl) (fun _ _ => by rfl) ?_
  dsimp only
  refine callFirst (C.K _ _ rfl) rfl ?_
  walk_at "R"
  refine tupSlice (vs := wvs) 0 (wvs.length - 1) ((wvs.length - 1 : Nat)) F rfl (F.keepG.tup hwt) .none (.int _ _) (adj_last _) (by rw [places_is]; omega) (by omega) ?_
  intro r₂ h₂ F₂ k₂ s₂ t₂
  walk_at "R"
  have e1 : (wvs.drop 0).take (wvs.length - 1) = wvs.take way.length := by rw [List.drop_zero, hwlen]; rfl
  rw [e1] at t₂
  have hway : Rd Nil h₂ (.ref r₂) (keyD way) := Rd.tupOf t₂ (by
    have := (hws.imm k₂).take way.length
    rwa [← List.map_take, List.take_left' rfl] at this)
  have okw' : keyOk way := ⟨fun k hk => okw.1 k (List.mem_append_left _ hk), hwz⟩
  have S2 : Sub s.heap h₂ := F₂.subK k₂
  have hLo : ∃ o, h₂.get? L = some o ∧ ∀ vs, o.data ≠ .fields vs := by
    obtain ⟨ml, ⟨oL, _, _, ho', hd', _⟩, _⟩ := F₂.vw.ns
    exact ⟨oL, ho', fun vs q => by rw [hd'] at q; cases q⟩
  refine ⟨F₂.vw.old, goc_spec (lists := true) C F₂.vw.old (dpt hd (by decide)) (by exact hh) (unt hu (by decide)) (St.push S2 (F.wr trivial).newL hLo rfl) (M.kp k₂ (fun x => x)) hway okw' (hR.kp0 k₂).at h0 hdx hz (.inl ⟨rfl, rfl⟩) ?_ ?_ ?_⟩
  rotate_left
  · intro h' tk' ex t fl hb
    exact leaveOn St S2 (F.wr trivial).newL fl fun h₇ fl => hk _ _ _ _ fl hb
  · intro h' tk' ex fl hb
    exact leaveOn St S2 (F.wr trivial).newL fl fun h₇ fl => hi _ _ _ fl hb
  intro h₃ tk₃ a plug rest mrest esF ks T₃ J hb
  obtain ⟨F₃, k₃⟩ := F₂.called T₃ (fun _ _ q _ => q) (fun b q => h0 b q)
  walk_at "R"
  rename_i h₄ F₄
  refine item_tupleT (F₄.keepG.tup (k₃.tup (k₂.tup hwt))) (by decide) (by decide) (j := way.length) (by unfold seqIndex?; rw [hwlen]; simp; omega) hlv ?_
  walk_at "R"
  rename_i h₅ F₅
  have A5 := J.at_.kp0 F₅.keepG
  have J' := J.at_
  rw [hslot] at J'
  refine inDict A5.dict ?_
  rw [Ks.valueAt]
  have htk : esF 0 = Ql (evF 0) way := by rw [J.es, List.take_length]
  have hPl : Pl (evF 0) (way ++ [last]) = tails last (esF 0) := by rw [Pl_snoc, ← htk]
  have hkz : ks.kvs.length ≤ 4000 := by
    have h1 := (J.at_.mkn 0).1
    have h2 := namesOf_length (esF 0)
    have h3 := Ql_length (evF 0) way
    rw [← htk] at h3
    have h4 : ks.kvs.length = ks.names.length := by rw [← Ks.names_kvs, List.length_map]
    rw [h4, h1]; omega
  have hMa : ∀ b ∈ rest ++ (a :: ks.fp), b ∈ a0 :: root.fp ∨ s.heap.get? b = none := fun b hb => (J.fr b hb).imp id fun q => S2.none q
  have hHa : ∀ b ∈ rest ++ (a :: ks.fp), H0.get? b = none := fun b hb => (hMa b hb).elim (h0 b) hH.none
  cases hg : ks.get last with
  | none =>
    have hkn : last ∉ ks.names := (ks.get_none last).mp hg
    dsimp only [Option.map_none, Option.isSome_none]
    have htl : tails last (esF 0) = [] := Classical.byContradiction fun q => ((J.at_.mkn 0).1 ▸ hkn) (tails_ne.mp q)
    have hot : otherS (Pl (evF 0) (way ++ [last])) = false := by rw [hPl, htl]; rfl
    walk_at "R"
    rename_i a₆ h₆ F₆ k₆ s₆ n₆ d₆ a₇ h₇ F₇ k₇ s₇ n₇ l₇
    have A6 := J.at_.kp0 k₆
    have A7 := A6.kp0 k₇
    refine setDict F₇ A7.dict (fun o q => (hMa a (by simp)).elim id fun q' => by rw [q'] at q; cases q) (hHa a (by simp)) (by omega) ?_
    intro h₈ F₈ k₈ d₈
    walk_at "R"
    rw [stored_new (by rw [Ks.valueAt, hg]; rfl)] at d₈
    have m6 : a₆ ∉ rest ++ (a :: ks.fp) := fun hm => by
      obtain ⟨o, ho⟩ := A5.dom a₆ hm
      simp only [ho] at n₆; cases n₆
    have m7 : a₇ ∉ (rest ++ (a :: ks.fp)) ++ [a₆] := fun hm => by
      rcases List.mem_append.mp hm with hm | hm
      · obtain ⟨o, ho⟩ := A6.dom a₇ hm
        simp only [ho] at n₇; cases n₇
      · rw [List.mem_singleton.mp hm] at n₇
        obtain ⟨o, ho, _⟩ := d₆.dom
        simp only [ho] at n₇; cases n₇
    have e6 : s.heap.get? a₆ = none := F₅.newE (fun a o q => ⟨o, q⟩) n₆
    have e7 : s.heap.get? a₇ = none := F₆.newE (fun a o q => ⟨o, q⟩) n₇
    have ne6 : ¬ a₆ = a := fun q => m6 (by simp [q])
    have ne7 : ¬ a₇ = a := fun q => m7 (by simp [q])
    have kk : Kp (fun b => b = a) h₃ h₈ := (k₆.trans k₇).up0.trans k₈
    have nd := J.at_.nd
    have hra : ∀ b ∈ rest, ¬ b = a := fun b hb q => by
      subst q
      exact (List.nodup_append.mp nd).2.2 b hb b (.head _) rfl
    have hka : ∀ b ∈ ks.fp, ¬ b = a := fun b hb q => by
      subst q
      exact (List.nodup_cons.mp (List.nodup_append.mp nd).2.1).1 hb
    have hfp : (ks.snoc last (.list a₇ [] [] [] (.cons a₆ .nil .nil) [])).fp = ks.fp ++ [a₇, a₆] := by rw [Ks.snoc_fp]; rfl
    have hmk : (ks.snoc last (.list a₇ [] [] [] (.cons a₆ .nil .nil) [])).mk = ks.mk ++ [(a₇, [])] := by rw [Ks.snoc_mk]; rfl
    refine hq _ _ _ F₈.tch (J'.putF (newF := fun _ => [⟨[last], kMore, .none⟩]) (ks' := ks.snoc last (.list a₇ [] [] [] (.cons a₆ .nil .nil) [])) kk hra (by rw [Ks.snoc_kvs]; exact d₈) ?_ (fun _ => by simp) (fun _ e he hk => by rw [List.mem_singleton.mp he] at hk; cases hk) (fun B => (J.at_.mkn B).snoc hkn (by simp) MT.one) ?_) (J.at_.grown hMa J.mks ?_ ?_ ?_) hb hot
    · exact Ks.Ok.snoc (Ks.Ok.kp kk ks J.at_.ok hka) ⟨⟨[], k₈.plain l₇ ne7, .nil⟩, .nil, ⟨⟨(d₆.kp k₇ (fun x => x)).kp k₈ ne6, trivial⟩, trivial⟩⟩
    · rw [hfp]
      have h1 : (rest ++ (a :: (ks.fp ++ [a₇, a₆]))).Perm (((rest ++ (a :: ks.fp)) ++ [a₆]) ++ [a₇]) := by
        rw [List.append_assoc, List.append_assoc, List.cons_append]
        exact List.Perm.append_left _ (List.Perm.cons _ (List.Perm.append_left _ (.swap _ _ _)))
      exact h1.nodup_iff.mpr (nodup_snoc (nodup_snoc nd m6) m7)
    · intro b hb
      rw [hfp] at hb
      rcases List.mem_append.mp hb with hb | hb
      · exact .inl hb
      · simp only [List.mem_cons, List.not_mem_nil, or_false] at hb
        rcases hb with rfl | rfl
        · exact .inr e7
        · exact .inr e6
    · intro p hp
      rw [hmk] at hp
      rcases List.mem_append.mp hp with hp | hp
      · exact .inl hp
      · rw [List.mem_singleton.mp hp]; exact .inr ⟨rfl, e7⟩
    · intro p hp
      rw [hmk]
      exact List.mem_append_left _ hp
  | some t =>
    dsimp only [Option.map_some, Option.isSome_some]
    have hin : last ∈ namesOf (esF 0) := by
      rw [← (J.at_.mkn 0).1]
      exact Classical.byContradiction fun q => by rw [(ks.get_none last).mpr q] at hg; cases hg
    have kNil : Kp Nil h₂ h₃ := (J.bar.resolve_right fun q => by rw [q.2] at hin; cases hin).2
    have hT0 : t.Ok prog w 0 h₃ := J.at_.ok.get hg
    have hm0 : MT 0 t (tails last (esF 0)) := (J.at_.mkn 0).2.2.get hg
    have hva : valueAt ks.kvs last = some t.val := by rw [Ks.valueAt, hg]; rfl
    walk_at "R"
    refine getDict A5.dict hva ?_
    cases t with
    | leaf v d as =>
      obtain ⟨ev, er, hes, hm1, hm2, hm3, hm4, hm5⟩ := id hm0
      have hot : otherS (Pl (evF 0) (way ++ [last])) = true := by rw [hPl]; exact other_leaf hm0
      have rd : ∀ h₇, Kp Nil h₃ h₇ → Rd (fun b => b ∈ as) h₇ v d := fun h₇ k₇ => (Rh.kp0 (prog := prog) (w := w) ⟨as, hT0, fun _ h => h⟩ k₇).rd
      dsimp only [T.val]
      walk_at "R"
      rename_i h₆ F₆
      refine isiList (rd _ F₆.keepG) ?_
      intro tk₅
      rw [hm4]
      walk_at "R"
      refine raiseKey (by exact hh) ?_
      walk_at "R"
      refine ⟨rfl, ?_⟩
      walk_at "R"
      refine ⟨by simpa using (show 1 ≤ sizeLine by omega), fun h₇ ex hme => ?_⟩
      refine leaveMade St (F₆.subK (k₂.trans (kNil.trans F₆.keepG))) (F.wr trivial).newL ?_ hme.of rfl fun h₇ fl => ho _ _ _ _ fl hb hot
      obtain ⟨ml, ⟨oL, _, _, ho', hd', _⟩, _⟩ := F₆.vw.ns
      exact ⟨oL, ho', fun vs q => by rw [hd'] at q; cases q⟩
    | dict a' l =>
      have hot : otherS (Pl (evF 0) (way ++ [last])) = true := by rw [hPl]; exact other_dict hm0 (by rw [htk]; exact (hv.Ql way).tails)
      have rd : ∀ h₇, Kp Nil h₃ h₇ → Rd (fun b => b ∈ a' :: l.fp) h₇ (.ref a') (.dict (l.ps 0)) := fun h₇ k₇ => (Rh.kp0 (prog := prog) (w := w) ⟨a' :: l.fp, T.Ok.hd _ hT0, fun _ h => h⟩ k₇).rd
      dsimp only [T.val]
      walk_at "R"
      rename_i h₆ F₆
      refine isiList (rd _ F₆.keepG) ?_
      intro tk₅
      rw [show isListD (PyData.dict (l.ps 0)) = false from rfl]
      walk_at "R"
      refine raiseKey (by exact hh) ?_
      walk_at "R"
      refine ⟨rfl, ?_⟩
      walk_at "R"
      refine ⟨by simpa using (show 1 ≤ sizeLine by omega), fun h₇ ex hme => ?_⟩
      refine leaveMade St (F₆.subK (k₂.trans (kNil.trans F₆.keepG))) (F.wr trivial).newL ?_ hme.of rfl fun h₇ fl => ho _ _ _ _ fl hb hot
      obtain ⟨ml, ⟨oL, _, _, ho', hd', _⟩, _⟩ := F₆.vw.ns
      exact ⟨oL, ho', fun vs q => by rw [hd'] at q; cases q⟩
    | list al ahead ds as rs marks =>
      have hot : otherS (Pl (evF 0) (way ++ [last])) = false := by rw [hPl]; exact other_list hm0
      dsimp only [T.val]
      obtain ⟨⟨mv, hL, hmv⟩, hA, hRs⟩ := id hT0
      have rd : ∀ h₇, Kp Nil h₃ h₇ → Rd (fun b => b ∈ T.fp (.list al ahead ds as rs marks)) h₇ (.ref al) (T.data 0 (.list al ahead ds as rs marks)) := fun h₇ k₇ => (Rh.kp0 (prog := prog) (w := w) ⟨_, T.Ok.hd _ hT0, fun _ h => h⟩ k₇).rd
      walk_at "R"
      rename_i h₆ F₆
      refine isiList (rd _ F₆.keepG) ?_
      intro tk₅
      rw [show isListD (T.data 0 (.list al ahead ds as rs marks)) = true from rfl]
      walk_at "R"
      have mv0 : mv = [] := by
        have : upTo 0 marks = [] := by unfold upTo; exact List.filter_eq_nil_iff.mpr fun a _ => by simp
        rw [this] at hmv
        cases hmv; rfl
      subst mv0
      have hal : al ∈ ks.fp := (Ks.get_perm ks last _ hg).mem_iff.mpr (List.mem_append_right _ (.head _))
      have hal' : al ∈ rest ++ (a :: ks.fp) := List.mem_append_right _ (.tail _ hal)
      have hlen : (ahead ++ (rs.vals ++ [])).length ≤ sizeLine := by
        have h1 := hA.length
        have h2 : ds.length ≤ 10 := by
          obtain ⟨⟨e, r, _, _, q⟩, _⟩ := id hm0
          rcases q with ⟨_, _, q⟩ | ⟨_, q⟩
          · exact q.1
          · simp [q]
        have h3 := (Rs.Ok.hd _ hRs).length
        have h4 := MRs.length (id hm0).2.1
        have h5 := (rounds_bound (tails last (esF 0))).1
        have h6 := tails_length last (esF 0)
        have h7 := Ql_length (evF 0) way
        rw [← htk] at h7
        rw [List.append_nil, List.length_append]
        omega
      refine methList PySem.F.slot_list_append PySem.F.type_list_append (F₆.keepG.plain hL (fun x => x)) ?_
      walk_at "R"
      rename_i a₇ h₇ F₇ k₇ s₇ n₇ d₇
      refine appendL F₇ (k₇.plain hL (fun x => x)) (fun o q => (hMa al hal').elim id fun q' => by rw [q'] at q; cases q) (hHa al hal') hlen ?_
      intro h₈ F₈ k₈ l₈
      walk_at "R"
      have A6 := J.at_.kp0 F₆.keepG
      have m7 : a₇ ∉ rest ++ (a :: ks.fp) := fun hm => by
        obtain ⟨o, ho⟩ := A6.dom a₇ hm
        simp only [ho] at n₇; cases n₇
      have e7 : s.heap.get? a₇ = none := F₆.newE (fun a o q => ⟨o, q⟩) n₇
      have kk : Kp (fun b => b = al) h₃ h₈ := k₇.up0.trans k₈
      have nd := J.at_.nd
      have hp := Ks.get_perm ks last _ hg
      have nd2 : (ks.beside last ++ (al :: (as ++ rs.fp))).Nodup := hp.nodup_iff.mp (List.nodup_cons.mp (List.nodup_append.mp nd).2.1).2
      have hra : ∀ b ∈ rest, ¬ b = al := fun b hb q => by
        subst q
        exact (List.nodup_append.mp nd).2.2 b hb b (.tail _ hal) rfl
      have hba : ∀ b ∈ ks.beside last, ¬ b = al := fun b hb q => by
        subst q
        exact (List.nodup_append.mp nd2).2.2 b hb b (.head _) rfl
      have haa : ¬ a = al := fun q => by
        subst q
        exact (List.nodup_cons.mp (List.nodup_append.mp nd).2.1).1 hal
      have hta : ∀ b ∈ as ++ rs.fp, ¬ b = al := fun b hb q => by
        subst q
        exact (List.nodup_cons.mp (List.nodup_append.mp nd2).2.1).1 hb
      have hset := Ks.set_perm ks last _ (.list al ahead ds as (rs.snoc a₇ .nil) marks) hg
      have hfp : (ks.set last (.list al ahead ds as (rs.snoc a₇ .nil) marks)).fp.Perm (ks.fp ++ [a₇]) := by
        refine hset.trans ?_
        have e : (T.list al ahead ds as (rs.snoc a₇ .nil) marks).fp = (al :: (as ++ rs.fp)) ++ [a₇] := by simp only [T.fp, Rs.snoc_fp, Ks.fp, List.cons_append, List.append_assoc]
        rw [e, ← List.append_assoc]
        exact hp.symm.append_right _
      have hmk : (ks.set last (.list al ahead ds as (rs.snoc a₇ .nil) marks)).mk.Perm ks.mk := by
        refine (Ks.set_mk ks last _ _ hg).trans ?_
        have e : (T.list al ahead ds as (rs.snoc a₇ .nil) marks).mk = (T.list al ahead ds as rs marks).mk := by simp only [T.mk, Rs.snoc_mk, Ks.mk, List.append_nil]
        rw [e]
        exact (Ks.get_mk ks last _ hg).symm
      refine hq _ _ _ F₈.tch (J'.putF (newF := fun _ => [⟨[last], kMore, .none⟩]) (ks' := ks.set last (.list al ahead ds as (rs.snoc a₇ .nil) marks)) kk hra ?_ ?_ (fun _ => by simp) (fun _ e he hk => by rw [List.mem_singleton.mp he] at hk; cases hk) (fun B => (J.at_.mkn B).set hg (MT.more ((J.at_.mkn B).2.2.get hg))) ?_) (J.at_.grown hMa J.mks ?_ ?_ ?_) hb hot
      · rw [Ks.set_kvs ks last _ (.list al ahead ds as (rs.snoc a₇ .nil) marks) hg rfl]
        exact J.at_.dict.kp kk haa
      · refine Ks.Ok.set kk J.at_.ok hba ⟨⟨[], ?_, hmv⟩, HdAll.kp kk hA fun b hb => hta b (List.mem_append_left _ hb), Rs.Ok.snoc (Rs.Ok.kp kk rs hRs fun b hb => hta b (List.mem_append_right _ hb)) (d₇.kp k₈ fun q => m7 (q ▸ hal')) trivial⟩
        rw [Rs.snoc_vals]
        simpa using l₈
      · have h1 : (rest ++ (a :: (ks.set last (.list al ahead ds as (rs.snoc a₇ .nil) marks)).fp)).Perm ((rest ++ (a :: ks.fp)) ++ [a₇]) := by
          rw [List.append_assoc, List.cons_append]
          exact List.Perm.append_left _ (List.Perm.cons _ hfp)
        exact h1.nodup_iff.mpr (nodup_snoc nd m7)
      · intro b hb
        rcases List.mem_append.mp (hfp.mem_iff.mp hb) with hb | hb
        · exact .inl hb
        · rw [List.mem_singleton.mp hb]; exact .inr e7
      · intro p hp
        exact .inl (hmk.mem_iff.mp hp)
      · intro p hp
        exact hmk.mem_iff.mpr hp
end PartA9
section PartB1k
noncomputable def nameOf : Nat → Str
  | 0 => Str.ofString "a"
  | 1 => Str.ofString " A.b "
  | _ => Str.ofString ""
noncomputable def keyG : Nat → Nat → List Str
  | 0, _ => []
  | f + 1, n => if n = 0 then [] else nameOf ((n - 1) % 3) :: keyG f ((n - 1) / 3)
noncomputable def keyOf (n : Nat) : List Str := keyG n n
theorem keyG_more : ∀ f n, n ≤ f → keyG f n = keyG n n := by
  intro f
  induction f using Nat.strongRecOn with
  | ind f ih =>
    intro n hn
    cases f with
    | zero => rw [Nat.le_zero.mp hn]
    | succ f =>
      cases n with
      | zero => simp [keyG]
      | succ n =>
        have e : (n + 1 - 1) / 3 = n / 3 := by rw [Nat.add_sub_cancel]
        simp only [keyG, e, if_neg (Nat.succ_ne_zero n)]
        rw [ih f (by omega) (n / 3) (by omega)]
        by_cases q : n = f
        · rw [q, ih f (by omega) (f / 3) (by omega)]
        · rw [ih n (by omega) (n / 3) (by omega)]
theorem keyOf_eq (n : Nat) : keyOf n = if h : n = 0 then [] else nameOf ((n - 1) % 3) :: keyOf ((n - 1) / 3) := by
  by_cases h : n = 0
  · rw [dif_pos h, h]; rfl
  · rw [dif_neg h]
    obtain ⟨k, rfl⟩ : ∃ k, n = k + 1 := ⟨n - 1, by omega⟩
    show keyG (k + 1) (k + 1) = _ :: keyG _ _
    rw [keyG, if_neg h, keyG_more k ((k + 1 - 1) / 3) (by omega)]
theorem keyOf_length (n : Nat) : (keyOf n).length ≤ n := by
  induction n using Nat.strongRecOn with
  | ind n ih =>
    rw [keyOf_eq]
    by_cases h : n = 0
    · simp [h]
    · rw [dif_neg h]
      have := ih ((n - 1) / 3) (by omega)
      simp only [List.length_cons]; omega

set_option maxHeartbeats 2000000 in
theorem key_spec {w : World} {A : Around} {s : Shared} {H0 : Heap} {mg mb : Str → Option Value} (C : Cx w H0 mg mb) (hH : Sub H0 s.heap) (hd : A.depth < recursionLimit) (hh : A.handled = none) {n : Nat} {tk : Tok} (hn : n ≤ 1000) {Q E : Value → Shared → Prop}
    (hq : ∀ h' tk' r, Sub s.heap h' → Rd Nil h' r (keyD (keyOf n)) → Q r { s with heap := h', toks := tk' }) : wpAny (model prog w) A (call (.ref 64) [.int n tk]) Q E s := by
  refine enterR (X := Nil) (binds := [(Str.ofString "n", .int n tk)]) hH hd (C.K _ _ rfl) C.G.lim (codeRec_of C.K rfl) (BindsTo.of_eq rfl) rfl ?_
  intro L h₁ tk₁ F
  walk_at "R"
  rename_i aK h₂ _ _ _ _ tK _ F₂
  -- the loop
  refine whileQ Nil (fun k g m => ∃ n' tn ks a vs, m (Str.ofString "n") = some (.int (n' : Nat) tn) ∧ m (Str.ofString "key") = some (.ref a) ∧ IsTup g a (List.toArray vs) ∧ Rds Nil g vs (ks.map .str) ∧ ks ++ keyOf n' = keyOf n ∧ k = n' ∧ ks.length + n' ≤ n) (n₀ := n) (by assumption) ⟨n, tk, [], _, [], rfl, rfl, F₂.keepG.tup tK, .nil, rfl, rfl, by simp⟩ ?_ .never
  rintro k g₁ h₂ m₁ tk₂ kp ⟨n', tn, ks, a, vs, hm1, hm2, ht, hr, he, hk, hl⟩ F₁
  walk_at "R"
  by_cases h0 : n' = 0
  · subst h0
    rw [if_neg (by simp)]
    walk_at "R"
    have e : ks = keyOf n := by have : keyOf 0 = [] := by rw [keyOf_eq, dif_pos rfl]
                                rw [this, List.append_nil] at he; exact he
    exact hq _ _ _ (fun b o q => F₁.keepE b o q fun _ x => x) (Rd.tupOf (F₁.keepG.tup ht) (e ▸ hr.kp0 F₁.keepG))
  · rw [if_pos (by simp; omega)]
    walk_at "R"
    rename_i aT h₃ F₃ k₃ s₃ _ t₃
    have hmod : ((n' : Int) - 1).fmod 3 = (((n' - 1) % 3 : Nat) : Int) := by rw [Int.fmod_eq_emod_of_nonneg _ (by decide)]; omega
    have hdiv : ((n' : Int) - 1).fdiv 3 = (((n' - 1) / 3 : Nat) : Int) := by rw [Int.fdiv_eq_ediv_of_nonneg _ (by decide)]; omega
    have hlt : (n' - 1) % 3 < 3 := Nat.mod_lt _ (by decide)
    have hx : ∃ t, ([Value.str (Str.ofString "a") (tk₂ + 1), Value.str (Str.ofString " A.b ") (tk₂ + 1 + 1), Value.str (Str.ofString "") (tk₂ + 1 + 1 + 1)] : List Value)[(n' - 1) % 3]? = some (.str (nameOf ((n' - 1) % 3)) t) := by
      rcases (by omega : (n' - 1) % 3 = 0 ∨ (n' - 1) % 3 = 1 ∨ (n' - 1) % 3 = 2) with q | q | q <;> rw [q] <;> exact ⟨_, rfl⟩
    obtain ⟨t, hx⟩ := hx
    rw [hmod]
    refine item_tupleT (l := [_, _, _]) t₃ (by omega) (by omega) (j := (n' - 1) % 3) ?_ hx ?_
    · unfold seqIndex?; simp; omega
    walk_at "R"
    rename_i aO h₄ F₄ k₄ s₄ _ t₄
    refine tupIadd F₄ (vs := vs) (ws := [_]) (k₄.tup (k₃.tup ht)) t₄ ?_ ?_
    · intro r h₅ F₅ k₅ s₅ t₅
      walk_at "R"
      rename_i F₆ _ F₇
      rw [hdiv] at F₇
      refine ⟨(n' - 1) / 3, by omega, _, _, _, _, rfl, F₇, .trans (k₃.weaken fun _ x => x.elim) (.trans (k₄.weaken fun _ x => x.elim) (k₅.weaken fun _ x => x.elim)), (n' - 1) / 3, _, ks ++ [nameOf ((n' - 1) % 3)], r, _, rfl, rfl, t₅, ?_, ?_, rfl, ?_⟩
      · rw [List.map_append]
        exact ((hr.kp0 (k₃.trans (k₄.trans k₅))).append (.cons (.str _ _) .nil))
      · rw [← he, List.append_assoc]
        congr 1
        conv => rhs; rw [keyOf_eq, dif_neg h0]
        rfl
      · have := keyOf_length n'; simp only [List.length_append, List.length_singleton]; omega
    · rw [hr.length]; simp only [List.length_map, List.length_singleton]; rw [sizeLine_eq]; omega
end PartB1k
section PartD1
noncomputable def strN (n : Nat) : Str := Str.ofString (toString (n : Int))
noncomputable def nmOk (i : Nat) (k : Str) : Prop := (∃ j, k = nameOf j) ∨ ∃ j, j < i ∧ k = strN j
theorem nameOf_cases (j : Nat) : nameOf j = Str.ofString "a" ∨ nameOf j = Str.ofString " A.b " ∨ nameOf j = Str.ofString "" := by
  match j with
  | 0 => exact .inl rfl
  | 1 => exact .inr (.inl rfl)
  | n + 2 => exact .inr (.inr rfl)
noncomputable def namesApart : Bool := (List.range 60).all fun i => decide (strN i ≠ Str.ofString "a") && decide (strN i ≠ Str.ofString " A.b ") && decide (strN i ≠ Str.ofString "") && PyData.strOk (strN i) && (List.range i).all fun j => decide (strN j ≠ strN i)
theorem names_apart : namesApart = true := by decide +kernel
theorem nm_at {i : Nat} (hi : i < 60) : strN i ≠ Str.ofString "a" ∧ strN i ≠ Str.ofString " A.b " ∧ strN i ≠ Str.ofString "" ∧ PyData.strOk (strN i) = true ∧ ∀ j, j < i → strN j ≠ strN i := by
  have h := List.all_eq_true.mp names_apart i (List.mem_range.mpr hi)
  simp only [Bool.and_eq_true, decide_eq_true_eq] at h
  obtain ⟨⟨⟨⟨h1, h2⟩, h3⟩, h4⟩, h5⟩ := h
  refine ⟨h1, h2, h3, h4, fun j hj => ?_⟩
  have := List.all_eq_true.mp h5 j (List.mem_range.mpr hj)
  simpa using this
theorem strN_new {i n : Nat} {k : Str} (h : nmOk i k) (hi : i ≤ n) (hn : n < 60) : k ≠ strN n := by
  obtain ⟨h1, h2, h3, h4, h5⟩ := nm_at hn
  rcases h with ⟨j, rfl⟩ | ⟨j, hj, rfl⟩
  · rcases nameOf_cases j with e | e | e <;> rw [e]
    · exact h1.symm
    · exact h2.symm
    · exact h3.symm
  · exact h5 j (by omega)
theorem nmOk.mono {i n : Nat} {k : Str} (h : nmOk i k) (hi : i ≤ n) : nmOk n k := h.imp id fun ⟨j, hj, e⟩ => ⟨j, by omega, e⟩
theorem nameOf_ok (j : Nat) : PyData.strOk (nameOf j) = true := by
  rcases nameOf_cases j with e | e | e <;> rw [e] <;> decide +kernel
theorem nmOk.ok {i : Nat} {k : Str} (h : nmOk i k) (hi : i ≤ 60) : PyData.strOk k = true := by
  rcases h with ⟨j, rfl⟩ | ⟨j, hj, rfl⟩
  · exact nameOf_ok j
  · exact (nm_at (by omega)).2.2.2.1
theorem keyOf_nm {i : Nat} (n : Nat) : ∀ k ∈ keyOf n, nmOk i k := by
  induction n using Nat.strongRecOn with
  | ind n ih =>
    rw [keyOf_eq]
    by_cases h : n = 0
    · simp [h]
    · rw [dif_neg h]
      intro k hk
      rcases List.mem_cons.mp hk with rfl | hk
      · exact .inl ⟨_, rfl⟩
      · exact ih _ (by omega) k hk
theorem keyOf_len (n : Nat) : ∀ m, n < 3 ^ m → (keyOf n).length ≤ m := by
  induction n using Nat.strongRecOn with
  | ind n ih =>
    intro m hm
    rw [keyOf_eq]
    by_cases h : n = 0
    · simp [h]
    · rw [dif_neg h]
      cases m with
      | zero => simp at hm; omega
      | succ m =>
        have := ih ((n - 1) / 3) (by omega) m (by rw [Nat.pow_succ] at hm; omega)
        rw [List.length_cons]; omega
theorem keyOf_nil (n : Nat) : keyOf n = [] ↔ n = 0 := by
  rw [keyOf_eq]
  by_cases h : n = 0
  · simp [h]
  · simp [h]

noncomputable def valGood (e : Ev) : Prop := (e.kind = kNest ∧ e.val = .none) ∨ (e.kind = kMore ∧ e.val = .none) ∨ (e.kind = kThing ∧ RkOk 4 e.val) ∨ (∃ k : Nat, e.kind = kMark ∧ e.val = .int k)
structure evGood (n i : Nat) (e : Ev) : Prop where
  len : e.key.length ≤ n
  nm : ∀ k ∈ e.key, nmOk i k
  val : valGood e
theorem evGood.mono {n i j : Nat} {e : Ev} (h : evGood n i e) (hi : i ≤ j) : evGood n j e := ⟨h.len, fun k hk => (h.nm k hk).mono hi, h.val⟩
theorem evGood.keyOk {i : Nat} {e : Ev} (h : evGood 7 i e) (hi : i ≤ 60) : keyOk e.key := ⟨fun k hk => (h.nm k hk).ok hi, by have := h.len; omega⟩
theorem valGood.strOk {e : Ev} (h : valGood e) : PyData.strOk e.kind = true := by
  rcases h with ⟨h, _⟩ | ⟨h, _⟩ | ⟨h, _⟩ | ⟨_, h, _⟩ <;> rw [h] <;> decide +kernel
theorem evGood.evOk {i : Nat} {e : Ev} (h : evGood 7 i e) (hi : i ≤ 60) : evOk 7 e := ⟨h.len, h.keyOk hi, h.val.strOk⟩
theorem valGood.okv {e : Ev} (h : valGood e) (hk : e.kind ≠ kMark) : isListD e.val = true ∨ e.val = .none ∨ e.kind = kThing := by
  rcases h with ⟨_, h⟩ | ⟨_, h⟩ | ⟨h, _⟩ | ⟨_, h, _⟩
  · exact .inr (.inl h)
  · exact .inr (.inl h)
  · exact .inr (.inr h)
  · exact absurd h hk
theorem valOk_of {es : List Ev} (h : ∀ e ∈ es, valGood e) : valOk es := fun e he hk => by
  rcases h e he with ⟨_, h⟩ | ⟨h, _⟩ | ⟨h, _⟩ | ⟨_, h, _⟩
  · rw [h]; rfl
  · rw [hk] at h; exact absurd h (by decide)
  · rw [hk] at h; exact absurd h (by decide)
  · rw [hk] at h; exact absurd h (by decide)

theorem RkOk.mono : ∀ {n : Nat} {d : PyData}, RkOk n d → RkOk (n + 1) d
  | n, .list ds, h => by
    obtain ⟨m, rfl, h1, h2⟩ := h.listInv
    exact ⟨h1, fun d hd => (h2 d hd).mono⟩
  | n, .dict ps, h => by
    obtain ⟨m, rfl, h1, h2⟩ := h.dictInv
    exact ⟨h1, fun p hp => ⟨(h2 p hp).1, (h2 p hp).2.mono⟩⟩
  | n, .none, h => by have := h.flat rfl rfl; exact this
  | n, .bool _, h => by have := h.flat rfl rfl; exact this
  | n, .int _, h => by have := h.flat rfl rfl; exact this
  | n, .str _, h => by have := h.flat rfl rfl; exact this
  | n, .tuple _, h => by have := h.flat rfl rfl; exact this
termination_by n => n
theorem RkOk.le {n m : Nat} {d : PyData} (h : RkOk n d) (hm : n ≤ m) : RkOk m d := by
  obtain ⟨k, rfl⟩ := Nat.exists_eq_add_of_le hm
  induction k with
  | zero => exact h
  | succ k ih => exact (ih (by omega)).mono
structure esGood (n i : Nat) (es : List Ev) : Prop where
  all : ∀ e ∈ es, evGood n i e
  len : es.length ≤ 4000
theorem tails_mem {k : Str} {es : List Ev} {e : Ev} (h : e ∈ tails k es) : ∃ f ∈ es, f.key = k :: e.key ∧ f.kind = e.kind ∧ f.val = e.val := by
  obtain ⟨f, hf, hq⟩ := List.mem_filterMap.mp h
  refine ⟨f, hf, ?_⟩
  unfold tail1 at hq
  split at hq
  · cases hq
  · rename_i k' r hk
    split at hq
    · rename_i hkk; cases hq; exact ⟨by rw [hk, hkk], rfl, rfl⟩
    · cases hq
theorem valGood.same {e f : Ev} (h : valGood f) (h1 : f.kind = e.kind) (h2 : f.val = e.val) : valGood e := by
  unfold valGood at h ⊢; rw [h1, h2] at h; exact h
theorem esGood.tails {n i : Nat} {es : List Ev} (h : esGood n i es) (k : Str) : esGood (n - 1) i (tails k es) :=
  ⟨fun e he => by
    obtain ⟨f, hf, h1, h2, h3⟩ := tails_mem he
    have g := h.all f hf
    exact ⟨by have := g.len; rw [h1, List.length_cons] at this; omega, fun x hx => g.nm x (by rw [h1]; exact .tail _ hx), g.val.same h2 h3⟩,
   Nat.le_trans (tails_length k es) h.len⟩
theorem isListD_inv {d : PyData} (h : isListD d = false) (h' : isDictD d = false) : ∀ {n : Nat}, RkOk 4 d → RkOk n d := by
  intro n r
  have := r.flat h' h
  unfold RkOk
  split
  · cases h
  · cases h'
  · exact this
noncomputable def rkT (n : Nat) : Prop := ∀ {B i : Nat} {t : T} {es : List Ev}, i ≤ 60 → MT B t es → esGood n i es → RkOk (2 * n + 5) (t.data B)
noncomputable def rkK (n : Nat) : Prop := ∀ {B i : Nat} {ks : Ks} {es : List Ev}, i ≤ 60 → MKn B ks es → esGood n i es → RkOk (2 * n + 4) (.dict (ks.ps B))
theorem rk_k {n : Nat} (ih : ∀ m, m < n → rkT m) : rkK n := by
  intro B i ks es hi hm hg
  refine ⟨?_, fun p hp => ?_⟩
  · rw [Ks.ps_length, hm.1]
    exact Nat.le_trans (namesOf_length es) (Nat.le_trans hg.len (by omega))
  · obtain ⟨j, hj⟩ := List.getElem?_of_mem hp
    have hjl : j < ks.names.length := by rw [← Ks.ps_length (B := B)]; exact (List.getElem?_eq_some_iff.mp hj).1
    obtain ⟨t, h1, h2⟩ := Ks.at (B := B) hm.nodup (List.getElem?_eq_getElem hjl)
    rw [hj] at h1
    cases h1
    have hk : ks.names[j] ∈ namesOf es := hm.1 ▸ List.getElem_mem hjl
    obtain ⟨e, he, hq⟩ := mem_names.mp hk
    have hn : 0 < n := by
      have := (hg.all e he).len
      cases hkk : e.key with
      | nil => rw [hkk] at hq; cases hq
      | cons a b => rw [hkk, List.length_cons] at this; omega
    refine ⟨⟨_, rfl, ((hg.all e he).nm _ (List.mem_of_head? hq)).ok hi⟩, ?_⟩
    have := ih (n - 1) (by omega) hi (hm.2.2.get h2) (hg.tails _)
    exact this.le (by omega)
theorem marks_good {B n i : Nat} {marks : List Nat} : ∀ d ∈ (upTo B marks).map fun (k : Nat) => PyData.int (k : Int), RkOk n d := by
  intro d hd
  obtain ⟨k, _, rfl⟩ := List.mem_map.mp hd
  have : flatD (.int k) := .inl ⟨⟨rfl, by simp [PyData.depth]⟩, rfl, rfl⟩
  cases n <;> exact this
theorem rk_t {n : Nat} (hk : rkK n) : rkT n := by
  intro B i t es hi hm hg
  cases t with
  | leaf v d as =>
    obtain ⟨e, r, rfl, h1, h2, h3, h4, h5⟩ := hm
    have g := (hg.all e (.head _)).val
    have hr : RkOk 4 d := by
      rcases g with ⟨q, _⟩ | ⟨q, _⟩ | ⟨_, q⟩ | ⟨_, q, _⟩
      · rw [h2] at q; exact absurd q (by decide)
      · rw [h2] at q; exact absurd q (by decide)
      · rw [← h3]; exact q
      · rw [h2] at q; exact absurd q (by decide)
    exact isListD_inv h4 h5 hr
  | dict a ks => exact (hk hi hm.2 hg).le (by omega)
  | list a ahead ds as rs marks =>
    obtain ⟨⟨e, r, he, h1, h2⟩, h3, h4⟩ := hm
    have hds : ds.length ≤ 10 ∧ ∀ d ∈ ds, RkOk 3 d := by
      rcases h2 with ⟨q1, q2, q3⟩ | ⟨_, q⟩
      · refine ⟨q3.1, fun d hd => ?_⟩
        have g := (hg.all e (by rw [he]; exact .head _)).val
        rcases g with ⟨q, _⟩ | ⟨q, _⟩ | ⟨_, q⟩ | ⟨_, q, _⟩
        · rw [q1] at q; exact absurd q (by decide)
        · rw [q1] at q; exact absurd q (by decide)
        · rw [q2] at q
          exact q.2 d hd
        · rw [q1] at q; exact absurd q (by decide)
      · rw [q]; exact ⟨by simp, fun d hd => nomatch hd⟩
    refine ⟨?_, fun d hd => ?_⟩
    · have l1 := (rounds_bound es).1
      have l2 := MRs.length h3
      have l3 := marksOf_length es
      have l4 := congrArg List.length h4
      rw [List.length_append, List.length_append, l2, ← l4]
      have := hg.len; have := hds.1
      omega
    · rcases List.mem_append.mp hd with hd | hd
      · exact (hds.2 d hd).le (by omega)
      · rcases List.mem_append.mp hd with hd | hd
        · obtain ⟨j, hj⟩ := List.getElem?_of_mem hd
          have hjl : j < (rounds es).length := by rw [← MRs.length h3]; exact (List.getElem?_eq_some_iff.mp hj).1
          obtain ⟨ks, h5, h6⟩ := h3.at (List.getElem?_eq_getElem hjl)
          rw [hj] at h5
          cases h5
          have hb := (rounds_bound es).2 _ (List.getElem_mem hjl)
          exact hk hi h6 ⟨fun e he => hg.all e (hb.2 e he), Nat.le_trans hb.1 hg.len⟩
        · exact marks_good (i := i) d hd
theorem rk_all : ∀ n, rkK n ∧ rkT n := by
  intro n
  induction n using Nat.strongRecOn with
  | ind n ih => have h : rkK n := rk_k fun m hm => (ih m hm).2; exact ⟨h, rk_t h⟩
theorem rk_root {B i : Nat} {ks : Ks} {es : List Ev} (hi : i ≤ 60) (hm : MKn B ks es) (hg : esGood 7 i es) : RkOk 18 (.dict (ks.ps B)) := (rk_all 7).1 hi hm hg
end PartD1
section PartD2
noncomputable def ins (p : Nat) (x : Ev) (l : List Ev) : List Ev := l.take p ++ x :: l.drop p
theorem ins_append {p : Nat} {x : Ev} {l m : List Ev} (h : p ≤ l.length) : ins p x (l ++ m) = ins p x l ++ m := by
  unfold ins
  rw [List.take_append_of_le_length h, List.drop_append_of_le_length h]
  simp
theorem ins_length {p : Nat} {x : Ev} {l : List Ev} : (ins p x l).length = l.length + 1 := by
  unfold ins
  rw [List.length_append, List.length_cons, List.length_take, List.length_drop]; omega
theorem ins_end {x : Ev} {l : List Ev} : ins l.length x l = l ++ [x] := by unfold ins; simp
theorem ins_mem {p : Nat} {x e : Ev} {l : List Ev} : e ∈ ins p x l ↔ e = x ∨ e ∈ l := by
  unfold ins
  rw [List.mem_append, List.mem_cons]
  constructor
  · rintro (h | h | h)
    · exact .inr (List.mem_of_mem_take h)
    · exact .inl h
    · exact .inr (List.mem_of_mem_drop h)
  · rintro (h | h)
    · exact .inr (.inl h)
    · rw [← List.take_append_drop p l] at h
      exact (List.mem_append.mp h).imp id .inr
noncomputable def Gh (evs : List Ev) (kps : List (Nat × Ev)) : List Ev := kps.foldr (fun p l => ins p.1 p.2 l) evs
theorem Gh_length (evs : List Ev) (kps : List (Nat × Ev)) : (Gh evs kps).length = evs.length + kps.length := by
  induction kps with
  | nil => rfl
  | cons p l ih => show (ins _ _ _).length = _; rw [ins_length, show List.foldr _ _ _ = Gh evs l from rfl, ih, List.length_cons]; omega
theorem Gh_append {evs new : List Ev} {kps : List (Nat × Ev)} (h : ∀ p ∈ kps, p.1 ≤ evs.length) : Gh (evs ++ new) kps = Gh evs kps ++ new := by
  induction kps with
  | nil => rfl
  | cons p l ih =>
    show ins _ _ (Gh (evs ++ new) l) = ins _ _ (Gh evs l) ++ new
    rw [ih fun q hq => h q (.tail _ hq), ins_append]
    rw [Gh_length]; have := h p (.head _); omega
theorem Gh_snoc {evs : List Ev} {kps : List (Nat × Ev)} {x : Ev} (h : ∀ p ∈ kps, p.1 ≤ evs.length) : Gh evs (kps ++ [(evs.length, x)]) = Gh evs kps ++ [x] := by
  unfold Gh
  rw [List.foldr_append]
  show Gh (ins evs.length x evs) kps = _
  rw [ins_end]
  exact Gh_append h
theorem Gh_mem {evs : List Ev} {kps : List (Nat × Ev)} {e : Ev} (h : e ∈ Gh evs kps) : e ∈ evs ∨ ∃ p ∈ kps, e = p.2 := by
  induction kps with
  | nil => exact .inl h
  | cons p l ih =>
    rcases ins_mem.mp h with rfl | h
    · exact .inr ⟨p, .head _, rfl⟩
    · exact (ih h).imp id fun ⟨q, hq, e⟩ => ⟨q, .tail _ hq, e⟩
noncomputable def evF (evs : List Ev) (kps : List (Nat × Ev)) (B : Nat) : List Ev := Gh evs (kps.take B)
theorem evF_zero (evs : List Ev) (kps : List (Nat × Ev)) : evF evs kps 0 = evs := rfl
theorem evF_all (evs : List Ev) (kps : List (Nat × Ev)) : evF evs kps kps.length = Gh evs kps := by unfold evF; rw [List.take_length]
theorem evF_append {evs new : List Ev} {kps : List (Nat × Ev)} (h : ∀ p ∈ kps, p.1 ≤ evs.length) : (fun B => evF evs kps B ++ new) = evF (evs ++ new) kps := by
  funext B
  exact (Gh_append fun p hp => h p (List.mem_of_mem_take hp)).symm
theorem evF_snoc {evs : List Ev} {kps : List (Nat × Ev)} {x : Ev} (h : ∀ p ∈ kps, p.1 ≤ evs.length) : (fun B => evF evs kps B ++ (if kps.length < B then [x] else [])) = evF evs (kps ++ [(evs.length, x)]) := by
  funext B
  unfold evF
  by_cases hb : kps.length < B
  · rw [if_pos hb, List.take_of_length_le (by omega), List.take_of_length_le (by simp; omega)]
    exact (Gh_snoc h).symm
  · rw [if_neg hb, List.append_nil, List.take_append_of_le_length (by omega)]

mutual
theorem T.mk_fp : ∀ t : T, (t.mk.map (·.1)).Sublist t.fp
  | .leaf v d as => List.nil_sublist _
  | .dict a ks => (Ks.mk_fp ks).cons _
  | .list a ahead ds as rs marks => by
    show (a :: rs.mk.map (·.1)).Sublist (a :: (as ++ rs.fp))
    exact ((Rs.mk_fp rs).trans (List.sublist_append_right as rs.fp)).cons_cons _
theorem Ks.mk_fp : ∀ ks : Ks, (ks.mk.map (·.1)).Sublist ks.fp
  | .nil => List.nil_sublist _
  | .cons n t r => by
    show ((t.mk ++ r.mk).map (·.1)).Sublist (t.fp ++ r.fp)
    rw [List.map_append]
    exact (T.mk_fp t).append (Ks.mk_fp r)
theorem Rs.mk_fp : ∀ rs : Rs, (rs.mk.map (·.1)).Sublist rs.fp
  | .nil => List.nil_sublist _
  | .cons a ks r => by
    show ((ks.mk ++ r.mk).map (·.1)).Sublist (a :: (ks.fp ++ r.fp))
    rw [List.map_append]
    exact ((Ks.mk_fp ks).append (Rs.mk_fp r)).cons _
end
noncomputable def marksAt (als : List Addr) (a : Addr) : List Nat := (List.range als.length).filter fun k => decide (als[k]? = some a)
theorem marksAt_none {als : List Addr} {a : Addr} (h : a ∉ als) : marksAt als a = [] :=
  List.filter_eq_nil_iff.mpr fun k _ q => h (List.mem_of_getElem? (of_decide_eq_true q))
theorem marksAt_snoc (als : List Addr) (al a : Addr) : marksAt (als ++ [al]) a = marksAt als a ++ (if a = al then [als.length] else []) := by
  unfold marksAt
  rw [List.length_append, List.length_singleton, List.range_succ, List.filter_append]
  congr 1
  · apply List.filter_congr
    intro k hk
    rw [List.getElem?_append_left (List.mem_range.mp hk)]
  · by_cases h : a = al
    · subst h; simp
    · have : ¬ al = a := fun q => h q.symm
      simp [h, this]
theorem upTo_marksAt (als : List Addr) (a : Addr) (B : Nat) : upTo (B + 1) (marksAt als a) = upTo B (marksAt als a) ++ (if als[B]? = some a then [B] else []) := by
  have key : ∀ n, ((List.range n).filter fun k => decide (als[k]? = some a)).filter (fun k => decide (k < B + 1)) = ((List.range n).filter fun k => decide (als[k]? = some a)).filter (fun k => decide (k < B)) ++ (if als[B]? = some a ∧ B < n then [B] else []) := by
    intro n
    induction n with
    | zero => simp
    | succ n ih =>
      rw [List.range_succ, List.filter_append, List.filter_append, List.filter_append, ih, List.append_assoc, List.append_assoc]
      congr 1
      by_cases h1 : als[n]? = some a
      · by_cases h2 : n < B
        · have h3 : ¬ B < n := by omega
          have h4 : ¬ B < n + 1 := by omega
          have h5 : n < B + 1 := by omega
          simp [h1, h2, h3, h4, h5]
        · by_cases h3 : n = B
          · subst h3; simp [h1]
          · have h4 : B < n := by omega
            have h5 : B < n + 1 := by omega
            have h6 : ¬ n < B + 1 := by omega
            simp [h1, h2, h4, h5, h6]
      · by_cases h3 : n = B
        · subst h3; simp [h1]
        · have : (B < n + 1) ↔ B < n := by omega
          simp [h1, this]
  unfold upTo marksAt
  rw [key als.length]
  congr 1
  by_cases h : als[B]? = some a
  · have : B < als.length := (List.getElem?_eq_some_iff.mp h).1
    simp [h, this]
  · simp [h]
structure MkI (als : List Addr) (mk : List (Addr × List Nat)) : Prop where
  mark : ∀ p ∈ mk, p.2 = marksAt als p.1
  has : ∀ a ∈ als, ∃ ms, (a, ms) ∈ mk
theorem MkI.grown {als : List Addr} {h0 : Heap} {a0 : Addr} {root root' : Ks} (h : MkI als root.mk) (g : Grown h0 a0 root root') (hd : ∀ a ∈ als, h0.get? a ≠ none) : MkI als root'.mk where
  mark p hp := by
    rcases g.mk1 p hp with q | ⟨q1, q2⟩
    · exact h.mark p q
    · rw [q1, marksAt_none fun hm => hd _ hm q2]
  has a ha := by obtain ⟨ms, hm⟩ := h.has a ha; exact ⟨ms, g.mk2 _ hm⟩
theorem MkI.snoc {als : List Addr} {mk mk' R : List (Addr × List Nat)} {al : Addr} {ms : List Nat} (h : MkI als mk) (h1 : ∀ p ∈ mk', p = (al, marksAt als al ++ [als.length]) ∨ (p ∈ R ∧ p.1 ≠ al)) (h2 : ∀ p ∈ R, p.1 ≠ al → p ∈ mk ∨ (p.2 = [] ∧ p.1 ∉ als)) (h3 : ∀ p ∈ mk, p.1 ≠ al → p ∈ mk') (h4 : (al, marksAt als al ++ [als.length]) ∈ mk') : MkI (als ++ [al]) mk' where
  mark p hp := by
    rw [marksAt_snoc]
    rcases h1 p hp with rfl | ⟨q, hne⟩
    · simp
    · rw [if_neg hne, List.append_nil]
      rcases h2 p q hne with q | ⟨q1, q2⟩
      · exact h.mark p q
      · rw [q1, marksAt_none q2]
  has a ha := by
    by_cases hne : a = al
    · subst hne; exact ⟨_, h4⟩
    · rcases List.mem_append.mp ha with ha | ha
      · obtain ⟨ms, hm⟩ := h.has a ha
        exact ⟨ms, h3 _ hm hne⟩
      · exact absurd (List.mem_singleton.mp ha) hne

section
variable {prog : Program} {w : World} {B : Nat} {h h' : Heap} {al : Addr} {tk : Tok}
mutual
theorem T.Ok.lay (k : Kp (fun b => b = al) h h') (hl : ∀ xs : List Value, h.PlainList al xs.toArray → h'.PlainList al (xs ++ [Value.int (B : Int) tk]).toArray) : ∀ t : T, t.Ok prog w B h → t.fp.Nodup → (al ∈ t.fp → al ∈ t.mk.map (·.1)) → (∀ p ∈ t.mk, upTo (B + 1) p.2 = upTo B p.2 ++ (if p.1 = al then [B] else [])) → t.Ok prog w (B + 1) h'
  | .leaf v d as, o, nd, hm, hp => Hd.kp k o fun b hb q => by subst q; exact nomatch (hm hb)
  | .dict a ks, o, nd, hm, hp => by
    have hn := List.nodup_cons.mp nd
    have h1 : ¬ a = al := fun q => by
      subst q
      exact hn.1 ((Ks.mk_fp ks).subset (hm (.head _)))
    exact ⟨o.1.kp k h1, Ks.Ok.lay k hl ks o.2 hn.2 (fun hb => hm (.tail _ hb)) hp⟩
  | .list a ahead ds as rs marks, o, nd, hm, hp => by
    obtain ⟨⟨mv, h1, h2⟩, h3, h4⟩ := o
    have hn := List.nodup_cons.mp nd
    have hn2 := List.nodup_append.mp hn.2
    have hm1 := hp (a, marks) (.head _)
    have has : al ∉ as := fun hb => by
      rcases List.mem_cons.mp (hm (.tail _ (List.mem_append_left _ hb))) with q | q
      · exact hn.1 (List.mem_append_left _ (by show a ∈ as; exact (show al = a from q) ▸ hb))
      · exact hn2.2.2 al hb al ((Rs.mk_fp rs).subset q) rfl
    have hrs : al ∈ rs.fp → al ∈ rs.mk.map (·.1) := fun hb => by
      rcases List.mem_cons.mp (hm (.tail _ (List.mem_append_right _ hb))) with q | q
      · exact absurd (List.mem_append_right as hb) (by have : al = a := q; rw [this]; exact hn.1)
      · exact q
    refine ⟨?_, HdAll.kp k h3 fun b hb q => by subst q; exact has hb, Rs.Ok.lay k hl rs h4 hn2.2.1 hrs fun p hq => hp p (.tail _ hq)⟩
    rw [hm1]
    by_cases q : a = al
    · subst q
      rw [if_pos rfl]
      refine ⟨mv ++ [Value.int (B : Int) tk], ?_, ?_⟩
      · have := hl _ h1
        simpa using this
      · rw [List.map_append]; exact h2.snoc _ _
    · rw [if_neg q, List.append_nil]
      exact ⟨mv, k.plain h1 q, h2⟩
theorem Ks.Ok.lay (k : Kp (fun b => b = al) h h') (hl : ∀ xs : List Value, h.PlainList al xs.toArray → h'.PlainList al (xs ++ [Value.int (B : Int) tk]).toArray) : ∀ ks : Ks, ks.Ok prog w B h → ks.fp.Nodup → (al ∈ ks.fp → al ∈ ks.mk.map (·.1)) → (∀ p ∈ ks.mk, upTo (B + 1) p.2 = upTo B p.2 ++ (if p.1 = al then [B] else [])) → ks.Ok prog w (B + 1) h'
  | .nil, o, nd, hm, hp => trivial
  | .cons n t r, o, nd, hm, hp => by
    have hn := List.nodup_append.mp nd
    refine ⟨T.Ok.lay k hl t o.1 hn.1 (fun hb => ?_) fun p hq => hp p (List.mem_append_left _ hq), Ks.Ok.lay k hl r o.2 hn.2.1 (fun hb => ?_) fun p hq => hp p (List.mem_append_right _ hq)⟩
    · have := hm (List.mem_append_left _ hb)
      rw [show (Ks.cons n t r).mk = t.mk ++ r.mk from rfl, List.map_append] at this
      exact (List.mem_append.mp this).resolve_right fun q => hn.2.2 al hb al ((Ks.mk_fp r).subset q) rfl
    · have := hm (List.mem_append_right _ hb)
      rw [show (Ks.cons n t r).mk = t.mk ++ r.mk from rfl, List.map_append] at this
      exact (List.mem_append.mp this).resolve_left fun q => hn.2.2 al ((T.mk_fp t).subset q) al hb rfl
theorem Rs.Ok.lay (k : Kp (fun b => b = al) h h') (hl : ∀ xs : List Value, h.PlainList al xs.toArray → h'.PlainList al (xs ++ [Value.int (B : Int) tk]).toArray) : ∀ rs : Rs, rs.Ok prog w B h → rs.fp.Nodup → (al ∈ rs.fp → al ∈ rs.mk.map (·.1)) → (∀ p ∈ rs.mk, upTo (B + 1) p.2 = upTo B p.2 ++ (if p.1 = al then [B] else [])) → rs.Ok prog w (B + 1) h'
  | .nil, o, nd, hm, hp => trivial
  | .cons a ks r, o, nd, hm, hp => by
    have hn1 := List.nodup_cons.mp nd
    have hn := List.nodup_append.mp hn1.2
    have e : (Rs.cons a ks r).mk = ks.mk ++ r.mk := rfl
    have h1 : ¬ a = al := fun q => by
      subst q
      have := hm (.head _)
      rw [e, List.map_append] at this
      rcases List.mem_append.mp this with q | q
      · exact hn1.1 (List.mem_append_left _ ((Ks.mk_fp ks).subset q))
      · exact hn1.1 (List.mem_append_right _ ((Rs.mk_fp r).subset q))
    refine ⟨⟨o.1.1.kp k h1, Ks.Ok.lay k hl ks o.1.2 hn.1 (fun hb => ?_) fun p hq => hp p (List.mem_append_left _ hq)⟩, Rs.Ok.lay k hl r o.2 hn.2.1 (fun hb => ?_) fun p hq => hp p (List.mem_append_right _ hq)⟩
    · have := hm (.tail _ (List.mem_append_left _ hb))
      rw [e, List.map_append] at this
      exact (List.mem_append.mp this).resolve_right fun q => hn.2.2 al hb al ((Rs.mk_fp r).subset q) rfl
    · have := hm (.tail _ (List.mem_append_right _ hb))
      rw [e, List.map_append] at this
      exact (List.mem_append.mp this).resolve_left fun q => hn.2.2 al ((Ks.mk_fp ks).subset q) al hb rfl
end

mutual
theorem T.Ok.list_at {a : Addr} {ms : List Nat} : ∀ (t : T) {n : Nat}, t.Ok prog w B h → RkOk n (t.data B) → (a, ms) ∈ t.mk → ∃ xs : List Value, h.PlainList a xs.toArray ∧ xs.length ≤ 10000
  | .leaf v d as, n, o, r, hm => nomatch hm
  | .dict a' ks, n, o, r, hm => by
    obtain ⟨m, rfl, h1, h2⟩ := RkOk.dictInv (ps := ks.ps B) r
    exact Ks.Ok.list_at ks o.2 (fun p hp => (h2 p hp).2) hm
  | .list a' ahead ds as rs marks, n, o, r, hm => by
    have hd : Hd prog w h (.ref a') (.list _) _ := T.Ok.hd _ o
    obtain ⟨⟨mv, h1, h2⟩, h3, h4⟩ := o
    obtain ⟨m, rfl, q1, q2⟩ := RkOk.listInv (ds := ds ++ (rs.data B ++ (upTo B marks).map fun (k : Nat) => PyData.int (k : Int))) r
    rcases List.mem_cons.mp hm with q | q
    · cases q
      refine ⟨_, h1, ?_⟩
      have e1 := h3.length
      have e2 := (Rs.Ok.hd rs h4).length
      have e3 := h2.length
      rw [List.length_append, List.length_append] at q1 ⊢
      rw [List.length_map] at q1 e3
      omega
    · exact Rs.Ok.list_at rs h4 (fun d hd => q2 d (List.mem_append_right _ (List.mem_append_left _ hd))) q
theorem Ks.Ok.list_at {a : Addr} {ms : List Nat} : ∀ (ks : Ks) {n : Nat}, ks.Ok prog w B h → (∀ p ∈ ks.ps B, RkOk n p.2) → (a, ms) ∈ ks.mk → ∃ xs : List Value, h.PlainList a xs.toArray ∧ xs.length ≤ 10000
  | .nil, n, o, r, hm => nomatch hm
  | .cons k t q, n, o, r, hm => (List.mem_append.mp hm).elim (T.Ok.list_at t o.1 (r _ (.head _))) (Ks.Ok.list_at q o.2 fun p hp => r p (.tail _ hp))
theorem Rs.Ok.list_at {a : Addr} {ms : List Nat} : ∀ (rs : Rs) {n : Nat}, rs.Ok prog w B h → (∀ d ∈ rs.data B, RkOk n d) → (a, ms) ∈ rs.mk → ∃ xs : List Value, h.PlainList a xs.toArray ∧ xs.length ≤ 10000
  | .nil, n, o, r, hm => nomatch hm
  | .cons b ks q, n, o, r, hm => by
    rcases List.mem_append.mp hm with hm | hm
    · obtain ⟨m, rfl, h1, h2⟩ := RkOk.dictInv (r _ (.head _))
      exact Ks.Ok.list_at ks o.1.2 (fun p hp => (h2 p hp).2) hm
    · exact Rs.Ok.list_at q o.2 (fun d hd => r d (.tail _ hd)) hm
end
end
end PartD2
section PartD3
noncomputable abbrev own (da dx ea ka a0 : Addr) (root : Ks) : List Addr := da :: dx :: ea :: ka :: a0 :: root.fp
structure Kpt (g : Heap) (i n : Nat) (kps : List (Nat × Ev)) (als : List Addr) (kl : List Value) : Prop where
  len1 : kl.length = kps.length
  len2 : als.length = kps.length
  few : kps.length ≤ i
  at_ : ∀ (j : Nat) (p : Nat × Ev), kps[j]? = some p → p.1 ≤ n ∧ evGood 7 i p.2 ∧ p.2.kind = kMark ∧ p.2.val = PyData.int (j : Int) ∧ ∃ t tk kv al, kl[j]? = some (.ref t) ∧ IsTup g t (List.toArray [.int (p.1 : Nat) tk, kv, .ref al]) ∧ Rd Nil g kv (keyD p.2.key) ∧ als[j]? = some al
theorem Kpt.kp {g g' : Heap} {i n : Nat} {kps : List (Nat × Ev)} {als : List Addr} {kl : List Value} {X : Addr → Prop} (t : Kpt g i n kps als kl) (k : Kp X g g') : Kpt g' i n kps als kl :=
  ⟨t.len1, t.len2, t.few, fun j p hp => by obtain ⟨h1, h2, h3, h4, a, tk, kv, al, h5, h6, h7, h8⟩ := t.at_ j p hp; exact ⟨h1, h2, h3, h4, a, tk, kv, al, h5, k.tup h6, h7.imm k, h8⟩⟩
theorem Kpt.mono {g : Heap} {i j n n' : Nat} {kps : List (Nat × Ev)} {als : List Addr} {kl : List Value} (t : Kpt g i n kps als kl) (hi : i ≤ j) (hn : n ≤ n') : Kpt g j n' kps als kl :=
  ⟨t.len1, t.len2, Nat.le_trans t.few hi, fun j p hp => by obtain ⟨h1, h2, h3, h4, r⟩ := t.at_ j p hp; exact ⟨Nat.le_trans h1 hn, h2.mono hi, h3, h4, r⟩⟩
theorem Kpt.snoc {g : Heap} {i n : Nat} {kps : List (Nat × Ev)} {als : List Addr} {kl : List Value} (t : Kpt g i n kps als kl) {key : List Str} {a al : Addr} {tk : Tok} {kv : Value} (ht : IsTup g a (List.toArray [.int (n : Nat) tk, kv, .ref al])) (hr : Rd Nil g kv (keyD key)) (hk : key.length ≤ 7) (hn : ∀ k ∈ key, nmOk (i + 1) k) :
    Kpt g (i + 1) n (kps ++ [(n, ⟨key, kMark, .int (kps.length : Nat)⟩)]) (als ++ [al]) (kl ++ [.ref a]) where
  len1 := by rw [List.length_append, List.length_append, t.len1]; rfl
  len2 := by rw [List.length_append, List.length_append, t.len2]; rfl
  few := by rw [List.length_append]; have := t.few; simp; omega
  at_ j p hp := by
    by_cases hj : j < kps.length
    · rw [List.getElem?_append_left hj] at hp
      obtain ⟨h1, h2, h3, h4, b, tk', kv', al', h5, h6, h7, h8⟩ := t.at_ j p hp
      exact ⟨h1, h2.mono (Nat.le_succ _), h3, h4, b, tk', kv', al', by rw [List.getElem?_append_left (by rw [t.len1]; exact hj)]; exact h5, h6, h7, by rw [List.getElem?_append_left (by rw [t.len2]; exact hj)]; exact h8⟩
    · have hj2 : j = kps.length := by
        have := (List.getElem?_eq_some_iff.mp hp).1
        rw [List.length_append, List.length_singleton] at this; omega
      subst hj2
      rw [List.getElem?_append_right (Nat.le_refl _), Nat.sub_self] at hp
      cases hp
      refine ⟨Nat.le_refl _, ⟨hk, hn, .inr (.inr (.inr ⟨_, rfl, rfl⟩))⟩, rfl, rfl, a, tk, kv, al, ?_, ht, hr, ?_⟩
      · rw [← t.len1, List.getElem?_append_right (Nat.le_refl _), Nat.sub_self]; rfl
      · rw [← t.len2, List.getElem?_append_right (Nat.le_refl _), Nat.sub_self]; rfl
structure LSt (w : World) (e g : Heap) (x dx a0 ea ka da : Addr) (dvs : List Value) (i : Nat) (evs : List Ev) (evl : List Value) (kps : List (Nat × Ev)) (als : List Addr) (kl : List Value) (root : Ks) : Prop where
  mach : Mach w g x dx a0
  dl : g.PlainList da dvs.toArray
  el : g.PlainList ea evl.toArray
  er : Rhs prog w (fun b => b ∉ own da dx ea ka a0 root) g evl (evs.map Ev.d)
  kll : g.PlainList ka kl.toArray
  kr : Kpt g i evs.length kps als kl
  tree : Tree prog w g a0 root (evF evs kps)
  nd : (own da dx ea ka a0 root).Nodup
  new : ∀ b ∈ own da dx ea ka a0 root, e.get? b = none
  evg : ∀ v ∈ evs, evGood 7 i v
  evk : ∀ v ∈ evs, v.kind ≠ kMark
  evn : evs.length ≤ 2 * i
  mki : MkI als root.mk

section
variable {w : World} {e g g' : Heap} {x dx a0 ea ka da : Addr} {dvs : List Value} {i : Nat} {evs : List Ev} {evl : List Value} {kps : List (Nat × Ev)} {als : List Addr} {kl : List Value} {root : Ks} {X : Addr → Prop}
theorem LSt.kp (S : LSt w e g x dx a0 ea ka da dvs i evs evl kps als kl root) (k : Kp Nil g g') : LSt w e g' x dx a0 ea ka da dvs i evs evl kps als kl root :=
  ⟨S.mach.kp k (fun q => q), k.plain S.dl (fun q => q), k.plain S.el (fun q => q), S.er.kp0 k, k.plain S.kll (fun q => q), S.kr.kp k, S.tree.kp0 k, S.nd, S.new, S.evg, S.evk, S.evn, S.mki⟩
theorem LSt.succ (S : LSt w e g x dx a0 ea ka da dvs i evs evl kps als kl root) : LSt w e g x dx a0 ea ka da dvs (i + 1) evs evl kps als kl root :=
  ⟨S.mach, S.dl, S.el, S.er, S.kll, S.kr.mono (Nat.le_succ _) (Nat.le_refl _), S.tree, S.nd, S.new, fun v hv => (S.evg v hv).mono (Nat.le_succ _), S.evk, by have := S.evn; omega, S.mki⟩
theorem LSt.pos (S : LSt w e g x dx a0 ea ka da dvs i evs evl kps als kl root) : ∀ p ∈ kps, p.1 ≤ evs.length := fun p hp => by
  obtain ⟨j, hj⟩ := List.getElem?_of_mem hp
  exact (S.kr.at_ j p hj).1
theorem LSt.alsDom (S : LSt w e g x dx a0 ea ka da dvs i evs evl kps als kl root) : ∀ a ∈ als, a ∈ root.fp := fun a ha => by
  obtain ⟨ms, hm⟩ := S.mki.has a ha
  exact (Ks.mk_fp root).subset (List.mem_map.mpr ⟨_, hm, rfl⟩)
theorem LSt.fpDom (S : LSt w e g x dx a0 ea ka da dvs i evs evl kps als kl root) : ∀ b ∈ own da dx ea ka a0 root, ∃ o, g.get? b = some o := fun b hb => by
  rcases List.mem_cons.mp hb with rfl | hb
  · obtain ⟨o, ho, _⟩ := isList_dom S.dl.isList; exact ⟨o, ho⟩
  rcases List.mem_cons.mp hb with rfl | hb
  · obtain ⟨tk, n, ho⟩ := S.mach.own; exact ⟨_, ho⟩
  rcases List.mem_cons.mp hb with rfl | hb
  · obtain ⟨o, ho, _⟩ := isList_dom S.el.isList; exact ⟨o, ho⟩
  rcases List.mem_cons.mp hb with rfl | hb
  · obtain ⟨o, ho, _⟩ := isList_dom S.kll.isList; exact ⟨o, ho⟩
  · exact S.tree.at.dom b (by simpa using hb)
theorem LSt.tree_grown {root' : Ks} (S : LSt w e g x dx a0 ea ka da dvs i evs evl kps als kl root) (he : ∀ b o, e.get? b = some o → ∃ o', g.get? b = some o') (hin : ∀ b ∈ root'.fp, b ∈ a0 :: root.fp ∨ g.get? b = none) (T : (a0 :: root'.fp).Nodup) :
    (own da dx ea ka a0 root').Nodup ∧ (∀ b ∈ own da dx ea ka a0 root', e.get? b = none) ∧ (∀ b o, g.get? b = some o → b ∉ own da dx ea ka a0 root → b ∉ own da dx ea ka a0 root') := by
  have hd := S.fpDom
  have ne : ∀ b, b ∈ [da, dx, ea, ka] → b ∉ a0 :: root'.fp := fun b hb hm => by
    have hb' : b ∈ own da dx ea ka a0 root := by
      simp only [List.mem_cons, List.not_mem_nil, or_false] at hb
      rcases hb with rfl | rfl | rfl | rfl <;> simp
    have hnot : b ∉ a0 :: root.fp := fun q => by
      have nd := S.nd
      have e1 : own da dx ea ka a0 root = [da, dx, ea, ka] ++ (a0 :: root.fp) := rfl
      rw [e1] at nd
      exact (List.nodup_append.mp nd).2.2 b hb b q rfl
    rcases List.mem_cons.mp hm with rfl | hm
    · exact hnot (.head _)
    · rcases hin b hm with q | q
      · exact hnot q
      · obtain ⟨o, ho⟩ := hd b hb'
        rw [ho] at q; cases q
  refine ⟨?_, fun b hb => ?_, fun b o ho hb hm => ?_⟩
  · have e1 : own da dx ea ka a0 root' = [da, dx, ea, ka] ++ (a0 :: root'.fp) := rfl
    rw [e1, List.nodup_append]
    have nd := S.nd
    have e2 : own da dx ea ka a0 root = [da, dx, ea, ka] ++ (a0 :: root.fp) := rfl
    rw [e2] at nd
    exact ⟨(List.nodup_append.mp nd).1, T, fun a ha b hb q => ne a ha (q ▸ hb)⟩
  · have e1 : own da dx ea ka a0 root' = [da, dx, ea, ka] ++ (a0 :: root'.fp) := rfl
    rw [e1] at hb
    rcases List.mem_append.mp hb with hb | hb
    · refine S.new b ?_
      simp only [List.mem_cons, List.not_mem_nil, or_false] at hb
      rcases hb with rfl | rfl | rfl | rfl <;> simp
    · rcases List.mem_cons.mp hb with rfl | hb
      · exact S.new _ (by simp)
      · rcases hin b hb with q | q
        · exact S.new b (by simpa using .inr (.inr (.inr (.inr (List.mem_cons.mp q)))))
        · cases hq : e.get? b with
          | none => rfl
          | some o => obtain ⟨o', ho'⟩ := he b o hq; rw [ho'] at q; cases q
  · have e1 : own da dx ea ka a0 root' = [da, dx, ea, ka] ++ (a0 :: root'.fp) := rfl
    rw [e1] at hm
    apply hb
    rcases List.mem_append.mp hm with hm | hm
    · simp only [List.mem_cons, List.not_mem_nil, or_false] at hm
      rcases hm with rfl | rfl | rfl | rfl <;> simp
    · rcases List.mem_cons.mp hm with rfl | hm
      · simp
      · rcases hin b hm with q | q
        · simpa using .inr (.inr (.inr (.inr (List.mem_cons.mp q))))
        · rw [ho] at q; cases q
theorem LSt.apart (S : LSt w e g x dx a0 ea ka da dvs i evs evl kps als kl root) : da ∉ [ea, ka] ++ (a0 :: root.fp) ∧ dx ∉ [ea, ka] ++ (a0 :: root.fp) := by
  have nd := S.nd
  have h1 := List.nodup_cons.mp nd
  have h2 := List.nodup_cons.mp h1.2
  refine ⟨fun q => h1.1 (.tail _ ?_), fun q => h2.1 ?_⟩
  · show da ∈ ea :: ka :: a0 :: root.fp
    simpa using q
  · simpa using q
theorem LSt.next {h' : Heap} {Y : Addr → Prop} {root' : Ks} {newe : List Ev} {newv : List Value} {kps' : List (Nat × Ev)} {als' : List Addr} {kl' : List Value} (S : LSt w e g x dx a0 ea ka da dvs i evs evl kps als kl root) (he : ∀ b o, e.get? b = some o → ∃ o', g.get? b = some o')
    (K : Kp Y g h') (hY : ∀ b, Y b → b = ea ∨ b = ka ∨ b ∈ a0 :: root.fp ∨ g.get? b = none) (T : Tree prog w h' a0 root' (evF (evs ++ newe) kps')) (fr : ∀ b ∈ root'.fp, b ∈ a0 :: root.fp ∨ g.get? b = none)
    (el : h'.PlainList ea (evl ++ newv).toArray) (en : Rhs prog w (fun b => b ∉ own da dx ea ka a0 root') h' newv (newe.map Ev.d)) (hg : ∀ v ∈ newe, evGood 7 (i + 1) v ∧ v.kind ≠ kMark) (hl : newe.length ≤ 2)
    (kll : h'.PlainList ka kl'.toArray) (kr : Kpt h' (i + 1) (evs ++ newe).length kps' als' kl') (mki : MkI als' root'.mk) :
    LSt w e h' x dx a0 ea ka da dvs (i + 1) (evs ++ newe) (evl ++ newv) kps' als' kl' root' := by
  obtain ⟨n1, n2, n3⟩ := S.tree_grown he fr T.nd
  obtain ⟨pa, px⟩ := S.apart
  have hd := S.fpDom
  have notY : ∀ b, b ∉ [ea, ka] ++ (a0 :: root.fp) → (∃ o, g.get? b = some o) → ¬ Y b := fun b hb ⟨o, ho⟩ hy => by
    rcases hY b hy with q | q | q | q
    · exact hb (by simp [q])
    · exact hb (by simp [q])
    · exact hb (List.mem_append_right _ q)
    · rw [ho] at q; cases q
  refine ⟨S.mach.kp K (notY dx px (hd dx (by simp))), K.plain S.dl (notY da pa (hd da (by simp))), el, ?_, kll, kr, T, n1, n2, ?_, ?_, ?_, mki⟩
  · rw [List.map_append]
    refine ((S.er.dom.kp K fun b hb => notY b (fun q => hb.1 ?_) hb.2).mono fun b hb => ?_).append en
    · rcases List.mem_append.mp q with q | q
      · simp only [List.mem_cons, List.not_mem_nil, or_false] at q
        rcases q with rfl | rfl <;> simp
      · simpa using .inr (.inr (.inr (.inr (List.mem_cons.mp q))))
    · obtain ⟨h1, o, ho⟩ := hb
      exact n3 b o ho h1
  · intro v hv
    rcases List.mem_append.mp hv with hv | hv
    · exact (S.evg v hv).mono (Nat.le_succ _)
    · exact (hg v hv).1
  · intro v hv
    rcases List.mem_append.mp hv with hv | hv
    · exact S.evk v hv
    · exact (hg v hv).2
  · have := S.evn
    rw [List.length_append]; omega
end
end PartD3
section PartD4
theorem Rhs.take {prog : Program} {w : World} {N : Addr → Prop} {h : Heap} {vs : List Value} {ds : List PyData} (r : Rhs prog w N h vs ds) (k : Nat) : Rhs prog w N h (vs.take k) (ds.take k) := by
  induction k generalizing vs ds with
  | zero => exact .nil
  | succ k ih =>
    cases vs with
    | nil =>
      cases ds with
      | nil => exact .nil
      | cons d ds => exact absurd r.length (by simp)
    | cons v vs =>
      cases ds with
      | nil => exact absurd r.length (by simp)
      | cons d ds => exact .cons r.uncons.1 (ih r.uncons.2)
structure MSt (w : World) (e g : Heap) (x dx a0 ea ka da : Addr) (i B j : Nat) (evs : List Ev) (evl : List Value) (kps : List (Nat × Ev)) (als : List Addr) (kl : List Value) (root : Ks) : Prop where
  mach : Mach w g x dx a0
  el : g.PlainList ea evl.toArray
  er : Rhs prog w (fun b => b ∉ own da dx ea ka a0 root) g evl ((Gh evs (kps.drop j)).map Ev.d)
  kll : g.PlainList ka kl.toArray
  kr : Kpt g i evs.length kps als kl
  mkn : ∀ B, MKn B root (evF evs kps B)
  dict : DO prog w g a0 root.kvs
  ok : root.Ok prog w B g
  nd : (own da dx ea ka a0 root).Nodup
  new : ∀ b ∈ own da dx ea ka a0 root, e.get? b = none
  evg : ∀ v ∈ evs, evGood 7 i v
  evn : evs.length ≤ 2 * i
  mki : MkI als root.mk
  i60 : i ≤ 60
section
variable {w : World} {e g g' : Heap} {x dx a0 ea ka da : Addr} {dvs : List Value} {i B j : Nat} {evs : List Ev} {evl : List Value} {kps : List (Nat × Ev)} {als : List Addr} {kl : List Value} {root : Ks} {X : Addr → Prop}
theorem LSt.mst (S : LSt w e g x dx a0 ea ka da dvs i evs evl kps als kl root) (hi : i ≤ 60) : MSt w e g x dx a0 ea ka da i 0 kps.length evs evl kps als kl root :=
  ⟨S.mach, S.el, by rw [List.drop_length]; exact S.er, S.kll, S.kr, S.tree.mkn, S.tree.dict, S.tree.ok, S.nd, S.new, S.evg, S.evn, S.mki, hi⟩
theorem MSt.kp (S : MSt w e g x dx a0 ea ka da i B j evs evl kps als kl root) (k : Kp Nil g g') : MSt w e g' x dx a0 ea ka da i B j evs evl kps als kl root :=
  ⟨S.mach.kp k (fun q => q), k.plain S.el (fun q => q), S.er.kp0 k, k.plain S.kll (fun q => q), S.kr.kp k, S.mkn, S.dict.kp k (fun q => q), Ks.Ok.kp k _ S.ok (fun _ _ q => q), S.nd, S.new, S.evg, S.evn, S.mki, S.i60⟩
theorem MSt.good (S : MSt w e g x dx a0 ea ka da i B j evs evl kps als kl root) {l : List (Nat × Ev)} (hl : ∀ p ∈ l, p ∈ kps) (hz : l.length ≤ 60) : esGood 7 i (Gh evs l) := by
  refine ⟨fun v hv => ?_, ?_⟩
  · rcases Gh_mem hv with q | ⟨p, hp, rfl⟩
    · exact S.evg v q
    · obtain ⟨jj, hj⟩ := List.getElem?_of_mem (hl p hp)
      exact (S.kr.at_ jj p hj).2.1
  · rw [Gh_length]; have := S.evn; have := S.i60; omega
theorem MSt.few (S : MSt w e g x dx a0 ea ka da i B j evs evl kps als kl root) : kps.length ≤ 60 := Nat.le_trans S.kr.few S.i60
theorem MSt.list (S : MSt w e g x dx a0 ea ka da i B j evs evl kps als kl root) {al : Addr} (ha : al ∈ als) : al ∈ root.fp ∧ ∃ xs : List Value, g.PlainList al xs.toArray ∧ xs.length ≤ 10000 := by
  obtain ⟨ms, hm⟩ := S.mki.has al ha
  have hg := S.good (l := kps.take B) (fun p hp => List.mem_of_mem_take hp) (by rw [List.length_take]; have := S.few; omega)
  obtain ⟨m, hm', h1, h2⟩ := RkOk.dictInv (rk_root S.i60 (S.mkn B) hg)
  exact ⟨(Ks.mk_fp root).subset (List.mem_map.mpr ⟨_, hm, rfl⟩), Ks.Ok.list_at root S.ok (fun p hp => (h2 p hp).2) hm⟩
theorem MSt.lay {h' : Heap} {al : Addr} {tk : Tok} {xs : List Value} (S : MSt w e g x dx a0 ea ka da i B j evs evl kps als kl root) (ha : als[B]? = some al) (hx : g.PlainList al xs.toArray) (k : Kp (fun b => b = al) g h') (l : h'.PlainList al (xs ++ [Value.int (B : Int) tk]).toArray) : MSt w e h' x dx a0 ea ka da i (B + 1) j evs evl kps als kl root := by
  have hm : al ∈ als := List.mem_of_getElem? ha
  obtain ⟨hfp, _⟩ := S.list hm
  have nd := S.nd
  have e1 : own da dx ea ka a0 root = [da, dx, ea, ka, a0] ++ root.fp := rfl
  rw [e1] at nd
  have nd' := List.nodup_append.mp nd
  have ne : ∀ b ∈ [da, dx, ea, ka, a0], ¬ b = al := fun b hb q => nd'.2.2 b hb al hfp q
  refine ⟨S.mach.kp k (ne _ (by simp)), k.plain S.el (ne _ (by simp)), S.er.kp k fun b hb q => hb (by rw [e1, q]; exact List.mem_append_right _ hfp), k.plain S.kll (ne _ (by simp)), S.kr.kp k, S.mkn, S.dict.kp k (ne _ (by simp)), ?_, S.nd, S.new, S.evg, S.evn, S.mki, S.i60⟩
  refine Ks.Ok.lay (tk := tk) k (fun ys hy => ?_) root S.ok nd'.2.1 (fun _ => ?_) fun p hp => ?_
  · have : ys = xs := by
      obtain ⟨n1, e1⟩ := hx
      obtain ⟨n2, e2⟩ := hy
      rw [e1] at e2
      simp at e2
      exact e2.1.symm
    rw [this]; exact l
  · obtain ⟨ms, hms⟩ := S.mki.has al hm
    exact List.mem_map.mpr ⟨_, hms, rfl⟩
  · rw [S.mki.mark p hp, upTo_marksAt, ha]
    congr 1
    by_cases q : p.1 = al
    · rw [if_pos q, if_pos (by rw [q])]
    · rw [if_neg q, if_neg fun z => q (Option.some.inj z).symm]
theorem MSt.note {h' : Heap} {p : Nat × Ev} {v : Value} (S : MSt w e g x dx a0 ea ka da i B (j + 1) evs evl kps als kl root) (hp : kps[j]? = some p) (k : Kp (fun b => b = ea) g h') (l : h'.PlainList ea (evl.take p.1 ++ v :: evl.drop p.1).toArray) (hv : Rh prog w Nil h' v (Ev.d p.2)) : MSt w e h' x dx a0 ea ka da i B j evs (evl.take p.1 ++ v :: evl.drop p.1) kps als kl root := by
  have nd := S.nd
  have h1 := List.nodup_cons.mp nd
  have h2 := List.nodup_cons.mp h1.2
  have h3 := List.nodup_cons.mp h2.2
  have nda : ¬ dx = ea := fun q => h2.1 (by rw [q]; exact .head _)
  have hka : ¬ ka = ea := fun q => h3.1 (by rw [← q]; exact .head _)
  have ha0 : ¬ a0 = ea := fun q => h3.1 (by rw [← q]; exact .tail _ (.head _))
  have hfp : ∀ b ∈ root.fp, ¬ b = ea := fun b hb q => h3.1 (by rw [← q]; exact .tail _ (.tail _ hb))
  refine ⟨S.mach.kp k nda, l, ?_, k.plain S.kll hka, S.kr.kp k, S.mkn, S.dict.kp k ha0, Ks.Ok.kp k _ S.ok hfp, S.nd, S.new, S.evg, S.evn, S.mki, S.i60⟩
  have hdrop : kps.drop j = p :: kps.drop (j + 1) := by
    obtain ⟨hlt, he⟩ := List.getElem?_eq_some_iff.mp hp
    rw [← he, List.drop_eq_getElem_cons hlt]
  have e1 : Gh evs (kps.drop j) = ins p.1 p.2 (Gh evs (kps.drop (j + 1))) := by rw [hdrop]; rfl
  rw [e1]
  unfold ins
  rw [List.map_append, List.map_cons, List.map_take, List.map_drop]
  have er := S.er.kp k fun b hb q => hb (by simp [q])
  exact Rhs.append (er.take p.1) (.cons (hv.mono fun _ q => q.elim) (er.drop p.1))
end
end PartD4
section PartB11
noncomputable abbrev lawScope : Scope := { kind := .function, names := [(Str.ofString "script", .local), (Str.ofString "machine", .local), (Str.ofString "events", .local), (Str.ofString "kept", .local), (Str.ofString "digits", .local), (Str.ofString "n", .local), (Str.ofString "code", .local), (Str.ofString "key", .local), (Str.ofString "way", .local), (Str.ofString "due", .local), (Str.ofString "alive", .local), (Str.ofString "told", .local), (Str.ofString "nest", .local), (Str.ofString "error", .local), (Str.ofString "k", .local), (Str.ofString "NestedDict", .globalImplicit), (Str.ofString "_law_digits", .globalImplicit), (Str.ofString "range", .globalImplicit), (Str.ofString "len", .globalImplicit), (Str.ofString "_law_key", .globalImplicit), (Str.ofString "_law_bar", .globalImplicit), (Str.ofString "_law_alive", .globalImplicit), (Str.ofString "isinstance", .globalImplicit), (Str.ofString "list", .globalImplicit), (Str.ofString "KeyError", .globalImplicit), (Str.ofString "IndexError", .globalImplicit), (Str.ofString "str", .globalImplicit), (Str.ofString "_law_thing", .globalImplicit), (Str.ofString "_law_same", .globalImplicit), (Str.ofString "_law_tree", .globalImplicit)], isGenerator := false, isCoroutine := false }
noncomputable abbrev lawEnv (L : Addr) : Env := envQ (Str.ofString "law") lawScope L 103 (.ref 102)
section
variable {w : World} {A : Around} {E : Value → Shared → Prop} {s : Shared} {H0 e g : Heap} {mg mb : Str → Option Value} {X : Addr → Prop} {L : Addr} {m : Str → Option Value}
theorem sameTree (C : Cx w H0 mg mb) (hd : A.depth + 60 < recursionLimit) (hh : A.handled = none) (hu : A.units + 600 < cLine) (F : Fm H0 e g X True (lawEnv L) s.heap m) {x dx a0 ea : Addr} {B i : Nat} {root : Ks} {evs : List Ev} {evl : List Value} {N : Addr → Prop} (hm : m (Str.ofString "machine") = some (.ref x)) (he : m (Str.ofString "events") = some (.ref ea))
    (M : Mach w s.heap x dx a0) (T : MKn B root evs) (td : DO prog w s.heap a0 root.kvs) (tok : root.Ok prog w B s.heap) (el : s.heap.PlainList ea evl.toArray) (er : Rhs prog w N s.heap evl (evs.map Ev.d)) (hi : i ≤ 60) (hg : ∀ v ∈ evs, evGood 7 i v) (hz : evs.length ≤ 4000) {p1 p2 p3 p4 p5 p6 p7 : Pos} {Q : Value → Shared → Prop}
    (k : ∀ h' tk, Fm H0 e h' X True (lawEnv L) h' m → Sub s.heap h' → Q (.bool true) { s with heap := h', toks := tk }) :
    wpAny (model prog w) A (eval (.Call (.Name (Str.ofString "_law_same") p1) [.Attribute (.Name (Str.ofString "machine") p2) (Str.ofString "dict") p3, .Call (.Name (Str.ofString "_law_tree") p4) [.Name (Str.ofString "events") p5] [] p6] [] p7) (lawEnv L)) Q E s := by
  obtain ⟨sh, sg, sd, st, so⟩ := s
  dsimp only at F M td tok el er k ⊢
  walk_at "R"
  refine callFn (C.K _ _ rfl) rfl ?_
  walk_at "R"
  refine mach_get C F.vw.old M ?_
  walk_at "R"
  refine callFn (C.K _ _ rfl) rfl ?_
  walk_at "R"
  have er' : Rh prog w (fun b => N b ∨ b = ea) sh (.ref ea) (.list (evs.map Ev.d)) := Rh.listOf el (er.mono fun _ q => .inl q) (.inr rfl)
  refine ⟨F.vw.old, (tree_part 7).1 C F.vw.old (by omega) hh (by omega) er' hz (fun v hv => (hg v hv).evOk hi) T ?_⟩
  intro h₁ tk₁ r S₁ R₁
  have F₁ := F.ext S₁
  walk_at "R"
  have rt : Rh prog w (fun _ => True) h₁ (.ref a0) (.dict (root.ps B)) := Rh.mono ⟨a0 :: root.fp, Hd.kp S₁.kp (X := Nil) (.dict td (Ks.Ok.hd _ tok)) (fun _ _ q => q), fun _ h => h⟩ fun _ _ => trivial
  refine ⟨F₁.vw.old, same_spec 18 C F₁.vw.old (by omega) hh (by omega) rt R₁ (rk_root hi T ⟨hg, hz⟩) ?_⟩
  intro h₂ tk₂ S₂
  exact k _ _ (F₁.ext S₂) (S₁.trans S₂)
end
structure LM (m : Str → Option Value) (x ea ka da : Addr) (n c : Nat) : Prop where
  machine : m (Str.ofString "machine") = some (.ref x)
  events : m (Str.ofString "events") = some (.ref ea)
  kept : m (Str.ofString "kept") = some (.ref ka)
  digits : m (Str.ofString "digits") = some (.ref da)
  num : ∃ t, m (Str.ofString "n") = some (.int (n : Nat) t)
  code : ∃ t, m (Str.ofString "code") = some (.int (c : Nat) t)
noncomputable def theKey (c q : Nat) : List Str := if ¬ (c = 1 ∨ c = 2) ∧ keyOf q = [] then [Str.ofString "a"] else keyOf q
noncomputable def theWay (c : Nat) (key : List Str) : List Str := if c = 1 ∨ c = 2 then key else key.take (key.length - 1)
noncomputable def theDue (c : Nat) (evs : List Ev) (way key : List Str) : Str := if c = 0 ∧ barF evs way true = Str.ofString "" ∧ otherS (Pl evs key) = true then otherW else barF evs way (decide (c ≠ 2))
theorem theKey_nm {i : Nat} (c q : Nat) : ∀ k ∈ theKey c q, nmOk i k := by
  intro k hk
  unfold theKey at hk
  split at hk
  · rw [List.mem_singleton.mp hk]; exact .inl ⟨0, rfl⟩
  · exact keyOf_nm q k hk
theorem theKey_len (c q : Nat) (hq : q ≤ 120) : (theKey c q).length ≤ 5 := by
  unfold theKey
  split
  · decide
  · exact keyOf_len q 5 (by omega)
theorem theKey_ok (c q : Nat) (hq : q ≤ 120) : keyOk (theKey c q) := ⟨fun k hk => (theKey_nm (i := 0) c q k hk).ok (by omega), by have := theKey_len c q hq; omega⟩
theorem theKey_ne (c q : Nat) (hc : ¬ (c = 1 ∨ c = 2)) : theKey c q ≠ [] := by
  unfold theKey
  split
  · simp
  · rename_i h
    exact fun z => h ⟨hc, z⟩
theorem theWay_ok {c : Nat} {key : List Str} (h : keyOk key) : keyOk (theWay c key) := by
  unfold theWay
  split
  · exact h
  · exact h.take _
theorem theWay_snoc {c : Nat} {key : List Str} (hc : ¬ (c = 1 ∨ c = 2)) (h : key ≠ []) : ∃ last, key = theWay c key ++ [last] := by
  unfold theWay
  rw [if_neg hc]
  refine ⟨key.getLast h, ?_⟩
  rw [← List.dropLast_eq_take]
  exact (List.dropLast_concat_getLast h).symm
section
variable {M : Model} {A : Around} {E : Value → Shared → Prop} {s : Shared} {H0 e g : Heap} {X : Addr → Prop} {env : Env} {m : Str → Option Value}
theorem cutX {t : Sem Flow} {Q : Flow → Shared → Prop} (F : Fm H0 e g X True env s.heap m) (P : (Str → Option Value) → Heap → Prop)
    (h : ∀ Q' : Flow → Shared → Prop, (∀ h' tk m', Fm H0 e h' X True env h' m' → Kp Nil s.heap h' → P m' h' → Q' .next { s with heap := h', toks := tk }) → wpAny M A t Q' E s)
    (k : ∀ h' tk m', Fm H0 e h' X True env h' m' → Kp Nil s.heap h' → P m' h' → Q .next { s with heap := h', toks := tk }) : wpAny M A t Q E s := h Q k
end
end PartB11
section PartB12
set_option maxRecDepth 100000 in
noncomputable def lawFn (w : World) : { b : List Stmt // ∃ oc od name qual params scope dV kV doc pm an cdv ct osl, (KK w).lookup 103 = some ⟨oc, od, .func (fnOf name qual params b scope dV kV doc pm an cdv ct), osl⟩ } := ⟨_, _, _, _, _, _, _, _, _, _, _, _, _, _, _, rfl⟩
noncomputable abbrev turnS (w : World) (k : Nat) : Stmt := ((forBody (lawFn w).1)[k]?).getD (Stmt.Pass default)
section
variable {w : World} {A : Around} {E : Value → Shared → Prop} {s : Shared} {H0 e g : Heap} {mg mb : Str → Option Value} {X : Addr → Prop} {L : Addr} {m : Str → Option Value} {x ea ka da : Addr} {n c q : Nat} {Q : Flow → Shared → Prop}
set_option maxHeartbeats 4000000 in
theorem stmt1 (C : Cx w H0 mg mb) (hh : A.handled = none) (hu : A.units + 600 < cLine) (F : Fm H0 e g X True (lawEnv L) s.heap m) (lm : LM m x ea ka da n c) {kv : Value} (hk : m (Str.ofString "key") = some kv) (hr : Rd Nil s.heap kv (keyD (keyOf q))) (hq : q ≤ 120)
    (k : ∀ h' tk m' kv', Fm H0 e h' X True (lawEnv L) h' m' → Kp Nil s.heap h' → LM m' x ea ka da n c → m' (Str.ofString "key") = some kv' → Rd Nil h' kv' (keyD (theKey c q)) → Q .next { s with heap := h', toks := tk }) :
    wpAny (model prog w) A (exec (turnS w 1) (lawEnv L)) Q E s := by
  obtain ⟨sh, sg, sd, st, so⟩ := s
  dsimp only at F hr k ⊢
  replace F := F.here
  dsimp only [turnS, lawFn, forBody, List.getElem?_cons_succ, List.getElem?_cons_zero, Option.getD_some]
  obtain ⟨b1, b2, b3, b4, ⟨tn, b5⟩, ⟨tc, b6⟩⟩ := id lm
  walk_at "R"
  rename_i a₁ h₁ F₁ k₁ s₁ n₁ t₁
  refine notIn12 t₁ (upn hu (by decide)) ?_
  by_cases hc : c = 1 ∨ c = 2
  · rw [decide_eq_true (show (c : Int) = 1 ∨ (c : Int) = 2 by omega)]
    walk_at "R"
    have e1 : theKey c q = keyOf q := by unfold theKey; rw [if_neg (fun z => z.1 hc)]
    exact k _ _ _ _ F₁ k₁ lm hk (by rw [e1]; exact hr.imm k₁)
  · rw [decide_eq_false (show ¬ ((c : Int) = 1 ∨ (c : Int) = 2) by omega)]
    walk_at "R"
    rename_i a₂ h₂ F₂ k₂ s₂ n₂ t₂
    refine eqKeys (N' := Nil) (ls := []) (hr.imm (k₁.trans k₂)) (Rd.tupOf t₂ .nil) ⟨fun z hz => (keyOf_nm (i := 0) q z hz).ok (by omega), Nat.le_trans (keyOf_len q 5 (by omega)) (by omega)⟩ ⟨(fun _ h => (nomatch h)), Nat.zero_le _⟩ (by omega) ?_
    by_cases he : keyOf q = []
    · rw [decide_eq_true he]
      walk_at "R"
      rename_i a₃ h₃ F₃ k₃ s₃ n₃ t₃ h₄ F₄
      have e1 : theKey c q = [Str.ofString "a"] := by unfold theKey; rw [if_pos ⟨hc, he⟩]
      have kk : Kp Nil h₃ h₄ := F₄.keepG
      exact k _ _ _ _ F₄.here (k₁.trans (k₂.trans (k₃.trans kk))) ⟨b1, b2, b3, b4, ⟨tn, b5⟩, ⟨tc, b6⟩⟩ rfl (by rw [e1]; exact Rd.tupOf (kk.tup t₃) (.cons (.str _ _) .nil))
    · rw [decide_eq_false he]
      walk_at "R"
      have e1 : theKey c q = keyOf q := by unfold theKey; rw [if_neg (fun z => he z.2)]
      exact k _ _ _ _ F₂ (k₁.trans k₂) lm hk (by rw [e1]; exact hr.imm (k₁.trans k₂))
set_option maxHeartbeats 4000000 in
theorem stmt2 (C : Cx w H0 mg mb) (hh : A.handled = none) (hu : A.units + 600 < cLine) (F : Fm H0 e g X True (lawEnv L) s.heap m) (lm : LM m x ea ka da n c) {kv : Value} {key : List Str} (hk : m (Str.ofString "key") = some kv) (hr : Rd Nil s.heap kv (keyD key)) (ok : keyOk key)
    (k : ∀ h' tk m' wv, Fm H0 e h' X True (lawEnv L) h' m' → Kp Nil s.heap h' → LM m' x ea ka da n c → m' (Str.ofString "key") = some kv → m' (Str.ofString "way") = some wv → Rd Nil h' wv (keyD (theWay c key)) → Q .next { s with heap := h', toks := tk }) :
    wpAny (model prog w) A (exec (turnS w 2) (lawEnv L)) Q E s := by
  obtain ⟨sh, sg, sd, st, so⟩ := s
  dsimp only at F hr k ⊢
  replace F := F.here
  dsimp only [turnS, lawFn, forBody, List.getElem?_cons_succ, List.getElem?_cons_zero, Option.getD_some]
  obtain ⟨b1, b2, b3, b4, ⟨tn, b5⟩, ⟨tc, b6⟩⟩ := id lm
  walk_at "R"
  rename_i a₁ h₁ F₁ k₁ s₁ n₁ t₁
  refine in12 t₁ (upn hu (by decide)) ?_
  by_cases hc : c = 1 ∨ c = 2
  · rw [decide_eq_true (show (c : Int) = 1 ∨ (c : Int) = 2 by omega)]
    walk_at "R"
    rename_i h₂ F₂
    have e1 : theWay c key = key := by unfold theWay; rw [if_pos hc]
    exact k _ _ _ _ F₂.here (k₁.trans F₂.keepG) ⟨b1, b2, b3, b4, ⟨tn, b5⟩, ⟨tc, b6⟩⟩ hk rfl (by rw [e1]; exact hr.imm (k₁.trans F₂.keepG))
  · rw [decide_eq_false (show ¬ ((c : Int) = 1 ∨ (c : Int) = 2) by omega)]
    obtain ⟨kt, kvs, rfl, ht, hs⟩ := hr.tupInv
    have hlen : kvs.length = key.length := by rw [hs.length, List.length_map]
    have hk7 := ok.2
    walk_at "R"
    refine tupSlice (vs := kvs) 0 (kvs.length - 1) ((kvs.length - 1 : Nat)) F₁ rfl (k₁.tup ht) .none (.int _ _) (adj_last _) (by rw [places_is]; omega) (by rw [sizeLine_eq]; omega) ?_
    intro r₂ h₂ F₂ k₂ s₂ t₂
    walk_at "R"
    rename_i h₃ F₃
    have e1 : theWay c key = key.take (key.length - 1) := by unfold theWay; rw [if_neg hc]
    have e2 : (kvs.drop 0).take (kvs.length - 1) = kvs.take (key.length - 1) := by rw [List.drop_zero, hlen]
    rw [e2] at t₂
    have kk : Kp Nil h₂ h₃ := F₃.keepG
    exact k _ _ _ _ F₃.here (k₁.trans (k₂.trans kk)) ⟨b1, b2, b3, b4, ⟨tn, b5⟩, ⟨tc, b6⟩⟩ hk rfl (by rw [e1]; exact Rd.tupOf (kk.tup t₂) (by rw [List.map_take]; exact (hs.imm (k₁.trans (k₂.trans kk))).take _))
set_option maxHeartbeats 4000000 in
theorem stmt3 (C : Cx w H0 mg mb) (hd : A.depth + 60 < recursionLimit) (hh : A.handled = none) (hu : A.units + 600 < cLine) (F : Fm H0 e g X True (lawEnv L) s.heap m) (lm : LM m x ea ka da n c) {kv wv : Value} {key way : List Str} (hk : m (Str.ofString "key") = some kv) (hr : Rd Nil s.heap kv (keyD key)) (ok : keyOk key)
    (hw : m (Str.ofString "way") = some wv) (wr : Rd Nil s.heap wv (keyD way)) (okw : keyOk way) {evs : List Ev} {evl : List Value} {N : Addr → Prop} (el : s.heap.PlainList ea evl.toArray) (er : Rhs prog w N s.heap evl (evs.map Ev.d)) {i : Nat} (hi : i ≤ 60) (hg : ∀ v ∈ evs, evGood 7 i v) (hm : ∀ v ∈ evs, v.kind ≠ kMark) (hz : evs.length ≤ 4000)
    (k : ∀ h' tk m' t a avs, Fm H0 e h' X True (lawEnv L) h' m' → Kp Nil s.heap h' → LM m' x ea ka da n c → m' (Str.ofString "key") = some kv → m' (Str.ofString "way") = some wv → m' (Str.ofString "due") = some (.str (barF evs way (decide (c ≠ 2))) t) → m' (Str.ofString "alive") = some (.ref a) → h'.PlainList a (List.toArray avs) → Rds (fun _ => True) h' avs ((aliveF evs key).map Ev.d) → s.heap.get? a = none → Q .next { s with heap := h', toks := tk }) :
    wpAny (model prog w) A (exec (turnS w 3) (lawEnv L)) Q E s := by
  obtain ⟨sh, sg, sd, st, so⟩ := s
  dsimp only at F hr wr el er k ⊢
  replace F := F.here
  dsimp only [turnS, lawFn, forBody, List.getElem?_cons_succ, List.getElem?_cons_zero, Option.getD_some]
  obtain ⟨b1, b2, b3, b4, ⟨tn, b5⟩, ⟨tc, b6⟩⟩ := id lm
  have rl : Rd (fun _ => True) sh (.ref ea) (.list (evs.map Ev.d)) := Rd.listOf el.isList ((er.mono fun _ _ => trivial).rds) trivial
  walk_at "R"
  refine callFn (C.K _ _ rfl) rfl ?_
  walk_at "R"
  refine PyProof.Rows.ne_int ?_
  have e2 : ((c : Int) != 2) = decide (c ≠ 2) := by
    rw [Bool.eq_iff_iff]; simp; omega
  rw [e2]
  walk_at "R"
  refine ⟨F.vw.old, bar_spec C F.vw.old (upn hd (by decide)) hh (upn hu (by decide)) rl wr (by omega) (fun v hv => (hg v hv).keyOk hi) (fun v hv => (hg v hv).val.okv (hm v hv)) okw ?_⟩
  intro h₁ tk₁ t S₁
  have F₁ := F.ext S₁
  walk_at "R"
  refine callFn (C.K _ _ rfl) rfl ?_
  walk_at "R"
  refine ⟨F₁.vw.old, alive_spec C F₁.vw.old (upn0 hd) hh (upn hu (by decide)) (rl.sub S₁) (hr.imm (X := Nil) S₁.kp) (by omega) (fun v hv => (hg v hv).keyOk hi) ok ?_⟩
  intro h₂ tk₂ a avs S₂ na la ra
  have F₂ := F₁.ext S₂
  walk_at "R"
  rename_i a₃ h₃ F₃ k₃ s₃ n₃ t₃
  refine unpackN F₃ t₃ hh rfl ?_
  intro h₄ F₄ k₄ s₄
  show wpAny _ _ (assignInOrder [bindName _ (Str.ofString "alive"), bindName _ (Str.ofString "due")] [_, _]) _ _ _
  walk_at "R"
  rename_i h₅ F₅ h₆ F₆
  have kk : Kp Nil h₂ h₆ := k₃.trans (k₄.trans F₆.keepG)
  exact k _ _ _ t a avs F₆.here (S₁.kp.trans (S₂.kp.trans kk)) ⟨b1, b2, b3, b4, ⟨tn, b5⟩, ⟨tc, b6⟩⟩ hk hw rfl rfl (kk.plain la (fun q => q)) ((ra.mono fun _ _ => trivial).kp0 kk) (S₁.none na)
set_option maxHeartbeats 4000000 in
theorem stmt4 (C : Cx w H0 mg mb) (hh : A.handled = none) (hu : A.units + 600 < cLine) (F : Fm H0 e g X True (lawEnv L) s.heap m) (lm : LM m x ea ka da n c) {kv wv : Value} {key way : List Str} (hk : m (Str.ofString "key") = some kv) (hr : Rd Nil s.heap kv (keyD key)) (ok : keyOk key)
    (hw : m (Str.ofString "way") = some wv) {evs : List Ev} {i : Nat} (hi : i ≤ 60) (hg : ∀ v ∈ evs, evGood 7 i v) (hz : evs.length ≤ 4000) {t : Tok} {a : Addr} {avs : List Value}
    (hdu : m (Str.ofString "due") = some (.str (barF evs way (decide (c ≠ 2))) t)) (hal : m (Str.ofString "alive") = some (.ref a)) (la : s.heap.PlainList a avs.toArray) (ra : Rds (fun _ => True) s.heap avs ((aliveF evs key).map Ev.d))
    (k : ∀ h' tk m' t, Fm H0 e h' X True (lawEnv L) h' m' → Kp Nil s.heap h' → LM m' x ea ka da n c → m' (Str.ofString "key") = some kv → m' (Str.ofString "way") = some wv → m' (Str.ofString "due") = some (.str (theDue c evs way key) t) → m' (Str.ofString "alive") = some (.ref a) → Q .next { s with heap := h', toks := tk }) :
    wpAny (model prog w) A (exec (turnS w 4) (lawEnv L)) Q E s := by
  obtain ⟨sh, sg, sd, st, so⟩ := s
  dsimp only at F hr la ra k ⊢
  replace F := F.here
  dsimp only [turnS, lawFn, forBody, List.getElem?_cons_succ, List.getElem?_cons_zero, Option.getD_some]
  obtain ⟨b1, b2, b3, b4, ⟨tn, b5⟩, ⟨tc, b6⟩⟩ := id lm
  have hlen : avs.length = (aliveF evs key).length := by rw [ra.length, List.length_map]
  have hlen2 := aliveF_length (evs := evs) (ps := key)
  walk_at "R"
  by_cases h0 : c = 0
  · subst h0
    rw [show ((((0 : Nat) : Int)) == 0) = true from rfl]
    walk_at "R"
    by_cases hb : barF evs way true = Str.ofString ""
    · rw [show barF evs way (decide (0 ≠ 2)) = barF evs way true from rfl, decide_eq_true hb]
      walk_at "R"
      rename_i a₁ h₁ F₁ k₁ s₁ n₁ l₁
      refine neEmpty ((k₁.plain la (fun q => q)).isList) l₁.isList (by omega) ?_
      cases hav : aliveF evs key with
      | nil =>
        have hav2 : avs = [] := List.length_eq_zero_iff.mp (by rw [hlen, hav]; rfl)
        rw [decide_eq_true hav2]
        walk_at "R"
        have e1 : theDue 0 evs way key = barF evs way (decide (0 ≠ 2)) := by
          unfold theDue
          rw [if_neg fun z => by have := z.2.2; rw [other_eq, hav] at this; cases this]
        exact k _ _ _ _ F₁ k₁ lm hk hw (by rw [e1]; exact hdu) hal
      | cons e0 er =>
        have hav2 : ¬ avs = [] := fun z => by rw [z, hav] at hlen; simp at hlen
        rw [decide_eq_false hav2]
        have he0 : e0 ∈ evs := aliveF_mem (ps := key) (by rw [hav]; exact .head _)
        obtain ⟨v0, hv0, r0⟩ := ra.at (i := 0) (d := e0.d) (by rw [hav]; rfl)
        have hot := other_eq evs key
        rw [hav] at hot
        dsimp only at hot
        have hko := (hg e0 he0).keyOk hi
        obtain ⟨ta, tkv, tkt, ttv, rfl, hta, rk, rv⟩ := evInv (r0.kp0 k₁)
        have lz : avs.length ≤ sizeLine := by rw [sizeLine_eq]; omega
        walk_at "R"
        refine listAt (k₁.plain la (fun q => q)).isList (by decide) hv0 lz ?_
        walk_at "R"
        refine item_tupleT hta (by decide) (by decide) (j := 0) rfl rfl ?_
        walk_at "R"
        refine neKeys rk (hr.imm k₁) hko ok (upn hu (by decide)) ?_
        have other : ∀ {b : Bool}, otherS (Pl evs key) = b → (b = true → theDue 0 evs way key = otherW) ∧ (b = false → theDue 0 evs way key = barF evs way (decide (0 ≠ 2))) := fun {b} q => by
          unfold theDue
          rw [q]
          exact ⟨fun z => if_pos ⟨rfl, hb, z⟩, fun z => if_neg fun y => by rw [z] at y; cases y.2.2⟩
        have fin : theDue 0 evs way key = otherW → ∀ {h' tk u}, Fm H0 e h' X True (lawEnv L) h' (fun y => if y = Str.ofString "due" then some (.str otherW u) else m y) → Kp Nil sh h' → Q .next { heap := h', gens := sg, drawn := sd, toks := tk, os := so } := fun e1 {h' tk u} F' k' => by
          exact k _ _ _ u F' k' ⟨b1, b2, b3, b4, ⟨tn, b5⟩, ⟨tc, b6⟩⟩ hk hw (by rw [e1]; rfl) hal
        by_cases hkk : e0.key = key
        · rw [decide_eq_true hkk]
          walk_at "R"
          refine listAt (k₁.plain la (fun q => q)).isList (by decide) hv0 lz ?_
          walk_at "R"
          refine item_tupleT hta (by decide) (by decide) (j := 1) rfl rfl ?_
          walk_at "R"
          by_cases hkm : e0.kind = kMore
          · rw [decide_eq_true hkm]
            walk_at "R"
            exact k _ _ _ _ F₁ k₁ lm hk hw (by rw [(other (b := false) (by rw [hot]; simp [hkk, hkm])).2 rfl]; exact hdu) hal
          · rw [decide_eq_false hkm]
            walk_at "R"
            refine listAt (k₁.plain la (fun q => q)).isList (by decide) hv0 lz ?_
            walk_at "R"
            refine item_tupleT hta (by decide) (by decide) (j := 2) rfl rfl ?_
            walk_at "R"
            refine isiList rv ?_
            intro tk₂
            cases hld : isListD e0.val with
            | true =>
              walk_at "R"
              exact k _ _ _ _ F₁ k₁ lm hk hw (by rw [(other (b := false) (by rw [hot]; simp [hkk, hld])).2 rfl]; exact hdu) hal
            | false =>
              walk_at "R"
              rename_i h₂ F₂
              exact fin ((other (b := true) (by rw [hot]; simp [hkm, hld])).1 rfl) F₂.here (k₁.trans F₂.keepG)
        · rw [decide_eq_false hkk]
          walk_at "R"
          rename_i h₂ F₂
          exact fin ((other (b := true) (by rw [hot]; simp [hkk])).1 rfl) F₂.here (k₁.trans F₂.keepG)
    · rw [show barF evs way (decide (0 ≠ 2)) = barF evs way true from rfl, decide_eq_false hb]
      walk_at "R"
      have e1 : theDue 0 evs way key = barF evs way (decide (0 ≠ 2)) := by
        unfold theDue
        rw [if_neg fun z => hb z.2.1]
      exact k _ _ _ _ F (.refl _) lm hk hw (by rw [e1]; exact hdu) hal
  · have e0 : ((c : Int) == 0) = false := by rw [beq_eq_false_iff_ne]; omega
    rw [e0]
    walk_at "R"
    have e1 : theDue c evs way key = barF evs way (decide (c ≠ 2)) := by
      unfold theDue
      rw [if_neg fun z => h0 z.1]
    exact k _ _ _ _ F (.refl _) lm hk hw (by rw [e1]; exact hdu) hal
end
end PartB12
section PartB13
local macro_rules | `(tactic| walk_at "S") => `(tactic| ((with_reducible show wpAny _ _ (eval (Expr.Call (Expr.Attribute (Expr.Name _ _) (PySem.Str.ofString "get_or_create_nest") _) _ [] _) _) _ _ _); refine MethodCall_ ?_))
local macro_rules | `(tactic| walk_at "S") => `(tactic| ((with_reducible show wpAny _ _ (eval (Expr.Call (Expr.Attribute (Expr.Name _ _) (PySem.Str.ofString "append_nest_to_list") _) _ [] _) _) _ _ _); refine MethodCall_ ?_))
section
variable {w : World} {A : Around} {E : Value → Shared → Prop} {s : Shared} {H0 e g : Heap} {mg mb : Str → Option Value} {X : Addr → Prop} {L : Addr} {m : Str → Option Value} {x dx a0 ea ka da : Addr} {n c q i : Nat} {Q : Flow → Shared → Prop}
  {dvs : List Value} {evs : List Ev} {evl : List Value} {kps : List (Nat × Ev)} {als : List Addr} {kl : List Value} {root : Ks}
theorem stackOf (hfr : A.frames = some [lawEnv L]) {h : Heap} (F : Fm H0 e g X True (lawEnv L) h m) : Stack A h [lawEnv L] := by
  obtain ⟨ml, ⟨oL, es, ep, ho', hd', _⟩, _⟩ := F.vw.ns
  exact ⟨hfr, by show ScopeKind.function ≠ _; decide, ⟨L, oL, rfl, hideAll_none _ (.head _), ho', fun vs q => by rw [hd'] at q; cases q⟩, trivial⟩
theorem isKey (C : Cx w H0 mg mb) {p : Pos} : StandsFor prog w H0 e X (lawEnv L) (.Name (Str.ofString "KeyError") p) "KeyError" := fun F' q => nameB F' C.G (n_KeyError C) (b_KeyError C) q
theorem isIndex (C : Cx w H0 mg mb) {p : Pos} : StandsFor prog w H0 e X (lawEnv L) (.Name (Str.ofString "IndexError") p) "IndexError" := fun F' q => nameB F' C.G (n_IndexError C) (b_IndexError C) q
theorem stmt5 (hh : A.handled = none) (F : Fm H0 e g X True (lawEnv L) s.heap m) (lm : LM m x ea ka da n c) {kv wv dv : Value} {al : Addr} (hk : m (Str.ofString "key") = some kv) (hw : m (Str.ofString "way") = some wv) (hdu : m (Str.ofString "due") = some dv) (hal : m (Str.ofString "alive") = some (.ref al))
    (k : ∀ h' tk m' a t, Fm H0 e h' X True (lawEnv L) h' m' → Kp Nil s.heap h' → LM m' x ea ka da n c → m' (Str.ofString "key") = some kv → m' (Str.ofString "way") = some wv → m' (Str.ofString "due") = some dv → m' (Str.ofString "alive") = some (.ref al) → m' (Str.ofString "told") = some (.ref a) → m' (Str.ofString "nest") = some .none → h'.PlainList a (List.toArray [.str (Str.ofString "") t]) → s.heap.get? a = none → Q .next { s with heap := h', toks := tk }) :
    wpAny (model prog w) A (exec (turnS w 5) (lawEnv L)) Q E s := by
  obtain ⟨sh, sg, sd, st, so⟩ := s
  dsimp only at F k ⊢
  replace F := F.here
  dsimp only [turnS, lawFn, forBody, List.getElem?_cons_succ, List.getElem?_cons_zero, Option.getD_some]
  obtain ⟨b1, b2, b3, b4, ⟨tn, b5⟩, ⟨tc, b6⟩⟩ := id lm
  walk_at "R"
  rename_i a₁ h₁ F₁ k₁ s₁ n₁ l₁ a₂ h₂ F₂ k₂ s₂ n₂ t₂
  refine unpackN F₂ t₂ hh rfl ?_
  intro h₃ F₃ k₃ s₃
  show wpAny _ _ (assignInOrder [bindName _ (Str.ofString "nest"), bindName _ (Str.ofString "told")] [_, _]) _ _ _
  walk_at "R"
  rename_i h₄ F₄ h₅ F₅
  have kk : Kp Nil h₁ h₅ := k₂.trans (k₃.trans F₅.keepG)
  exact k _ _ _ a₁ _ F₅.here (k₁.trans kk) ⟨b1, b2, b3, b4, ⟨tn, b5⟩, ⟨tc, b6⟩⟩ hk hw hdu hal rfl rfl (kk.plain l₁ (fun q => q)) n₁
set_option maxHeartbeats 4000000 in
theorem stmt6a (C : Cx w H0 mg mb) (hd : A.depth + 60 < recursionLimit) (hh : A.handled = none) (hu : A.units + 600 < cLine) (hfr : A.frames = some [lawEnv L]) (hX : ∀ a, H0.get? a = none → X a) (F : Fm H0 e g X True (lawEnv L) s.heap m) (lm : LM m x ea ka da n 0) {kv wv : Value} {way : List Str} {last : Str} (hk : m (Str.ofString "key") = some kv) (hr : Rd Nil s.heap kv (keyD (way ++ [last]))) (ok : keyOk (way ++ [last]))
    (hw : m (Str.ofString "way") = some wv) (S : LSt w H0 s.heap x dx a0 ea ka da dvs i evs evl kps als kl root) (hz : evs.length ≤ 4000) {dt tt : Tok} {ta : Addr}
    (hdu : m (Str.ofString "due") = some (.str (theDue 0 evs way (way ++ [last])) dt)) (htd : m (Str.ofString "told") = some (.ref ta)) (hne : m (Str.ofString "nest") = some .none) (lt : s.heap.PlainList ta (List.toArray [.str (Str.ofString "") tt]))
    (hta : ta ∉ own da dx ea ka a0 root)
    (kS : ∀ h' tk m' root', Fm H0 e h' X True (lawEnv L) h' m' → LM m' x ea ka da n 0 → m' (Str.ofString "key") = some kv → m' (Str.ofString "way") = some wv → m' (Str.ofString "due") = some (.str (theDue 0 evs way (way ++ [last])) dt) → m' (Str.ofString "told") = some (.ref ta) → m' (Str.ofString "nest") = some .none → h'.PlainList ta (List.toArray [.str (Str.ofString "") tt]) →
      Tree prog w h' a0 root' (fun B => evF evs kps B ++ [⟨way ++ [last], kMore, .none⟩]) → Grown s.heap a0 root root' → Kp (fun b => b ∈ a0 :: root.fp) s.heap h' → theDue 0 evs way (way ++ [last]) = Str.ofString "" → Q .next { s with heap := h', toks := tk })
    (kR : ∀ h' tk m' tb t, Fm H0 e h' X True (lawEnv L) h' m' → LM m' x ea ka da n 0 → m' (Str.ofString "key") = some kv → m' (Str.ofString "way") = some wv → m' (Str.ofString "due") = some (.str (theDue 0 evs way (way ++ [last])) dt) → m' (Str.ofString "told") = some (.ref tb) → m' (Str.ofString "nest") = some .none → h'.PlainList tb (List.toArray [.str (theDue 0 evs way (way ++ [last])) t]) →
      Kp Nil s.heap h' → theDue 0 evs way (way ++ [last]) ≠ Str.ofString "" → Q .next { s with heap := h', toks := tk }) :
    wpAny (model prog w) A (exec (turnS w 6) (lawEnv L)) Q E s := by
  obtain ⟨sh, sg, sd, st, so⟩ := s
  dsimp only at F hr S lt kS kR ⊢
  replace F := F.here
  dsimp only [turnS, lawFn, forBody, List.getElem?_cons_succ, List.getElem?_cons_zero, Option.getD_some]
  obtain ⟨b1, b2, b3, b4, ⟨tn, b5⟩, ⟨tc, b6⟩⟩ := id lm
  refine wpAny_Try_except ?_
  walk_at "R"
  rw [show ((((0 : Nat) : Int)) == 0) = true from rfl]
  walk_at "R"
  refine mach_meth (f := 43) C F.vw.old S.mach (by rfl) (by rfl) (fun _ _ => by rfl) ?_
  dsimp only
  refine callFirst (C.K _ _ rfl) rfl ?_
  walk_at "R"
  have h0 : ∀ b ∈ a0 :: root.fp, H0.get? b = none := fun b hb => S.new b (by simpa using .inr (.inr (.inr (.inr (List.mem_cons.mp hb)))))
  have hdx : dx ∉ a0 :: root.fp := fun q => by
    have nd := S.nd
    have e1 : own da dx ea ka a0 root = [da, dx, ea, ka] ++ (a0 :: root.fp) := rfl
    rw [e1] at nd
    exact (List.nodup_append.mp nd).2.2 dx (by simp) dx q rfl
  have hta2 : ta ∉ a0 :: root.fp := fun q => hta (by simpa using .inr (.inr (.inr (.inr (List.mem_cons.mp q)))))
  have bar0 : barF evs way (decide (0 ≠ 2)) = barF evs way true := rfl
  have due1 : barF evs way true ≠ Str.ofString "" → theDue 0 evs way (way ++ [last]) = barF evs way true := fun q => by
    unfold theDue; rw [if_neg fun z => q z.2.1]; rfl
  -- a KeyError is caught
  have key : ∀ {h' : Heap} {tk' : Nat} {ex : Addr} {msg : Str} {t : Tok}, Flew sh h' [lawEnv L] ex (.type "KeyError") (some [.str msg t]) → theDue 0 evs way (way ++ [last]) = msg → msg ≠ Str.ofString "" → ∀ {sui : List ExceptHandler} {p1 p2 p3 p4 p5 p6 p7 p8 : Pos},
      wpAny (model prog w) A (noteFrame (.ref ex) (lawEnv L)) (fun _ s₂ => wpAny (model prog w) A (setFlight (.ref ex) none) (fun _ s₃ => wpAny (model prog w) A (handleBy (.ref ex) (lawEnv L) (.ExceptHandler (some (.Name (Str.ofString "KeyError") p1)) (some (Str.ofString "error")) [.Assign [.Name (Str.ofString "told") p2] (.Call (.Name (Str.ofString "list") p3) [.Attribute (.Name (Str.ofString "error") p4) (Str.ofString "args") p5] [] p6) p7] p8 :: sui)) Q E s₃) E s₂) E ⟨h', sg, sd, tk', so⟩ := by
    intro h' tk' ex msg t fl hdue hne' sui p1 p2 p3 p4 p5 p6 p7 p8
    refine caughtKey F hfr rfl fl (isKey C) rfl fun h₂ tk oe ws tt' E₁ F₂ k₂ he hc hd h00 ht => ?_
    walk_at "R"
    refine args_attr ke_attrs he hc hd h00 ?_
    walk_at "R"
    refine listCopyT F₂ ht (by show 1 ≤ sizeLine; rw [sizeLine_eq]; omega) ?_
    intro tb h₃ F₃ k₃ s₃ n₃ l₃
    walk_at "R"
    rename_i h₄ F₄
    refine nameGone F₄ rfl fun h₅ tk₅ v F₅ => ?_
    have kk : Kp Nil h₃ h₅ := F₅.keepG
    exact kR _ _ _ tb t F₅.here ⟨b1, b2, b3, b4, ⟨tn, b5⟩, ⟨tc, b6⟩⟩ hk hw hdu rfl hne (by rw [hdue]; exact kk.plain l₃ (fun q => q)) (k₂.trans (k₃.trans kk)) (by rw [hdue]; exact hne')
  refine ⟨F.vw.old, append_spec C F.vw.old (upn hd (by decide)) hh (upn hu (by decide)) (stackOf hfr F) S.mach hr ok S.tree h0 hdx hz (valOk_of fun v hv => (S.evg v hv).val) ?_ ?_ ?_ ?_⟩
  · intro h₂ tk₂ root' T₂ tr gr hb hot
    obtain ⟨F₂, k₂⟩ := F.called T₂ (fun a _ q _ => hX a (h0 a q)) h0
    walk_at "R"
    rename_i h₃ F₃
    have kk : Kp Nil h₂ h₃ := F₃.keepG
    refine kS _ _ _ root' F₃.here ⟨b1, b2, b3, b4, ⟨tn, b5⟩, ⟨tc, b6⟩⟩ hk hw hdu htd rfl (kk.plain (k₂.plain lt hta2) (fun q => q)) (tr.kp0 kk) gr (k₂.trans kk.up0) ?_
    unfold theDue
    rw [if_neg fun z => by have := z.2.2; rw [show evF evs kps 0 = evs from rfl] at hot; rw [hot] at this; cases this]
    exact hb
  · intro h₂ tk₂ ex t fl hb
    have hb' : barF evs way true = noNest := hb
    exact key fl (by rw [due1 (by rw [hb']; decide)]; exact hb') (by decide)
  · intro h₂ tk₂ ex t fl hb hot
    refine key fl ?_ (by decide)
    unfold theDue
    exact if_pos ⟨rfl, hb, hot⟩
  · intro h₂ tk₂ ex fl hb
    have hb' : barF evs way true = nothing := hb
    refine caughtIndex F hfr rfl fl (isKey C) (isIndex C) fun h₃ tk₃ E₁ F₃ k₃ => ?_
    walk_at "R"
    rename_i a₄ h₄ F₄ k₄ s₄ n₄ l₄ h₅ F₅
    have kk : Kp Nil h₄ h₅ := F₅.keepG
    have hdue : theDue 0 evs way (way ++ [last]) = nothing := by rw [due1 (by rw [hb']; decide)]; exact hb'
    exact kR _ _ _ a₄ _ F₅.here ⟨b1, b2, b3, b4, ⟨tn, b5⟩, ⟨tc, b6⟩⟩ hk hw hdu rfl hne (by rw [hdue]; exact kk.plain l₄ (fun q => q)) (k₃.trans (k₄.trans kk)) (by rw [hdue]; decide)
end
end PartB13
section PartB14
local macro_rules | `(tactic| walk_at "S") => `(tactic| ((with_reducible show wpAny _ _ (eval (Expr.Call (Expr.Attribute (Expr.Name _ _) (PySem.Str.ofString "get_or_create_nest") _) _ [] _) _) _ _ _); refine MethodCall_ ?_))
local macro_rules | `(tactic| walk_at "S") => `(tactic| ((with_reducible show wpAny _ _ (eval (Expr.Call (Expr.Attribute (Expr.Name _ _) (PySem.Str.ofString "append_nest_to_list") _) _ [] _) _) _ _ _); refine MethodCall_ ?_))
section
variable {w : World} {A : Around} {E : Value → Shared → Prop} {s : Shared} {H0 e g : Heap} {mg mb : Str → Option Value} {X : Addr → Prop} {L : Addr} {m : Str → Option Value} {x dx a0 ea ka da : Addr} {n c q i : Nat} {Q : Flow → Shared → Prop}
  {dvs : List Value} {evs : List Ev} {evl : List Value} {kps : List (Nat × Ev)} {als : List Addr} {kl : List Value} {root : Ks}
set_option maxHeartbeats 4000000 in
theorem stmt6g (C : Cx w H0 mg mb) (hd : A.depth + 60 < recursionLimit) (hh : A.handled = none) (hu : A.units + 600 < cLine) (hfr : A.frames = some [lawEnv L]) (hX : ∀ a, H0.get? a = none → X a) (F : Fm H0 e g X True (lawEnv L) s.heap m) (lm : LM m x ea ka da n c) (hc : c ≠ 0) {kv wv : Value} {way key : List Str} (hk : m (Str.ofString "key") = some kv)
    (hw : m (Str.ofString "way") = some wv) (wr : Rd Nil s.heap wv (keyD way)) (okw : keyOk way) (S : LSt w H0 s.heap x dx a0 ea ka da dvs i evs evl kps als kl root) (hz : evs.length ≤ 4000) {dt tt : Tok} {ta al : Addr}
    (hdu : m (Str.ofString "due") = some (.str (theDue c evs way key) dt)) (hal : m (Str.ofString "alive") = some (.ref al)) (htd : m (Str.ofString "told") = some (.ref ta)) (hne : m (Str.ofString "nest") = some .none) (lt : s.heap.PlainList ta (List.toArray [.str (Str.ofString "") tt]))
    (hta : ta ∉ own da dx ea ka a0 root)
    (kS : ∀ h' tk m' a plug rest mrest esF ks, Fm H0 e h' X True (lawEnv L) h' m' → LM m' x ea ka da n c → m' (Str.ofString "key") = some kv → m' (Str.ofString "way") = some wv → m' (Str.ofString "due") = some (.str (theDue c evs way key) dt) → m' (Str.ofString "alive") = some (.ref al) → m' (Str.ofString "told") = some (.ref ta) → m' (Str.ofString "nest") = some (.ref a) → h'.PlainList ta (List.toArray [.str (Str.ofString "") tt]) →
      GocJ w s.heap a0 (a0 :: root.fp) (evF evs kps) root.mk way (decide (c ≠ 2)) way.length h' a plug rest mrest esF ks → Kp (fun b => b ∈ a0 :: root.fp) s.heap h' → theDue c evs way key = Str.ofString "" → Q .next { s with heap := h', toks := tk })
    (kR : ∀ h' tk m' tb t, Fm H0 e h' X True (lawEnv L) h' m' → LM m' x ea ka da n c → m' (Str.ofString "key") = some kv → m' (Str.ofString "way") = some wv → m' (Str.ofString "due") = some (.str (theDue c evs way key) dt) → m' (Str.ofString "alive") = some (.ref al) → m' (Str.ofString "told") = some (.ref tb) → m' (Str.ofString "nest") = some .none → h'.PlainList tb (List.toArray [.str (theDue c evs way key) t]) →
      Kp Nil s.heap h' → theDue c evs way key ≠ Str.ofString "" → Q .next { s with heap := h', toks := tk }) :
    wpAny (model prog w) A (exec (turnS w 6) (lawEnv L)) Q E s := by
  obtain ⟨sh, sg, sd, st, so⟩ := s
  dsimp only at F wr S lt kS kR ⊢
  replace F := F.here
  dsimp only [turnS, lawFn, forBody, List.getElem?_cons_succ, List.getElem?_cons_zero, Option.getD_some]
  obtain ⟨b1, b2, b3, b4, ⟨tn, b5⟩, ⟨tc, b6⟩⟩ := id lm
  have h0 : ∀ b ∈ a0 :: root.fp, H0.get? b = none := fun b hb => S.new b (by simpa using .inr (.inr (.inr (.inr (List.mem_cons.mp hb)))))
  have hdx : dx ∉ a0 :: root.fp := fun q => by
    have nd := S.nd
    have e1 : own da dx ea ka a0 root = [da, dx, ea, ka] ++ (a0 :: root.fp) := rfl
    rw [e1] at nd
    exact (List.nodup_append.mp nd).2.2 dx (by simp) dx q rfl
  have hta2 : ta ∉ a0 :: root.fp := fun q => hta (by simpa using .inr (.inr (.inr (.inr (List.mem_cons.mp q)))))
  have hdue : theDue c evs way key = barF evs way (decide (c ≠ 2)) := by unfold theDue; rw [if_neg fun z => hc z.1]
  have key' : ∀ {h' : Heap} {tk' : Nat} {ex : Addr} {t : Tok}, Flew sh h' [lawEnv L] ex (.type "KeyError") (some [.str noNest t]) → theDue c evs way key = noNest → ∀ {sui : List ExceptHandler} {p1 p2 p3 p4 p5 p6 p7 p8 : Pos},
      wpAny (model prog w) A (noteFrame (.ref ex) (lawEnv L)) (fun _ s₂ => wpAny (model prog w) A (setFlight (.ref ex) none) (fun _ s₃ => wpAny (model prog w) A (handleBy (.ref ex) (lawEnv L) (.ExceptHandler (some (.Name (Str.ofString "KeyError") p1)) (some (Str.ofString "error")) [.Assign [.Name (Str.ofString "told") p2] (.Call (.Name (Str.ofString "list") p3) [.Attribute (.Name (Str.ofString "error") p4) (Str.ofString "args") p5] [] p6) p7] p8 :: sui)) Q E s₃) E s₂) E ⟨h', sg, sd, tk', so⟩ := by
    intro h' tk' ex t fl hdue sui p1 p2 p3 p4 p5 p6 p7 p8
    refine caughtKey F hfr rfl fl (isKey C) rfl fun h₂ tk oe ws tt' E₁ F₂ k₂ he hc hd h00 ht => ?_
    walk_at "R"
    refine args_attr ke_attrs he hc hd h00 ?_
    walk_at "R"
    refine listCopyT F₂ ht (by show 1 ≤ sizeLine; rw [sizeLine_eq]; omega) ?_
    intro tb h₃ F₃ k₃ s₃ n₃ l₃
    walk_at "R"
    rename_i h₄ F₄
    refine nameGone F₄ rfl fun h₅ tk₅ v F₅ => ?_
    have kk : Kp Nil h₃ h₅ := F₅.keepG
    exact kR _ _ _ tb t F₅.here ⟨b1, b2, b3, b4, ⟨tn, b5⟩, ⟨tc, b6⟩⟩ hk hw hdu hal rfl hne (by rw [hdue]; exact kk.plain l₃ (fun q => q)) (k₂.trans (k₃.trans kk)) (by rw [hdue]; decide)
  refine wpAny_Try_except ?_
  walk_at "R"
  rw [show ((c : Int) == 0) = false by rw [beq_eq_false_iff_ne]; omega]
  walk_at "R"
  by_cases hc2 : c = 2
  · subst hc2
    rw [show ((((2 : Nat) : Int)) == 2) = true from rfl]
    walk_at "R"
    refine methodCall_KW ?_
    walk_at "R"
    refine mach_meth (f := 36) C F.vw.old S.mach (by rfl) (by rfl) (fun _ _ => by rfl) ?_
    dsimp only
    refine callWith_KW C.K (by rfl) (by rfl) ?_
    walk_at "R"
    refine kwAll_cons ?_
    walk_at "R"
    refine kwAll_nil ?_
    refine ⟨C.K.keeps F.vw.old, goc_spec (lists := false) C F.vw.old (upn hd (by decide)) hh (upn hu (by decide)) (stackOf hfr F) S.mach wr okw S.tree.at h0 hdx hz (.inr rfl) ?_ ?_ ?_⟩
    · intro h₂ tk₂ a plug rest mrest esF ks T₂ J hb
      obtain ⟨F₂, k₂⟩ := F.called T₂ (fun a _ q _ => hX a (h0 a q)) h0
      walk_at "R"
      rename_i h₃ F₃
      have kk : Kp Nil h₂ h₃ := F₃.keepG
      exact kS _ _ _ a plug rest mrest esF ks F₃.here ⟨b1, b2, b3, b4, ⟨tn, b5⟩, ⟨tc, b6⟩⟩ hk hw hdu hal htd rfl (kk.plain (k₂.plain lt hta2) (fun q => q)) (J.kp0 kk) (k₂.trans kk.up0) (by rw [hdue]; exact hb)
    · intro h₂ tk₂ ex t fl hb
      exact key' fl (by rw [hdue]; exact hb)
    · intro h₂ tk₂ ex fl hb
      have hdue2 : theDue 2 evs way key = nothing := by rw [hdue]; exact hb
      refine caughtIndex F hfr rfl fl (isKey C) (isIndex C) fun h₃ tk₃ E₁ F₃ k₃ => ?_
      walk_at "R"
      rename_i a₄ h₄ F₄ k₄ s₄ n₄ l₄ h₅ F₅
      have kk : Kp Nil h₄ h₅ := F₅.keepG
      exact kR _ _ _ a₄ _ F₅.here ⟨b1, b2, b3, b4, ⟨tn, b5⟩, ⟨tc, b6⟩⟩ hk hw hdu hal rfl hne (by rw [hdue2]; exact kk.plain l₄ (fun q => q)) (k₃.trans (k₄.trans kk)) (by rw [hdue2]; decide)
  · have e2 : ((c : Int) == 2) = false := by rw [beq_eq_false_iff_ne]; omega
    have e3 : decide (c ≠ 2) = true := decide_eq_true hc2
    rw [e2]
    walk_at "R"
    refine mach_meth (f := 36) C F.vw.old S.mach (by rfl) (by rfl) (fun _ _ => by rfl) ?_
    dsimp only
    refine callFirst (C.K _ _ rfl) rfl ?_
    walk_at "R"
    rw [e3] at kS hdue
    refine ⟨F.vw.old, goc_spec (lists := true) C F.vw.old (upn hd (by decide)) hh (upn hu (by decide)) (stackOf hfr F) S.mach wr okw S.tree.at h0 hdx hz (.inl ⟨rfl, rfl⟩) ?_ ?_ ?_⟩
    · intro h₂ tk₂ a plug rest mrest esF ks T₂ J hb
      obtain ⟨F₂, k₂⟩ := F.called T₂ (fun a _ q _ => hX a (h0 a q)) h0
      walk_at "R"
      rename_i h₃ F₃
      have kk : Kp Nil h₂ h₃ := F₃.keepG
      exact kS _ _ _ a plug rest mrest esF ks F₃.here ⟨b1, b2, b3, b4, ⟨tn, b5⟩, ⟨tc, b6⟩⟩ hk hw hdu hal htd rfl (kk.plain (k₂.plain lt hta2) (fun q => q)) (J.kp0 kk) (k₂.trans kk.up0) (by rw [hdue]; exact hb)
    · intro h₂ tk₂ ex t fl hb
      exact key' fl (by rw [hdue]; exact hb)
    · intro h₂ tk₂ ex fl hb
      have hdue2 : theDue c evs way key = nothing := by rw [hdue]; exact hb
      refine caughtIndex F hfr rfl fl (isKey C) (isIndex C) fun h₃ tk₃ E₁ F₃ k₃ => ?_
      walk_at "R"
      rename_i a₄ h₄ F₄ k₄ s₄ n₄ l₄ h₅ F₅
      have kk : Kp Nil h₄ h₅ := F₅.keepG
      exact kR _ _ _ a₄ _ F₅.here ⟨b1, b2, b3, b4, ⟨tn, b5⟩, ⟨tc, b6⟩⟩ hk hw hdu hal rfl hne (by rw [hdue2]; exact kk.plain l₄ (fun q => q)) (k₃.trans (k₄.trans kk)) (by rw [hdue2]; decide)
end
end PartB14
section PartB15
theorem barAt_cases {evs : List Ev} {way : List Str} {lists : Bool} {n : Nat} {v : Str} (h : barAt evs way lists n = some v) : v = Str.ofString "" ∨ v = noNest ∨ v = nothing := by
  unfold barAt at h
  split at h
  · cases h; exact .inl rfl
  · split at h
    · cases h
    · split at h
      · cases h; exact .inr (.inl rfl)
      · split at h
        · cases h
          split
          · exact .inr (.inr rfl)
          · exact .inr (.inl rfl)
        · cases h
theorem barF_cases (evs : List Ev) (way : List Str) (lists : Bool) : barF evs way lists = Str.ofString "" ∨ barF evs way lists = noNest ∨ barF evs way lists = nothing := by
  unfold barF
  cases h : (List.range way.length).findSome? fun i => barAt evs way lists (i + 1) with
  | none => exact .inl rfl
  | some v =>
    obtain ⟨i, _, hi⟩ := List.exists_of_findSome?_eq_some h
    exact barAt_cases hi
theorem theDue_ok (c : Nat) (evs : List Ev) (way key : List Str) : PyData.strOk (theDue c evs way key) = true := by
  unfold theDue
  split
  · decide +kernel
  · rcases barF_cases evs way (decide (c ≠ 2)) with h | h | h <;> rw [h] <;> decide +kernel
section
variable {w : World} {A : Around} {E : Value → Shared → Prop} {s : Shared} {H0 e g : Heap} {mg mb : Str → Option Value} {X : Addr → Prop} {L : Addr} {m : Str → Option Value} {x dx a0 ea ka da : Addr} {n c q i : Nat} {Q : Flow → Shared → Prop}
set_option maxHeartbeats 4000000 in
theorem stmt7 (C : Cx w H0 mg mb) (hh : A.handled = none) (hu : A.units + 600 < cLine) (F : Fm H0 e g X True (lawEnv L) s.heap m) (lm : LM m x ea ka da n c) {d : Str} {dt tt : Tok} {ta : Addr} {nv : Value} (hok : PyData.strOk d = true)
    (hdu : m (Str.ofString "due") = some (.str d dt)) (htd : m (Str.ofString "told") = some (.ref ta)) (hne : m (Str.ofString "nest") = some nv) (hnv : c = 0 → nv = .none) (lt : s.heap.PlainList ta (List.toArray [.str d tt]))
    (k : ∀ h' tk, Fm H0 e h' X True (lawEnv L) h' m → Kp Nil s.heap h' → Q .next { s with heap := h', toks := tk }) :
    wpAny (model prog w) A (exec (turnS w 7) (lawEnv L)) Q E s := by
  obtain ⟨sh, sg, sd, st, so⟩ := s
  dsimp only at F lt k ⊢
  replace F := F.here
  dsimp only [turnS, lawFn, forBody, List.getElem?_cons_succ, List.getElem?_cons_zero, Option.getD_some]
  obtain ⟨b1, b2, b3, b4, ⟨tn, b5⟩, ⟨tc, b6⟩⟩ := id lm
  walk_at "R"
  rename_i a₁ h₁ F₁ k₁ s₁ n₁ l₁
  refine neStrs (k₁.plain lt (fun q => q)).isList l₁.isList hok hok (upn hu (by decide)) ?_
  rw [decide_eq_true (rfl : d = d)]
  walk_at "R"
  by_cases h0 : c = 0
  · subst h0
    obtain rfl := hnv rfl
    rw [show ((((0 : Nat) : Int)) == 0) = true from rfl]
    walk_at "R"
    refine isnot_none_none ?_
    walk_at "R"
    exact k _ _ F₁ k₁
  · rw [show ((c : Int) == 0) = false by rw [beq_eq_false_iff_ne]; omega]
    walk_at "R"
    exact k _ _ F₁ k₁
theorem skip8 (F : Fm H0 e g X True (lawEnv L) s.heap m) {d : Str} {dt : Tok} (hdu : m (Str.ofString "due") = some (.str d dt)) (hne : d ≠ Str.ofString "") (k : ∀ tk, Q .next { s with toks := tk }) : wpAny (model prog w) A (exec (turnS w 8) (lawEnv L)) Q E s := by
  dsimp only [turnS, lawFn, forBody, List.getElem?_cons_succ, List.getElem?_cons_zero, Option.getD_some]
  walk_at "R"
  rw [decide_eq_false hne]
  walk_at "R"
  exact k _
theorem skip9 (F : Fm H0 e g X True (lawEnv L) s.heap m) {d : Str} {dt : Tok} (hdu : m (Str.ofString "due") = some (.str d dt)) (hne : d ≠ Str.ofString "") (k : ∀ tk, Q .next { s with toks := tk }) : wpAny (model prog w) A (exec (turnS w 9) (lawEnv L)) Q E s := by
  dsimp only [turnS, lawFn, forBody, List.getElem?_cons_succ, List.getElem?_cons_zero, Option.getD_some]
  walk_at "R"
  rw [decide_eq_false hne]
  walk_at "R"
  exact k _
theorem skip10 (F : Fm H0 e g X True (lawEnv L) s.heap m) {d : Str} {dt : Tok} (hdu : m (Str.ofString "due") = some (.str d dt)) (hne : d ≠ Str.ofString "") (k : ∀ tk, Q .next { s with toks := tk }) : wpAny (model prog w) A (exec (turnS w 10) (lawEnv L)) Q E s := by
  dsimp only [turnS, lawFn, forBody, List.getElem?_cons_succ, List.getElem?_cons_zero, Option.getD_some]
  walk_at "R"
  rw [decide_eq_false hne]
  walk_at "R"
  exact k _
theorem skip9c (hu : A.units + 600 < cLine) (F : Fm H0 e g X True (lawEnv L) s.heap m) (lm : LM m x ea ka da n c) {dt : Tok} (hdu : m (Str.ofString "due") = some (.str (Str.ofString "") dt)) (hc : ¬ (c = 1 ∨ c = 2)) (k : ∀ h' tk, Fm H0 e h' X True (lawEnv L) h' m → Kp Nil s.heap h' → Q .next { s with heap := h', toks := tk }) : wpAny (model prog w) A (exec (turnS w 9) (lawEnv L)) Q E s := by
  obtain ⟨sh, sg, sd, st, so⟩ := s
  dsimp only at F k ⊢
  replace F := F.here
  dsimp only [turnS, lawFn, forBody, List.getElem?_cons_succ, List.getElem?_cons_zero, Option.getD_some]
  obtain ⟨b1, b2, b3, b4, ⟨tn, b5⟩, ⟨tc, b6⟩⟩ := id lm
  walk_at "R"
  rw [decide_eq_true (rfl : Str.ofString "" = Str.ofString "")]
  walk_at "R"
  rename_i a₁ h₁ F₁ k₁ s₁ n₁ t₁
  refine in12 t₁ (upn hu (by decide)) ?_
  rw [decide_eq_false (show ¬ ((c : Int) = 1 ∨ (c : Int) = 2) by omega)]
  walk_at "R"
  exact k _ _ F₁ k₁
theorem skip10c (F : Fm H0 e g X True (lawEnv L) s.heap m) (lm : LM m x ea ka da n c) {dt : Tok} (hdu : m (Str.ofString "due") = some (.str (Str.ofString "") dt)) (hc : c ≤ 2) (k : ∀ tk, Q .next { s with toks := tk }) : wpAny (model prog w) A (exec (turnS w 10) (lawEnv L)) Q E s := by
  dsimp only [turnS, lawFn, forBody, List.getElem?_cons_succ, List.getElem?_cons_zero, Option.getD_some]
  obtain ⟨b1, b2, b3, b4, ⟨tn, b5⟩, ⟨tc, b6⟩⟩ := id lm
  walk_at "R"
  rw [decide_eq_true (rfl : Str.ofString "" = Str.ofString "")]
  walk_at "R"
  rw [decide_eq_false (show ¬ ((c : Int) > 2) by omega)]
  walk_at "R"
  exact k _
set_option maxHeartbeats 4000000 in
theorem stmt8 (C : Cx w H0 mg mb) (hX : ∀ a, H0.get? a = none → X a) (F : Fm H0 e g X True (lawEnv L) s.heap m) (lm : LM m x ea ka da n c) {kv wv : Value} {key way : List Str} (hk : m (Str.ofString "key") = some kv) (hr : Rd Nil s.heap kv (keyD key))
    (hw : m (Str.ofString "way") = some wv) (wr : Rd Nil s.heap wv (keyD way)) {dt : Tok} (hdu : m (Str.ofString "due") = some (.str (Str.ofString "") dt)) {evl : List Value} (el : s.heap.PlainList ea evl.toArray) (hea : H0.get? ea = none) (hz : evl.length ≤ 4000)
    (k : ∀ h' tk v, Fm H0 e h' X True (lawEnv L) h' m → Kp (fun b => b = ea) s.heap h' → h'.PlainList ea (evl ++ [v]).toArray → Rh prog w Nil h' v (Ev.d (if c = 0 then ⟨key, kMore, .none⟩ else ⟨way, kNest, .none⟩)) → Q .next { s with heap := h', toks := tk }) :
    wpAny (model prog w) A (exec (turnS w 8) (lawEnv L)) Q E s := by
  obtain ⟨sh, sg, sd, st, so⟩ := s
  dsimp only at F el hr wr k ⊢
  replace F := F.here
  dsimp only [turnS, lawFn, forBody, List.getElem?_cons_succ, List.getElem?_cons_zero, Option.getD_some]
  obtain ⟨b1, b2, b3, b4, ⟨tn, b5⟩, ⟨tc, b6⟩⟩ := id lm
  have lz : evl.length ≤ sizeLine := by rw [sizeLine_eq]; omega
  walk_at "R"
  rw [decide_eq_true (rfl : Str.ofString "" = Str.ofString "")]
  walk_at "R"
  refine methList PySem.F.slot_list_append PySem.F.type_list_append el ?_
  walk_at "R"
  by_cases h0 : c = 0
  · rw [decide_eq_false (show ¬ ((c : Int) > 0) by omega)]
    walk_at "R"
    rename_i a₁ h₁ F₁ k₁ s₁ n₁ t₁
    refine appendL F₁ (k₁.plain el (fun q => q)) (fun _ _ => hX ea hea) hea lz ?_
    intro h₂ F₂ k₂ l₂
    walk_at "R"
    rw [if_pos h0] at k
    exact k _ _ _ F₂ (k₁.up0.trans k₂) l₂ (Rh.tupOf (k₂.tup t₁) (.cons ((hr.imm (k₁.up0.trans k₂)).keyH) (.cons (.str _ _) (.cons .none .nil))))
  · rw [decide_eq_true (show ((c : Int) > 0) by omega)]
    walk_at "R"
    rename_i a₁ h₁ F₁ k₁ s₁ n₁ t₁
    refine appendL F₁ (k₁.plain el (fun q => q)) (fun _ _ => hX ea hea) hea lz ?_
    intro h₂ F₂ k₂ l₂
    walk_at "R"
    rw [if_neg h0] at k
    exact k _ _ _ F₂ (k₁.up0.trans k₂) l₂ (Rh.tupOf (k₂.tup t₁) (.cons ((wr.imm (k₁.up0.trans k₂)).keyH) (.cons (.str _ _) (.cons .none .nil))))
end
end PartB15
section PartB16
structure NestAt (w : World) (g0 h : Heap) (a0 : Addr) (evs : List Ev) (kps : List (Nat × Ev)) (root : Ks) (way : List Str) (a : Addr) (plug : Ks → Ks) (rest : List Addr) (mrest : List (Addr × List Nat)) (esF : Nat → List Ev) (ks : Ks) : Prop where
  at_ : At prog w h a0 (evF evs kps) plug a rest mrest way esF ks
  es : esF 0 = Ql evs way
  fr : ∀ b ∈ rest ++ (a :: ks.fp), b ∈ a0 :: root.fp ∨ g0.get? b = none
  mks : (mrest ++ ks.mk).Perm root.mk
noncomputable abbrev Y0 (g0 : Heap) (ea ka a0 : Addr) (root : Ks) : Addr → Prop := fun b => b = ea ∨ b = ka ∨ b ∈ a0 :: root.fp ∨ g0.get? b = none
theorem rk_int {n : Nat} {i : Int} : RkOk n (.int i) := by
  have : flatD (.int i) := .inl ⟨⟨rfl, by simp [PyData.depth]⟩, rfl, rfl⟩
  cases n <;> exact this
theorem Ql_key {evs : List Ev} {way : List Str} {e : Ev} (h : e ∈ Ql evs way) : ∃ f ∈ evs, f.key.drop way.length = e.key := by
  have h1 := afterLast_mem h
  unfold Pl at h1
  obtain ⟨f, hf, rfl⟩ := List.mem_map.mp h1
  exact ⟨f, aliveF_mem hf, rfl⟩
section
variable {w : World} {A : Around} {E : Value → Shared → Prop} {s : Shared} {H0 e g g0 : Heap} {mg mb : Str → Option Value} {X : Addr → Prop} {L : Addr} {m : Str → Option Value} {x dx a0 ea ka da : Addr} {n c q i : Nat} {Q : Flow → Shared → Prop}
  {dvs : List Value} {evs : List Ev} {evl : List Value} {kps : List (Nat × Ev)} {als : List Addr} {kl : List Value} {root : Ks} {way : List Str} {a : Addr} {plug : Ks → Ks} {rest : List Addr} {mrest : List (Addr × List Nat)} {esF : Nat → List Ev} {ks : Ks}
theorem NestAt.kp {h h' : Heap} {Y : Addr → Prop} (N : NestAt w g0 h a0 evs kps root way a plug rest mrest esF ks) (k : Kp Y h h') (hy : ∀ b ∈ rest ++ (a :: ks.fp), ¬ Y b) : NestAt w g0 h' a0 evs kps root way a plug rest mrest esF ks := ⟨N.at_.kp k hy, N.es, N.fr, N.mks⟩
theorem LSt.nin4 (S : LSt w H0 g0 x dx a0 ea ka da dvs i evs evl kps als kl root) {l : List Addr} (fr : ∀ b ∈ l, b ∈ a0 :: root.fp ∨ g0.get? b = none) : ∀ b ∈ [da, dx, ea, ka], b ∉ l := fun b hb q => by
  have nd := S.nd
  have e1 : own da dx ea ka a0 root = [da, dx, ea, ka] ++ (a0 :: root.fp) := rfl
  rw [e1] at nd
  rcases fr b q with q | q
  · exact (List.nodup_append.mp nd).2.2 b hb b q rfl
  · obtain ⟨o, ho⟩ := S.fpDom b (by rw [e1]; exact List.mem_append_left _ hb)
    rw [ho] at q; cases q
theorem LSt.nin (S : LSt w H0 g0 x dx a0 ea ka da dvs i evs evl kps als kl root) {l : List Addr} (fr : ∀ b ∈ l, b ∈ a0 :: root.fp ∨ g0.get? b = none) : ea ∉ l ∧ ka ∉ l := ⟨S.nin4 fr ea (by simp), S.nin4 fr ka (by simp)⟩
theorem LSt.ka_ea (S : LSt w H0 g0 x dx a0 ea ka da dvs i evs evl kps als kl root) : ka ≠ ea := fun q => by
  have h1 := (List.nodup_cons.mp (List.nodup_cons.mp S.nd).2).2
  exact (List.nodup_cons.mp h1).1 (q ▸ .head _)
theorem NestAt.few (N : NestAt w g0 g a0 evs kps root way a plug rest mrest esF ks) (hz : evs.length ≤ 4000) : ks.kvs.length ≤ 4000 := by
  have h1 := (N.at_.mkn 0).1
  have h2 := namesOf_length (esF 0)
  have h3 := Ql_length evs way
  rw [← N.es] at h3
  have h4 : ks.kvs.length = ks.names.length := by rw [← Ks.names_kvs, List.length_map]
  rw [h4, h1]; omega
theorem NestAt.new (N : NestAt w g0 g a0 evs kps root way a plug rest mrest esF ks) (hg : ∀ v ∈ evs, evGood 7 i v) (hi : i < 60) : strN i ∉ ks.names := fun hm => by
  rw [(N.at_.mkn 0).1, N.es] at hm
  obtain ⟨f, hf, hq⟩ := mem_names.mp hm
  obtain ⟨f', hf', hk⟩ := Ql_key hf
  have : strN i ∈ f'.key := List.mem_of_mem_drop (by rw [hk]; exact List.mem_of_head? hq)
  exact strN_new ((hg f' hf').nm _ this) (Nat.le_refl _) hi rfl
set_option maxHeartbeats 4000000 in
theorem stmt9 (C : Cx w H0 mg mb) (hu : A.units + 600 < cLine) (hX : ∀ a, H0.get? a = none → X a) (F : Fm H0 e g X True (lawEnv L) s.heap m) (lm : LM m x ea ka da i c) (hc : c = 1 ∨ c = 2) (hi : i < 60) {wv v0 : Value} (hw : m (Str.ofString "way") = some wv) (wr : Rd Nil s.heap wv (keyD way))
    (hwl : way.length ≤ 5) (hwn : ∀ k ∈ way, nmOk i k) {dt : Tok} (hdu : m (Str.ofString "due") = some (.str (Str.ofString "") dt)) (hne : m (Str.ofString "nest") = some (.ref a)) (S : LSt w H0 g0 x dx a0 ea ka da dvs i evs evl kps als kl root) (hdom : ∀ b o, H0.get? b = some o → ∃ o', g0.get? b = some o')
    (K0 : Kp (Y0 g0 ea ka a0 root) g0 s.heap) (N : NestAt w g0 s.heap a0 evs kps root way a plug rest mrest esF ks) (el : s.heap.PlainList ea (evl ++ [v0]).toArray) (r0 : Rh prog w Nil s.heap v0 (Ev.d ⟨way, kNest, .none⟩)) (kll : s.heap.PlainList ka kl.toArray)
    (k : ∀ h' tk evs' evl' kps' als' kl' root', Fm H0 e h' X True (lawEnv L) h' m → Kp (fun b => H0.get? b = none) s.heap h' → LSt w H0 h' x dx a0 ea ka da dvs (i + 1) evs' evl' kps' als' kl' root' → Q .next { s with heap := h', toks := tk }) :
    wpAny (model prog w) A (exec (turnS w 9) (lawEnv L)) Q E s := by
  obtain ⟨sh, sg, sd, st, so⟩ := s
  dsimp only at F wr K0 N el r0 kll k ⊢
  replace F := F.here
  dsimp only [turnS, lawFn, forBody, List.getElem?_cons_succ, List.getElem?_cons_zero, Option.getD_some]
  obtain ⟨b1, b2, b3, b4, ⟨tn, b5⟩, ⟨tc, b6⟩⟩ := id lm
  obtain ⟨nea, nka⟩ := S.nin N.fr
  have hz : evs.length ≤ 4000 := by have := S.evn; omega
  have hel : evl.length = evs.length := by rw [S.er.length, List.length_map]
  have lz : (evl ++ [v0]).length ≤ sizeLine := by rw [sizeLine_eq, List.length_append, List.length_singleton]; omega
  have hH : ∀ b ∈ rest ++ (a :: ks.fp), H0.get? b = none := fun b hb => by
    rcases N.fr b hb with q | q
    · exact S.new b (by simpa using .inr (.inr (.inr (.inr (List.mem_cons.mp q)))))
    · cases hq : H0.get? b with
      | none => rfl
      | some o => obtain ⟨o', ho'⟩ := hdom b o hq; rw [ho'] at q; cases q
  have hkn := N.new S.evg hi
  obtain ⟨wa, wvs, rfl, hwt, hws⟩ := wr.tupInv
  have hwlen : wvs.length = way.length := by rw [hws.length, List.length_map]
  walk_at "R"
  rw [decide_eq_true (rfl : Str.ofString "" = Str.ofString "")]
  walk_at "R"
  rename_i a₁ h₁ F₁ k₁ s₁ n₁ t₁
  refine in12 t₁ (upn hu (by decide)) ?_
  rw [decide_eq_true (show (c : Int) = 1 ∨ (c : Int) = 2 by omega)]
  walk_at "R"
  refine strInt (by omega) ?_
  have A1 := N.at_.kp0 k₁
  refine setDict F₁ A1.dict (fun _ _ => hX a (hH a (by simp))) (hH a (by simp)) (by have := N.few hz; rw [sizeLine_eq]; omega) ?_
  intro h₂ F₂ k₂ d₂
  have hva : valueAt ks.kvs (strN i) = none := by rw [Ks.valueAt, (ks.get_none _).mpr hkn]; rfl
  rw [show Str.ofString (toString (i : Int)) = strN i from rfl, stored_new hva] at d₂
  have K2 : Kp (fun b => b = a) sh h₂ := k₁.up0.trans k₂
  have el2 := K2.plain el (fun q => nea (by simp [q]))
  walk_at "R"
  refine methList PySem.F.slot_list_append PySem.F.type_list_append el2 ?_
  walk_at "R"
  refine strInt (by omega) ?_
  walk_at "R"
  rename_i a₃ h₃ F₃ k₃ s₃ n₃ t₃
  refine tupAdd F₃ (k₃.tup (K2.tup hwt)) t₃ ?_ ?_
  · intro r h₄ F₄ k₄ s₄ t₄
    walk_at "R"
    rename_i a₅ h₅ F₅ k₅ s₅ n₅ t₅
    have K25 : Kp Nil h₂ h₅ := k₃.trans (k₄.trans k₅)
    refine appendL F₅ (K25.plain el2 (fun q => q)) (fun _ _ => hX ea (S.new ea (by simp))) (S.new ea (by simp)) lz ?_
    intro h₆ F₆ k₆ l₆
    walk_at "R"
    have K26 : Kp (fun b => b = ea) h₂ h₆ := K25.up0.trans k₆
    have kk : Kp (fun b => b = a ∨ b = ea) sh h₆ := (K2.weaken fun _ q => .inl q).trans (K26.weaken fun _ q => .inr q)
    have KK : Kp (Y0 g0 ea ka a0 root) g0 h₆ := K0.trans (kk.weaken fun b q => q.elim (fun q => by
      rcases N.fr a (by simp) with z | z
      · exact .inr (.inr (.inl (q ▸ z)))
      · exact .inr (.inr (.inr (q ▸ z)))) .inl)
    have nd := N.at_.nd
    have hra : ∀ b ∈ rest, ¬ (b = a ∨ b = ea) := fun b hb q => by
      rcases q with rfl | rfl
      · exact (List.nodup_append.mp nd).2.2 b hb b (.head _) rfl
      · exact nea (List.mem_append_left _ hb)
    have hka : ∀ b ∈ ks.fp, ¬ (b = a ∨ b = ea) := fun b hb q => by
      rcases q with rfl | rfl
      · exact (List.nodup_cons.mp (List.nodup_append.mp nd).2.1).1 hb
      · exact nea (List.mem_append_right _ (.tail _ hb))
    have hfp : (ks.snoc (strN i) (.leaf (.int i tn) (.int i) [])).fp = ks.fp := by rw [Ks.snoc_fp]; exact List.append_nil _
    have hmk : (ks.snoc (strN i) (.leaf (.int i tn) (.int i) [])).mk = ks.mk := by rw [Ks.snoc_mk]; exact List.append_nil _
    have T := N.at_.putF (newF := fun _ => [⟨[], kNest, .none⟩, ⟨[strN i], kThing, .int i⟩]) (ks' := ks.snoc (strN i) (.leaf (.int i tn) (.int i) [])) kk hra (by rw [Ks.snoc_kvs]; exact d₂.kp K26 (fun q => nea (by simp [q])))
      (Ks.Ok.snoc (Ks.Ok.kp kk ks N.at_.ok hka) (.int _ _)) (fun _ => by simp) (fun _ e he hk => by
        rcases List.mem_cons.mp he with rfl | he
        · rfl
        · rw [List.mem_singleton.mp he] at hk; cases hk) (fun B => by
        have h1 := (N.at_.mkn B).nest (new := [⟨[], kNest, .none⟩]) (fun e he hk => by rw [List.mem_singleton.mp he]) (fun e he => by rw [List.mem_singleton.mp he])
        have h2 := h1.snoc (u := .leaf (.int i tn) (.int i) []) (new := [⟨[], kThing, .int i⟩]) hkn (by simp) ⟨_, [], rfl, rfl, rfl, rfl, rfl, rfl⟩
        rw [List.append_assoc] at h2
        exact h2) (by rw [hfp]; exact nd)
    have G := N.at_.grown (ks' := ks.snoc (strN i) (.leaf (.int i tn) (.int i) [])) N.fr N.mks (fun b hb => .inl (by rwa [hfp] at hb)) (fun p hp => .inl (by rwa [hmk] at hp)) (fun p hp => by rwa [hmk])
    have e1 : ([⟨[], kNest, .none⟩, ⟨[strN i], kThing, .int i⟩] : List Ev).map (pre way) = [⟨way, kNest, .none⟩, ⟨way ++ [strN i], kThing, .int i⟩] := by
      simp [pre]
    rw [e1, evF_append S.pos] at T
    have l₆' : h₆.PlainList ea (evl ++ [v0, .ref a₅]).toArray := by simpa using l₆
    have hda : ∀ b ∈ als, g0.get? b ≠ none := fun b hb q => by
      obtain ⟨o, ho⟩ := S.fpDom b (by simpa using .inr (.inr (.inr (.inr (.inr (S.alsDom b hb))))))
      rw [ho] at q; cases q
    refine k _ _ _ _ _ _ _ _ F₆ (kk.weaken fun b q => q.elim (fun q => q ▸ hH a (by simp)) fun q => q ▸ S.new ea (by simp)) (S.next hdom KK (fun b q => q) T G.fr l₆' ?_ ?_ (by simp) (kk.plain kll (fun q => q.elim (fun q => nka (by simp [q])) S.ka_ea)) ((S.kr.kp KK).mono (Nat.le_succ _) (by rw [List.length_append]; omega)) (S.mki.grown G hda))
    · refine .cons ((r0.kp kk (fun _ q => q.elim)).mono fun _ q => q.elim) (.cons ((Rh.tupOf (N := Nil) (k₆.tup t₅) (.cons (Rd.keyH (N := Nil) ?_) (.cons (.str _ _) (.cons (.int _ _) .nil)))).mono fun _ q => q.elim) .nil)
      refine Rd.tupOf (N := Nil) (k₆.tup (k₅.tup t₄)) ?_
      rw [List.map_append]
      exact ((hws.imm K2).imm (K25.up0.trans k₆)).append (.cons (.str _ _) .nil)
    · intro v hv
      simp only [List.mem_cons, List.not_mem_nil, or_false] at hv
      rcases hv with rfl | rfl
      · exact ⟨⟨by show way.length ≤ 7; omega, fun k hk => (hwn k hk).mono (Nat.le_succ _), .inl ⟨rfl, rfl⟩⟩, (by decide : kNest ≠ kMark)⟩
      · refine ⟨⟨by show (way ++ [strN i]).length ≤ 7; rw [List.length_append, List.length_singleton]; omega, fun k hk => ?_, .inr (.inr (.inl ⟨rfl, rk_int⟩))⟩, (by decide : kThing ≠ kMark)⟩
        rcases List.mem_append.mp hk with hk | hk
        · exact (hwn k hk).mono (Nat.le_succ _)
        · rw [List.mem_singleton.mp hk]; exact .inr ⟨i, Nat.lt_succ_self _, rfl⟩
  · rw [sizeLine_eq, hwlen, List.length_singleton]; omega
end
end PartB16
section PartB17
noncomputable def ifThen : Stmt → List Stmt
  | .If _ b _ _ => b
  | _ => []
noncomputable abbrev innS (w : World) (k : Nat) : Stmt := ((ifThen (turnS w 10))[k]?).getD (Stmt.Pass default)
structure Mid (w : World) (g0 h : Heap) (da dx ea ka a : Addr) (rest : List Addr) (esF : Nat → List Ev) (ks ks1 : Ks) (rel : List Ev) (way : List Str) (last : Str) (evl : List Value) (v0 : Value) (newv : List Value) : Prop where
  dict : DO prog w h a ks1.kvs
  ok : ks1.Ok prog w 0 h
  mkn : ∀ B, MKn B ks1 (esF B ++ (⟨[], kNest, .none⟩ :: rel))
  nd : (rest ++ (a :: ks1.fp)).Nodup
  fr1 : ∀ b ∈ ks1.fp, b ∈ ks.fp ∨ g0.get? b = none
  mk1 : ∀ p ∈ ks1.mk, p ∈ ks.mk ∨ (p.2 = [] ∧ g0.get? p.1 = none)
  mk2 : ∀ p ∈ ks.mk, p ∈ ks1.mk
  get : ∃ t, ks1.get last = some t
  el : h.PlainList ea (evl ++ (v0 :: newv)).toArray
  en : Rhs prog w (fun b => b ∉ [da, dx, ea, ka] ∧ b ∉ rest ++ (a :: ks1.fp)) h newv ((rel.map (pre way)).map Ev.d)
  rel : rel = [] ∨ ∃ d, rel = [⟨[last], kThing, d⟩] ∧ RkOk 4 d
theorem rk_thing {c n : Nat} (hc : 3 ≤ c ∧ c ≤ 8) (hn : n ≤ 100) : RkOk 4 (thingD c n) := by
  unfold thingD
  have hint : ∀ {m : Nat}, RkOk m (.int (n : Int)) := rk_int
  split
  · split
    · exact .inr rfl
    · exact hint
  · split
    · refine .inl ⟨⟨?_, by simp [PyData.depth]⟩, rfl, rfl⟩
      have h : (n : Int).fmod 2 = 0 ∨ (n : Int).fmod 2 = 1 := by
        rw [Int.fmod_eq_emod_of_nonneg _ (by decide)]; omega
      rcases h with h | h <;> rw [h] <;> decide +kernel
    · split
      · exact ⟨by simp, (fun d hd => (nomatch hd))⟩
      · split
        · exact ⟨by simp, fun d hd => by rw [List.mem_singleton.mp hd]; exact hint⟩
        · split
          · refine ⟨by simp, fun d hd => ?_⟩
            rw [List.mem_singleton.mp hd]
            refine ⟨by simp, fun d hd => ?_⟩
            rw [List.mem_singleton.mp hd]
            exact ⟨by simp, (fun p hp => (nomatch hp))⟩
          · refine ⟨by simp, fun d hd => ?_⟩
            simp only [List.mem_cons, List.not_mem_nil, or_false] at hd
            rcases hd with rfl | rfl
            · exact ⟨by simp, (fun p hp => (nomatch hp))⟩
            · exact hint
theorem thing_kind {c n : Nat} (hc : 3 ≤ c ∧ c ≤ 8) : (c ≤ 4 ∧ isListD (thingD c n) = false ∧ isDictD (thingD c n) = false) ∨ (5 ≤ c ∧ ∃ ds, thingD c n = .list ds ∧ lastOk ds) := by
  unfold thingD
  split
  · refine .inl ⟨by omega, ?_⟩
    split <;> exact ⟨rfl, rfl⟩
  · split
    · exact .inl ⟨by omega, rfl, rfl⟩
    · refine .inr ⟨by omega, ?_⟩
      split
      · exact ⟨_, rfl, by simp, fun d hd => by simp at hd⟩
      · split
        · exact ⟨_, rfl, by simp, fun d hd => by simp at hd; subst hd; rfl⟩
        · split
          · exact ⟨_, rfl, by simp, fun d hd => by simp at hd; subst hd; rfl⟩
          · exact ⟨_, rfl, by simp, fun d hd => by simp at hd; subst hd; rfl⟩
theorem newThing {w : World} {h : Heap} {v : Value} {d : PyData} {as : List Addr} (hd : Hd prog w h v d as) (hk : (isListD d = false ∧ isDictD d = false) ∨ ∃ ds, d = .list ds ∧ lastOk ds) : ∃ t : T, t.val = v ∧ t.fp = as ∧ t.Ok prog w 0 h ∧ (∀ p ∈ t.mk, p.2 = [] ∧ p.1 ∈ as) ∧ ∀ B, MT B t [⟨[], kThing, d⟩] := by
  rcases hk with ⟨h1, h2⟩ | ⟨ds, rfl, h3⟩
  · exact ⟨.leaf v d as, rfl, rfl, hd, (fun p hp => (nomatch hp)), fun B => ⟨_, [], rfl, rfl, rfl, rfl, h1, h2⟩⟩
  · cases hd with
    | list hp ha =>
      rename_i a1 vs as'
      refine ⟨.list a1 vs ds as' .nil [], rfl, by simp [T.fp, Rs.fp], ⟨⟨[], by simpa [Rs.vals] using hp, .nil⟩, ha, trivial⟩, fun p hp => ?_, fun B => ⟨⟨_, [], rfl, rfl, .inl ⟨rfl, rfl, h3⟩⟩, rfl, rfl⟩⟩
      rw [show (T.list a1 vs ds as' .nil []).mk = [(a1, [])] from rfl] at hp
      rw [List.mem_singleton.mp hp]
      exact ⟨rfl, .head _⟩
theorem Ks.get_snoc : ∀ {ks : Ks} {k : Str} {t : T}, k ∉ ks.names → (ks.snoc k t).get k = some t
  | .nil, k, t, _ => by simp [Ks.snoc, Ks.get]
  | .cons n u r, k, t, h => by
    have h1 : ¬ n = k := fun q => h (q ▸ .head _)
    have := Ks.get_snoc (ks := r) (k := k) (t := t) fun q => h (.tail _ q)
    simpa [Ks.snoc, Ks.get, h1] using this
theorem At.domL {prog : Program} {w : World} {g : Heap} {a0 a : Addr} {evF esF : Nat → List Ev} {plug : Ks → Ks} {rest : List Addr} {mrest : List (Addr × List Nat)} {ps : List Str} {ks : Ks} (H : At prog w g a0 evF plug a rest mrest ps esF ks) : ∀ b ∈ rest ++ (a :: ks.fp), ∃ o, g.get? b = some o ∧ ld o := fun b hb => by
  obtain ⟨h1, h2⟩ := H.hole.heap g Nil ks (.refl _) (fun _ _ x => x) H.dict H.ok
  have hm : b ∈ a0 :: (plug ks).fp := (H.hole.perm ks).mem_iff.mpr hb
  rcases List.mem_cons.mp hm with rfl | hm
  · exact h1.dom
  · exact (Ks.Ok.hd _ h2).dom b hm
section
variable {w : World} {A : Around} {E : Value → Shared → Prop} {s : Shared} {H0 e g g0 : Heap} {mg mb : Str → Option Value} {X : Addr → Prop} {L : Addr} {m : Str → Option Value} {x dx a0 ea ka da : Addr} {n c q i : Nat} {Q : Flow → Shared → Prop}
  {dvs : List Value} {evs : List Ev} {evl : List Value} {kps : List (Nat × Ev)} {als : List Addr} {kl : List Value} {root : Ks} {way : List Str} {a : Addr} {plug : Ks → Ks} {rest : List Addr} {mrest : List (Addr × List Nat)} {esF : Nat → List Ev} {ks : Ks}
set_option maxHeartbeats 4000000 in
theorem stmt10a (C : Cx w H0 mg mb) (hd : A.depth + 60 < recursionLimit) (hh : A.handled = none) (hu : A.units + 600 < cLine) (hX : ∀ a, H0.get? a = none → X a) (F : Fm H0 e g X True (lawEnv L) s.heap m) (lm : LM m x ea ka da i c) (hc : 3 ≤ c ∧ c ≤ 8) (hi : i < 60) {kv v0 : Value} {last : Str} (hk : m (Str.ofString "key") = some kv) (hr : Rd Nil s.heap kv (keyD (way ++ [last]))) (hwl : way.length ≤ 5)
    (hne : m (Str.ofString "nest") = some (.ref a)) {al : Addr} {avs : List Value} (hal : m (Str.ofString "alive") = some (.ref al)) (la : s.heap.PlainList al avs.toArray) (hav : avs.length = (aliveF evs (way ++ [last])).length) (S : LSt w H0 g0 x dx a0 ea ka da dvs i evs evl kps als kl root) (hdom : ∀ b o, H0.get? b = some o → ∃ o', g0.get? b = some o')
    (D0 : ∀ b o, g0.get? b = some o → ∃ o', s.heap.get? b = some o') (N : NestAt w g0 s.heap a0 evs kps root way a plug rest mrest esF ks) (el : s.heap.PlainList ea (evl ++ [v0]).toArray) (r0 : Rh prog w Nil s.heap v0 (Ev.d ⟨way, kNest, .none⟩)) (D4 : ∀ b ∈ [da, dx, ea, ka], ∃ o, s.heap.get? b = some o ∧ ld o)
    (k : ∀ h' tk ks1 rel newv, Fm H0 e h' X True (lawEnv L) h' m → Kp (fun b => b = a ∨ b = ea) s.heap h' → Mid w g0 h' da dx ea ka a rest esF ks ks1 rel way last evl v0 newv → Q .next { s with heap := h', toks := tk }) :
    wpAny (model prog w) A (exec (innS w 0) (lawEnv L)) Q E s := by
  obtain ⟨sh, sg, sd, st, so⟩ := s
  dsimp only at F hr la D0 N el r0 D4 k ⊢
  replace F := F.here
  dsimp only [innS, ifThen, turnS, lawFn, forBody, List.getElem?_cons_succ, List.getElem?_cons_zero, Option.getD_some]
  obtain ⟨b1, b2, b3, b4, ⟨tn, b5⟩, ⟨tc, b6⟩⟩ := id lm
  obtain ⟨nea, nka⟩ := S.nin N.fr
  have hz : evs.length ≤ 4000 := by have := S.evn; omega
  have hel : evl.length = evs.length := by rw [S.er.length, List.length_map]
  have lz : (evl ++ [v0]).length ≤ sizeLine := by rw [sizeLine_eq, List.length_append, List.length_singleton]; omega
  have hH : ∀ b ∈ rest ++ (a :: ks.fp), H0.get? b = none := fun b hb => by
    rcases N.fr b hb with q | q
    · exact S.new b (by simpa using .inr (.inr (.inr (.inr (List.mem_cons.mp q)))))
    · cases hq : H0.get? b with
      | none => rfl
      | some o => obtain ⟨o', ho'⟩ := hdom b o hq; rw [ho'] at q; cases q
  have hPl : Pl evs (way ++ [last]) = tails last (esF 0) := by rw [Pl_snoc, ← N.es]
  have hAl : (aliveF evs (way ++ [last])).length = (tails last (esF 0)).length := by rw [← hPl]; unfold Pl; rw [List.length_map]
  obtain ⟨kt, kvs, rfl, hkt, hks⟩ := hr.tupInv
  have hklen : kvs.length = way.length + 1 := by rw [hks.length, List.length_map, List.length_append]; rfl
  obtain ⟨lv, hlv, hlr⟩ := hks.at (i := way.length) (d := .str last) (by simp)
  obtain ⟨lt, rfl⟩ := hlr.strInv
  walk_at "R"
  rename_i a₁ h₁ F₁ k₁ s₁ n₁ l₁
  refine eqEmpty (k₁.plain la (fun q => q)).isList l₁.isList (upn hu (by decide)) ?_
  by_cases hem : avs = []
  · rw [decide_eq_true hem]
    have htl : tails last (esF 0) = [] := by
      rw [hem] at hav
      exact List.length_eq_zero_iff.mp (by rw [← hAl, ← hav]; rfl)
    walk_at "R"
    have hkn : last ∉ ks.names := fun q => tails_ne.mpr (by rwa [(N.at_.mkn 0).1] at q) htl
    have hva : valueAt ks.kvs last = none := by rw [Ks.valueAt, (ks.get_none _).mpr hkn]; rfl
    refine callFn (C.K _ _ rfl) rfl ?_
    walk_at "R"
    refine ⟨F₁.vw.old, thing_spec C F₁.vw.old (upn0 hd) hh (upn hu (by decide)) hc (by omega) ?_⟩
    intro h₂ tk₂ v1 as1 S₂ hd1 nd1 nw1
    have F₂ := F₁.ext S₂
    have K12 : Kp Nil sh h₂ := k₁.trans S₂.kp
    have A2 := N.at_.kp0 K12
    walk_at "R"
    refine item_tupleT (K12.tup hkt) (by decide) (by decide) (j := way.length) (by unfold seqIndex?; rw [hklen]; simp; omega) hlv ?_
    walk_at "R"
    refine setDict F₂ A2.dict (fun _ _ => hX a (hH a (by simp))) (hH a (by simp)) (by have := N.few hz; rw [sizeLine_eq]; omega) ?_
    intro h₃ F₃ k₃ d₃
    rw [stored_new hva] at d₃
    have K3 : Kp (fun b => b = a) sh h₃ := K12.up0.trans k₃
    have el3 := K3.plain el (fun q => nea (by simp [q]))
    walk_at "R"
    refine methList PySem.F.slot_list_append PySem.F.type_list_append el3 ?_
    walk_at "R"
    refine callFn (C.K _ _ rfl) rfl ?_
    walk_at "R"
    refine ⟨F₃.vw.old, thing_spec C F₃.vw.old (upn0 hd) hh (upn hu (by decide)) hc (by omega) ?_⟩
    intro h₄ tk₄ v2 as2 S₄ hd2 nd2 nw2
    have F₄ := F₃.ext S₄
    walk_at "R"
    rename_i a₅ h₅ F₅ k₅ s₅ n₅ t₅
    have K35 : Kp Nil h₃ h₅ := S₄.kp.trans k₅
    refine appendL F₅ (K35.plain el3 (fun q => q)) (fun _ _ => hX ea (S.new ea (by simp))) (S.new ea (by simp)) lz ?_
    intro h₆ F₆ k₆ l₆
    walk_at "R"
    have K46 : Kp (fun b => b = ea) h₄ h₆ := k₅.up0.trans k₆
    have K36 : Kp (fun b => b = ea) h₃ h₆ := S₄.kp.trans K46
    have K26 : Kp (fun b => b = a ∨ b = ea) h₂ h₆ := (k₃.weaken fun _ q => .inl q).trans (K36.weaken fun _ q => .inr q)
    have kk : Kp (fun b => b = a ∨ b = ea) sh h₆ := K12.up0.trans K26
    obtain ⟨t, tv, tfp, tok, tmk, tmt⟩ := newThing hd1 ((thing_kind (n := i) hc).imp (fun q => q.2) (fun q => q.2))
    have dom1 : ∀ b ∈ rest ++ (a :: ks.fp), ∃ o, sh.get? b = some o ∧ ld o := N.at_.domL
    have hea1 : ∃ o, sh.get? ea = some o ∧ ld o := isList_dom el.isList
    have fresh1 : ∀ b ∈ as1, sh.get? b = none := fun b hb => s₁.none (nw1 b hb)
    have nin1 : ∀ b ∈ as1, b ∉ rest ++ (a :: ks.fp) ∧ b ≠ ea := fun b hb => by
      refine ⟨fun q => ?_, fun q => ?_⟩
      · obtain ⟨o, ho, _⟩ := dom1 b q
        rw [fresh1 b hb] at ho; cases ho
      · obtain ⟨o, ho, _⟩ := hea1
        rw [← q, fresh1 b hb] at ho; cases ho
    have g0n : ∀ {b : Addr}, sh.get? b = none → g0.get? b = none := fun {b} q => by
      cases hq : g0.get? b with
      | none => rfl
      | some o => obtain ⟨o', ho'⟩ := D0 b o hq; rw [ho'] at q; cases q
    have hfp : (ks.snoc last t).fp = ks.fp ++ as1 := by rw [Ks.snoc_fp, tfp]
    have hmk : (ks.snoc last t).mk = ks.mk ++ t.mk := Ks.snoc_mk ks last t
    have nd := N.at_.nd
    have hka : ∀ b ∈ ks.fp, ¬ (b = a ∨ b = ea) := fun b hb q => by
      rcases q with rfl | rfl
      · exact (List.nodup_cons.mp (List.nodup_append.mp nd).2.1).1 hb
      · exact nea (List.mem_append_right _ (.tail _ hb))
    have dom3 : ∀ b ∈ rest ++ (a :: (ks.snoc last t).fp), ∃ o, h₃.get? b = some o := fun b hb => by
      by_cases hba : b = a
      · subst hba; obtain ⟨o, ho, _⟩ := d₃.dom; exact ⟨o, ho⟩
      · rw [hfp] at hb
        have hb' : b ∈ rest ++ (a :: ks.fp) ∨ b ∈ as1 := by
          rcases List.mem_append.mp hb with q | q
          · exact .inl (List.mem_append_left _ q)
          · rcases List.mem_cons.mp q with q | q
            · exact absurd q hba
            · rcases List.mem_append.mp q with q | q
              · exact .inl (List.mem_append_right _ (.tail _ q))
              · exact .inr q
        rcases hb' with q | q
        · obtain ⟨o, ho, hl⟩ := dom1 b q
          exact ⟨o, K3.keep b o ho (.inr (.inr ⟨hl, hba⟩))⟩
        · obtain ⟨o, ho, hl⟩ := hd1.dom b q
          exact ⟨o, k₃.keep b o ho (.inr (.inr ⟨hl, hba⟩))⟩
    have hea3 : ∃ o, h₃.get? ea = some o ∧ ld o := isList_dom el3.isList
    refine k _ _ (ks.snoc last t) [⟨[last], kThing, thingD c i⟩] [.ref a₅] F₆ kk ⟨?_, ?_, ?_, ?_, ?_, ?_, ?_, ?_, by simpa using l₆, ?_, .inr ⟨_, rfl, rk_thing hc (by omega)⟩⟩
    · rw [Ks.snoc_kvs, tv]
      exact d₃.kp K36 (fun q => nea (by simp [q]))
    · exact Ks.Ok.snoc (Ks.Ok.kp kk ks N.at_.ok hka) (T.Ok.kp K26 t tok fun b hb q => by
        rw [tfp] at hb
        rcases q with rfl | rfl
        · exact (nin1 _ hb).1 (by simp)
        · exact (nin1 _ hb).2 rfl)
    · intro B
      have h1 := (N.at_.mkn B).nest (new := [⟨[], kNest, .none⟩]) (fun e he hk => by rw [List.mem_singleton.mp he]) (fun e he => by rw [List.mem_singleton.mp he])
      have h2 := h1.snoc (u := t) (new := [⟨[], kThing, thingD c i⟩]) hkn (by simp) (tmt B)
      rw [List.append_assoc] at h2
      exact h2
    · rw [hfp]
      have e1 : rest ++ (a :: (ks.fp ++ as1)) = (rest ++ (a :: ks.fp)) ++ as1 := by simp
      rw [e1, List.nodup_append]
      exact ⟨nd, nd1, fun b hb c hc q => (nin1 c hc).1 (q ▸ hb)⟩
    · intro b hb
      rw [hfp] at hb
      exact (List.mem_append.mp hb).imp id fun q => g0n (fresh1 b q)
    · intro p hp
      rw [hmk] at hp
      exact (List.mem_append.mp hp).imp id fun q => ⟨(tmk p q).1, g0n (fresh1 _ (tmk p q).2)⟩
    · intro p hp
      rw [hmk]; exact List.mem_append_left _ hp
    · exact ⟨t, by
        have : (ks.snoc last t).get last = some t := Ks.get_snoc hkn
        exact this⟩
    · refine .cons ?_ .nil
      have hk6 : Rd Nil h₆ (.ref kt) (keyD (way ++ [last])) := (hr.imm kk)
      have e1 : Ev.d (pre way ⟨[last], kThing, thingD c i⟩) = Ev.d ⟨way ++ [last], kThing, thingD c i⟩ := rfl
      rw [e1]
      refine Rh.tupOf (k₆.tup t₅) (.cons (Rd.keyH (N := Nil) hk6) (.cons (.str _ _) (.cons ⟨as2, hd2.kp K46 ?_, fun b hb => ⟨?_, ?_⟩⟩ .nil)))
      · intro b hb q
        subst q
        obtain ⟨o, ho, _⟩ := hea3
        have := nw2 _ hb
        simp only [ho] at this; cases this
      · intro hm
        have hne : b ≠ a := fun q => S.nin4 N.fr b hm (by simp [q])
        obtain ⟨o, ho, hl⟩ := D4 b hm
        have h1 := K3.keep b o ho (.inr (.inr ⟨hl, hne⟩))
        have := nw2 b hb
        simp only [h1] at this; cases this
      · intro hm
        obtain ⟨o, ho⟩ := dom3 b hm
        have := nw2 b hb
        simp only [ho] at this; cases this
  · rw [decide_eq_false hem]
    have htl : tails last (esF 0) ≠ [] := fun z => hem (List.length_eq_zero_iff.mp (by rw [hav, hAl, z]; rfl))
    walk_at "R"
    refine k _ _ ks [] [] F₁ k₁.up0 ⟨N.at_.dict.kp k₁ (fun q => q), Ks.Ok.kp k₁ ks N.at_.ok (fun _ _ q => q), fun B => (N.at_.mkn B).nest (fun e he hk => by rw [List.mem_singleton.mp he]) (fun e he => by rw [List.mem_singleton.mp he]), N.at_.nd, fun b hb => .inl hb, fun p hp => .inl hp, fun p hp => hp, ?_, k₁.plain el (fun q => q), .nil, .inl rfl⟩
    have hin : last ∈ ks.names := by rw [(N.at_.mkn 0).1]; exact tails_ne.mp htl
    cases hg : ks.get last with
    | none => exact absurd hin ((ks.get_none last).mp hg)
    | some t => exact ⟨t, rfl⟩
end
end PartB17
section PartB18
section
variable {w : World} {A : Around} {E : Value → Shared → Prop} {s : Shared} {H0 e g g0 hN : Heap} {mg mb : Str → Option Value} {X : Addr → Prop} {L : Addr} {m : Str → Option Value} {x dx a0 ea ka da : Addr} {n c q i : Nat} {Q : Flow → Shared → Prop}
  {dvs : List Value} {evs : List Ev} {evl : List Value} {kps : List (Nat × Ev)} {als : List Addr} {kl : List Value} {root : Ks} {way : List Str} {a : Addr} {plug : Ks → Ks} {rest : List Addr} {mrest : List (Addr × List Nat)} {esF : Nat → List Ev} {ks ks1 : Ks} {rel : List Ev} {last : Str} {v0 : Value} {newv : List Value}
theorem newe_good (hwl : way.length ≤ 5) (hkn : ∀ k ∈ way ++ [last], nmOk i k) (hr : rel = [] ∨ ∃ d, rel = [⟨[last], kThing, d⟩] ∧ RkOk 4 d) : (∀ v ∈ (⟨way, kNest, .none⟩ : Ev) :: rel.map (pre way), evGood 7 (i + 1) v ∧ v.kind ≠ kMark) ∧ ((⟨way, kNest, .none⟩ : Ev) :: rel.map (pre way)).length ≤ 2 := by
  have h1 : evGood 7 (i + 1) ⟨way, kNest, .none⟩ ∧ kNest ≠ kMark := ⟨⟨by show way.length ≤ 7; omega, fun k hk => (hkn k (List.mem_append_left _ hk)).mono (Nat.le_succ _), .inl ⟨rfl, rfl⟩⟩, by decide⟩
  rcases hr with rfl | ⟨d, rfl, hd⟩
  · refine ⟨fun v hv => ?_, by simp⟩
    rw [List.mem_singleton.mp hv]; exact h1
  · refine ⟨fun v hv => ?_, by simp⟩
    simp only [List.map_cons, List.map_nil, List.mem_cons, List.not_mem_nil, or_false] at hv
    rcases hv with rfl | rfl
    · exact h1
    · exact ⟨⟨by show (way ++ [last]).length ≤ 7; rw [List.length_append, List.length_singleton]; omega, fun k hk => (hkn k hk).mono (Nat.le_succ _), .inr (.inr (.inl ⟨rfl, hd⟩))⟩, (by decide : kThing ≠ kMark)⟩
theorem rel_nest (hr : rel = [] ∨ ∃ d, rel = [⟨[last], kThing, d⟩] ∧ RkOk 4 d) : nestOnly ((⟨[], kNest, .none⟩ : Ev) :: rel) := fun e he hk => by
  rcases List.mem_cons.mp he with rfl | he
  · rfl
  · rcases hr with rfl | ⟨d, rfl, _⟩
    · cases he
    · rw [List.mem_singleton.mp he] at hk; cases hk
set_option maxHeartbeats 4000000 in
theorem stmt10b (C : Cx w H0 mg mb) (hh : A.handled = none) (hu : A.units + 600 < cLine) (hX : ∀ a, H0.get? a = none → X a) (F : Fm H0 e g X True (lawEnv L) s.heap m) (lm : LM m x ea ka da i c) (hi : i < 60) {kv : Value} (hk : m (Str.ofString "key") = some kv) (hr : Rd Nil s.heap kv (keyD (way ++ [last]))) (hwl : way.length ≤ 5) (hkn : ∀ k ∈ way ++ [last], nmOk i k)
    (hne : m (Str.ofString "nest") = some (.ref a)) (S : LSt w H0 g0 x dx a0 ea ka da dvs i evs evl kps als kl root) (hdom : ∀ b o, H0.get? b = some o → ∃ o', g0.get? b = some o')
    (K0 : Kp (Y0 g0 ea ka a0 root) g0 hN) (N : NestAt w g0 hN a0 evs kps root way a plug rest mrest esF ks) (KN : Kp (fun b => b = a ∨ b = ea) hN s.heap) (Md : Mid w g0 s.heap da dx ea ka a rest esF ks ks1 rel way last evl v0 newv) (r0 : Rh prog w Nil s.heap v0 (Ev.d ⟨way, kNest, .none⟩)) (kll : s.heap.PlainList ka kl.toArray)
    (k : ∀ h' tk evs' evl' kps' als' kl' root', Fm H0 e h' X True (lawEnv L) h' m → Kp (fun b => H0.get? b = none) s.heap h' → LSt w H0 h' x dx a0 ea ka da dvs (i + 1) evs' evl' kps' als' kl' root' → Q .next { s with heap := h', toks := tk }) :
    wpAny (model prog w) A (exec (innS w 1) (lawEnv L)) Q E s := by
  obtain ⟨sh, sg, sd, st, so⟩ := s
  dsimp only at F hr KN Md r0 kll k ⊢
  replace F := F.here
  dsimp only [innS, ifThen, turnS, lawFn, forBody, List.getElem?_cons_succ, List.getElem?_cons_zero, Option.getD_some]
  obtain ⟨b1, b2, b3, b4, ⟨tn, b5⟩, ⟨tc, b6⟩⟩ := id lm
  obtain ⟨nea, nka⟩ := S.nin N.fr
  have hz : evs.length ≤ 4000 := by have := S.evn; omega
  have hel : evl.length = evs.length := by rw [S.er.length, List.length_map]
  have hkl : kl.length ≤ i := by rw [S.kr.len1]; exact S.kr.few
  obtain ⟨kt, kvs, rfl, hkt, hks⟩ := hr.tupInv
  have hklen : kvs.length = way.length + 1 := by rw [hks.length, List.length_map, List.length_append]; rfl
  obtain ⟨lv, hlv, hlr⟩ := hks.at (i := way.length) (d := .str last) (by simp)
  obtain ⟨lt, rfl⟩ := hlr.strInv
  obtain ⟨t, hg⟩ := Md.get
  have hva : valueAt ks1.kvs last = some t.val := by rw [Ks.valueAt, hg]; rfl
  have tok : t.Ok prog w 0 sh := Md.ok.get hg
  have tmt : ∀ B, MT B t (tails last (esF B ++ (⟨[], kNest, .none⟩ :: rel))) := fun B => (Md.mkn B).2.2.get hg
  have G := N.at_.grown N.fr N.mks Md.fr1 Md.mk1 Md.mk2
  have hda : ∀ b ∈ als, g0.get? b ≠ none := fun b hb q => by
    obtain ⟨o, ho⟩ := S.fpDom b (by simpa using .inr (.inr (.inr (.inr (.inr (S.alsDom b hb))))))
    rw [ho] at q; cases q
  obtain ⟨hgood, hlen2⟩ := newe_good hwl hkn Md.rel
  have hnv : newv.length = rel.length := by rw [Md.en.length, List.length_map, List.length_map]
  have Kg : ∀ {h' : Heap}, Kp (fun b => b = ka) sh h' → Kp (Y0 g0 ea ka a0 root) g0 h' := fun k' => (K0.trans (KN.weaken fun b q => q.elim (fun q => by
      rcases N.fr a (by simp) with z | z
      · exact .inr (.inr (.inl (q ▸ z)))
      · exact .inr (.inr (.inr (q ▸ z)))) .inl)).trans (k'.weaken fun b q => .inr (.inl q))
  have nd := N.at_.nd
  have hra : ∀ b ∈ rest, ¬ ((b = a ∨ b = ea) ∨ b = ka) := fun b hb q => by
    rcases q with (rfl | rfl) | rfl
    · exact (List.nodup_append.mp nd).2.2 b hb b (.head _) rfl
    · exact nea (List.mem_append_left _ hb)
    · exact nka (List.mem_append_left _ hb)
  have kkN : ∀ {h' : Heap}, Kp (fun b => b = ka) sh h' → Kp (fun b => (b = a ∨ b = ea) ∨ b = ka) hN h' := fun k' => (KN.weaken fun _ q => .inl q).trans (k'.weaken fun _ q => .inr q)
  have e1 : ((⟨[], kNest, .none⟩ : Ev) :: rel).map (pre way) = ⟨way, kNest, .none⟩ :: rel.map (pre way) := by simp [pre]
  have nka1 : ∀ b ∈ rest ++ (a :: ks1.fp), ¬ b = ka := fun b hb q => by
    rcases List.mem_append.mp hb with z | z
    · exact nka (q ▸ List.mem_append_left _ z)
    · rcases List.mem_cons.mp z with z | z
      · exact nka (by rw [← q, z]; simp)
      · rcases Md.fr1 b z with z | z
        · exact nka (q ▸ List.mem_append_right _ (.tail _ z))
        · obtain ⟨o, ho⟩ := S.fpDom ka (by simp)
          rw [q, ho] at z; cases z
  have rdt : ∀ h₇, Kp Nil sh h₇ → Rd (fun b => b ∈ t.fp) h₇ t.val (t.data 0) := fun h₇ k₇ => (Rh.kp0 (prog := prog) (w := w) ⟨_, T.Ok.hd t tok, fun _ h => h⟩ k₇).rd
  walk_at "R"
  refine item_tupleT hkt (by decide) (by decide) (j := way.length) (by unfold seqIndex?; rw [hklen]; simp; omega) hlv ?_
  walk_at "R"
  refine getDict Md.dict hva ?_
  walk_at "R"
  refine isiList (rdt _ (.refl _)) ?_
  intro tk₁
  by_cases hil : isListD (t.data 0) = false
  · rw [hil]
    walk_at "R"
    have T1 := N.at_.putF (newF := fun _ => ⟨[], kNest, .none⟩ :: rel) (ks' := ks1) (kkN (.refl sh)) hra Md.dict Md.ok (fun _ => by simp) (fun _ => rel_nest Md.rel) Md.mkn Md.nd
    rw [e1, evF_append S.pos] at T1
    refine k _ _ _ _ _ _ _ _ F (.refl _) (S.next hdom (Kg (.refl sh)) (fun b q => q) T1 G.fr Md.el (.cons (r0.mono fun _ q => q.elim) (Md.en.mono fun b hb q => ?_)) hgood hlen2 kll ((S.kr.kp (Kg (.refl sh))).mono (Nat.le_succ _) (by rw [List.length_append]; omega)) (S.mki.grown G hda))
    have e2 : own da dx ea ka a0 (plug ks1) = [da, dx, ea, ka] ++ (a0 :: (plug ks1).fp) := rfl
    rw [e2] at q
    exact (List.mem_append.mp q).elim hb.1 fun q => hb.2 ((N.at_.hole.perm ks1).mem_iff.mp q)
  · have hil' : isListD (t.data 0) = true := by cases h : isListD (t.data 0) with
      | true => rfl
      | false => exact absurd h hil
    rw [hil']
    cases t with
    | leaf v d as =>
      obtain ⟨_, _, _, _, _, _, h4, _⟩ := tmt 0
      rw [show (T.leaf v d as).data 0 = d from rfl, h4] at hil'
      cases hil'
    | dict a' l => cases hil'
    | list al2 ahead ds as rs marks =>
      walk_at "R"
      refine methList PySem.F.slot_list_append PySem.F.type_list_append kll ?_
      walk_at "R"
      have hellen : (evl ++ (v0 :: newv)).length = (evs ++ ((⟨way, kNest, .none⟩ : Ev) :: rel.map (pre way))).length := by
        rw [List.length_append, List.length_append, List.length_cons, List.length_cons, List.length_map, hel, hnv]
      have hrl : rel.length ≤ 1 := by
        rcases Md.rel with h | ⟨d, h, _⟩ <;> rw [h] <;> simp
      refine lenList Md.el.isList (by rw [sizeLine_eq, List.length_append, List.length_cons, hel, hnv]; omega) ?_
      intro t₂ tk₂
      walk_at "R"
      refine item_tupleT hkt (by decide) (by decide) (j := way.length) (by unfold seqIndex?; rw [hklen]; simp; omega) hlv ?_
      walk_at "R"
      refine getDict Md.dict hva ?_
      walk_at "R"
      rename_i a₃ h₃ F₃ k₃ s₃ n₃ t₃
      refine appendL F₃ (k₃.plain kll (fun q => q)) (fun _ _ => hX ka (S.new ka (by simp))) (S.new ka (by simp)) (by rw [sizeLine_eq]; omega) ?_
      intro h₄ F₄ k₄ l₄
      walk_at "R"
      have K4 : Kp (fun b => b = ka) sh h₄ := k₃.up0.trans k₄
      have K := kps.length
      have hgp := Ks.get_perm ks1 last _ hg
      have hset := Ks.set_perm ks1 last _ (.list al2 ahead ds as rs (marks ++ [kps.length])) hg
      have hfp : (ks1.set last (.list al2 ahead ds as rs (marks ++ [kps.length]))).fp.Perm ks1.fp := hset.trans hgp.symm
      have hperm : (a0 :: (plug (ks1.set last (.list al2 ahead ds as rs (marks ++ [kps.length])))).fp).Perm (a0 :: (plug ks1).fp) :=
        (N.at_.hole.perm _).trans ((List.Perm.append_left _ (List.Perm.cons _ hfp)).trans (N.at_.hole.perm ks1).symm)
      have hup : upTo 0 (marks ++ [kps.length]) = upTo 0 marks := upTo_snoc_ge (Nat.zero_le _)
      have T2 := N.at_.putF (newF := fun B => (⟨[], kNest, .none⟩ :: rel) ++ (if kps.length < B then [⟨[last], kMark, .int (kps.length : Nat)⟩] else [])) (ks' := ks1.set last (.list al2 ahead ds as rs (marks ++ [kps.length]))) (kkN K4) hra
        (by rw [Ks.set_kvs ks1 last _ (.list al2 ahead ds as rs (marks ++ [kps.length])) hg rfl]; exact Md.dict.kp K4 (nka1 a (by simp)))
        (Ks.Ok.set K4 Md.ok (fun b hb => nka1 b (List.mem_append_right _ (.tail _ (hgp.mem_iff.mpr (List.mem_append_left _ hb))))) (by
          obtain ⟨⟨mv, q1, q2⟩, q3, q4⟩ := T.Ok.kp K4 _ tok (fun b hb => nka1 b (List.mem_append_right _ (.tail _ (hgp.mem_iff.mpr (List.mem_append_right _ hb)))))
          exact ⟨⟨mv, q1, by rw [hup]; exact q2⟩, q3, q4⟩))
        (fun _ => by simp) (fun B e he hk => by
          rcases List.mem_append.mp he with he | he
          · exact rel_nest Md.rel e he hk
          · split at he
            · rw [List.mem_singleton.mp he] at hk; cases hk
            · cases he) (fun B => by
          have hsetM : ∀ new : List Ev, MT B (.list al2 ahead ds as rs (marks ++ [kps.length])) (tails last (esF B ++ (⟨[], kNest, .none⟩ :: rel)) ++ new) → MKn B (ks1.set last (.list al2 ahead ds as rs (marks ++ [kps.length]))) ((esF B ++ (⟨[], kNest, .none⟩ :: rel)) ++ new.map (pre [last])) := fun new hu => (Md.mkn B).set hg hu
          by_cases hB : kps.length < B
          · have := hsetM [⟨[], kMark, .int (kps.length : Nat)⟩] (MT.mark hB (tmt B))
            rw [if_pos hB, ← List.append_assoc]
            exact this
          · have := hsetM [] (by rw [List.append_nil]; exact MT.mark' (by omega) (tmt B))
            rw [if_neg hB, List.append_nil]
            simpa using this) ((List.Perm.append_left _ (List.Perm.cons _ hfp)).nodup_iff.mpr Md.nd)
      have pos' : ∀ p ∈ kps, p.1 ≤ (evs ++ ((⟨way, kNest, .none⟩ : Ev) :: rel.map (pre way))).length := fun p hp => Nat.le_trans (S.pos p hp) (by rw [List.length_append]; omega)
      have e3 : (fun B => evF evs kps B ++ ((((⟨[], kNest, .none⟩ : Ev) :: rel) ++ (if kps.length < B then ([⟨[last], kMark, .int (kps.length : Nat)⟩] : List Ev) else [])).map (pre way))) = evF (evs ++ ((⟨way, kNest, .none⟩ : Ev) :: rel.map (pre way))) (kps ++ [((evs ++ ((⟨way, kNest, .none⟩ : Ev) :: rel.map (pre way))).length, ⟨way ++ [last], kMark, .int (kps.length : Nat)⟩)]) := by
        rw [← evF_snoc pos', ← evF_append S.pos]
        funext B
        rw [List.map_append, e1, List.append_assoc]
        congr 2
        split
        · rfl
        · rfl
      rw [e3] at T2
      have hmarks : marks = marksAt als al2 := by
        have hm : (al2, marks) ∈ ks1.mk := (Ks.get_mk ks1 last _ hg).mem_iff.mpr (List.mem_append_right _ (.head _))
        rcases Md.mk1 _ hm with q | ⟨q1, q2⟩
        · exact S.mki.mark _ (N.mks.mem_iff.mp (List.mem_append_right _ q))
        · rw [show marks = [] from q1, marksAt_none fun z => hda _ z q2]
      have hKl : kps.length = als.length := S.kr.len2.symm
      have hmk2 : (plug (ks1.set last (.list al2 ahead ds as rs (marks ++ [kps.length])))).mk.Perm ((al2, marks ++ [kps.length]) :: (mrest ++ (ks1.besideM last ++ rs.mk))) := by
        refine (N.at_.hole.mks _).trans ((List.Perm.append_left _ (Ks.set_mk ks1 last _ _ hg)).trans ?_)
        rw [show (T.list al2 ahead ds as rs (marks ++ [kps.length])).mk = (al2, marks ++ [kps.length]) :: rs.mk from rfl, ← List.append_assoc, ← List.append_assoc]
        exact List.perm_middle
      have hmk1 : ks1.mk.Perm (ks1.besideM last ++ ((al2, marks) :: rs.mk)) := Ks.get_mk ks1 last _ hg
      have hnd : (al2 :: (mrest ++ (ks1.besideM last ++ rs.mk)).map (·.1)).Nodup := by
        have h1 : ((plug (ks1.set last (.list al2 ahead ds as rs (marks ++ [kps.length])))).mk.map (·.1)).Nodup := (Ks.mk_fp _).nodup (List.nodup_cons.mp T2.nd).2
        exact (hmk2.map (·.1)).nodup_iff.mp h1
      have hR : ∀ p ∈ mrest ++ (ks1.besideM last ++ rs.mk), p.1 ≠ al2 := fun p hp q => (List.nodup_cons.mp hnd).1 (List.mem_map.mpr ⟨p, hp, q⟩)
      have hMk : MkI (als ++ [al2]) (plug (ks1.set last (.list al2 ahead ds as rs (marks ++ [kps.length])))).mk := by
        refine S.mki.snoc (ms := []) (R := mrest ++ (ks1.besideM last ++ rs.mk)) (fun p hp => ?_) (fun p hp _ => ?_) (fun p hp hne => ?_) ?_
        · rcases List.mem_cons.mp (hmk2.mem_iff.mp hp) with q | q
          · left; rw [q, ← hmarks, ← hKl]
          · exact .inr ⟨q, hR p q⟩
        · rcases List.mem_append.mp hp with q | q
          · exact .inl (N.mks.mem_iff.mp (List.mem_append_left _ q))
          · have h1 : p ∈ ks1.mk := hmk1.mem_iff.mpr ((List.mem_append.mp q).elim (fun q => List.mem_append_left _ q) fun q => List.mem_append_right _ (.tail _ q))
            rcases Md.mk1 p h1 with q | ⟨q1, q2⟩
            · exact .inl (N.mks.mem_iff.mp (List.mem_append_right _ q))
            · exact .inr ⟨q1, fun z => hda _ z q2⟩
        · refine hmk2.mem_iff.mpr (.tail _ ?_)
          rcases List.mem_append.mp (N.mks.mem_iff.mpr hp) with q | q
          · exact List.mem_append_left _ q
          · rcases List.mem_append.mp (hmk1.mem_iff.mp (Md.mk2 p q)) with q | q
            · exact List.mem_append_right _ (List.mem_append_left _ q)
            · rcases List.mem_cons.mp q with q | q
              · exact absurd (by rw [q]) hne
              · exact List.mem_append_right _ (List.mem_append_right _ q)
        · rw [← hmarks, ← hKl]
          exact hmk2.mem_iff.mpr (.head _)
      rw [hellen] at t₃
      refine k _ _ _ _ _ _ _ _ F₄ (K4.weaken fun b q => q ▸ S.new ka (by simp)) (S.next hdom (Kg K4) (fun b q => q) T2 (fun b hb => ?_) (K4.plain Md.el S.ka_ea.symm) (.cons ((r0.kp K4 fun _ q => q.elim).mono fun _ q => q.elim) ((Md.en.kp K4 fun b hb q => ?_).mono fun b hb q => ?_)) hgood hlen2 l₄ (((S.kr.kp (Kg K4)).mono (Nat.le_refl _) (by rw [List.length_append]; omega)).snoc (k₄.tup t₃) (hr.imm K4) (by rw [List.length_append, List.length_singleton]; omega) (fun z hz => (hkn z hz).mono (Nat.le_succ _))) hMk)
      · rcases List.mem_cons.mp (hperm.mem_iff.mp (.tail _ hb)) with q | q
        · exact .inl (by rw [q]; exact .head _)
        · exact G.fr b q
      · exact hb.1 (by simp [q])
      · have e2 : own da dx ea ka a0 (plug (ks1.set last (.list al2 ahead ds as rs (marks ++ [kps.length])))) = [da, dx, ea, ka] ++ (a0 :: (plug (ks1.set last (.list al2 ahead ds as rs (marks ++ [kps.length])))).fp) := rfl
        rw [e2] at q
        exact (List.mem_append.mp q).elim hb.1 fun q => hb.2 ((N.at_.hole.perm ks1).mem_iff.mp (hperm.mem_iff.mp q))
end
end PartB18
section PartB19
section
variable {w : World} {A : Around} {E : Value → Shared → Prop} {s : Shared} {H0 e g g0 hN : Heap} {mg mb : Str → Option Value} {X : Addr → Prop} {L : Addr} {m : Str → Option Value} {x dx a0 ea ka da : Addr} {n c q i : Nat} {Q : Flow → Shared → Prop}
  {dvs : List Value} {evs : List Ev} {evl : List Value} {kps : List (Nat × Ev)} {als : List Addr} {kl : List Value} {root : Ks} {way : List Str} {a : Addr} {plug : Ks → Ks} {rest : List Addr} {mrest : List (Addr × List Nat)} {esF : Nat → List Ev} {ks : Ks} {last : Str} {v0 : Value}
set_option maxHeartbeats 4000000 in
theorem stmt10 (C : Cx w H0 mg mb) (hd : A.depth + 60 < recursionLimit) (hh : A.handled = none) (hu : A.units + 600 < cLine) (hX : ∀ a, H0.get? a = none → X a) (F : Fm H0 e g X True (lawEnv L) s.heap m) (lm : LM m x ea ka da i c) (hc : 3 ≤ c ∧ c ≤ 8) (hi : i < 60) {kv : Value} (hk : m (Str.ofString "key") = some kv) (hr : Rd Nil s.heap kv (keyD (way ++ [last]))) (hwl : way.length ≤ 5) (hkn : ∀ k ∈ way ++ [last], nmOk i k)
    {dt : Tok} (hdu : m (Str.ofString "due") = some (.str (Str.ofString "") dt)) (hne : m (Str.ofString "nest") = some (.ref a)) {al : Addr} {avs : List Value} (hal : m (Str.ofString "alive") = some (.ref al)) (la : s.heap.PlainList al avs.toArray) (hav : avs.length = (aliveF evs (way ++ [last])).length) (S : LSt w H0 g0 x dx a0 ea ka da dvs i evs evl kps als kl root) (hdom : ∀ b o, H0.get? b = some o → ∃ o', g0.get? b = some o')
    (K0 : Kp (Y0 g0 ea ka a0 root) g0 s.heap) (D0 : ∀ b o, g0.get? b = some o → ∃ o', s.heap.get? b = some o') (N : NestAt w g0 s.heap a0 evs kps root way a plug rest mrest esF ks) (el : s.heap.PlainList ea (evl ++ [v0]).toArray) (r0 : Rh prog w Nil s.heap v0 (Ev.d ⟨way, kNest, .none⟩)) (kll : s.heap.PlainList ka kl.toArray)
    (k : ∀ h' tk evs' evl' kps' als' kl' root', Fm H0 e h' X True (lawEnv L) h' m → Kp (fun b => H0.get? b = none) s.heap h' → LSt w H0 h' x dx a0 ea ka da dvs (i + 1) evs' evl' kps' als' kl' root' → Q .next { s with heap := h', toks := tk }) :
    wpAny (model prog w) A (exec (turnS w 10) (lawEnv L)) Q E s := by
  obtain ⟨sh, sg, sd, st, so⟩ := s
  dsimp only at F hr la K0 D0 N el r0 kll k ⊢
  replace F := F.here
  dsimp only [turnS, lawFn, forBody, List.getElem?_cons_succ, List.getElem?_cons_zero, Option.getD_some]
  obtain ⟨b1, b2, b3, b4, ⟨tn, b5⟩, ⟨tc, b6⟩⟩ := id lm
  obtain ⟨nea, nka⟩ := S.nin N.fr
  walk_at "R"
  rw [decide_eq_true (rfl : Str.ofString "" = Str.ofString "")]
  walk_at "R"
  rw [decide_eq_true (show ((c : Int) > 2) by omega)]
  refine wpAny_truthy_bool ?_
  rw [if_pos (by decide : (BoolOp.And == BoolOp.And) = true)]
  have notY : ∀ b, b ∈ [da, dx] → ¬ Y0 g0 ea ka a0 root b := fun b hb hy => by
    obtain ⟨pa, px⟩ := S.apart
    have hb' : b ∉ [ea, ka] ++ (a0 :: root.fp) := by
      simp only [List.mem_cons, List.not_mem_nil, or_false] at hb
      rcases hb with rfl | rfl
      · exact pa
      · exact px
    rcases hy with q | q | q | q
    · exact hb' (by simp [q])
    · exact hb' (by simp [q])
    · exact hb' (List.mem_append_right _ q)
    · obtain ⟨o, ho⟩ := S.fpDom b (by simp only [List.mem_cons, List.not_mem_nil, or_false] at hb; rcases hb with rfl | rfl <;> simp)
      rw [ho] at q; cases q
  have D4 : ∀ b ∈ [da, dx, ea, ka], ∃ o, sh.get? b = some o ∧ ld o := fun b hb => by
    simp only [List.mem_cons, List.not_mem_nil, or_false] at hb
    rcases hb with rfl | rfl | rfl | rfl
    · exact isList_dom (K0.plain S.dl (notY _ (by simp))).isList
    · obtain ⟨tk, nn, ho⟩ := S.mach.own
      exact ⟨_, K0.keep _ _ ho (.inr (.inr ⟨.inr rfl, notY _ (by simp)⟩)), .inr rfl⟩
    · exact isList_dom el.isList
    · exact isList_dom kll.isList
  refine wpAny_execs_cons ?_
  refine stmt10a C hd hh hu hX F lm hc hi hk hr hwl hne hal la hav S hdom D0 N el r0 D4 ?_
  intro h₁ tk₁ ks1 rel newv F₁ k₁ Md
  dsimp only
  refine wpAny_execs_cons ?_
  refine stmt10b C hh hu hX F₁ lm hi hk (hr.imm k₁) hwl hkn hne S hdom K0 N k₁ Md (r0.kp k₁ fun _ q => q.elim) (k₁.plain kll fun q => q.elim (fun q => nka (by simp [q])) S.ka_ea) ?_
  intro h₂ tk₂ evs' evl' kps' als' kl' root' F₂ k₂ S₂
  dsimp only
  refine wpAny_execs_nil ?_
  have hHa : H0.get? a = none := by
    rcases N.fr a (by simp) with q | q
    · exact S.new a (by simpa using .inr (.inr (.inr (.inr (List.mem_cons.mp q)))))
    · cases hq : H0.get? a with
      | none => rfl
      | some o => obtain ⟨o', ho'⟩ := hdom a o hq; rw [ho'] at q; cases q
  exact k _ _ _ _ _ _ _ _ F₂ ((k₁.weaken fun b q => q.elim (fun q => q ▸ hHa) fun q => q ▸ S.new ea (by simp)).trans k₂) S₂
end
end PartB19
section PartB20
section
variable {w : World} {A : Around} {E : Value → Shared → Prop} {s : Shared} {H0 e g g0 hN : Heap} {mg mb : Str → Option Value} {X : Addr → Prop} {L : Addr} {m : Str → Option Value} {x dx a0 ea ka da : Addr} {n c q i D : Nat} {Q : Flow → Shared → Prop}
  {dvs : List Value} {evs : List Ev} {evl : List Value} {kps : List (Nat × Ev)} {als : List Addr} {kl : List Value} {root : Ks} {way : List Str} {a : Addr} {plug : Ks → Ks} {rest : List Addr} {mrest : List (Addr × List Nat)} {esF : Nat → List Ev} {ks : Ks} {last : Str} {v0 : Value}
set_option maxHeartbeats 4000000 in
theorem stmt0 (C : Cx w H0 mg mb) (hd : A.depth + 60 < recursionLimit) (hh : A.handled = none) (hu : A.units + 600 < cLine) (F : Fm H0 e g X True (lawEnv L) s.heap m) {tn td : Tok} (b1 : m (Str.ofString "machine") = some (.ref x)) (b2 : m (Str.ofString "events") = some (.ref ea)) (b3 : m (Str.ofString "kept") = some (.ref ka)) (b4 : m (Str.ofString "digits") = some (.ref da)) (b5 : m (Str.ofString "n") = some (.int (i : Nat) tn))
    (dl : s.heap.PlainList da dvs.toArray) (hdat : dvs[i]? = some (.int (D : Nat) td)) (hdz : dvs.length ≤ 60) (hD : D < 1089)
    (k : ∀ h' tk m' kv, Fm H0 e h' X True (lawEnv L) h' m' → Kp Nil s.heap h' → LM m' x ea ka da i (D % 9) → m' (Str.ofString "key") = some kv → Rd Nil h' kv (keyD (keyOf (D / 9))) → Q .next { s with heap := h', toks := tk }) :
    wpAny (model prog w) A (exec (turnS w 0) (lawEnv L)) Q E s := by
  obtain ⟨sh, sg, sd, st, so⟩ := s
  dsimp only at F dl k ⊢
  replace F := F.here
  dsimp only [turnS, lawFn, forBody, List.getElem?_cons_succ, List.getElem?_cons_zero, Option.getD_some]
  have hmod : (D : Int).fmod 9 = ((D % 9 : Nat) : Int) := by rw [Int.fmod_eq_emod_of_nonneg _ (by decide)]; rfl
  have hdiv : (D : Int).fdiv 9 = ((D / 9 : Nat) : Int) := by rw [Int.fdiv_eq_ediv_of_nonneg _ (by decide)]; rfl
  have lz : dvs.length ≤ sizeLine := by rw [sizeLine_eq]; omega
  walk_at "R"
  refine listAt dl.isList (by omega) (by simpa using hdat) lz ?_
  walk_at "R"
  rw [hmod]
  refine callFn (C.K _ _ rfl) rfl ?_
  walk_at "R"
  refine listAt dl.isList (by omega) (by simpa using hdat) lz ?_
  walk_at "R"
  rw [hdiv]
  refine ⟨F.vw.old, key_spec C F.vw.old (upn0 hd) hh (n := D / 9) (by omega) ?_⟩
  intro h₁ tk₁ kv S₁ hkv
  have F₁ := F.ext S₁
  walk_at "R"
  rename_i a₂ h₂ F₂ k₂ s₂ n₂ t₂
  refine unpackN F₂ t₂ hh rfl ?_
  intro h₃ F₃ k₃ s₃
  show wpAny _ _ (assignInOrder [bindName _ (Str.ofString "key"), bindName _ (Str.ofString "code")] [_, _]) _ _ _
  walk_at "R"
  rename_i h₄ F₄ h₅ F₅
  have kk : Kp Nil h₁ h₅ := k₂.trans (k₃.trans F₅.keepG)
  exact k _ _ _ kv F₅.here (S₁.kp.trans kk) ⟨b1, b2, b3, b4, ⟨_, b5⟩, ⟨_, rfl⟩⟩ rfl (hkv.imm kk)
theorem stmt11 (C : Cx w H0 mg mb) (hd : A.depth + 60 < recursionLimit) (hh : A.handled = none) (hu : A.units + 600 < cLine) (F : Fm H0 e g X True (lawEnv L) s.heap m) (b1 : m (Str.ofString "machine") = some (.ref x)) (b2 : m (Str.ofString "events") = some (.ref ea)) (hi : i ≤ 60) (S : LSt w H0 s.heap x dx a0 ea ka da dvs i evs evl kps als kl root)
    (k : ∀ h' tk, Fm H0 e h' X True (lawEnv L) h' m → Sub s.heap h' → Q .next { s with heap := h', toks := tk }) :
    wpAny (model prog w) A (exec (turnS w 11) (lawEnv L)) Q E s := by
  dsimp only [turnS, lawFn, forBody, List.getElem?_cons_succ, List.getElem?_cons_zero, Option.getD_some]
  refine wpAny_If ?_
  refine isTrue_not ?_
  refine isTrue_plain ?_
  refine sameTree C hd hh hu F b1 b2 S.mach (show MKn 0 root evs from S.tree.mkn 0) S.tree.dict S.tree.ok S.el S.er hi S.evg (by have := S.evn; omega) ?_
  intro h' tk F' S'
  walk_at "R"
  exact k _ _ F' S'
end
end PartB20
section PartB21
section
variable {w : World} {A : Around} {E : Value → Shared → Prop} {s : Shared} {H0 e g g0 hN : Heap} {mg mb : Str → Option Value} {X : Addr → Prop} {L : Addr} {m : Str → Option Value} {x dx a0 ea ka da : Addr} {n c q i D : Nat} {Q : Flow → Shared → Prop}
  {dvs : List Value} {evs : List Ev} {evl : List Value} {kps : List (Nat × Ev)} {als : List Addr} {kl : List Value} {root : Ks} {way : List Str} {a : Addr} {plug : Ks → Ks} {rest : List Addr} {mrest : List (Addr × List Nat)} {esF : Nat → List Ev} {ks : Ks} {last : Str} {v0 : Value}
theorem domG {h5 h : Heap} (G : Fm H0 (hideAll h5 ((lawEnv L).locals :: (lawEnv L).cells.map (·.2))) g X True (lawEnv L) h m) : ∀ b o, h5.get? b = some o → ∃ o', h.get? b = some o' := fun b o q => by
  by_cases hb : b ∈ ((lawEnv L).locals :: (lawEnv L).cells.map (·.2))
  · have hc : (lawEnv L).cells = [] := rfl
    rw [hc] at hb
    obtain ⟨ml, ⟨oL, es, ep, ho', hd', _⟩, _⟩ := G.vw.ns
    rw [List.mem_singleton.mp hb]
    exact ⟨oL, ho'⟩
  · exact G.domE b o (hide_keep q hb)
set_option maxHeartbeats 4000000 in
theorem law_turn (C : Cx w H0 mg mb) (hd : A.depth + 60 < recursionLimit) (hh : A.handled = none) (hu : A.units + 600 < cLine) (hfr : A.frames = some [lawEnv L]) (hX : ∀ a, H0.get? a = none → X a) (F : Fm H0 e g X True (lawEnv L) s.heap m) {tn td : Tok} (b1 : m (Str.ofString "machine") = some (.ref x)) (b2 : m (Str.ofString "events") = some (.ref ea)) (b3 : m (Str.ofString "kept") = some (.ref ka)) (b4 : m (Str.ofString "digits") = some (.ref da)) (b5 : m (Str.ofString "n") = some (.int (i : Nat) tn))
    (hdat : dvs[i]? = some (.int (D : Nat) td)) (hdz : dvs.length ≤ 60) (hD : D < 1089) (hi : i < 60) (S : LSt w H0 s.heap x dx a0 ea ka da dvs i evs evl kps als kl root)
    (k : ∀ h' tk m' evs' evl' kps' als' kl' root', Fm H0 e h' X True (lawEnv L) h' m' → Kp (fun b => H0.get? b = none) s.heap h' → m' (Str.ofString "machine") = some (.ref x) → m' (Str.ofString "events") = some (.ref ea) → m' (Str.ofString "kept") = some (.ref ka) → m' (Str.ofString "digits") = some (.ref da) → LSt w H0 h' x dx a0 ea ka da dvs (i + 1) evs' evl' kps' als' kl' root' → Q .next { s with heap := h', toks := tk }) :
    wpAny (model prog w) A (execs (forBody (lawFn w).1) (lawEnv L)) Q E s := by
  obtain ⟨sh, sg, sd, st, so⟩ := s
  dsimp only at F S k ⊢
  dsimp only [lawFn, forBody]
  have hz : evs.length ≤ 4000 := by have := S.evn; omega
  have hq : D / 9 ≤ 120 := by omega
  have okk := theKey_ok (D % 9) (D / 9) hq
  have okw : keyOk (theWay (D % 9) (theKey (D % 9) (D / 9))) := theWay_ok okk
  have hkl := theKey_len (D % 9) (D / 9) hq
  have hwl : (theWay (D % 9) (theKey (D % 9) (D / 9))).length ≤ 5 := by
    unfold theWay
    split
    · exact hkl
    · rw [List.length_take]; omega
  have hkn : ∀ k ∈ theKey (D % 9) (D / 9), nmOk i k := theKey_nm _ _
  have hwn : ∀ k ∈ theWay (D % 9) (theKey (D % 9) (D / 9)), nmOk i k := fun z hz => by
    unfold theWay at hz
    split at hz
    · exact hkn z hz
    · exact hkn z (List.mem_of_mem_take hz)
  refine wpAny_execs_cons ?_
  refine stmt0 C hd hh hu F b1 b2 b3 b4 b5 S.dl hdat hdz hD ?_
  intro h₁ tk₁ m₁ kv F₁ k₁ lm₁ hk₁ hr₁
  dsimp only
  refine wpAny_execs_cons ?_
  refine stmt1 C hh hu F₁ lm₁ hk₁ hr₁ hq ?_
  intro h₂ tk₂ m₂ kv₂ F₂ k₂ lm₂ hk₂ hr₂
  dsimp only
  refine wpAny_execs_cons ?_
  refine stmt2 C hh hu F₂ lm₂ hk₂ hr₂ okk ?_
  intro h₃ tk₃ m₃ wv F₃ k₃ lm₃ hk₃ hw₃ wr₃
  dsimp only
  refine wpAny_execs_cons ?_
  have S₃ := S.kp (k₁.trans (k₂.trans k₃))
  have hr₃ := hr₂.imm k₃
  refine stmt3 C hd hh hu F₃ lm₃ hk₃ hr₃ okk hw₃ wr₃ okw S₃.el S₃.er (i := i) (by omega) S.evg S.evk hz ?_
  intro h₄ tk₄ m₄ dt al avs F₄ k₄ lm₄ hk₄ hw₄ hdu₄ hal₄ la₄ ra₄ nal₄
  dsimp only
  refine wpAny_execs_cons ?_
  have hr₄ := hr₃.imm k₄
  have wr₄ := wr₃.imm k₄
  refine stmt4 C hh hu F₄ lm₄ hk₄ hr₄ okk hw₄ (i := i) (by omega) S.evg hz hdu₄ hal₄ la₄ ra₄ ?_
  intro h₅ tk₅ m₅ dt₅ F₅ k₅ lm₅ hk₅ hw₅ hdu₅ hal₅
  dsimp only
  refine wpAny_execs_cons ?_
  refine stmt5 hh F₅ lm₅ hk₅ hw₅ hdu₅ hal₅ ?_
  intro h₆ tk₆ m₆ ta tt F₆ k₆ lm₆ hk₆ hw₆ hdu₆ hal₆ htd₆ hne₆ lt₆ nta₆
  dsimp only
  have K46 := k₄.trans (k₅.trans k₆)
  have S₆ := S₃.kp K46
  have hr₆ := hr₄.imm (k₅.trans k₆)
  have wr₆ := wr₄.imm (k₅.trans k₆)
  have la₆ := (k₅.trans k₆).plain la₄ (fun q => q)
  have lav : avs.length = (aliveF evs (theKey (D % 9) (D / 9))).length := by rw [ra₄.length, List.length_map]
  have nal : al ∉ own da dx ea ka a0 root := fun hm => by
    obtain ⟨o, ho⟩ := S₃.fpDom al hm
    simp only [ho] at nal₄; cases nal₄
  have nta : ta ∉ own da dx ea ka a0 root := fun hm => by
    obtain ⟨o, ho⟩ := (S₃.kp (k₄.trans k₅)).fpDom ta hm
    simp only [ho] at nta₆; cases nta₆
  have K06 : Kp (fun b => H0.get? b = none) sh h₆ := (k₁.trans (k₂.trans (k₃.trans K46))).up0
  have hX' : ∀ a, H0.get? a = none → (fun a => X a ∨ Loose h₆ Nil a) a := fun a q => .inl (hX a q)
  have G₆ : Fm H0 (hideAll h₆ ((lawEnv L).locals :: (lawEnv L).cells.map (·.2))) h₆ (fun a => X a ∨ Loose h₆ Nil a) True (lawEnv L) h₆ m₆ := F₆.guard _
  have back : ∀ {h' : Heap} {m' : Str → Option Value}, Fm H0 (hideAll h₆ ((lawEnv L).locals :: (lawEnv L).cells.map (·.2))) h' (fun a => X a ∨ Loose h₆ Nil a) True (lawEnv L) h' m' → Fm H0 e h' X True (lawEnv L) h' m' := fun {h' m'} G' => Fm.unguard F₆ F₆ (by intro p hp; cases hp) (fun _ _ q _ => q.elim) G'
  have hdom : ∀ b o, H0.get? b = some o → ∃ o', h₆.get? b = some o' := fun b o q => ⟨o, F₆.vw.old b o q⟩
  have hrt : ∀ b ∈ a0 :: root.fp, H0.get? b = none := fun b hb => S.new b (by simpa using .inr (.inr (.inr (.inr (List.mem_cons.mp hb)))))
  have tailK : ∀ {h' : Heap} {tk' : Nat} {m' : Str → Option Value} {evs' : List Ev} {evl' : List Value} {kps' : List (Nat × Ev)} {als' : List Addr} {kl' : List Value} {root' : Ks}, Fm H0 (hideAll h₆ ((lawEnv L).locals :: (lawEnv L).cells.map (·.2))) h' (fun a => X a ∨ Loose h₆ Nil a) True (lawEnv L) h' m' → Kp (fun b => H0.get? b = none) h₆ h' → LM m' x ea ka da i (D % 9) → LSt w H0 h' x dx a0 ea ka da dvs (i + 1) evs' evl' kps' als' kl' root' →
      wpAny (model prog w) A (execs ((forBody (lawFn w).1).drop 11) (lawEnv L)) Q E ⟨h', sg, sd, tk', so⟩ := by
    intro h' tk' m' evs' evl' kps' als' kl' root' G' K' lm' S'
    dsimp only [lawFn, forBody, List.drop]
    refine wpAny_execs_cons ?_
    refine stmt11 C hd hh hu G' lm'.machine lm'.events (i := i + 1) (by omega) S' ?_
    intro h'' tk'' G'' S''
    dsimp only
    refine wpAny_execs_nil ?_
    exact k _ _ _ _ _ _ _ _ _ (back G'') (K06.trans (K'.trans S''.kp)) lm'.machine lm'.events lm'.kept lm'.digits (S'.kp S''.kp)
  have refK : ∀ {h' : Heap} {tk' : Nat} {m' : Str → Option Value} {tb : Addr} {t : Tok}, Fm H0 (hideAll h₆ ((lawEnv L).locals :: (lawEnv L).cells.map (·.2))) h' (fun a => X a ∨ Loose h₆ Nil a) True (lawEnv L) h' m' → LM m' x ea ka da i (D % 9) → m' (Str.ofString "due") = some (.str (theDue (D % 9) evs (theWay (D % 9) (theKey (D % 9) (D / 9))) (theKey (D % 9) (D / 9))) dt₅) → m' (Str.ofString "told") = some (.ref tb) → m' (Str.ofString "nest") = some .none → h'.PlainList tb (List.toArray [.str (theDue (D % 9) evs (theWay (D % 9) (theKey (D % 9) (D / 9))) (theKey (D % 9) (D / 9))) t]) → Kp Nil h₆ h' → theDue (D % 9) evs (theWay (D % 9) (theKey (D % 9) (D / 9))) (theKey (D % 9) (D / 9)) ≠ Str.ofString "" →
      wpAny (model prog w) A (execs ((forBody (lawFn w).1).drop 7) (lawEnv L)) Q E ⟨h', sg, sd, tk', so⟩ := by
    intro h' tk' m' tb t G' lm' hdu' htd' hne' lt' K' hdue
    dsimp only [lawFn, forBody, List.drop]
    refine wpAny_execs_cons ?_
    refine stmt7 C hh hu G' lm' (theDue_ok _ _ _ _) hdu' htd' hne' (fun _ => rfl) lt' ?_
    intro h'' tk'' G'' K''
    dsimp only
    refine wpAny_execs_cons ?_
    refine skip8 G'' hdu' hdue ?_
    intro tk8
    dsimp only
    refine wpAny_execs_cons ?_
    refine skip9 G'' hdu' hdue ?_
    intro tk9
    dsimp only
    refine wpAny_execs_cons ?_
    refine skip10 G'' hdu' hdue ?_
    intro tk10
    dsimp only
    exact tailK G'' (K'.trans K'').up0 lm' (S₆.kp (K'.trans K'')).succ
  have hsn : ¬ (D % 9 = 1 ∨ D % 9 = 2) → ∃ last, theKey (D % 9) (D / 9) = theWay (D % 9) (theKey (D % 9) (D / 9)) ++ [last] := fun q => theWay_snoc q (theKey_ne _ _ q)
  have hc9 : D % 9 < 9 := Nat.mod_lt _ (by decide)
  clear F S k F₁ F₂ F₃ F₄ F₅ lm₁ lm₂ lm₃ lm₄ lm₅ hr₁ hr₂ hr₃ hr₄ wr₃ wr₄ ra₄ hk₁ hk₂ hk₃ hk₄ hw₃ hw₄ hdu₄ hk₅ hw₅ hdu₅
  generalize theWay (D % 9) (theKey (D % 9) (D / 9)) = way at *
  generalize theKey (D % 9) (D / 9) = key at *
  generalize D % 9 = c at *
  refine wpAny_execs_cons ?_
  by_cases h0 : c = 0
  · subst h0
    obtain ⟨last, rfl⟩ := hsn (by omega)
    refine stmt6a C hd hh hu hfr hX' G₆ lm₆ hk₆ hr₆ okk hw₆ S₆ hz hdu₆ htd₆ hne₆ lt₆ nta ?_ ?_
    rotate_left
    · intro h₇ tk₇ m₇ tb t G₇ lm₇ hk₇ hw₇ hdu₇ htd₇ hne₇ lt₇ K₇ hdue
      exact refK G₇ lm₇ hdu₇ htd₇ hne₇ lt₇ K₇ hdue
    intro h₇ tk₇ m₇ root' G₇ lm₇ hk₇ hw₇ hdu₇ htd₇ hne₇ lt₇ T₇ gr K₇ hdue
    dsimp only
    rw [hdue] at hdu₇
    refine wpAny_execs_cons ?_
    refine stmt7 C hh hu G₇ lm₇ (d := Str.ofString "") (by decide +kernel) hdu₇ htd₇ hne₇ (fun _ => rfl) lt₇ ?_
    intro h₈ tk₈ G₈ K₈
    dsimp only
    have nin := S₆.nin (l := a0 :: root.fp) (fun b hb => .inl hb)
    have K68 : Kp (fun b => b ∈ a0 :: root.fp) h₆ h₈ := K₇.trans K₈.up0
    have el₈ := K68.plain S₆.el nin.1
    refine wpAny_execs_cons ?_
    refine stmt8 C hX' G₈ lm₇ hk₇ (hr₆.imm K68) hw₇ (wr₆.imm K68) hdu₇ el₈ (S₆.new ea (by simp)) (by rw [S₆.er.length, List.length_map]; exact hz) ?_
    intro h₉ tk₉ v G₉ K₉ l₉ r₉
    rw [if_pos rfl] at r₉
    dsimp only
    refine wpAny_execs_cons ?_
    refine skip9c hu G₉ lm₇ hdu₇ (by omega) ?_
    intro h₁₀ tk₁₀ G₁₀ K₁₀
    dsimp only
    refine wpAny_execs_cons ?_
    refine skip10c G₁₀ lm₇ hdu₇ (by omega) ?_
    intro tk₁₁
    dsimp only
    have K710 : Kp (fun b => b = ea) h₇ h₁₀ := K₈.up0.trans (K₉.trans K₁₀.up0)
    have K910 : Kp (fun b => b = ea) h₉ h₁₀ := K₁₀.up0
    have KK : Kp (fun b => b ∈ a0 :: root.fp ∨ b = ea) h₆ h₁₀ := (K₇.weaken fun _ q => .inl q).trans (K710.weaken fun _ q => .inr q)
    have frt : ∀ b ∈ a0 :: root'.fp, b ∈ a0 :: root.fp ∨ h₆.get? b = none := fun b hb => by
      rcases List.mem_cons.mp hb with rfl | hb
      · exact .inl (.head _)
      · exact gr.fr b hb
    have nin' := S₆.nin frt
    rw [evF_append S₆.pos] at T₇
    have hda : ∀ b ∈ als, h₆.get? b ≠ none := fun b hb q => by
      obtain ⟨o, ho⟩ := S₆.fpDom b (by simpa using .inr (.inr (.inr (.inr (.inr (S₆.alsDom b hb))))))
      rw [ho] at q; cases q
    refine tailK G₁₀ (KK.weaken fun b q => q.elim (hrt b) fun q => q ▸ S₆.new ea (by simp)) lm₇ (S₆.next hdom KK (fun b q => q.elim (fun q => .inr (.inr (.inl q))) .inl) (T₇.kp K710 fun b hb q => nin'.1 (q ▸ hb)) gr.fr (K₁₀.plain l₉ (fun q => q)) (.cons ((r₉.kp K910 fun _ q => q.elim).mono fun _ q => q.elim) .nil) ?_ (by simp) (KK.plain S₆.kll fun q => q.elim nin.2 S₆.ka_ea) ((S₆.kr.kp KK).mono (Nat.le_succ _) (by rw [List.length_append]; omega)) (S₆.mki.grown gr hda))
    intro z hz'
    rw [List.mem_singleton.mp hz']
    exact ⟨⟨by show (way ++ [last]).length ≤ 7; omega, fun q hq => (hkn q hq).mono (Nat.le_succ _), .inr (.inl ⟨rfl, rfl⟩)⟩, (by decide : kMore ≠ kMark)⟩
  · refine stmt6g C hd hh hu hfr hX' G₆ lm₆ h0 hk₆ hw₆ wr₆ okw S₆ hz hdu₆ hal₆ htd₆ hne₆ lt₆ nta ?_ ?_
    rotate_left
    · intro h₇ tk₇ m₇ tb t G₇ lm₇ hk₇ hw₇ hdu₇ hal₇ htd₇ hne₇ lt₇ K₇ hdue
      exact refK G₇ lm₇ hdu₇ htd₇ hne₇ lt₇ K₇ hdue
    intro h₇ tk₇ m₇ a plug rest mrest esF ks G₇ lm₇ hk₇ hw₇ hdu₇ hal₇ htd₇ hne₇ lt₇ J K₇ hdue
    dsimp only
    rw [hdue] at hdu₇
    refine wpAny_execs_cons ?_
    refine stmt7 C hh hu G₇ lm₇ (d := Str.ofString "") (by decide +kernel) hdu₇ htd₇ hne₇ (fun q => absurd q h0) lt₇ ?_
    intro h₈ tk₈ G₈ K₈
    dsimp only
    have nin := S₆.nin (l := a0 :: root.fp) (fun b hb => .inl hb)
    have K68 : Kp (fun b => b ∈ a0 :: root.fp) h₆ h₈ := K₇.trans K₈.up0
    have el₈ := K68.plain S₆.el nin.1
    refine wpAny_execs_cons ?_
    refine stmt8 C hX' G₈ lm₇ hk₇ (hr₆.imm K68) hw₇ (wr₆.imm K68) hdu₇ el₈ (S₆.new ea (by simp)) (by rw [S₆.er.length, List.length_map]; exact hz) ?_
    intro h₉ tk₉ v G₉ K₉ l₉ r₉
    rw [if_neg h0] at r₉
    dsimp only
    have Jat := J.at_
    have Jes := J.es
    rw [List.take_length] at Jat Jes
    have N₇ : NestAt w h₆ h₇ a0 evs kps root way a plug rest mrest esF ks := ⟨Jat, Jes, J.fr, J.mks⟩
    have ninr := S₆.nin N₇.fr
    have N₉ := (N₇.kp K₈ (fun _ _ q => q)).kp K₉ (fun b hb q => ninr.1 (q ▸ hb))
    have K69 : Kp (fun b => b ∈ a0 :: root.fp ∨ b = ea) h₆ h₉ := (K68.weaken fun _ q => .inl q).trans (K₉.weaken fun _ q => .inr q)
    have K0 : Kp (Y0 h₆ ea ka a0 root) h₆ h₉ := K69.weaken fun b q => q.elim (fun q => .inr (.inr (.inl q))) .inl
    have KF : Kp (fun b => H0.get? b = none) h₆ h₉ := K69.weaken fun b q => q.elim (hrt b) fun q => q ▸ S₆.new ea (by simp)
    have kll₉ := K69.plain S₆.kll fun q => q.elim nin.2 S₆.ka_ea
    refine wpAny_execs_cons ?_
    by_cases hc : c = 1 ∨ c = 2
    · refine stmt9 C hu hX' G₉ lm₇ hc hi hw₇ (wr₆.imm K69) hwl hwn hdu₇ hne₇ S₆ hdom K0 N₉ l₉ r₉ kll₉ ?_
      intro h₁₀ tk₁₀ evs' evl' kps' als' kl' root' G₁₀ K₁₀ S'
      dsimp only
      refine wpAny_execs_cons ?_
      refine skip10c G₁₀ lm₇ hdu₇ (by omega) ?_
      intro tk₁₁
      dsimp only
      exact tailK G₁₀ (KF.trans K₁₀) lm₇ S'
    · obtain ⟨last, rfl⟩ := hsn hc
      refine skip9c hu G₉ lm₇ hdu₇ hc ?_
      intro h₁₀ tk₁₀ G₁₀ K₁₀
      dsimp only
      refine wpAny_execs_cons ?_
      have ala : al ∉ a0 :: root.fp := fun q => nal (by simpa using .inr (.inr (.inr (.inr (List.mem_cons.mp q)))))
      have ale : ¬ al = ea := fun q => nal (by simp [q])
      refine stmt10 C hd hh hu hX' G₁₀ lm₇ ⟨by omega, by omega⟩ hi hk₇ ((hr₆.imm K69).imm K₁₀) hwl hkn hdu₇ hne₇ hal₇ (K₁₀.plain (K69.plain la₆ fun q => q.elim ala ale) (fun q => q)) lav S₆ hdom (K0.trans K₁₀.up0) (domG G₁₀) (N₉.kp K₁₀ (fun _ _ q => q)) (K₁₀.plain l₉ (fun q => q)) (r₉.kp K₁₀ (fun _ _ q => q)) (K₁₀.plain kll₉ (fun q => q)) ?_
      intro h₁₁ tk₁₁ evs' evl' kps' als' kl' root' G₁₁ K₁₁ S'
      dsimp only
      exact tailK G₁₁ (KF.trans (K₁₀.up0.trans K₁₁)) lm₇ S'
end
end PartB21
section PartB22
theorem callCls0 {w : World} {A : Around} {E : Value → Shared → Prop} {s : Shared} {H0 : Heap} {mg mb : Str → Option Value} {env : Env} (C : Cx w H0 mg mb) (hH : Sub H0 s.heap) {pos : Pos} {Q : Value → Shared → Prop} (h : wpAny (model prog w) A (call (.ref 46) []) Q E s) :
    wpAny (model prog w) A (callWith pos (.ref 46) [] (backTo pos (starEach [] env)) []) Q E s :=
  callWith_of (P := fun h => (KK w).In h) rfl (keeps_K (by rfl)) (PyProof.Rows.evalArgs_none ⟨C.K.keeps hH, h⟩)
set_option maxHeartbeats 4000000 in
theorem law_walk {w : World} {A : Around} {s : Shared} {mg mb : Str → Option Value} (C : Cx w s.heap mg mb) (hd : A.depth + 100 < recursionLimit) (hh : A.handled = none) (hu : A.units + 1000 < cLine) (hfr : A.frames = some []) {sa : Addr} {vs : List Value} {ns : List Int} (hl : s.heap.IsList sa vs.toArray) (hi : Ints vs ns) (hz : vs.length ≤ 63) {R : Result → Shared → Prop}
   (hq : ∀ h' tk', Sub s.heap h' → R (.ok (.ret (.bool true))) { s with heap := h', toks := tk' }) : codeAny (model prog w) A (.call (.ref 103) ⟨[.ref sa], []⟩) R s := by
  have zl : (10000 : Nat) ≤ sizeLine := by rw [sizeLine_eq]; omega
  have St0 : Stack A s.heap [] := ⟨hfr, trivial⟩
  refine enterC (X := Nil) (binds := [(Str.ofString "script", .ref sa)]) (.refl _) (by omega) (C.K _ _ rfl) C.G.lim (codeRec_of C.K rfl) (BindsTo.of_eq rfl) rfl ?_
  intro L h₁ tk₁ F
  walk_at "R"
  refine callCls0 C F.vw.old ?_
  refine init_spec C F.vw.old (dpt hd (by decide)) (by exact hh) (unt hu (by decide)) ?_
  intro h₂ tk₂ x dx a0 S₂ M₂ d₂ nx ndx na0 hne
  obtain ⟨F₂, k₂⟩ := F.called S₂.tch (Y := Nil) (fun _ _ q => q.elim) (fun _ q => q.elim)
  walk_at "R"
  rename_i ea h₃ F₃ k₃ s₃ n₃ l₃ ka h₄ F₄ k₄ s₄ n₄ l₄ at₅ h₅ F₅ k₅ s₅ n₅ t₅
  refine unpackN F₅ t₅ (by exact hh) rfl ?_
  intro h₆ F₆ k₆ s₆
  show wpAny _ _ (assignInOrder [bindName _ (Str.ofString "kept"), bindName _ (Str.ofString "events"), bindName _ (Str.ofString "machine")] [_, _, _]) _ _ _
  walk_at "R"
  rename_i h₇ F₇ h₈ F₈ h₉ F₉
  refine callFn (C.K _ _ rfl) rfl ?_
  walk_at "R"
  refine ⟨F₉.vw.old, digits_spec C F₉.vw.old (dpt0 hd (by decide)) (by exact hh) (unt hu (by decide)) ((F.keepG.trans (k₂.trans (k₃.trans (k₄.trans (k₅.trans (k₆.trans F₉.keepG)))))).list hl (fun x => x)) hi hz ?_⟩
  intro h₁₀ tk₁₀ da dvs S₁₀ nda dl dg dz
  have F₁₀ := F₉.ext S₁₀
  walk_at "R"
  rename_i h₁₁ F₁₁
  refine lenList (F₁₁.keepG.plain dl (fun x => x)).isList (by omega) ?_
  intro t₁₁ tk₁₁
  walk_at "R"
  rename_i rg h₁₂ tk₁₂ t1 t2 t3 F₁₂ k₁₂ s₁₂ rr
  have K4 : Kp Nil h₄ h₉ := k₅.trans (k₆.trans F₉.keepG)
  have K3 := k₄.trans K4
  have K2 := k₃.trans K3
  have K9 : Kp Nil h₉ h₁₂ := S₁₀.kp.trans k₁₂
  have M9 := M₂.kp K2 (fun q => q)
  have D9 := d₂.kp K2 (fun q => q)
  have l3 := K3.plain l₃ (fun q => q)
  have l4 := K4.plain l₄ (fun q => q)
  have apart : ∀ {b c : Addr} {h : Heap}, (∃ o, h.get? b = some o) → h.get? c = none → c ≠ b := fun ⟨o, q⟩ n z => by subst z; rw [q] at n; cases n
  have dx2 : ∃ o, h₂.get? dx = some o := by obtain ⟨_, _, o⟩ := M₂.own; exact ⟨_, o⟩
  have a02 : ∃ o, h₂.get? a0 = some o := by obtain ⟨o, ho, _⟩ := d₂.dom; exact ⟨o, ho⟩
  have dx9 : ∃ o, h₉.get? dx = some o := by obtain ⟨_, _, o⟩ := M9.own; exact ⟨_, o⟩
  have a09 : ∃ o, h₉.get? a0 = some o := by obtain ⟨o, ho, _⟩ := D9.dom; exact ⟨o, ho⟩
  have ea3 : ∃ o, h₃.get? ea = some o := by obtain ⟨o, ho, _⟩ := isList_dom l₃.isList; exact ⟨o, ho⟩
  have ea9 : ∃ o, h₉.get? ea = some o := by obtain ⟨o, ho, _⟩ := isList_dom l3.isList; exact ⟨o, ho⟩
  have ka9 : ∃ o, h₉.get? ka = some o := by obtain ⟨o, ho, _⟩ := isList_dom l4.isList; exact ⟨o, ho⟩
  have up3 : ∀ {b : Addr}, (∃ o, h₂.get? b = some o) → ∃ o, h₃.get? b = some o := fun ⟨o, q⟩ => ⟨o, s₃ _ _ q⟩
  have S0 : LSt w s.heap h₁₂ x dx a0 ea ka da dvs 0 [] [] [] [] [] .nil := by
    refine ⟨M9.kp K9 (fun q => q), k₁₂.plain dl (fun q => q), K9.plain l3 (fun q => q), .nil, K9.plain l4 (fun q => q), ⟨rfl, rfl, Nat.le_refl _, fun j p hp => by simp at hp⟩, ⟨fun B => ?_, D9.kp K9 (fun q => q), trivial, by simp [Ks.fp]⟩, ?_, ?_, (fun v hv => (nomatch hv)), (fun v hv => (nomatch hv)), Nat.le_refl _, ⟨(fun p hp => (nomatch hp)), (fun a ha => (nomatch ha))⟩⟩
    · have : evF [] [] B = [] := by unfold evF; rw [List.take_nil]; rfl
      rw [this]; exact .nil
    · simp only [own, Ks.fp, List.nodup_cons, List.mem_cons, List.not_mem_nil, or_false, not_or, not_false_eq_true, List.nodup_nil, and_true]
      exact ⟨⟨apart dx9 nda, apart ea9 nda, apart ka9 nda, apart a09 nda⟩, ⟨(apart dx2 n₃).symm, (apart (up3 dx2) n₄).symm, hne.symm⟩, ⟨(apart ea3 n₄).symm, apart a02 n₃⟩, apart (up3 a02) n₄⟩
    · intro b hb
      simp only [own, Ks.fp, List.mem_cons, List.not_mem_nil, or_false] at hb
      rcases hb with rfl | rfl | rfl | rfl | rfl
      · exact F₉.newE (fun a o q => ⟨o, q⟩) nda
      · exact F.newE (fun a o q => ⟨o, q⟩) ndx
      · exact F₂.newE (fun a o q => ⟨o, q⟩) n₃
      · exact F₃.newE (fun a o q => ⟨o, q⟩) n₄
      · exact F.newE (fun a o q => ⟨o, q⟩) na0
  refine forRange (fun a => s.heap.get? a = none) (fun i g m => m (Str.ofString "machine") = some (.ref x) ∧ m (Str.ofString "events") = some (.ref ea) ∧ m (Str.ofString "kept") = some (.ref ka) ∧ m (Str.ofString "digits") = some (.ref da) ∧ ∃ evs evl kps als kl root, LSt w s.heap g x dx a0 ea ka da dvs i evs evl kps als kl root)
    (a := ((0 : Nat) : Int)) (n := dvs.length) (by exact rr) (smallUp _ 0 (by omega) (by decide)) (by simpa using sizeUp dvs.length 0) F₁₂ (fun a o q e => by rw [q] at e; cases e) ⟨rfl, rfl, rfl, rfl, _, _, _, _, _, _, S0⟩ (by rintro i g g' m ⟨j1, j2, j3, j4, evs, evl, kps, als, kl, root, S⟩ k; exact ⟨j1, j2, j3, j4, evs, evl, kps, als, kl, root, S.kp k⟩) ?_ ?_ (by exact hh) .leaving (cellsOkQ (by decide))
  · rintro i v tk e' g₁ h₁₃ m₁ tk₁₃ hi13 hv13 k₁₃ ⟨j1, j2, j3, j4, evs, evl, kps, als, kl, root, S⟩ F₁₃ hee
    obtain rfl : v = (i : Int) := by omega
    obtain ⟨dd, td, hdv, hd0, hd1⟩ := dg _ (List.getElem_mem hi13)
    obtain ⟨D, rfl⟩ := Int.eq_ofNat_of_zero_le hd0
    have hdat : dvs[i]? = some (.int (D : Int) td) := by rw [List.getElem?_eq_getElem hi13, hdv]
    unfold TurnP
    iterate 2 (walk_at "S"; try dsimp only)
    rename_i h₁₄ F₁₄
    refine law_turn C (dpt hd (by decide)) (by exact hh) (unt hu (by decide)) (Around.frames_deeper hfr) (fun a q => .inr (.inr q)) F₁₄ j1 j2 j3 j4 rfl hdat dz (by omega) (by omega) (S.kp F₁₄.keepG) ?_
    intro h₁₅ tk₁₅ m₁₅ evs' evl' kps' als' kl' root' F₁₅ K₁₅ c1 c2 c3 c4 S'
    exact ⟨_, _, h₁₅, m₁₅, rfl, F₁₅, F₁₄.keepG.up0.trans (K₁₅.weaken fun b q => .inr q), c1, c2, c3, c4, evs', evl', kps', als', kl', root', S'⟩
  · rintro g₁ h₁₃ m₁ tk₁₃ k₁₃ ⟨j1, j2, j3, j4, evs, evl, kps, als, kl, root, S⟩ F₁₃
    have S1 := (S.kp F₁₃.keepG).mst dz
    walk_at "R"
    have hkl : kl.length = kps.length := S1.kr.len1
    have hk60 := S1.few
    have hkl' : kl.length ≤ sizeLine := by omega
    refine lenList S1.kll.isList hkl' ?_
    intro t₁₄ tk₁₄
    walk_at "R"
    rename_i rg₁₅ h₁₅ tk₁₅ t1₁₅ t2₁₅ t3₁₅ F₁₅ k₁₅ s₁₅ rr₁₅
    have S2 := S1.kp (s₁₅.kp (X := Nil))
    refine forRange (fun a => s.heap.get? a = none) (fun kk g m => m (Str.ofString "machine") = some (.ref x) ∧ m (Str.ofString "events") = some (.ref ea) ∧ m (Str.ofString "kept") = some (.ref ka) ∧ MSt w s.heap g x dx a0 ea ka da dvs.length kk kps.length evs evl kps als kl root)
      (a := ((0 : Nat) : Int)) (n := kl.length) (by exact rr₁₅) (smallUp _ 0 (by omega) (by decide)) (by simpa using sizeUp kl.length 0) F₁₅ (fun a o q e => by rw [q] at e; cases e) ⟨j1, j2, j3, S2⟩ (by rintro i g g' m ⟨j1, j2, j3, S⟩ k; exact ⟨j1, j2, j3, S.kp k⟩) ?_ ?_ (by exact hh) .leaving (cellsOkQ (by decide))
    · rintro kk v tk e' g₂ h₁₆ m₂ tk₁₆ hk16 hv16 k₁₆ ⟨c1, c2, c3, S3⟩ F₁₆ hee
      obtain rfl : v = (kk : Int) := by omega
      have hkk : kk < kps.length := by omega
      obtain ⟨p1, p2, p3, p4, ta, ptk, kv, al, q1, q2, q3, q4⟩ := S3.kr.at_ kk _ (List.getElem?_eq_getElem hkk)
      unfold TurnP
      walk_at "R"
      rename_i h₁₇ F₁₇
      have K17 : Kp Nil g₂ h₁₇ := F₁₇.keepG
      have S4 := S3.kp K17
      obtain ⟨hfp, xs, hx, hxz⟩ := S4.list (List.mem_of_getElem? q4)
      have hn : s.heap.get? al = none := S4.new al (by simpa using .inr (.inr (.inr (.inr (.inr hfp)))))
      refine listAt S4.kll.isList (by omega) (by simpa using q1) hkl' ?_
      walk_at "R"
      refine item_tupleT (K17.tup q2) (by decide) (by decide) (j := 2) rfl rfl ?_
      refine methList PySem.F.slot_list_append PySem.F.type_list_append hx ?_
      walk_at "R"
      refine appendL F₁₇ hx (fun _ _ => .inr (.inr hn)) hn (by omega) ?_
      intro h₁₈ F₁₈ k₁₈ l₁₈
      walk_at "R"
      exact ⟨_, _, _, _, rfl, F₁₈, K17.up0.trans (k₁₈.weaken fun b q => .inr (q ▸ hn)), c1, c2, c3, S4.lay q4 hx k₁₈ l₁₈⟩
    · rintro g₂ h₁₆ m₂ tk₁₆ k₁₆ ⟨c1, c2, c3, S3⟩ F₁₆
      walk_at "R"
      refine lenList (S3.kp F₁₆.keepG).kll.isList hkl' ?_
      intro t₁₇ tk₁₇
      walk_at "R"
      refine range3 F₁₆ (by decide) (PyProof.noPylong_small (by decide)) ?_
      intro rg h₁₇ tk₁₇' t1₁₇ t2₁₇ t3₁₇ F₁₇ k₁₇ s₁₇ rr₁₇
      have Kx : Kp Nil g₂ h₁₇ := k₁₇
      have S4 : MSt w s.heap h₁₇ x dx a0 ea ka da dvs.length kl.length kps.length evs evl kps als kl root := S3.kp Kx
      have hn1 : s.heap.get? ea = none := S4.new ea (by simp)
      refine forRange (fun a => s.heap.get? a = none) (fun jj g m => m (Str.ofString "machine") = some (.ref x) ∧ m (Str.ofString "events") = some (.ref ea) ∧ m (Str.ofString "kept") = some (.ref ka) ∧ ∃ evl', MSt w s.heap g x dx a0 ea ka da dvs.length kl.length (kps.length - jj) evs evl' kps als kl root)
        (n := kl.length) rr₁₇ (small_down (by omega) (by omega) (by omega) (by omega)) (by rw [rangeSize_downNat]; omega) F₁₇ (fun a o q e => by rw [q] at e; cases e) ⟨c1, c2, c3, evl, S4⟩ (by rintro i g g' m ⟨j1, j2, j3, evl', S⟩ k; exact ⟨j1, j2, j3, evl', S.kp k⟩) ?_ ?_ (by exact hh) .leaving (cellsOkQ (by decide))
      · rintro jj v tk e' g₃ h₁₈ m₃ tk₁₈ hj18 hv18 k₁₈ ⟨d1, d2, d3, evl', S5⟩ F₁₈ hee
        obtain ⟨kk, hkk, rfl⟩ : ∃ kk : Nat, kps.length - jj = kk + 1 ∧ v = (kk : Int) := ⟨kps.length - jj - 1, by omega, by omega⟩
        have hkk' : kps.length - (jj + 1) = kk := by omega
        rw [hkk] at S5
        have hlt : kk < kps.length := by omega
        obtain ⟨p1, p2, p3, p4, ta, ptk, kv, al, q1, q2, q3, q4⟩ := S5.kr.at_ kk _ (List.getElem?_eq_getElem hlt)
        unfold TurnP
        walk_at "R"
        rename_i h₁₉ F₁₉
        have K19 : Kp Nil g₃ h₁₉ := F₁₉.keepG
        have S6 := S5.kp K19
        refine methList PySem.F.slot_list_insert PySem.F.type_list_insert S6.el ?_
        walk_at "R"
        refine listAt S6.kll.isList (by omega) (by simpa using q1) hkl' ?_
        walk_at "R"
        refine item_tupleT (K19.tup q2) (by decide) (by decide) (j := 0) rfl rfl ?_
        walk_at "R"
        refine listAt S6.kll.isList (by omega) (by simpa using q1) hkl' ?_
        walk_at "R"
        refine item_tupleT (K19.tup q2) (by decide) (by decide) (j := 1) rfl rfl ?_
        walk_at "R"
        rename_i a₂₀ h₂₀ F₂₀ k₂₀ s₂₀ n₂₀ t₂₀
        have hlen : evl'.length = evs.length + (kps.drop (kk + 1)).length := by rw [S6.er.length, List.length_map, Gh_length]
        have hev := S6.evn
        have hdl : (kps.drop (kk + 1)).length ≤ 60 := by rw [List.length_drop]; omega
        have S7 := S5.kp k₂₀
        refine insertL F₂₀ S7.el (fun _ _ => .inr (.inr hn1)) hn1 (by omega) (by omega) ?_
        intro h₂₁ F₂₁ k₂₁ l₂₁
        walk_at "R"
        refine ⟨_, _, _, _, rfl, F₂₁, k₂₀.up0.trans (k₂₁.weaken fun b q => .inr (q ▸ hn1)), d1, d2, d3, evl'.take kps[kk].1 ++ .ref a₂₀ :: evl'.drop kps[kk].1, ?_⟩
        rw [hkk']
        refine S7.note (List.getElem?_eq_getElem hlt) k₂₁ l₂₁ ?_
        have e1 : Ev.d kps[kk].2 = .tuple [keyD kps[kk].2.key, .str kMark, .int (kk : Nat)] := by unfold Ev.d; rw [p3, p4]
        rw [e1]
        exact Rh.tupOf (k₂₁.tup t₂₀) (.cons (Rd.keyH (N := Nil) (q3.imm (k₂₀.up0.trans k₂₁))) (.cons (.str _ _) (.cons (.int _ _) .nil)))
      · rintro g₃ h₁₈ m₃ tk₁₈ k₁₈ ⟨d1, d2, d3, evl', S5⟩ F₁₈
        have S6 := S5.kp F₁₈.keepG
        rw [show kps.length - kl.length = 0 by omega] at S6
        have hgood := S6.good (l := kps) (fun p hp => hp) hk60
        refine wpAny_execs_cons ?_
        refine wpAny_Return_some ?_
        refine sameTree C (dpt hd (by decide)) (by exact hh) (unt hu (by decide)) F₁₈ d1 d2 (B := kl.length) (i := dvs.length) (evs := Gh evs kps) S6.mach (by have := S6.mkn kl.length; rw [hkl, evF_all] at this; rw [hkl]; exact this) S6.dict S6.ok S6.el S6.er dz hgood.all hgood.len ?_
        intro h₁₉ tk₁₉ F₁₉ S₁₉
        exact hq _ _ F₁₉.sub
end PartB22
section PartHL
noncomputable def LawOk (w : World) : Prop := ∀ {s : Shared} {mg mb : Str → Option Value} (C : Cx w s.heap mg mb) {sa : Addr} {vs : List Value} {ns : List Int} (hl : s.heap.IsList sa vs.toArray) (hi : Ints vs ns) (hz : vs.length ≤ 63) {R : Result → Shared → Prop}
   (hq : ∀ h' tk', Sub s.heap h' → R (.ok (.ret (.bool true))) { s with heap := h', toks := tk' }), codeAny (model prog w) callerA (.call (.ref 103) ⟨[.ref sa], []⟩) R s
theorem IntsAre.ints {vs : List Value} {ns : List Int} (h : IntsAre vs ns) : Ints vs ns := by
  induction h with
  | nil => exact .nil
  | cons _ _ _ ih => exact .cons ih
set_option maxRecDepth 100000 in
set_option maxHeartbeats 8000000 in
theorem top_of (law : ∀ w, LawOk w) : PySem.Challenge.rw_kp0041_02.Holds := by
  refine hdH ⟨_, _, ⟨rfl, rfl, rfl⟩, ?_⟩
  intro w s₀ s₁ mg mb G Y fa o pm cd doc dV kV ho hd hcd hD hmg hg args vals as hpre hlay hrd hwl hlo
  have KX := kIn_of Y
  have X := (Ground.X G).1
  have V := (Ground.X G).2
  refine Ground.open G ?_
  intro T B D TE TW
  have C : Cx w s₁.heap mg mb := ⟨KX, ⟨T.g, T.b, T.nolimit⟩, T.builtins⟩
  have e := C.fn (n := Str.ofString "law") (v := .ref 103) (by with_unfolding_all rfl)
  have hfa : fa = 103 := by
    have := e.symm.trans hmg
    cases this; rfl
  subst hfa
  wrow_args hpre hlay hrd hwl hlo
  refine enter_call ?_
  refine codeAny_mono ?_ (fun _ _ g => GoodW.toG g)
  rename_i ns _ _ _ _ _ _ _ l vs _ hL _ _ _ hI _ hc _
  refine law w C hL (IntsAre.ints hI) (by have := hI.length; omega) ?_
  intro h' tk' S
  refine ⟨.inl ⟨.bool true, _, [], rfl, fun _ => rfl, .bool true, ?_, fun _ => ⟨.nil, fun _ h => nomatch h⟩⟩, S, rfl, hg⟩
  kernel_rfl
end PartHL
end Mine
theorem PySem.Challenge.cw_kp0041_02_holds : PySem.Challenge.rw_kp0041_02.Holds := by
  refine Mine.top_of fun w => ?_
  intro s mg mb C sa vs ns hl hi hz R hq
  exact Mine.law_walk C (by decide) rfl (by decide) rfl hl hi hz hq
