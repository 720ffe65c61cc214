import PyProof.Rows.All
import Wide.All
import OpenK.AllK
import Wide.FinOn
import PySem.Challenge.RW_aq6007_01
set_option Elab.async false

section
open PySem PySem.W PyProof.Rows
set_option maxRecDepth 100000
set_option maxHeartbeats 8000000
open_top hd for PySem.Challenge.rw_aq6007_01
end

section
open PySem PySem.W PySem.Calls PyProof.Rows
set_option Elab.async false
namespace Mine

/-- what the law's walk must end in: it gives back True, the laid-aside heap is kept, the tables have only grown -/
def Done (tabs : List (Addr × Addr)) (s₁ : Shared) (r : Result) (s' : Shared) : Prop :=
  r = .ok (.ret (.bool true)) ∧ (∀ b o, (ghostOf s₁.heap tabs).get? b = some o → s'.heap.get? b = some o) ∧ GrownAll tabs s'.heap ∧ s'.os = s₁.os ∧ AllBare s'.gens

theorem post_of {M : Model} {A : Around} {cd : Code} {s s₁ : Shared} {cw : ClaimW} {cl : Str → Option Addr} {mean : ExcName → Option Value} {args : List WData} {tabs : List (Addr × Addr)}
    (hT : TabsAt tabs s₁.heap) (hr : ∀ x, cw.raises args x = false) (hp : cw.post args (.bool true) args = true)
    (h : codeAny M A cd (Done tabs s₁) s) : codeAny M A cd (GoodWG cw cl mean args s₁) s :=
  codeAny_mono h fun r s' ⟨hv, hk, hgr, hos, hg⟩ => by
    subst hv
    have keep : ∀ b o, b ∉ tabs.map (·.2) → s₁.heap.get? b = some o → s'.heap.get? b = some o := fun b o hb e => hk b o (ghost_ne e hb)
    have grown : ∀ b o, b ∈ tabs.map (·.2) → s₁.heap.get? b = some o → isCodeTable s₁.heap b ∧ o = tabObj #[] ∧ ∃ ps, s'.heap.get? b = some (tabObj ps) := fun b o hb e => by
      obtain ⟨q, hq, rfl⟩ := List.mem_map.mp hb
      have e2 := (hT q hq).2
      rw [e] at e2
      exact ⟨((hT q hq).1.tab (hT q hq).2).isCodeTable, Option.some.inj e2, hgr.get q hq⟩
    refine ⟨.inl ⟨.bool true, .bool true, [], rfl, hr, .bool _, hp, fun _ => ⟨.nil, fun _ ha => nomatch ha⟩⟩, ⟨fun b o e => ?_, fun b o e => ?_⟩, hos, hg⟩
    · by_cases hb : b ∈ tabs.map (·.2)
      · obtain ⟨ht, rfl, ps, hP⟩ := grown b o hb e
        exact .inr (.inl ⟨ht, rfl, #[], ps, rfl, by rw [Array.empty_append]; exact hP⟩)
      · exact .inl (keep b o hb e)
    · by_cases hb : b ∈ tabs.map (·.2)
      · obtain ⟨_, _, ps, hP⟩ := grown b o hb e
        exact ⟨_, hP⟩
      · exact ⟨o, keep b o hb e⟩

theorem done_of {tabs : List (Addr × Addr)} {s₁ s' : Shared} {L : Addr} {m : Str → Option Value} {b : Bool} (F : Fr (ghostOf s₁.heap tabs) L s'.heap m) (hgr : GrownAll tabs s'.heap) (hos : s'.os = s₁.os) (hg : AllBare s'.gens) (hb : b = true) :
    Done tabs s₁ (.ok (.ret (.bool b))) s' := by subst hb; exact ⟨rfl, F.keep, hgr, hos, hg⟩
end Mine
end

section
open PySem PySem.W PySem.Calls PyProof.Rows PySem.Spec
set_option Elab.async false
namespace Mine
section
variable {prog : Program} {w : World} {A : Around} {E : Value → Shared → Prop} {s : Shared} {h₀ : Heap} {L : Addr} {m : Str → Option Value} {news : List (Addr × Obj)} {g : Obj → List (Addr × Obj)}

theorem meth_inter {a : Addr} {o : Obj} {S : Int → Bool} {n : Nat} {pl : Sem Bool} {Q : Value × List Value → Shared → Prop} (N : News h₀ L s.heap news) (hm : (a, o) ∈ news) (hS : o.SetObjOf (intKind prog w) S n)
    (h : Q (.builtin "set.intersection", [.ref a]) s) : wpAny (model prog w) A (getMethod (.ref a) "intersection" pl) Q E s :=
  getMethod_builtin ⟨o, (N _ hm).1, hS.1.1⟩ PySem.F.plainAttrs_set PySem.F.slot_set_intersection PySem.F.type_set_intersection (fun b e => by cases e; exact ⟨o, (N _ hm).1, hS.1.2.1⟩) h
theorem meth_pop {a : Addr} {o : Obj} {S : Int → Bool} {n : Nat} {pl : Sem Bool} {Q : Value × List Value → Shared → Prop} (N : News h₀ L s.heap news) (hm : (a, o) ∈ news) (hS : o.SetObjOf (intKind prog w) S n)
    (h : Q (.builtin "set.pop", [.ref a]) s) : wpAny (model prog w) A (getMethod (.ref a) "pop" pl) Q E s :=
  getMethod_builtin ⟨o, (N _ hm).1, hS.1.1⟩ PySem.F.plainAttrs_set PySem.F.slot_set_pop PySem.F.type_set_pop (fun b e => by cases e; exact ⟨o, (N _ hm).1, hS.1.2.1⟩) h

theorem wpAny_choose {M : Model} {src : Source} {n : Nat} {Q : Nat → Shared → Prop} (hn : n ≠ 0) (h : ∀ i, i < n → Q i { s with drawn := s.drawn.bump src }) : wpAny M A (choose src n) Q E s := fun Γ p _ => by
  unfold choose
  rw [Sem.wp_choose]
  refine ⟨hn, ?_⟩
  exact h _ (Nat.mod_lt _ (Nat.pos_of_ne_zero hn))

theorem popPlace_one {t : SetTable} (h : t.fits 1 = true) : t.popPlace = some 0 := by
  have hp : t.place.size = 1 := by
    simp only [SetTable.fits, Bool.and_eq_true, beq_iff_eq] at h; exact h.1
  unfold SetTable.popPlace
  rw [if_neg (by rw [Array.isEmpty_iff_size_eq_zero, hp]; decide)]
  dsimp only
  split
  · rename_i hlt
    rw [hp] at hlt
    rw [Nat.lt_one_iff.mp hlt]
  · rfl

theorem pop_one {a : Addr} {o : Obj} {k : Int} {Q : Value → Shared → Prop} (F : Fr h₀ L s.heap m) (N : News h₀ L s.heap news) (U : UpdF a o news g) (hS : o.SetObjOf (intKind prog w) (fun j => decide (j = k)) 1)
    (h : ∀ t h' dr so, Fr h₀ L h' m → News h₀ L h' (g so) → Q (.int k t) { s with heap := h', drawn := dr }) :
    wpAny (model prog w) A (call (.builtin "set.pop") [.ref a]) Q E s := by
  obtain ⟨pre, post, rfl, hg, h1, h2⟩ := U.split
  have hm := N (a, o) (List.mem_append_right _ (.head _))
  obtain ⟨hex, es, ep, t, hd, hel, hmem, hn, hf⟩ := hS
  rw [hn] at hf
  have hT : s.TypeIs (.ref a) "set" := ⟨o, hm.1, hex.1⟩
  -- the one element
  obtain ⟨e, he, hke⟩ := (hmem k).mp (by simp)
  have hes : es = #[e] := by
    have h0 : es.toList.length = 1 := by rw [Array.length_toList]; exact hn
    match hl : es.toList, h0, he with
    | [x], _, he => rw [List.mem_singleton] at he; subst he; exact Array.toList_inj.mp hl
  obtain ⟨hv, xv⟩ := e
  have hxv : ∃ tk, xv = .int k tk := by
    cases xv <;> first | (cases hke; done) | skip
    rename_i i tk
    have : (Value.int i tk).isInt k = true := hke
    simp only [Value.isInt, beq_iff_eq] at this
    exact ⟨tk, by rw [this]⟩
  obtain ⟨tk, rfl⟩ := hxv
  subst hes
  refine wpAny_call_entry PySem.F.slot_set_pop hT PySem.F.entry_set_pop ?_ (PySem.F.args_set_pop_1 _)
  unfold Builtin.«set.pop» Builtin.Frozenset.noArgs
  simp only [List.isEmpty_nil]
  unfold Builtin.Frozenset.addrOf setPop
  refine wpAny_bind (wpAny_pure ?_)
  try dsimp only
  refine wpAny_bind (wpAny_bind (wpAny_setState_of hm.1 hd (by rw [show (#[(hv, Value.int k tk)] : Array (Int × Value)).size = 1 from rfl]; exact hf) ?_))
  dsimp only
  rw [popPlace_one hf]
  dsimp only
  obtain ⟨mask, place, dummies, finger, led, moves, plain⟩ := t
  have fin : ∀ (dr : Drawn), Q (.int k tk) { s with heap := s.heap.update a (Obj.putSet (SetTable.eraseAt #[(hv, Value.int k tk)] 0) (SetTable.popped ⟨mask, place, dummies, finger, led, moves, plain⟩ 0)), drawn := dr } := fun dr => by
    have e := putSet_of (SetTable.eraseAt #[(hv, Value.int k tk)] 0) (SetTable.popped ⟨mask, place, dummies, finger, led, moves, plain⟩ 0) hd
    obtain ⟨F', N'⟩ := news_upd F N h1 h2 e (by show Obj.isFreed _ = false; rfl)
    exact h tk _ dr _ F' (hg _ ▸ N')
  have fin2 : ∀ (dr : Drawn), wpAny (model prog w) A.in1 (storeSet a (SetTable.eraseAt #[(hv, Value.int k tk)] 0) (SetTable.popped ⟨mask, place, dummies, finger, led, moves, plain⟩ 0)) (fun _ s' => Q (.int k tk) s') E { s with drawn := dr } := fun dr =>
    wpAny_storeSet_of (s := { s with drawn := dr }) hm.1 hd (fin dr) (by simp [SetTable.eraseAt])
  unfold setsByText
  refine wpAny_bind (wpAny_bind (wpAny_askSetting (wpAny_pure ?_)))
  split
  · refine wpAny_bind (wpAny_choose (by show (1 : Nat) ≠ 0; decide) fun i hi => ?_)
    have hi0 : i = 0 := Nat.lt_one_iff.mp hi
    subst hi0
    show wpAny _ _ (storeSet a (SetTable.eraseAt #[(hv, Value.int k tk)] 0) _ >>= fun _ => pure (some (Value.int k tk))) _ _ _
    refine wpAny_bind (wpAny_mono (fin2 _) (fun _ s' hq => ?_) fun _ _ x => x)
    refine wpAny_pure ?_
    exact wpAny_pure ⟨_, rfl, hq⟩
  · refine wpAny_bind (wpAny_of_eq (a := ()) (by cases led <;> rfl) ?_)
    refine wpAny_bind (wpAny_pure ?_)
    show wpAny _ _ (storeSet a (SetTable.eraseAt #[(hv, Value.int k tk)] 0) _ >>= fun _ => pure (some (Value.int k tk))) _ _ _
    refine wpAny_bind (wpAny_mono (fin2 s.drawn) (fun _ s' hq => ?_) fun _ _ x => x)
    refine wpAny_pure ?_
    exact wpAny_pure ⟨_, rfl, hq⟩
end
end Mine
end

section
open PySem PySem.W PySem.Calls PyProof.Rows PySem.Spec PySem.SeqAt
set_option Elab.async false
namespace Mine
section
variable {prog : Program} {w : World} {A : Around} {E : Value → Shared → Prop} {s : Shared} {h₀ : Heap} {L : Addr} {m : Str → Option Value} {news : List (Addr × Obj)} {g : Obj → List (Addr × Obj)}

theorem isStrOf_at (x : Str) : ∀ {vs : List Value} {ws : List Str}, StrsAre vs ws → ∀ (j : Nat) (h1 : j < vs.length) (h2 : j < ws.length), isStrOf x vs[j] = (ws[j] == x)
  | _, _, .cons n t r, 0, _, _ => rfl
  | _, _, .cons n t r, j + 1, h1, h2 => isStrOf_at x r j (Nat.lt_of_succ_lt_succ h1) (Nat.lt_of_succ_lt_succ h2)

theorem index_text {l : Addr} {vs : List Value} {ws : List Str} {x : Str} {t : Tok} {i : Int} {Q : Value → Shared → Prop} (hl : s.heap.IsList l vs.toArray) (hw : StrsAre vs ws) (h0 : 0 ≤ i) (hx : ws.findIdx? (· == x) = some i.toNat) (hz : ws.length < 2 ^ 20)
    (h : ∀ t', Q (.int i t') { s with toks := s.toks + 1 }) : wpAny (model prog w) A (call (.builtin "list.index") [.ref l, .str x t]) Q E s := by
  obtain ⟨⟨cls, dd, data, sl⟩, ho, hc, n, hd⟩ := id hl
  simp only at hc hd
  subst hc hd
  have hlen : vs.length = ws.length := hw.length
  obtain ⟨hj, hp, hno⟩ := List.findIdx?_eq_some_iff_getElem.mp hx
  have hjv : i.toNat < vs.length := by omega
  have hi : ((i.toNat : Nat) : Int) = i := Int.toNat_of_nonneg h0
  refine call_meets PySem.F.slot_list_index ⟨_, ho, rfl⟩ PySem.F.entry_list_index (PySem.F.args_list_index_2 _ _)
    (list_indexAt l vs.toArray n dd sl (.str x t) (isStrOf x) i.toNat (by simpa using hjv) (by omega) ?_ ?_) ⟨ho, fun y hy => (eq_isStrOf x t hw y (by simpa using hy)).at _ _, ?_⟩
  · show isStrOf x vs[i.toNat] = true
    rw [isStrOf_at x hw _ hjv hj]; exact hp
  · intro j hjs hlt
    have hjs' : j < vs.length := by simpa using hjs
    show isStrOf x vs[j] = false
    rw [isStrOf_at x hw j hjs' (by omega)]
    simpa using hno j hlt
  · rw [hi]; exact h _

theorem item_back {value slice : Expr} {l : Addr} {vs : List Value} {ws : List Str} {i : Int} {u : Tok} {Q : Value → Shared → Prop} (hl : s.heap.IsList l vs.toArray) (hw : StrsAre vs ws) (hn : ws.length = 20) (h0 : -1 ≤ i) (h1 : i < 20)
    (h : ∀ t' (j : Int), 0 ≤ j → j < 20 → j = i ∨ j = i + 20 → Q (.str (ws.getD j.toNat PySem.Str.empty) t') s)
    (hs : subscripted slice false (.ref l) (.int i u) = operate [.ref l, .int i u] (getItem (.ref l) (.int i u)) := by with_unfolding_all rfl) :
    wpAny (model prog w) A (subscriptTail value slice (.ref l) (.int i u)) Q E s := by
  by_cases hneg : i < 0
  · have hlen : vs.length = ws.length := hw.length
    have hlt : (i + 20).toNat < ws.length := by omega
    obtain ⟨t', e⟩ := hw.get (i + 20).toNat (ws.getD (i + 20).toNat PySem.Str.empty) (by rw [List.getD_eq_getElem?_getD, List.getElem?_eq_getElem hlt]; rfl)
    have hsz : vs.toArray.size = 20 := by rw [List.size_toArray]; omega
    refine tail_any hl.typeIs slot_list_getitem.lookup (wpAny_getItem_list_neg hl hneg (by rw [hsz]; omega) (by omega) (x := .str _ t') ?_ (h t' (i + 20) (by omega) (by omega) (.inr rfl))) hs
    rw [hsz]
    simpa using e
  · exact KTb.item_list hl hw (by omega) (by omega) (by omega) (fun t' _ => h t' i (by omega) h1 (.inl rfl)) hs

theorem ne_pair {a b : Addr} {i j : Int} {x y : Str} {t₁ t₂ t₃ t₄ : Tok} {n₁ n₂ : Nat} {Q : Value → Shared → Prop} (N : News h₀ L s.heap news)
    (ha : (a, ({ cls := .type "tuple", data := .seq #[.int i t₁, .str x t₂] n₁ } : Obj)) ∈ news) (hb : (b, ({ cls := .type "tuple", data := .seq #[.int j t₃, .str y t₄] n₂ } : Obj)) ∈ news)
    (hi : i = j) (hx : x = y) (hok : PyData.strOk x = true) (hu : A.units + 64 < cLine) (h : Q (.bool false) s) : wpAny (model prog w) A (compareOp .NotEq (.ref a) (.ref b)) Q E s := by
  subst hi; subst hx
  have hsh : shaped (.tuple [.int i, .str x]) = true := by
    simp [shaped, PyData.canLay0, PyData.canLayAll0, hok, PyData.depth, PyData.depthAll]
  refine ne_dataH (da := .tuple [.int i, .str x]) (db := .tuple [.int i, .str x]) (reads_tuple_at (N.get ha) rfl rfl (.cons (.int _ _) (.cons (.str _ _) .nil))) (reads_tuple_at (N.get hb) rfl rfl (.cons (.int _ _) (.cons (.str _ _) .nil))) hsh hsh hu ?_
  simpa [PyData.eqv, PyData.eqvAll] using h
end
end Mine
end

section
open PySem PySem.W PySem.Calls PyProof.Rows PySem.Spec
set_option Elab.async false
namespace Mine
section
variable {prog : Program} {w : World} {A : Around} {E : Value → Shared → Prop} {s : Shared} {h₀ : Heap} {L : Addr} {m : Str → Option Value} {news : List (Addr × Obj)} {g : Obj → List (Addr × Obj)}

/-- a generator of n ints, the ledger behind it -/
def GenI (prog : Program) (w : World) (A : Around) (L : Addr) (news : List (Addr × Obj)) (a : Addr) (n : Nat) (f : Nat → Int) (s : Shared) : Prop :=
  ∃ K, L ≤ K ∧ (∀ q ∈ news, q.1 ≤ K) ∧ Gen prog w A K a n (fun j y => ∃ t, y = .int (f j) t) s

theorem sub_gen_set : isSubtype (.type "generator") (.type "set") = pure false := by rw [isSubtype_type]; kernel_rfl
theorem sub_gen_frozenset : isSubtype (.type "generator") (.type "frozenset") = pure false := by rw [isSubtype_type]; kernel_rfl

set_option maxRecDepth 100000 in
set_option maxHeartbeats 3200000 in
theorem set_gen {a : Addr} {n : Nat} {f : Nat → Int} {Q : Value → Shared → Prop} (Fh : Fr h₀ L s.heap m) (N : News h₀ L s.heap news) (X : GenI prog w A L news a n f s) (hb : n + 1 < scanBound) (hg : AllBare s.gens)
    (h : ∀ D h' g' tk' so, AllBare g' → Fr h₀ L h' m → News h₀ L h' ((D, so) :: news) → (∀ q ∈ news, q.1 < D) →
      so.SetObjOf (intKind prog w) (fun k => (firstMet f n).any (· == k)) (firstMet f n).length → Q (.ref D) { s with heap := h', toks := tk', gens := g' }) :
    wpAny (model prog w) A (call (.type "set") [.ref a]) Q E s := by
  obtain ⟨K, hLK, hnK, fp, wr, gn, St, W, hst, hT, haf, hfp, hwr⟩ := X
  obtain ⟨c, tl, hmro⟩ := PySem.F.called_set.mro
  have hmade := PySem.F.called_set.made
  have hsub := PySem.F.called_set.sub
  have hat : a < s.heap.objs.size := hfp a haf
  refine wpAny_call (codeAny_of_tree ?_)
  show wpAny _ _ (callAny (.type "set") _) _ _ _
  refine wpAny_pure ⟨Code.quiet_builtin _ (by decide +kernel), codeAny_builtin PySem.F.entry_type_call ?_⟩
  rw [Around.under_plain (weight_type_call_type "set" [.ref a] []) rfl]
  have h1 := PySem.F.called_set.notType
  have h2 := PySem.F.called_set.canCreate
  have hct := PySem.F.typeCall_set_1 (.ref a)
  repeat (any_goals (first | assumption | wp_step))
  refine codeAny_mono (code_set_new_1 (.ref a) (E := E) (Q₁ := fun obj s₁ => ∃ led : Bool, obj = .ref s.heap.objs.size ∧ s₁ = { s with heap := s.heap.push { cls := .type "set", dict := none, data := .set #[] 0 (.fresh 0 0 led) } }) fun led => ⟨led, rfl, rfl⟩) fun r s₁ hr => ?_
  cases r with
  | error e => exact hr
  | ok fl =>
    cases fl with
    | ret obj =>
      obtain ⟨led, rfl, rfl⟩ := hr
      have hS : (s.heap.push { cls := .type "set", dict := none, data := .set #[] 0 (.fresh 0 0 led) }).get? s.heap.objs.size = some { cls := .type "set", dict := none, data := .set #[] 0 (.fresh 0 0 led) } := Heap.get?_push_size _ rfl
      have hTS : Shared.TypeIs { s with heap := s.heap.push { cls := .type "set", dict := none, data := .set #[] 0 (.fresh 0 0 led) } } (.ref s.heap.objs.size) "set" := ⟨_, hS, rfl⟩
      have hli := PySem.F.called_set.init.lookup
      have hbi := PySem.F.called_set.init.bind (.ref s.heap.objs.size)
      repeat (any_goals (first | assumption | wp_step))
      refine codeAny_mono (codeAny_call_builtin (R := wants (fun r s₂ => r = .none ∧ Moved (s.heap.objs.size :: wr) (GenOnlyQ gn) { s with heap := s.heap.push { cls := .type "set", dict := none, data := .set #[] 0 (.fresh 0 0 led) } } s₂ ∧
          s₂.heap.SetOf (intKind prog w) s.heap.objs.size (fun k' => (firstMet f n).any (· == k')) (firstMet f n).length) E) PySem.F.called_set.init.plain PySem.F.entry_set_init (check_set_init_1 hTS ?_)) fun r₂ s₂ hr₂ => ?_
      · have hst1 : St 0 { s with heap := s.heap.push { cls := .type "set", dict := none, data := .set #[] 0 (.fresh 0 0 led) }, toks := s.toks } := W.frame 0 s _ _ hst (Nat.le_refl _) fun b _ o e => Heap.get?_push_of_some _ e
        have hTg : Shared.TypeIs { s with heap := s.heap.push { cls := .type "set", dict := none, data := .set #[] 0 (.fresh 0 0 led) } } (.ref a) "generator" := hT 0 _ hst1
        have hsls := sub_gen_set
        have hslf := sub_gen_frozenset
        unfold Builtin.«set.__init__» noKeywords Builtin.Frozenset.updateFrom
        generalize hPI : pyIter = PI
        wp_walk using wpAny_typeOf hTg
        subst hPI
        refine (W.in4_2).self 0 _ _ _ hst1 ?_
        refine wpAny_bind (wpAny_runValue ?_)
        have hSf : s.heap.objs.size ∉ fp := fun hm => Nat.lt_irrefl _ (hfp _ hm)
        refine codeAny_set_update_loopS (W.in4_3) s.heap.objs.size hSf f (fun i v hv => hv) hb (n - 0) 0 _ (by omega) (Nat.zero_le _) hst1 ?hS0 fun s' hm hS' => ?hR
        case hS0 => exact SetOf_congr ((setObjOf_fresh (knd := intKind prog w) led).setOf hS (by unfold scanBound; omega)) (fun _ => rfl) rfl
        case hR =>
          show wpAny _ _ _ _ _ _
          refine wpAny_pure ?_
          show wpAny _ _ (ret Value.none) _ _ _
          exact wpAny_pure ⟨rfl, hm, hS'⟩
      · cases r₂ with
        | error e => exact hr₂
        | ok fl₂ =>
          cases fl₂ with
          | ret r =>
            obtain ⟨rfl, hm, hS'⟩ := hr₂
            have hLs : L < s.heap.objs.size := Fh.ns.lt
            have hwr' : ∀ b ∈ s.heap.objs.size :: wr, L < b := fun b hb' => by
              rcases List.mem_cons.mp hb' with rfl | hb'
              · exact hLs
              · exact Nat.lt_of_le_of_lt hLK (hwr b hb')
            have F1 : Fr h₀ L s₂.heap m := (Fh.push _).moved hm hwr'
            obtain ⟨so, hso, hset⟩ := hS'.objOf
            have N1 : News h₀ L s₂.heap ((s.heap.objs.size, so) :: news) := fun q hq => by
              rcases List.mem_cons.mp hq with rfl | hq
              · exact ⟨hso, Nat.ne_of_gt hLs, Heap.get?_none_of_le (Nat.le_trans Fh.above (Nat.le_of_lt hLs))⟩
              · obtain ⟨n1, n2, n3⟩ := N q hq
                refine ⟨hm.heap _ _ (fun hmem => ?_) (Heap.get?_push_of_some _ n1), n2, n3⟩
                rcases List.mem_cons.mp hmem with e | hmem
                · exact absurd (e ▸ Heap.lt_size n1) (Nat.lt_irrefl _)
                · exact absurd (hwr _ hmem) (Nat.not_lt.mpr (hnK q hq))
            have G1 : AllBare s₂.gens := hg.moved hm.gens
            have ed : s₂.drawn = s.drawn := hm.drawn
            have eo : s₂.os = s.os := hm.os
            have hQ := h s.heap.objs.size s₂.heap s₂.gens s₂.toks so G1 F1 N1 (fun q hq => Heap.lt_size (N q hq).1) hset
            obtain ⟨h', g', d', tk', os'⟩ := s₂
            simp only at ed eo
            subst ed; subst eo
            repeat (any_goals (first | assumption | wp_step))
          | _ => exact hr₂.elim
    | _ => exact hr.elim
end
end Mine
end

section
open PySem PySem.W PySem.Calls PyProof.Rows PySem.Spec
set_option Elab.async false
namespace Mine
section
variable {prog : Program} {w : World} {A : Around} {E : Value → Shared → Prop} {s : Shared} {h₀ : Heap} {L c P : Addr} {m mg mb : Str → Option Value} {news : List (Addr × Obj)} {g : Obj → List (Addr × Obj)}
  {p : Program} {loose : List Str} {mean : ExcName → Option Value} {ps : Array Value}

/-- what is left of a generator expression once its iterable is there -/
def GenTail (prog : Program) (w : World) (A : Around) (E : Value → Shared → Prop) (env : Env) (elt : Expr) (x : Str) (scope : Scope) (cl : List (Str × Addr)) (pos : Pos) (Q : Value → Shared → Prop) (xv : Value) (s₁ : Shared) : Prop :=
  wpAny (model prog w) A (pyIter xv) (fun it s₂ => s₂.heap.NoLimit ∧
      wpAny (model prog w) A (genexprCode env pos (env.qual ++ "<genexpr>") scope) (fun code s₃ => wpAny (model prog w) A (builtinsFor env.globals env.builtins) (fun bi s₄ =>
        ∃ I fp wr n₀ P St₀ pz F, it = .ref I ∧ (∀ A' : Around, A'.handled = none → Walks prog w A' I fp wr n₀ P St₀) ∧ St₀ 0 s₄.heap ∧ (∀ b ∈ fp, b < s₄.heap.objs.size) ∧ s₄.heap.NoLimit ∧ cStatics ∉ wr ∧
          (∀ href : Heap, (∀ b o, s₄.heap.get? b = some o → href.get? b = some o) →
            QuietGenD prog w (genEnv scope cl s₄.heap.objs.size code bi env) x [] elt (List.range s₄.heap.objs.size) wr P pz F href (A.depth + 1) (A.units + 8)) ∧
          (∀ a h₅ tk gs, gs.bare = true → s₄.heap.objs.size < a → h₅.objs.size = a + 1 → (∀ b o, s₄.heap.get? b = some o → h₅.get? b = some o) →
            WalksS prog w A.in4 a (a :: s₄.heap.objs.size :: List.range s₄.heap.objs.size) (s₄.heap.objs.size :: wr) (GenOnlyQ s₄.gens.size) (passing pz n₀ 0).length
              (fun j y => ∃ i, (passing pz n₀ 0)[j]? = some i ∧ F i y) (GenAt prog w A.in4 a s₄.gens.size s₄.heap.objs.size (List.range s₄.heap.objs.size) wr pz n₀ F) →
            GenAt prog w A.in4 a s₄.gens.size s₄.heap.objs.size (List.range s₄.heap.objs.size) wr pz n₀ F 0 { s₄ with gens := s₄.gens.push gs, toks := tk, heap := h₅ } →
            Q (.ref a) { s₄ with gens := s₄.gens.push gs, toks := tk, heap := h₅ })) E s₃) E s₂) E s₁

theorem gen_open {env : Env} {elt iter : Expr} {x : Str} {px : Pos} {scope : Scope} {cl : List (Str × Addr)} {pos : Pos} {Q : Value → Shared → Prop}
    (hh : A.handled = none) (hco : scope.isCoroutine = false) (hclos : closureFor scope env = pure cl) (hcell : ∀ y ∈ scope.names, y.2 ≠ .cell) (h0 : scope.names.lookup (".0" : Str) = some NameKind.local)
    (hx : scope.names.lookup x = some .local) (hkind : scope.kind = .function) (hroom : A.depth < recursionLimit) (hs : ∀ x, genFold iter env x = pure x)
    (h : wpAny (model prog w) A (eval iter env) (fun xv s₁ => GenTail prog w A E env elt x scope cl pos Q xv s₁) E s) :
    wpAny (model prog w) A (eval (.GeneratorExp elt [⟨.Name x px, iter, [], 0⟩] scope pos) env) Q E s :=
  wpAny_GeneratorExp_walksQD hh hco hclos hcell h0 hx hkind hroom h hs

/-- a code table after the run so far -/
def Tab (ps : Array Value) : Prop := TriplesOk ps.toList

theorem passing_all (n : Nat) : passing (fun _ => true) n 0 = List.range n := by simp [passing]

theorem gen_tail {env : Env} {x y : Str} {px py pb : Pos} {scope : Scope} {cl : List (Str × Addr)} {pos : Pos} {Q : Value → Shared → Prop} {r cy : Addr} {oy : Obj} {a b st v : Int} {t t₁ u₁ v₁ : Tok} {n : Nat}
    (F : Fr h₀ L s.heap m) (N : News h₀ L s.heap news) (T : Top p loose mean mg mb h₀) (C : CodeHd h₀ c P) (hcd : env.code = .ref c) (hge : env.globals = mainGlobals) (U : UpdF P (tabObj ps) news g) (ht : Tab ps)
    (hr : IsRange s.heap r a b st t₁ u₁ v₁) (hsmall : Builtin.Range.small a b st = true) (hn : Builtin.Range.rangeSize a b st = (n : Int))
    (hc : cl.lookup y = some cy) (hm : (cy, oy) ∈ news) (hd : oy.data = .cell (some (.int v t)))
    (hx : scope.names.lookup x = some .local) (hy : scope.names.lookup y = some .free) (hk : scope.kind = .function)
    (hx1 : (x == ("__debug__" : Str)) = false) (hy1 : (y == ("__debug__" : Str)) = false) (hy2 : (y == ("__classdict__" : Str)) = false)
    (hg : AllBare s.gens)
    (h : ∀ a' ps' h' g' tk', Tab ps' → AllBare g' → Fr h₀ L h' m → News h₀ L h' (g (tabObj ps')) → GenI prog w A L (g (tabObj ps')) a' n (fun j => a + (j : Nat) * st + v) { s with heap := h', toks := tk', gens := g' } →
      Q (.ref a') { s with heap := h', toks := tk', gens := g' }) :
    GenTail prog w A E env (.BinOp (.Name x px) .Add (.Name y py) pb) x scope cl pos Q (.ref r) s := by
  obtain ⟨own, rest, rfl, hgr, o1, o2⟩ := U.split
  have hP := N (P, tabObj ps) (List.mem_append_right _ (.head _))
  have hPlt : P < s.heap.objs.size := Heap.lt_size hP.1
  have hLlt : L < s.heap.objs.size := F.ns.lt
  have hcyP : cy ≠ P := fun q => by
    have e := (N _ hm).1
    rw [show ((cy, oy) : Addr × Obj).1 = cy from rfl, q, hP.1] at e
    cases e
    cases hd
  have hcylt : cy < s.heap.objs.size := Heap.lt_size (N _ hm).1
  have hgs := T.g.keeps F.keep
  obtain ⟨bm, ob, b1, b2, b3, b4, b5, b6⟩ := T.bmain
  have hgP : mainGlobals ≠ P := fun q => by
    obtain ⟨o, es, ep, e, hd, _⟩ := hgs
    rw [q, hP.1] at e; cases e; cases hd
  have hbP : bm ≠ P := fun q => by
    have e := F.keep _ _ b3
    rw [q, hP.1] at e; cases e; cases b4
  have hlim : s.heap.NoLimit := T.nolimit.keeps F.keep
  have hcs : cStatics ≠ P := fun q => by
    obtain ⟨_, ⟨o, es, ep, e, hd, _⟩, _⟩ := hlim
    rw [q, hP.1] at e; cases e; cases hd
  have hclt : cStatics < s.heap.objs.size := let ⟨_, hn, _⟩ := hlim; hn.lt
  unfold GenTail
  refine wpAny_pyIter_range hr hsmall ⟨hlim.push _, ?_⟩
  generalize hH : (s.heap.push { cls := Value.type "range_iterator", data := Data.fields #[rawInt a, rawInt (Builtin.Range.rangeSize a b st), rawInt st] }) = H
  have hHz : H.objs.size = s.heap.objs.size + 1 := by rw [← hH, Heap.size_push]
  have hHk : ∀ b o, s.heap.get? b = some o → H.get? b = some o := fun b o e => hH ▸ Heap.get?_push_of_some _ e
  have hHI : H.get? s.heap.objs.size = some { cls := Value.type "range_iterator", data := Data.fields #[rawInt a, rawInt (Builtin.Range.rangeSize a b st), rawInt st] } := hH ▸ Heap.get?_push_size _ rfl
  have hHlim : H.NoLimit := hlim.keeps hHk
  have hIP : s.heap.objs.size ≠ P := Nat.ne_of_gt hPlt
  -- the rest, whatever the code object and the table
  have rest' : ∀ (code : Value) (h₃ : Heap) (tk₃ : Nat) (ps' : Array Value), Heap.ExtBut P H h₃ → H.objs.size ≤ h₃.objs.size → h₃.get? P = some (tabObj ps') → Tab ps' →
      wpAny (model prog w) A (builtinsFor env.globals env.builtins) (fun bi s₄ =>
        ∃ I fp wr n₀ P St₀ pz F, Value.ref s.heap.objs.size = .ref I ∧ (∀ A' : Around, A'.handled = none → Walks prog w A' I fp wr n₀ P St₀) ∧ St₀ 0 s₄.heap ∧ (∀ b ∈ fp, b < s₄.heap.objs.size) ∧ s₄.heap.NoLimit ∧ cStatics ∉ wr ∧
          (∀ href : Heap, (∀ b o, s₄.heap.get? b = some o → href.get? b = some o) →
            QuietGenD prog w (genEnv scope cl s₄.heap.objs.size code bi env) x [] (.BinOp (.Name x px) .Add (.Name y py) pb) (List.range s₄.heap.objs.size) wr P pz F href (A.depth + 1) (A.units + 8)) ∧
          (∀ a h₅ tk gs, gs.bare = true → s₄.heap.objs.size < a → h₅.objs.size = a + 1 → (∀ b o, s₄.heap.get? b = some o → h₅.get? b = some o) →
            WalksS prog w A.in4 a (a :: s₄.heap.objs.size :: List.range s₄.heap.objs.size) (s₄.heap.objs.size :: wr) (GenOnlyQ s₄.gens.size) (passing pz n₀ 0).length
              (fun j y => ∃ i, (passing pz n₀ 0)[j]? = some i ∧ F i y) (GenAt prog w A.in4 a s₄.gens.size s₄.heap.objs.size (List.range s₄.heap.objs.size) wr pz n₀ F) →
            GenAt prog w A.in4 a s₄.gens.size s₄.heap.objs.size (List.range s₄.heap.objs.size) wr pz n₀ F 0 { s₄ with gens := s₄.gens.push gs, toks := tk, heap := h₅ } →
            Q (.ref a) { s₄ with gens := s₄.gens.push gs, toks := tk, heap := h₅ })) E { s with heap := h₃, toks := tk₃ } := by
    intro code h₃ tk₃ ps' hx₃ hge₃ hP₃ htab₃
    have keep₃ : ∀ b o, b ≠ P → s.heap.get? b = some o → h₃.get? b = some o := fun b o hb e => hx₃ b o hb (hHk b o e)
    have hlim₃ : h₃.NoLimit := hHlim.extBut hx₃ hcs
    have F₃ : Fr h₀ L h₃ m := ⟨F.ns.extBut (fun b o hb e => keep₃ b o hb e) hP.2.1.symm, fun b o e => keep₃ b o (fun q => by rw [q, hP.2.2] at e; cases e) (F.keep b o e), F.above⟩
    have N₃ : News h₀ L h₃ (g (tabObj ps')) := fun q hq => by
      rw [hgr] at hq
      rcases List.mem_append.mp hq with hq | hq
      · have n := N q (List.mem_append_left _ hq)
        exact ⟨keep₃ _ _ (o1 q hq) n.1, n.2⟩
      · rcases List.mem_cons.mp hq with rfl | hq
        · exact ⟨hP₃, hP.2⟩
        · have n := N q (List.mem_append_right _ (.tail _ hq))
          exact ⟨keep₃ _ _ (o2 q hq) n.1, n.2⟩
    rw [hge]
    refine wpAny_builtinsFor (hgs.extBut (fun b o hb e => keep₃ b o hb e) hgP) b1 b2 (keep₃ _ _ hbP (F.keep _ _ b3)) b4 b5 b6 ?_
    refine ⟨s.heap.objs.size, [s.heap.objs.size], [s.heap.objs.size], n, _, _, (fun _ => true), (fun i y => ∃ t, y = Value.int (a + (i : Nat) * st + v) t), rfl, (fun A' hA => Walks.range hA _ a st n), ?_, ?_, hlim₃, ?_, ?_, ?_⟩
    · show IsRangeIter h₃ _ _ _ _
      have e := hx₃ _ _ hIP hHI
      rw [hn] at e
      simpa using e
    · intro b hb
      rw [List.mem_singleton.mp hb]
      show s.heap.objs.size < h₃.objs.size
      omega
    · intro hm'
      exact absurd (List.mem_singleton.mp hm' ▸ hclt) (Nat.lt_irrefl _)
    · intro href hhref
      refine ⟨fun A' E' i v' s₂ m₂ hA _ _ hP' hns hmx hk' => ?_, fun A' E' i v' s₂ m₂ hA _ _ hP' _ hns hmx hk' => ?_⟩
      · rw [List.forIn_nil]
        exact wpAny_pure ⟨rfl, s₂.heap, s₂.toks, rfl, fun _ _ e => e⟩
      · obtain ⟨t', rfl⟩ := hP'
        have hcy : s₂.heap.get? cy = some oy := hk' cy (List.mem_range.mpr (Nat.lt_of_lt_of_le hcylt (by show s.heap.objs.size ≤ h₃.objs.size; omega))) (fun hmem => Nat.lt_irrefl _ (List.mem_singleton.mp hmem ▸ hcylt)) oy (hhref _ _ (keep₃ _ _ hcyP (N _ hm).1))
        have hkd : (genEnv scope cl h₃.objs.size code builtinsNs env).scope.kind = .function := hk
        refine wpAny_BinOp (wpAny_Name (wpAny_loadName_local hkd hx hns hmx ?_) hx1)
        refine wpAny_Name (wpAny_loadName_free (v := .int v t) hkd hy hc ⟨oy, hcy, hd⟩ ?_ hy2) hy1
        refine add_int ?_
        exact ⟨⟨_, rfl⟩, _, _, rfl, fun _ _ e => e⟩
    · intro a' h₅ tk₅ gs hbare hlt₅ hsz₅ hk₅ W hat
      have hK1 : s.heap.objs.size - 1 < s.heap.objs.size := Nat.sub_lt (Nat.lt_of_le_of_lt (Nat.zero_le _) hPlt) Nat.one_pos
      rw [passing_all, List.length_range] at W
      have W' := WalksS.imp (P' := fun j y => ∃ t, y = Value.int (a + (j : Nat) * st + v) t) W fun j y' hy' => by
        obtain ⟨i, hi, t', rfl⟩ := hy'
        obtain ⟨_, rfl⟩ := List.getElem?_eq_some_iff.mp hi
        exact ⟨t', by simp⟩
      refine h a' ps' h₅ _ tk₅ htab₃ (hg.push hbare) (F₃.keeps hk₅) (fun q hq => ⟨hk₅ _ _ (N₃ q hq).1, (N₃ q hq).2⟩) ⟨s.heap.objs.size - 1, Nat.le_sub_one_of_lt hLlt, fun q hq => ?_, _, _, _, _, W', hat, fun i s' st' => st'.1.typeIs, List.mem_cons_self, fun b hb => ?_, fun b hb => ?_⟩
      · have hlt : q.1 < s.heap.objs.size := by
          rw [hgr] at hq
          rcases List.mem_append.mp hq with hq | hq
          · exact Heap.lt_size (N q (List.mem_append_left _ hq)).1
          · rcases List.mem_cons.mp hq with rfl | hq
            · exact hPlt
            · exact Heap.lt_size (N q (List.mem_append_right _ (.tail _ hq))).1
        exact Nat.le_sub_one_of_lt hlt
      · show b < h₅.objs.size
        rw [hsz₅]
        rcases List.mem_cons.mp hb with rfl | hb
        · exact Nat.lt_succ_self _
        · rcases List.mem_cons.mp hb with rfl | hb
          · exact Nat.lt_succ_of_lt hlt₅
          · exact Nat.lt_succ_of_lt (Nat.lt_trans (List.mem_range.mp hb) hlt₅)
      · rcases List.mem_cons.mp hb with rfl | hb
        · show s.heap.objs.size - 1 < h₃.objs.size
          omega
        · rw [List.mem_singleton.mp hb]; exact hK1
  have hPH : H.get? P = some (tabObj ps) := hHk _ _ hP.1
  have CH : CodeHd H c P := (C.keeps F.keep).keeps hHk
  cases hq : codeAmong pos ps.toList with
  | none =>
    refine wpAny_genexprCodeX hcd (CH.code hPH ht) (CH.tab hPH) hq fun c' h₃ tk₃ hx₃ hge₃ hlt₃ hcode₃ _ htab₃ _ => ?_
    refine rest' (.ref c') h₃ tk₃ _ hx₃ (Nat.le_trans hge₃ (Nat.le_of_lt hlt₃)) htab₃.2 ?_
    obtain ⟨_, _, _, _, _, _, _, _, _, _, _, _, _, _, _, _, _, _, _, htr, _⟩ := hcode₃
    exact htr
  | some cv =>
    refine wpAny_genexprCode_hit hcd (CH.code hPH ht) hq ?_
    exact rest' cv H s.toks ps (fun _ _ _ e => e) (Nat.le_refl _) hPH ht
end
end Mine
end

section
open PySem PySem.W PySem.Calls PyProof.Rows PySem.Spec
set_option Elab.async false
namespace Mine

theorem pickOrder_go_mem {α : Type} (next : Nat → Nat) (e : α) : ∀ (fuel k : Nat) (left : List α) (out : Array α), left.length = fuel → (e ∈ (pickOrder.go next fuel k left out).toList ↔ e ∈ out.toList ∨ e ∈ left)
  | 0, k, left, out, h => by
    rw [List.length_eq_zero_iff.mp h]
    simp [pickOrder.go]
  | fuel + 1, k, left, out, h => by
    have hlt : next k % left.length < left.length := Nat.mod_lt _ (by omega)
    unfold pickOrder.go
    rw [List.getElem?_eq_getElem hlt]
    dsimp only
    rw [pickOrder_go_mem next e fuel (k + 1) _ _ (by rw [List.length_eraseIdx]; simp [hlt]; omega)]
    rw [Array.toList_push, List.mem_append, List.mem_singleton]
    constructor
    · rintro ((h1 | h1) | h1)
      · exact .inl h1
      · exact .inr (h1 ▸ List.getElem_mem hlt)
      · exact .inr (List.mem_of_mem_eraseIdx h1)
    · rintro (h1 | h1)
      · exact .inl (.inl h1)
      · obtain ⟨i, hi, rfl⟩ := List.getElem_of_mem h1
        by_cases hc : i = next k % left.length
        · subst hc; exact .inl (.inr rfl)
        · exact .inr (List.mem_eraseIdx_iff_getElem.mpr ⟨i, hi, hc, rfl⟩)

theorem pickOrder_mem {α : Type} (next : Nat → Nat) (e : α) (xs : Array α) : e ∈ (pickOrder next xs).toList ↔ e ∈ xs.toList := by
  unfold pickOrder
  rw [pickOrder_go_mem next e _ _ _ _ Array.length_toList]
  simp

section
variable {prog : Program} {w : World} {A : Around} {E : Value → Shared → Prop} {s : Shared}

theorem int_of {es : List (Int × Value)} (hel : ElemsOf (intKind prog w) es) {e : Int × Value} (he : e ∈ es) : ∃ i tk, e.2 = .int i tk := by
  obtain ⟨⟨k, hk, _⟩, _⟩ := hel e he
  obtain ⟨h', x⟩ := e
  cases x <;> first | (cases hk; done) | exact ⟨_, _, rfl⟩

theorem quiet_turn {f : Int × Value → Option Bool × Unit → Sem (ForInStep (Option Bool × Unit))} (hf : ∀ e, (∃ i tk, e.2 = Value.int i tk) → f e (none, ()) = pure (ForInStep.yield (none, ()))) :
    ∀ (l : List (Int × Value)), ElemsOf (intKind prog w) l → wpAny (model prog w) A (forIn l (none, ()) f) (fun st s' => st = (none, ()) ∧ s' = s) E s
  | [], _ => by rw [List.forIn_nil]; exact wpAny_pure ⟨rfl, rfl⟩
  | e :: l, hl => by
    rw [List.forIn_cons, hf e (int_of hl (.head _))]
    exact wpAny_bind (wpAny_pure (quiet_turn hf l hl.tail))

theorem quiet_loop {f : Addr → Option Bool × Unit → Sem (ForInStep (Option Bool × Unit))} {l : List Addr} (hf : ∀ a ∈ l, wpAny (model prog w) A (f a (none, ())) (fun st s' => st = ForInStep.yield (none, ()) ∧ s' = s) E s) :
    wpAny (model prog w) A (forIn l (none, ()) f) (fun st s' => st = (none, ()) ∧ s' = s) E s := by
  induction l with
  | nil => rw [List.forIn_nil]; exact wpAny_pure ⟨rfl, rfl⟩
  | cons a l ih =>
    rw [List.forIn_cons]
    refine wpAny_bind (wpAny_mono (hf a (.head _)) (fun st s' hs => ?_) fun _ _ x => x)
    obtain ⟨rfl, rfl⟩ := hs
    exact ih fun b hb => hf b (.tail _ hb)

theorem quiet_of : ∀ (l : List Addr), (∀ a ∈ l, ∃ S n, s.heap.SetOf (intKind prog w) a S n) → ∀ {Q : Bool → Shared → Prop}, Q true s → wpAny (model prog w) A (setsQuiet l) Q E s := by
  intro l hl Q hQ
  unfold setsQuiet
  refine wpAny_bind (wpAny_mono (quiet_loop fun a ha => ?_) (fun st s' hs => ?_) fun _ _ x => x)
  · obtain ⟨S, n, o, es, ep, t, ho, _, hd, hel, _, _, hft, _⟩ := hl a ha
    unfold setEntries
    refine wpAny_bind (wpAny_bind (wpAny_setState_of ho hd hft (wpAny_pure ?_)))
    dsimp only
    rw [← Array.forIn_toList]
    refine wpAny_bind (wpAny_mono (quiet_turn (fun e he => ?_) es.toList hel) (fun st s' hs => ?_) fun _ _ x => x)
    · obtain ⟨i, tk, e'⟩ := he
      obtain ⟨h', x⟩ := e
      simp only at e'
      subst e'
      rfl
    · obtain ⟨rfl, rfl⟩ := hs
      exact wpAny_pure ⟨rfl, rfl⟩
  · obtain ⟨rfl, rfl⟩ := hs
    exact wpAny_pure hQ

theorem walk_unseen {a r : Addr} {others : List Addr} {o : Obj} {es : Array (Int × Value)} {ep : Nat} {t : SetTable} {Q : Array (Int × Value) → Shared → Prop} {S : Int → Bool} {n : Nat} {S' : Int → Bool} {n' : Nat}
    (ho : s.heap.get? a = some o) (hd : o.data = .set es ep t) (hf : t.fits es.size = true) (hall : ∀ b ∈ a :: others, ∃ S n, s.heap.SetOf (intKind prog w) b S n) (hr : s.heap.SetOf (intKind prog w) r S' n')
    (h : ∀ W h', (∀ e, e ∈ W.toList ↔ e ∈ es.toList) → Heap.SameBut r s.heap h' → h'.SetOf (intKind prog w) r S' n' → Q W { s with heap := h' }) :
    wpAny (model prog w) A (setWalkUnseen a others (some r)) Q E s := by
  unfold setWalkUnseen
  refine wpAny_bind (wpAny_setState_of ho hd hf ?_)
  dsimp only
  unfold setsByText
  refine wpAny_bind (wpAny_bind (wpAny_askSetting (wpAny_pure ?_)))
  have keepWalk : ((model prog w).w.params.followText "set-order" || t.led && t.plain || decide (es.size ≤ 1)) = true → wpAny (model prog w) A (setWalk a) Q E s := fun hc => by
    unfold setWalk setsByText
    refine wpAny_bind (wpAny_setState_of ho hd hf ?_)
    dsimp only
    refine wpAny_bind (wpAny_bind (wpAny_askSetting (wpAny_pure ?_)))
    split
    · refine wpAny_bind (wpAny_askSetting (wpAny_pure ?_))
      exact h _ s.heap (fun e => pickOrder_mem _ e es) ⟨rfl, fun _ _ => rfl⟩ hr
    · rename_i hbt
      have hc' : (t.led && t.plain) = true ∨ es.size ≤ 1 := by
        simp only [Bool.or_eq_true, decide_eq_true_eq] at hc
        rcases hc with (hc | hc) | hc
        · exact absurd hc hbt
        · exact .inl hc
        · exact .inr hc
      split
      · rename_i hdr
        change (!t.plain && decide (es.size > 1)) = true at hdr
        simp only [Bool.and_eq_true, Bool.not_eq_true', decide_eq_true_eq] at hdr hc'
        rcases hc' with hc' | hc'
        · rw [hc'.2] at hdr; cases hdr.1
        · omega
      · refine wpAny_bind (wpAny_of_eq (a := ()) ?_ (wpAny_pure ?_))
        · change (if (!t.led && decide (es.size > 1)) = true then unsupported "set:maker-not-led" else pure ()) = pure ()
          rw [if_neg]
          intro hq
          simp only [Bool.and_eq_true, Bool.not_eq_true', decide_eq_true_eq] at hq hc'
          rcases hc' with hc' | hc'
          · rw [hc'.1] at hq; cases hq.1
          · omega
        · exact h es s.heap (fun e => Iff.rfl) ⟨rfl, fun _ _ => rfl⟩ hr
  split
  · rename_i hc
    exact keepWalk hc
  · refine wpAny_bind (quiet_of _ hall ?_)
    rw [if_neg (by decide)]
    obtain ⟨or, esr, epr, tr, hor, hexr, hdr, helr, hmemr, hbr, hfr, hnr⟩ := hr
    refine wpAny_bind (wpAny_rule (wpAny_bind (wpAny_setState_of hor hdr hfr ?_)))
    dsimp only
    have hr' : s.heap.SetOf (intKind prog w) r S' n' := ⟨or, esr, epr, tr, hor, hexr, hdr, helr, hmemr, hbr, hfr, hnr⟩
    split
    · refine wpAny_bind (wpAny_storeSet_of hor hdr ?_ (fits_of_scanBound hbr))
      have hf' : ({ tr with led := tr.led && t.led, plain := tr.plain && t.plain } : SetTable).fits esr.size = true := by cases tr; exact hfr
      obtain ⟨_, hS⟩ := SetOf_store (knd := intKind prog w) hor hexr hdr helr hmemr hbr hf'
      rw [hnr] at hS
      exact wpAny_pure (h es _ (fun e => Iff.rfl) (Heap.SameBut.update ..) hS)
    · exact wpAny_pure (h es s.heap (fun e => Iff.rfl) ⟨rfl, fun _ _ => rfl⟩ hr')
end
end Mine
end

section
open PySem PySem.W PySem.Calls PyProof.Rows PySem.Spec
set_option Elab.async false
namespace Mine
theorem entry_set_inter : entryFor table "set.intersection" = some Builtin.«frozenset.intersection» :=
  entryFor_alias (id' := "frozenset.intersection") (by kernel_rfl) rfl (by decide +kernel) (by kernel_rfl)

section
variable {prog : Program} {w : World} {A : Around} {E : Value → Shared → Prop} {s : Shared} {h₀ : Heap} {L : Addr} {m : Str → Option Value} {news : List (Addr × Obj)} {g : Obj → List (Addr × Obj)}

theorem isAnySet_of {a : Addr} {Q : Bool → Shared → Prop} (hT : s.TypeIs (.ref a) "set") (h : Q true s) : wpAny (model prog w) A (Builtin.Frozenset.isAnySet (.ref a)) Q E s := by
  unfold Builtin.Frozenset.isAnySet
  refine wpAny_bind (wpAny_isInstance hT sub_set_self ?_)
  exact wpAny_pure h
theorem sizeOf_of {a : Addr} {S : Int → Bool} {n : Nat} {Q : Nat → Shared → Prop} (hS : s.heap.SetOf (intKind prog w) a S n) (h : Q n s) : wpAny (model prog w) A (Builtin.Frozenset.sizeOf a) Q E s := by
  obtain ⟨o, es, ep, t, ho, _, hd, hel, _, _, hf, hn⟩ := hS
  unfold Builtin.Frozenset.sizeOf setEntries
  refine wpAny_bind (wpAny_bind (wpAny_setState_of ho hd hf (wpAny_pure ?_)))
  rw [hn]
  exact wpAny_pure h

/-- the walk over the smaller set: what is in both is k alone -/
theorem inter_loop {r : Addr} {P : Int → Prop} {k : Int} {h0 : Heap} {f : Int × Value → PUnit → Sem (ForInStep PUnit)} {gens : Array GenState} {dr : Drawn} {tk : Nat} {os : OsState}
    (hf : ∀ (e : Int × Value) (h : Heap) (b : Bool), (∃ i t, e.2 = .int i t ∧ e.1 = hashInt i ∧ P i) → Heap.SameBut r h0 h → h.SetOf (intKind prog w) r (fun j => b && decide (j = k)) (if b then 1 else 0) →
      wpAny (model prog w) A (f e PUnit.unit) (fun st s' => st = .yield PUnit.unit ∧ ∃ h', s' = ⟨h', gens, dr, tk, os⟩ ∧ Heap.SameBut r h0 h' ∧
        h'.SetOf (intKind prog w) r (fun j => (b || e.2.isInt k) && decide (j = k)) (if (b || e.2.isInt k) then 1 else 0)) E ⟨h, gens, dr, tk, os⟩) :
    ∀ (l : List (Int × Value)) (h : Heap) (b : Bool), ElemsOf (intKind prog w) l → (∀ e ∈ l, ∀ i t, e.2 = .int i t → P i) → Heap.SameBut r h0 h → h.SetOf (intKind prog w) r (fun j => b && decide (j = k)) (if b then 1 else 0) →
      wpAny (model prog w) A (forIn l PUnit.unit f) (fun _ s' => ∃ h', s' = ⟨h', gens, dr, tk, os⟩ ∧ Heap.SameBut r h0 h' ∧
        h'.SetOf (intKind prog w) r (fun j => (b || l.any fun e => e.2.isInt k) && decide (j = k)) (if (b || l.any fun e => e.2.isInt k) then 1 else 0)) E ⟨h, gens, dr, tk, os⟩
  | [], h, b, _, _, hs, hS => by
    rw [List.forIn_nil]
    refine wpAny_pure ⟨h, rfl, hs, ?_⟩
    simpa using hS
  | e :: l, h, b, hel, hu, hs, hS => by
    rw [List.forIn_cons]
    obtain ⟨⟨i, hi, hh⟩, _⟩ := hel.head
    obtain ⟨i', t, he⟩ := int_of hel (.head _)
    have hii : i' = i := by
      have : e.2.isInt i = true := hi
      rw [he] at this
      simpa [Value.isInt] using this
    subst hii
    refine wpAny_bind (wpAny_mono (hf e h b ⟨i', t, he, hh, hu e (.head _) i' t he⟩ hs hS) (fun st s' hq => ?_) fun _ _ x => x)
    obtain ⟨rfl, h', rfl, hs', hS'⟩ := hq
    refine wpAny_mono (inter_loop hf l h' _ hel.tail (fun e' he' => hu e' (.tail _ he')) hs' hS') (fun _ s'' hq => ?_) fun _ _ x => x
    obtain ⟨h'', rfl, hs'', hS''⟩ := hq
    refine ⟨h'', rfl, hs'', ?_⟩
    rw [List.any_cons, ← Bool.or_assoc]
    exact hS''

theorem setOf_same {h h' : Heap} {a r : Addr} {S : Int → Bool} {n : Nat} (hS : h.SetOf (intKind prog w) a S n) (hs : Heap.SameBut r h h') (hne : a ≠ r) : h'.SetOf (intKind prog w) a S n :=
  let ⟨o, es, ep, t, ho, rest⟩ := hS; ⟨o, es, ep, t, (hs.2 a hne).trans ho, rest⟩

set_option maxHeartbeats 400000 in
theorem inter_turn {asked r walked : Addr} {S' : Int → Bool} {n' : Nat} {k : Int} {H0 : Heap} {gens : Array GenState} {dr : Drawn} {tk : Nat} {os : OsState} {id : String} {ow : Obj} {esw : Array (Int × Value)} {epw : Nat} {tw : SetTable}
    (hS' : H0.SetOf (intKind prog w) asked S' n') (hne : asked ≠ r) (hw : H0.get? walked = some ow) (hdw : ow.data = .set esw epw tw) (hfw : tw.fits esw.size = true) (hwr : walked ≠ r) (hk' : S' k = true)
    (e : Int × Value) (h : Heap) (b : Bool) (he : ∃ i t, e.2 = .int i t ∧ e.1 = hashInt i ∧ (S' i = true → i = k)) (hs : Heap.SameBut r H0 h) (hS : h.SetOf (intKind prog w) r (fun j => b && decide (j = k)) (if b then 1 else 0)) :
    wpAny (model prog w) A (do
      holding [e.2] do
        if (← setFind asked e.2 e.1).isSome = true then
          let _ ← setAddHashed r e.2 e.1
          pure PUnit.unit
        else pure PUnit.unit
      Builtin.Frozenset.unchanged id walked epw
      pure (ForInStep.yield PUnit.unit)) (fun st s' => st = .yield PUnit.unit ∧ ∃ h', s' = ⟨h', gens, dr, tk, os⟩ ∧ Heap.SameBut r H0 h' ∧
        h'.SetOf (intKind prog w) r (fun j => (b || e.2.isInt k) && decide (j = k)) (if (b || e.2.isInt k) then 1 else 0)) E ⟨h, gens, dr, tk, os⟩ := by
  obtain ⟨i, t, e2, e1, hi⟩ := he
  obtain ⟨e1', e2'⟩ := e
  simp only at e1 e2
  subst e1 e2
  have still : ∀ (h' : Heap), Heap.SameBut r H0 h' → wpAny (model prog w) A (Builtin.Frozenset.unchanged id walked epw) (fun _ s' => s' = ⟨h', gens, dr, tk, os⟩) E ⟨h', gens, dr, tk, os⟩ := fun h' hs' => by
    unfold Builtin.Frozenset.unchanged
    refine wpAny_bind (wpAny_setEpoch_of ((hs'.2 walked hwr).trans hw) hdw hfw ?_)
    rw [if_neg (by simp)]
    exact wpAny_pure rfl
  refine wpAny_bind (wpAny_holding (wpAny_bind (wpAny_setFind_of (knd := intKind prog w) (s := ⟨h, gens, dr, tk, os⟩) (a := asked) (x := Value.int i t) (k := i) (intKind_is _ _ _ _) rfl (setOf_same hS' hs hne) fun res hres => ?_)))
  rw [hres]
  cases hSi : S' i with
  | true =>
    have hik : i = k := hi hSi
    subst hik
    rw [if_pos rfl]
    refine wpAny_bind (wpAny_setAddHashed_of (knd := intKind prog w) (s := ⟨h, gens, dr, tk, os⟩) (a := r) (x := Value.int i t) (k := i) (intKind_is _ _ _ _) rfl hS (by unfold scanBound; cases b <;> simp) fun h' hsb hS2 => ?_)
    refine wpAny_pure ?_
    have hs' : Heap.SameBut r H0 h' := ⟨hsb.1.trans hs.1, fun c hc => (hsb.2 c hc).trans (hs.2 c hc)⟩
    refine wpAny_bind (wpAny_mono (still h' hs') (fun _ s' hq => ?_) fun _ _ x => x)
    subst hq
    refine wpAny_pure ⟨rfl, h', rfl, hs', ?_⟩
    refine SetOf_congr hS2 (fun j => ?_) ?_
    · simp [Value.isInt]
    · cases b <;> simp [Value.isInt]
  | false =>
    rw [if_neg (by decide)]
    refine wpAny_pure ?_
    have hik : (Value.int i t).isInt k = false := by
      simp only [Value.isInt, beq_eq_false_iff_ne, ne_eq]
      intro q
      subst q
      rw [hk'] at hSi; cases hSi
    refine wpAny_bind (wpAny_mono (still h hs) (fun _ s' hq => ?_) fun _ _ x => x)
    subst hq
    refine wpAny_pure ⟨rfl, h, rfl, hs, ?_⟩
    simp only [hik, Bool.or_false]
    exact hS

/-- the walk over the one set, each item asked for in the other -/
theorem inter_walk {walked asked r : Addr} {S S' : Int → Bool} {n n' : Nat} {k : Int} {id : String} {Q : PUnit → Shared → Prop}
    (hS : s.heap.SetOf (intKind prog w) walked S n) (hS' : s.heap.SetOf (intKind prog w) asked S' n') (hr : s.heap.SetOf (intKind prog w) r (fun _ => false) 0) (hwr : walked ≠ r) (har : asked ≠ r)
    (hk : S k = true) (hk' : S' k = true) (hu : ∀ j, S j = true → S' j = true → j = k)
    (h : ∀ h', Heap.SameBut r s.heap h' → h'.SetOf (intKind prog w) r (fun j => decide (j = k)) 1 → Q PUnit.unit { s with heap := h' }) :
    wpAny (model prog w) A (do
      let was ← setEpoch walked
      let W ← setWalkUnseen walked [asked, r] (some r)
      forIn W PUnit.unit fun x _ => do
          holding [x.2] do
            if (← setFind asked x.2 x.1).isSome = true then
              let _ ← setAddHashed r x.2 x.1
              pure PUnit.unit
            else pure PUnit.unit
          Builtin.Frozenset.unchanged id walked was
          pure (ForInStep.yield PUnit.unit)
      pure ()) Q E s := by
  obtain ⟨ow, esw, epw, tw, how, hexw, hdw, helw, hmemw, hbw, hfw, hnw⟩ := hS
  have hSw : s.heap.SetOf (intKind prog w) walked S n := ⟨ow, esw, epw, tw, how, hexw, hdw, helw, hmemw, hbw, hfw, hnw⟩
  refine wpAny_bind (wpAny_setEpoch_of how hdw hfw ?_)
  refine wpAny_bind (walk_unseen (S := S) (n := n) how hdw hfw (fun c hc => ?_) hr fun W h1 hW hs1 hr1 => ?_)
  · rcases List.mem_cons.mp hc with rfl | hc
    · exact ⟨_, _, hSw⟩
    · rcases List.mem_cons.mp hc with rfl | hc
      · exact ⟨_, _, hS'⟩
      · rw [List.mem_singleton.mp hc]; exact ⟨_, _, hr⟩
  · rw [← Array.forIn_toList]
    have helW : ElemsOf (intKind prog w) W.toList := fun e he => helw e ((hW e).mp he)
    refine wpAny_bind (wpAny_mono (inter_loop (r := r) (P := fun i => S' i = true → i = k) (k := k) (h0 := h1) (fun e h b he hs hSb => inter_turn (ow := ow) (esw := esw) (tw := tw) (id := id) (setOf_same hS' hs1 har) har ((hs1.2 walked hwr).trans how) hdw hfw hwr hk' e h b he hs hSb)
      W.toList h1 false helW (fun e he i t e2 hi => hu i ((hmemw i).mpr ⟨e, (hW e).mp he, ?_⟩) hi) ⟨rfl, fun _ _ => rfl⟩ ?_) (fun _ s' hq => ?_) fun _ _ x => x)
    · show Value.isInt i e.2 = true
      rw [e2]; simp [Value.isInt]
    · exact SetOf_congr hr1 (fun _ => rfl) rfl
    · obtain ⟨h', rfl, hs', hS2⟩ := hq
      have hany : (W.toList.any fun e => e.2.isInt k) = true := by
        obtain ⟨e, he, hke⟩ := (hmemw k).mp hk
        exact List.any_eq_true.mpr ⟨e, (hW e).mpr he, hke⟩
      rw [hany] at hS2
      exact wpAny_pure (h h' ⟨hs'.1.trans hs1.1, fun c hc => (hs'.2 c hc).trans (hs1.2 c hc)⟩ (SetOf_congr hS2 (fun j => by simp) rfl))

theorem inter_core {a b : Addr} {S S' : Int → Bool} {n n' : Nat} {k : Int} {Q : Value → Shared → Prop} (hab : a ≠ b)
    (hS : s.heap.SetOf (intKind prog w) a S n) (hS' : s.heap.SetOf (intKind prog w) b S' n')
    (hk : S k = true) (hk' : S' k = true) (hu : ∀ j, S j = true → S' j = true → j = k)
    (h : ∀ h', (∀ c o, s.heap.get? c = some o → h'.get? c = some o) → h'.SetOf (intKind prog w) s.heap.objs.size (fun j => decide (j = k)) 1 → Q (.ref s.heap.objs.size) { s with heap := h' }) :
    wpAny (model prog w) A (Builtin.Frozenset.intersection "frozenset.intersection" a (.ref b)) Q E s := by
  have hTa := hS.typeIs
  have halt : a < s.heap.objs.size := by obtain ⟨o, _, _, _, ho, _⟩ := hS; exact Heap.lt_size ho
  have hblt : b < s.heap.objs.size := by obtain ⟨o, _, _, _, ho, _⟩ := hS'; exact Heap.lt_size ho
  unfold Builtin.Frozenset.intersection
  rw [if_neg (by simp; exact fun q => hab q.symm)]
  unfold Builtin.Frozenset.baseOf
  refine wpAny_bind (wpAny_bind (wpAny_isInstance hTa sub_set_self (wpAny_pure ?_)))
  rw [if_pos rfl]
  refine wpAny_bind (wpAny_newSet_of (knd := intKind prog w) fun led _ => ?_)
  dsimp only
  generalize hH : (s.heap.push { cls := .type "set", dict := none, data := .set #[] 0 (.fresh 0 0 led) }) = H
  have hHk : ∀ c o, s.heap.get? c = some o → H.get? c = some o := fun c o e => hH ▸ Heap.get?_push_of_some _ e
  have up : ∀ {c : Addr} {S : Int → Bool} {n : Nat}, s.heap.SetOf (intKind prog w) c S n → H.SetOf (intKind prog w) c S n := fun hS => let ⟨o, es, ep, t, ho, rest⟩ := hS; ⟨o, es, ep, t, hHk _ _ ho, rest⟩
  have hr : H.SetOf (intKind prog w) s.heap.objs.size (fun _ => false) 0 := (setObjOf_fresh (knd := intKind prog w) led).setOf (hH ▸ Heap.get?_push_size _ rfl) (by unfold scanBound; omega)
  have fin : ∀ h', Heap.SameBut s.heap.objs.size H h' → h'.SetOf (intKind prog w) s.heap.objs.size (fun j => decide (j = k)) 1 → Q (.ref s.heap.objs.size) { s with heap := h' } := fun h' hs hS2 =>
    h h' (fun c o e => (hs.2 c (Nat.ne_of_lt (Heap.lt_size e))).trans (hHk c o e)) hS2
  unfold Builtin.Frozenset.addrOf
  refine wpAny_bind (wpAny_pure ?_)
  refine wpAny_bind (wpAny_holding ?_)
  refine wpAny_bind (isAnySet_of (s := { s with heap := H }) (up hS').typeIs ?_)
  rw [if_pos rfl]
  refine wpAny_bind (wpAny_pure ?_)
  refine wpAny_bind (sizeOf_of (s := { s with heap := H }) (up hS') ?_)
  refine wpAny_bind (sizeOf_of (s := { s with heap := H }) (up hS) ?_)
  by_cases hgt : n' > n
  · simp only [if_pos hgt]
    refine inter_walk (s := { s with heap := H }) (up hS) (up hS') hr (Nat.ne_of_lt halt) (Nat.ne_of_lt hblt) hk hk' hu fun h' hs hS2 => ?_
    exact wpAny_pure (fin h' hs hS2)
  · simp only [if_neg hgt]
    refine inter_walk (s := { s with heap := H }) (up hS') (up hS) hr (Nat.ne_of_lt hblt) (Nat.ne_of_lt halt) hk' hk (fun j a b => hu j b a) fun h' hs hS2 => ?_
    exact wpAny_pure (fin h' hs hS2)

theorem inter_one {a b : Addr} {oa ob : Obj} {S S' : Int → Bool} {n n' : Nat} {k : Int} {Q : Value → Shared → Prop} (F : Fr h₀ L s.heap m) (N : News h₀ L s.heap news) (ha : (a, oa) ∈ news) (hb : (b, ob) ∈ news) (hab : a ≠ b)
    (hS : oa.SetObjOf (intKind prog w) S n) (hS' : ob.SetObjOf (intKind prog w) S' n') (hz : n < scanBound) (hz' : n' < scanBound)
    (hk : S k = true) (hk' : S' k = true) (hu : ∀ j, S j = true → S' j = true → j = k)
    (h : ∀ D h' tk' so, Fr h₀ L h' m → News h₀ L h' ((D, so) :: news) → (∀ q ∈ news, q.1 < D) → so.SetObjOf (intKind prog w) (fun j => decide (j = k)) 1 → Q (.ref D) { s with heap := h', toks := tk' }) :
    wpAny (model prog w) A (call (.builtin "set.intersection") [.ref a, .ref b]) Q E s := by
  have hSa := hS.setOf (N _ ha).1 hz
  have hSb := hS'.setOf (N _ hb).1 hz'
  have hTa := hSa.typeIs
  have hTb := hSb.typeIs
  have hLlt : L < s.heap.objs.size := F.ns.lt
  have halt : a < s.heap.objs.size := Heap.lt_size (N _ ha).1
  have hblt : b < s.heap.objs.size := Heap.lt_size (N _ hb).1
  refine wpAny_call_entry PySem.F.slot_set_intersection hTa entry_set_inter ?_ (PySem.F.args_set_intersection_2 _ _)
  unfold Builtin.«frozenset.intersection» Builtin.Frozenset.manyOthers
  simp only [List.isEmpty_nil, Bool.not_true, Bool.false_eq_true, if_false]
  unfold Builtin.Frozenset.addrOf
  refine wpAny_bind (wpAny_bind (wpAny_pure (wpAny_pure ?_)))
  rw [if_neg (show ¬ ((a, [Value.ref b]).snd.isEmpty = true) from Bool.false_ne_true)]
  refine wpAny_bind ?_
  show wpAny _ _ (forIn [Value.ref b] _ _) _ _ _
  rw [List.forIn_cons]
  refine wpAny_bind (wpAny_bind (wpAny_holding (wpAny_bind (wpAny_pure (inter_core hab hSa hSb hk hk' hu fun h' hk2 hS2 => ?_)))))
  refine wpAny_pure ?_
  dsimp only
  rw [List.forIn_nil]
  refine wpAny_pure ?_
  refine wpAny_pure ⟨_, rfl, ?_⟩
  obtain ⟨so, hso, hset⟩ := hS2.objOf
  exact h _ h' s.toks so (F.keeps hk2) (fun q hq => by
    rcases List.mem_cons.mp hq with rfl | hq
    · exact ⟨hso, Nat.ne_of_gt hLlt, Heap.get?_none_of_le (Nat.le_trans F.above (Nat.le_of_lt hLlt))⟩
    · exact ⟨hk2 _ _ (N q hq).1, (N q hq).2⟩) (fun q hq => Heap.lt_size (N q hq).1) hset
end

/-- the two wheels meet in one place of the 260 -/
theorem wheel_place {d nn k : Int} (hd1 : 1 ≤ d) (hd2 : d ≤ 13) (hn1 : 1 ≤ nn) (hn2 : nn ≤ 20) (hk : k = (40 * d + 221 * nn - 1) % 260 + 1) :
    (∃ j : Nat, j < 20 ∧ 0 + (j : Int) * 13 + d = k) ∧ (∃ j : Nat, j < 13 ∧ 0 + (j : Int) * 20 + nn = k) ∧
      ∀ x : Int, (∃ j : Nat, j < 20 ∧ 0 + (j : Int) * 13 + d = x) → (∃ j : Nat, j < 13 ∧ 0 + (j : Int) * 20 + nn = x) → x = k := by
  refine ⟨⟨((k - d) / 13).toNat, ?_, ?_⟩, ⟨((k - nn) / 20).toNat, ?_, ?_⟩, ?_⟩
  · omega
  · omega
  · omega
  · omega
  · rintro x ⟨i, hi, rfl⟩ ⟨j, hj, e⟩
    omega
theorem firstMet_has {f : Nat → Int} {n : Nat} {k : Int} : ((firstMet f n).any (· == k)) = true ↔ ∃ j, j < n ∧ f j = k := by
  rw [firstMet_any, List.any_eq_true]
  constructor
  · rintro ⟨x, hx, e⟩
    obtain ⟨j, hj, rfl⟩ := List.mem_map.mp hx
    exact ⟨j, List.mem_range.mp hj, beq_iff_eq.mp e⟩
  · rintro ⟨j, hj, rfl⟩
    exact ⟨f j, List.mem_map.mpr ⟨j, List.mem_range.mpr hj, rfl⟩, beq_self_eq_true _⟩

section
variable {prog : Program} {w : World} {A : Around} {E : Value → Shared → Prop} {s : Shared} {h₀ : Heap} {L : Addr} {m : Str → Option Value} {news : List (Addr × Obj)}
theorem inter_cal {a b : Addr} {oa ob : Obj} {d ki : Int} {Q : Value → Shared → Prop} (F : Fr h₀ L s.heap m) (N : News h₀ L s.heap news) (ha : (a, oa) ∈ news) (hb : (b, ob) ∈ news) (hab : a ≠ b)
    (hS : oa.SetObjOf (intKind prog w) (fun k => (firstMet (fun j => 0 + (j : Nat) * 13 + d) 20).any (· == k)) (firstMet (fun j => 0 + (j : Nat) * 13 + d) 20).length) (hS' : ob.SetObjOf (intKind prog w) (fun k => (firstMet (fun j => 0 + (j : Nat) * 20 + (1 + ki)) 13).any (· == k)) (firstMet (fun j => 0 + (j : Nat) * 20 + (1 + ki)) 13).length)
    (hd1 : 1 ≤ d) (hd2 : d ≤ 13) (hn1 : 0 ≤ ki) (hn2 : ki < 20)
    (h : ∀ D h' tk' so, Fr h₀ L h' m → News h₀ L h' ((D, so) :: news) → (∀ q ∈ news, q.1 < D) → so.SetObjOf (intKind prog w) (fun j => decide (j = (40 * d + 221 * (ki + 1) - 1).fmod 260 + 1)) 1 → Q (.ref D) { s with heap := h', toks := tk' }) :
    wpAny (model prog w) A (call (.builtin "set.intersection") [.ref a, .ref b]) Q E s := by
  have e : (40 * d + 221 * (ki + 1) - 1).fmod 260 + 1 = (40 * d + 221 * (1 + ki) - 1) % 260 + 1 := by
    rw [Int.fmod_eq_emod_of_nonneg _ (by decide), Int.add_comm ki 1]
  obtain ⟨h1, h2, h3⟩ := wheel_place hd1 hd2 (show 1 ≤ 1 + ki by omega) (by omega) e
  have l1 := firstMet_length_le (fun j => 0 + (j : Nat) * 13 + d) 20
  have l2 := firstMet_length_le (fun j => 0 + (j : Nat) * 20 + (1 + ki)) 13
  refine inter_one F N ha hb hab hS hS' (by unfold scanBound; omega) (by unfold scanBound; omega) (firstMet_has.mpr h1) (firstMet_has.mpr h2) (fun j q1 q2 => h3 j (firstMet_has.mp q1) (firstMet_has.mp q2)) h
end
end Mine
end

section
open PySem PySem.W PySem.Calls PyProof.Rows PySem.Spec
set_option Elab.async false
namespace Mine
abbrev tz : List PySem.Str := [PySem.Str.ofString "Imix'", PySem.Str.ofString "Ik'", PySem.Str.ofString "Ak'b'al", PySem.Str.ofString "K'an", PySem.Str.ofString "Chikchan", PySem.Str.ofString "Kimi", PySem.Str.ofString "Manik'", PySem.Str.ofString "Lamat", PySem.Str.ofString "Muluk", PySem.Str.ofString "Ok", PySem.Str.ofString "Chuwen", PySem.Str.ofString "Eb'", PySem.Str.ofString "B'en", PySem.Str.ofString "Ix", PySem.Str.ofString "Men", PySem.Str.ofString "K'ib'", PySem.Str.ofString "Kab'an", PySem.Str.ofString "Etz'nab'", PySem.Str.ofString "Kawak", PySem.Str.ofString "Ajaw"]
theorem tz_index0 : ∀ {j : Nat}, j < 20 → tz.findIdx? (· == tz.getD j PySem.Str.empty) = some j := by decide +kernel
theorem tz_ok0 : ∀ {j : Nat}, j < 20 → PyData.strOk (tz.getD j PySem.Str.empty) = true := by decide +kernel
theorem tz_ok (i : Int) : PyData.strOk (tz.getD i.toNat PySem.Str.empty) = true := by
  by_cases h : i.toNat < 20
  · exact tz_ok0 h
  · rw [List.getD_eq_getElem?_getD, List.getElem?_eq_none (by simpa using Nat.le_of_not_lt h)]; decide +kernel
theorem tz_index {i : Int} (h : i.toNat < 20) : tz.findIdx? (· == tz.getD i.toNat PySem.Str.empty) = some i.toNat := tz_index0 h
abbrev hb : List PySem.Str := [PySem.Str.ofString "Pop", PySem.Str.ofString "Wo'", PySem.Str.ofString "Zip", PySem.Str.ofString "Sotz'", PySem.Str.ofString "Sek", PySem.Str.ofString "Xul", PySem.Str.ofString "Yaxk'in'", PySem.Str.ofString "Mol", PySem.Str.ofString "Ch'en", PySem.Str.ofString "Yax", PySem.Str.ofString "Sak'", PySem.Str.ofString "Keh", PySem.Str.ofString "Mak", PySem.Str.ofString "K'ank'in", PySem.Str.ofString "Muwan'", PySem.Str.ofString "Pax", PySem.Str.ofString "K'ayab", PySem.Str.ofString "Kumk'u", PySem.Str.ofString "Wayeb'"]
theorem hb_index0 : ∀ {j : Nat}, j < 19 → hb.findIdx? (· == hb.getD j PySem.Str.empty) = some j := by decide +kernel
theorem hb_index {i : Int} (h : i.toNat < 19) : hb.findIdx? (· == hb.getD i.toNat PySem.Str.empty) = some i.toNat := hb_index0 h

section
variable {prog : Program} {w : World} {A : Around} {E : Value → Shared → Prop} {s : Shared} {h₀ : Heap} {L c P : Addr} {m mg mb : Str → Option Value} {news : List (Addr × Obj)} {g : Obj → List (Addr × Obj)}
theorem tup_at {value slice : Expr} {D : Addr} {items : Array Value} {n : Nat} {i : Int} {u : Tok} {x : Value} {Q : Value → Shared → Prop} (N : News h₀ L s.heap news) (hm : (D, ({ cls := .type "tuple", data := .seq items n } : Obj)) ∈ news)
    (hx : items[i.toNat]? = some x) (h0 : 0 ≤ i) (h1 : i < 2 ^ 63) (h : Q x s)
    (hs : subscripted slice false (.ref D) (.int i u) = operate [.ref D, .int i u] (getItem (.ref D) (.int i u)) := by with_unfolding_all rfl) :
    wpAny (model prog w) A (subscriptTail value slice (.ref D) (.int i u)) Q E s := by
  have ht : IsTup s.heap D items := News.isTup N hm
  have hlt : i.toNat < items.size := by
    rcases Nat.lt_or_ge i.toNat items.size with q | q
    · exact q
    · rw [Array.getElem?_eq_none q] at hx; cases hx
  exact tail_any ht.typeIs slot_tuple_getitem.lookup (getItem_tuple ht (by omega) h1 (seqIndex_of h0 (by omega)) hx h) hs
theorem tup_at0 {value slice : Expr} {D : Addr} {n : Nat} {u : Tok} {x y : Value} {Q : Value → Shared → Prop} (N : News h₀ L s.heap news) (hm : (D, ({ cls := .type "tuple", data := .seq #[x, y] n } : Obj)) ∈ news) (h : Q x s)
    (hs : subscripted slice false (.ref D) (.int 0 u) = operate [.ref D, .int 0 u] (getItem (.ref D) (.int 0 u)) := by with_unfolding_all rfl) :
    wpAny (model prog w) A (subscriptTail value slice (.ref D) (.int 0 u)) Q E s := tup_at N hm (by rfl) (by decide) (by decide) h hs
theorem tup_at1 {value slice : Expr} {D : Addr} {n : Nat} {u : Tok} {x y : Value} {Q : Value → Shared → Prop} (N : News h₀ L s.heap news) (hm : (D, ({ cls := .type "tuple", data := .seq #[x, y] n } : Obj)) ∈ news) (h : Q y s)
    (hs : subscripted slice false (.ref D) (.int 1 u) = operate [.ref D, .int 1 u] (getItem (.ref D) (.int 1 u)) := by with_unfolding_all rfl) :
    wpAny (model prog w) A (subscriptTail value slice (.ref D) (.int 1 u)) Q E s := tup_at N hm (by rfl) (by decide) (by decide) h hs
theorem meth_indexK {K : Frag} {l : Addr} {items : Array Value} {n : Nat} {sl : Array (Option Value)} {pl : Sem Bool} {Q : Value × List Value → Shared → Prop} (F : Fr h₀ L s.heap m) (X : K.In h₀) (e : K.lookup l = some ⟨.type "list", none, .seq items n, sl⟩)
    (h : Q (.builtin "list.index", [.ref l]) s) : wpAny (model prog w) A (getMethod (.ref l) "index" pl) Q E s :=
  getMethod_builtin ⟨_, F.keep _ _ (X _ _ e), rfl⟩ PySem.F.plainAttrs_list PySem.F.slot_list_index PySem.F.type_list_index (fun a q => by cases q; exact ⟨_, F.keep _ _ (X _ _ e), rfl⟩) h
end
end Mine
end

section
open PySem PySem.W PySem.Calls PyProof.Rows PySem.Spec
set_option Elab.async false
set_option maxRecDepth 100000
namespace Mine
section
variable {prog : Program} {w : World} {A : Around} {E : Value → Shared → Prop} {s : Shared} {env : Env}

theorem entry_unchain : entryFor table "proto.unchain" = some Builtin.«proto.unchain» := entryFor_of_tree (by kernel_rfl)
theorem unchain_none {e1 e2 : Addr} {o1 : Obj} {vs1 : Array Value} {Q : Value → Shared → Prop} (h1 : s.heap.get? e1 = some o1) (hd : o1.data = .fields vs1) (h2 : vs1[2]? = some .none) (h : Q .none s) :
    wpAny (model prog w) A (runValue (.builtin "proto.unchain" ⟨[.ref e2, .ref e1, .ref e1, .bool false], []⟩)) Q E s := by
  refine wpAny_runValue (codeAny_builtin entry_unchain ?_)
  unfold Builtin.«proto.unchain»
  dsimp only
  refine wpAny_bind (wpAny_field h1 hd h2 ?_)
  rw [if_pos (by rfl)]
  exact wpAny_pure h

theorem excFrom_inst {cls : String} (F : ExcRaiseFacts cls) {a : Addr} {dd : Option Addr} {vs : Array Value} {sl : Array (Option Value)} {msg : String} {Q : Value → Shared → Prop} (he : s.heap.get? a = some { cls := .type cls, dict := dd, data := .fields vs, slots := sl }) (h : Q (.ref a) s) :
    wpAny (model prog w) A (excFromValue (.ref a) msg) Q E s := by
  unfold excFromValue
  obtain ⟨hp, g, d, tk, os⟩ := s
  have hsub := F.isExc
  have hmeta := F.plainMeta
  repeat (first | refine wpAny_loadPart he ?_ | wp_step)
  exact h
theorem isType_inst {cls : String} (F : ExcRaiseFacts cls) {a : Addr} {dd : Option Addr} {vs : Array Value} {sl : Array (Option Value)} {Q : Bool → Shared → Prop} (he : s.heap.get? a = some { cls := .type cls, dict := dd, data := .fields vs, slots := sl }) (h : Q false s) :
    wpAny (model prog w) A (isType (.ref a)) Q E s := by
  obtain ⟨hp, g, d, tk, os⟩ := s
  have hsub := F.isExc
  have hmeta := F.plainMeta
  unfold isType
  repeat (first | refine wpAny_loadPart he ?_ | wp_step)
  exact h
theorem raisedInst {cls : String} (F : ExcRaiseFacts cls) {a : Addr} {dd : Option Addr} {vs : Array Value} {sl : Array (Option Value)} {Q : Value → Shared → Prop} (he : s.heap.get? a = some { cls := .type cls, dict := dd, data := .fields vs, slots := sl }) (h : Q (.ref a) s) :
    wpAny (model prog w) A (raisedInstance (.ref a)) Q E s := by
  obtain ⟨hp, g, d, tk, os⟩ := s
  have hsub := F.isExc
  have hmeta := F.plainMeta
  unfold raisedInstance
  repeat (first | refine wpAny_loadPart he ?_ | wp_step)
  exact h

theorem mapped3 (c t a : Value) : Obj.mapFields (·.setIfInBounds 2 a) (Obj.mapFields (·.setIfInBounds 4 (Value.bool true)) (Obj.mapFields (·.setIfInBounds 3 a) ({ cls := c, data := .fields #[t, .none, .none, .none, .bool false, .none] } : Obj))) = { cls := c, data := .fields #[t, .none, a, a, .bool true, .none] } := by
  rfl
set_option maxHeartbeats 2000000 in
theorem raiseStmt_from {cls : String} (F : ExcRaiseFacts cls) {x c : Sem Value} {Q : Flow → Shared → Prop} {e1 : Addr} (hh : A.handled = some (.ref e1))
    (h : wpAny (model prog w) A x (fun v s₁ => ∃ e2 t2, v = .ref e2 ∧ s₁.heap.get? e2 = some { cls := .type cls, data := .fields #[.ref t2, .none, .none, .none, .bool false, .none] } ∧ 
      wpAny (model prog w) A c (fun cv s₂ => cv = .ref e1 ∧ s₂ = s₁ ∧ e1 ≠ e2 ∧ (∃ o1 vs1, s₁.heap.get? e1 = some o1 ∧ o1.cls = .type cls ∧ o1.data = .fields vs1 ∧ vs1[2]? = some .none) ∧
        ∀ h', Heap.SameBut e2 s₁.heap h' → h'.get? e2 = some { cls := .type cls, data := .fields #[.ref t2, .none, .ref e1, .ref e1, .bool true, .none] } → E (.ref e2) { s₁ with heap := h' }) E s₁) E s) :
    wpAny (model prog w) A (raiseStmt env (some x) (some c)) Q E s := by
  unfold raiseStmt
  refine wpAny_bind (wpAny_mono h (fun v s₁ h₁ => ?_) fun _ _ x => x)
  obtain ⟨e2, t2, rfl, he2, hc⟩ := h₁
  refine wpAny_bind (wpAny_holding (wpAny_mono hc (fun cv s₂ h₂ => ?_) fun _ _ x => x))
  obtain ⟨rfl, rfl, hne, ⟨o1, vs1, he1, hc1, hd1, hv2⟩, hE⟩ := h₂
  refine wpAny_bind (wpAny_pure ?_)
  dsimp only
  obtain ⟨hp, g, d, tk, os⟩ := s₂
  obtain ⟨oc, od, odt, osl⟩ := o1
  dsimp only at hc1 hd1
  subst hc1 hd1
  have hsub := F.isExc
  have hmeta := F.plainMeta
  refine wpAny_bind (wpAny_holding (excFrom_inst F he2 ?_))
  rw [if_neg (by simp)]
  refine wpAny_bind (wpAny_holding (excFrom_inst F he1 ?_))
  refine wpAny_bind (wpAny_setField he2 rfl (by simp) ?_)
  have g2 := Heap.get?_update_self (Obj.mapFields (·.setIfInBounds 3 (Value.ref e1))) he2 rfl
  refine wpAny_bind (wpAny_setField g2 rfl (by simp) ?_)
  have g3 := Heap.get?_update_self (Obj.mapFields (·.setIfInBounds 4 (Value.bool true))) g2 rfl
  refine wpAny_bind (isType_inst F g3 ?_)
  rw [if_neg (by simp)]
  refine wpAny_bind (raisedInst F g3 ?_)
  refine wpAny_bind ?_
  unfold setFlight
  refine wpAny_bind (wpAny_field g3 rfl (x := .none) rfl ?_)
  rw [if_neg (by decide)]
  refine wpAny_pure ?_
  unfold raiseNew
  refine wpAny_bind (wpAny_handled ?_)
  rw [hh]
  dsimp only
  rw [if_pos (by simpa using hne)]
  refine wpAny_bind (wpAny_holding (unchain_none ((Heap.get?_update_other _ _ (Ne.symm hne)).trans ((Heap.get?_update_other _ _ (Ne.symm hne)).trans he1)) rfl hv2 ?_))
  have g4 := Heap.get?_update_self (Obj.mapFields (·.setIfInBounds 2 (Value.ref e1))) g3 rfl
  rw [mapped3] at g4
  refine wpAny_bind (show wpAny _ _ (setField (Value.ref e2) 2 (Value.ref e1)) _ _ _ from wpAny_setField g3 rfl (by simp) ?_)
  exact wpAny_throw (hE _ ⟨by simp [Heap.size_after_update], fun b hb => by
    rw [Heap.get?_update_other _ _ (Ne.symm hb), Heap.get?_update_other _ _ (Ne.symm hb), Heap.get?_update_other _ _ (Ne.symm hb)]⟩ g4)
end
end Mine
end

section
open PySem PySem.W PySem.Calls PyProof.Rows PySem.Spec
set_option Elab.async false
set_option maxRecDepth 100000
namespace Mine

/-- an exception whose traceback T stands in the state fl, no context set yet -/
def Exc1 (base : Heap) (e : Addr) (cls : String) (fl : Value) (h : Heap) : Prop :=
  ∃ oe vs T oT ts, h.get? e = some oe ∧ oe.cls = .type cls ∧ oe.data = .fields vs ∧ vs[1]? = some (.ref T) ∧ vs[2]? = some .none ∧ base.get? T = none ∧ T ≠ e ∧ h.get? T = some oT ∧ oT.data = .fields ts ∧ ts[3]? = some fl

/-- the standing facts of a frame while an exception is handled in it -/
structure Stn (base g : Heap) (l : List Env) (h : Heap) : Prop where
  stays : base.StaysIn h
  frames : h.FunFrames base l
  upto : g.UpToSlots h
theorem Stn.up {base g h h' : Heap} {l : List Env} (S : Stn base g l h) (k : base.StaysIn h') (u : h.UpToSlots h') : Stn base g l h' :=
  ⟨k, S.frames.of_keeps fun b o ho hn => let ⟨sl, hs⟩ := u b o ho hn; ⟨_, hs, rfl⟩, S.upto.trans u⟩
theorem Stn.set {base g h h' : Heap} {l : List Env} {L : Addr} {m : Str → Option Value} (S : Stn base g l h) (hs : Heap.SameBut L h h') (hn : h'.Ns L m) (hb : base.get? L = none) (hg : g.get? L = none) : Stn base g l h' := by
  have ne : ∀ {k : Heap} {b : Addr} {o : Obj}, k.get? L = none → k.get? b = some o → b ≠ L := fun hk ho q => by rw [q, hk] at ho; cases ho
  refine ⟨fun b o ho => (hs.2 b (ne hb ho)).trans (S.stays b o ho), ?_, fun b o ho hd => ?_⟩
  · obtain ⟨oL, es, ep, hL, hd, _⟩ := hn
    have go : ∀ l : List Env, h.FunFrames base l → h'.FunFrames base l := by
      intro l
      induction l with
      | nil => exact fun _ => trivial
      | cons env r ih =>
        rintro ⟨a, ⟨L', o, b1, b2, b3, b4⟩, c⟩
        refine ⟨a, ?_, ih c⟩
        by_cases q : L' = L
        · subst q
          exact ⟨L', oL, b1, b2, hL, fun vs z => by rw [hd] at z; cases z⟩
        · exact ⟨L', o, b1, b2, (hs.2 L' q).trans b3, b4⟩
    exact go l S.frames
  · obtain ⟨sl, h1⟩ := S.upto b o ho hd
    exact ⟨sl, (hs.2 b (ne hg ho)).trans h1⟩

section
variable {M : Model} {A : Around} {E : Value → Shared → Prop} {s : Shared} {base : Heap} {env : Env} {outer : List Env} {L e : Addr} {cls : String}

/-- the first note of a new exception in its own frame -/
theorem note_new {oe : Obj} {vs : Array Value} {Q : Unit → Shared → Prop} (hfr : A.frames = some (env :: outer)) (hl : s.heap.FunFrames base (env :: outer)) (hf : env.frame = some L)
    (he : s.heap.get? e = some oe) (hc : oe.cls = .type cls) (hd : oe.data = .fields vs) (h1 : vs[1]? = some .none) (h2 : vs[2]? = some .none) (hkb : base.StaysIn s.heap) (hen : base.get? e = none)
    (h : ∀ h', base.StaysIn h' → s.heap.UpToSlots h' → Exc1 base e cls (rawInt L) h' → Q () { s with heap := h' }) :
    wpAny M A (noteFrame (.ref e) env) Q E s := by
  unfold noteFrame
  simp only [hf]
  refine wpAny_bind (wpAny_field he hd h1 ?_)
  rw [if_neg (by decide)]
  have hene : e ∉ (env :: outer).filterMap (·.frame) := fun hm => by
    obtain ⟨_, o, ho, hnf⟩ := hl.mem hm
    rw [he] at ho; injection ho with ho; subst ho; exact hnf vs hd
  have hsz : 1 < vs.size := (Array.getElem?_eq_some_iff.mp h1).1
  refine wpAny_bind (wpAny_frameOf_fun hfr hl hf fun k hk => ?_)
  refine wpAny_bind (wpAny_entryPlaceOf fun pl hpl => ?_)
  unfold EntryCells.newEntry newFields
  refine wpAny_bind (wpAny_newObj_type ?_ (hpl.sizeOk5 _ _ _ _ _))
  have he1 : k.get? e = some oe := (hk.2.1 e hene).trans he
  have kb1 : base.StaysIn k := fun b o hbo => (hk.2.1 b fun hm => by rw [(hl.mem hm).1] at hbo; cases hbo).trans (hkb b o hbo)
  generalize hT : ({ cls := .type "traceback", dict := none, data := .fields ([Value.none, .ref L, .none, rawInt L, .none] ++ (if pl.isEmpty then List.replicate 6 Value.none else pl)).toArray } : Obj) = oT
  have he2 : (k.push oT).get? e = some oe := Heap.get?_push_of_some oT he1
  refine wpAny_setField he2 hd hsz (h _ ?_ ?_ ?_)
  · intro b o hbo
    have hbe : b ≠ e := fun q => by rw [q, hen] at hbo; cases hbo
    exact (Heap.get?_update_other _ _ (Ne.symm hbe)).trans (Heap.get?_push_of_some oT (kb1 b o hbo))
  · intro b o hb hn
    have hbe : b ≠ e := fun q => by rw [q, he] at hb; injection hb with hb; subst hb; exact hn vs hd
    obtain ⟨sl, hs⟩ := hk.2.2 b o hb
    exact ⟨sl, (Heap.get?_update_other _ _ (Ne.symm hbe)).trans (Heap.get?_push_of_some oT hs)⟩
  · have hTe : k.objs.size ≠ e := Nat.ne_of_gt (Heap.lt_size he1)
    have hd3 := Obj.data_mapFields hd (·.setIfInBounds 1 (Value.ref k.objs.size))
    have hTd : oT.data = .fields ([Value.none, .ref L, .none, rawInt L, .none] ++ (if pl.isEmpty then List.replicate 6 Value.none else pl)).toArray := by rw [← hT]
    refine ⟨_, _, k.objs.size, oT, _, Heap.get?_update_self _ he2 (Obj.isFreed_of_fields hd3), (Obj.cls_mapFields _ _).trans hc, hd3, by simp [hsz], by rw [Array.getElem?_setIfInBounds_ne (by decide)]; exact h2, kb1.fresh, hTe,
      (Heap.get?_update_other _ _ (Ne.symm hTe)).trans (Heap.get?_push_size k (by rw [← hT]; rfl)), hTd, by simp⟩

/-- the flight mark of an exception is set -/
theorem flight1 {fl : Value} {fr : Option Addr} {Q : Unit → Shared → Prop} (hkb : base.StaysIn s.heap) (hx : Exc1 base e cls fl s.heap)
    (h : ∀ h', base.StaysIn h' → s.heap.UpToSlots h' → Exc1 base e cls (fr.elim .none fun f => rawInt f) h' → Q () { s with heap := h' }) :
    wpAny M A (setFlight (.ref e) fr) Q E s := by
  obtain ⟨oe, vs, T, oT, ts, he, hc, hd, h1, h2, hnT, hTe, hT, hdT, h3⟩ := hx
  unfold setFlight
  refine wpAny_bind (wpAny_field he hd h1 ?_)
  rw [if_pos (show (Value.ref T != Value.none) = true from by simp)]
  have hsz : 3 < ts.size := (Array.getElem?_eq_some_iff.mp h3).1
  refine wpAny_setField hT hdT hsz (h _ ?_ ?_ ?_)
  · intro b o hbo
    exact (Heap.get?_update_other _ _ (fun q => by rw [← q, hnT] at hbo; cases hbo)).trans (hkb b o hbo)
  · intro b o hb hn
    exact ⟨o.slots, (Heap.get?_update_other _ _ (fun q => by rw [← q, hT] at hb; injection hb with hb; subst hb; exact hn ts hdT)).trans hb⟩
  · exact ⟨oe, vs, T, _, _, (Heap.get?_update_other _ _ hTe).trans he, hc, hd, h1, h2, hnT, hTe, Heap.get?_update_self _ hT (Obj.isFreed_of_fields (Obj.data_mapFields hdT _)), Obj.data_mapFields hdT _, by simp [hsz]⟩
end

section
variable {M : Model} {A : Around} {E : Value → Shared → Prop} {s : Shared} {base : Heap} {env : Env} {outer : List Env} {L e : Addr} {cls a0 : Value}
theorem flightW {fl : Value} {fr : Option Addr} {Q : Unit → Shared → Prop} (hkb : base.StaysIn s.heap) (hx : s.heap.TracedAtW base e cls a0 fl)
    (h : ∀ h', base.StaysIn h' → s.heap.UpToSlots h' → h'.TracedAtW base e cls a0 (fr.elim .none fun f => rawInt f) → Q () { s with heap := h' }) :
    wpAny M A (setFlight (.ref e) fr) Q E s := by
  obtain ⟨oe, vs, T, oT, ts, he, hc, hd, h1, hnT, hTe, hT, hdT, h3⟩ := hx
  unfold setFlight
  refine wpAny_bind (wpAny_field he hd h1 ?_)
  rw [if_pos (show (Value.ref T != Value.none) = true from by simp)]
  have hsz : 3 < ts.size := (Array.getElem?_eq_some_iff.mp h3).1
  refine wpAny_setField hT hdT hsz (h _ ?_ ?_ ?_)
  · intro b o hbo
    exact (Heap.get?_update_other _ _ (fun q => by rw [← q, hnT] at hbo; cases hbo)).trans (hkb b o hbo)
  · intro b o hb hn
    exact ⟨o.slots, (Heap.get?_update_other _ _ (fun q => by rw [← q, hT] at hb; injection hb with hb; subst hb; exact hn ts hdT)).trans hb⟩
  · exact ⟨oe, vs, T, _, _, (Heap.get?_update_other _ _ hTe).trans he, hc, hd, h1, hnT, hTe, Heap.get?_update_self _ hT (Obj.isFreed_of_fields (Obj.data_mapFields hdT _)), Obj.data_mapFields hdT _, by simp [hsz]⟩
theorem tracedW_set {h h' : Heap} {fl : Value} {m : Str → Option Value} (hx : h.TracedAtW base e cls a0 fl) (hs : Heap.SameBut L h h') (hn : h.Ns L m) : h'.TracedAtW base e cls a0 fl := by
  obtain ⟨oe, vs, T, oT, ts, he, hc, hd, h1, hnT, hTe, hT, hdT, h3⟩ := hx
  obtain ⟨oL, es, ep, hL, hLd, _⟩ := hn
  have ne : ∀ {b : Addr} {o : Obj} {ws : Array Value}, h.get? b = some o → o.data = .fields ws → b ≠ L := fun ho hd q => by
    rw [q, hL] at ho; injection ho with ho; subst ho; rw [hLd] at hd; cases hd
  exact ⟨oe, vs, T, oT, ts, (hs.2 _ (ne he hd)).trans he, hc, hd, h1, hnT, hTe, (hs.2 _ (ne hT hdT)).trans hT, hdT, h3⟩
end
end Mine
end

section
open PySem PySem.W PySem.Calls PyProof.Rows PySem.Spec
set_option Elab.async false
set_option maxRecDepth 100000
namespace Mine
open Builtin Builtin.Str
section
variable {prog : Program} {w : World} {A : Around} {E : Value → Shared → Prop} {s : Shared}
theorem field_nought {id : String} {a : Array Value} {byName : PySem.Str → Sem Value} {v : Value} {Q : Value × Numbering → Shared → Prop} (ha : a[0]? = some v)
    (h : Q (v, .manual) s) : wpAny (model prog w) A (fieldObject id (some a) byName [48] .unset) Q E s := by
  unfold fieldObject
  first
    | refine wpAny_bind (wpAny_pure ?_)
    | refine wpAny_bind (wpAny_of_eq (a := some 0) rfl ?_)
  first
    | refine wpAny_bind (wpAny_pure ?_)
    | refine wpAny_bind (wpAny_of_eq (a := (some 0, .manual)) rfl ?_)
  simp only [ha, pure_bind]
  rw [KPc.range_list]
  exact wpAny_bind (wpAny_pure (wpAny_pure h))
end
local macro_rules | `(tactic| kfm_turns) => `(tactic| (refine KPc.turn ?_; kpc_if; first
  | kfm_close
  | (kpc_check; (refine wpAny_bind (field_nought (by rfl) ?_)); (refine wpAny_bind (wpAny_holding (wpAny_of_eq (a := _) rfl ?_))); (kpc_if); (refine wpAny_bind (wpAny_pure ?_)); (kfm_val); (refine wpAny_bind (wpAny_of_eq (a := some _) rfl ?_)); (refine wpAny_pure ?_); (refine KFm.after_field (by kpc_g) (by kpc_text) (by kpc_obj) (by kfm_len) (by kpc_obj) (by kfm_cat2) (by kfm_rest) ?_); (intro _ _); kfm_turns)
  | (kpc_check; kfm_lit; kfm_turns)))
abbrev fmtT : Str := PySem.Str.ofString "'{0}' is not a valid Tzolk'in day name"
abbrev fmtH : Str := PySem.Str.ofString "'{0}' is not a valid Haab' month"
section
variable {prog : Program} {w : World} {A : Around} {E : Value → Shared → Prop} {s : Shared}
theorem fmt_tz {x : Str} {t u : Tok} {Q : Value → Shared → Prop} (hx : x.length ≤ 1000) (h : ∀ y t' k, Q (.str y t') { s with toks := k }) :
    wpAny (model prog w) A (call (.builtin "str.format") [.str fmtT t, .str x u]) Q E s := by
  k_dflt (refine' KFm.call_k ?kfmF ?kfmg ?kfmm ?_; (case kfmF => kfm_eq); (case kfmg => kfm_args); (case kfmm => k_dflt kfm_run))
  intro _ _
  exact h _ _ _
theorem fmt_hb {x : Str} {t u : Tok} {Q : Value → Shared → Prop} (hx : x.length ≤ 1000) (h : ∀ y t' k, Q (.str y t') { s with toks := k }) :
    wpAny (model prog w) A (call (.builtin "str.format") [.str fmtH t, .str x u]) Q E s := by
  k_dflt (refine' KFm.call_k ?kfmF ?kfmg ?kfmm ?_; (case kfmF => kfm_eq); (case kfmg => kfm_args); (case kfmm => k_dflt kfm_run))
  intro _ _
  exact h _ _ _
end
end Mine
end

section
open PySem PySem.W PySem.Calls PyProof.Rows PySem.Spec PySem.SeqAt
set_option Elab.async false
set_option maxRecDepth 100000
open AutoSeq1 (wpAny_loadPart')
open MeetsSeq MeetsSeq2 MeetsSeq3 SeqRoads2
namespace Mine
section
variable {prog : Program} {w : World} {A : Around} {E : Value → Shared → Prop} {s : Shared}

theorem listRaise {α : Type} {M : Model} {cls : String} {msg : Str} {Q : α → Shared → Prop} (hp : PlainExc cls) (hh : A.handled = none) (hm : msg.length ≤ sizeLine)
    (h : ∀ h' tk e, Heap.NewExc s.heap h' e cls → E (.ref e) { s with heap := h', toks := tk }) :
    wpAny M A (Builtin.List.listRaiseStr cls msg : Sem α) Q E s := by
  unfold Builtin.List.listRaiseStr
  refine wpAny_bind (wpAny_mkStr (wpAny_bind ?_) hm)
  unfold newExc newTuple
  refine wpAny_bind (wpAny_newObj_type ?_)
  refine wpAny_bind (m := firstArgMember _ _) (wpAny_of_eq (a := Value.none) (by simp only [firstArgMember, hp.first]; rfl) ?_)
  rw [hp.own]
  refine wpAny_newObj_type ?_
  unfold raiseNew
  refine wpAny_bind (wpAny_handled ?_)
  rw [hh]
  first
    | refine wpAny_throw ?_
    | refine wpAny_bind (wpAny_pure (wpAny_throw ?_))
  exact h _ _ _ ⟨fun b o hb => Heap.get?_push_of_some _ (Heap.get?_push_of_some _ hb), Heap.get?_none_of_le (by simp), _, .ref s.heap.objs.size, Heap.get?_push_size _ rfl, rfl, by simp⟩

theorem miss_loop (l : Addr) (items : Array Value) (n : Nat) (dd : Option Addr) (sl : Array (Option Value)) (x : Str) (t : Tok) (hx : (reprText x).length + 16 ≤ sizeLine) (upto : Int) (hsz : (items.size : Int) ≤ upto) (k : Nat) :
    ∀ i : Nat, items.size - i = k → Meets (Builtin.«list.index.loop» ⟨[.ref l, .str x t, rawInt i, rawInt upto], []⟩)
      (fun A R s => A.handled = none ∧ s.heap.get? l = some { cls := .type "list", dict := dd, data := .seq items n, slots := sl } ∧ (∀ y, y ∈ items → EqAt A.in1 s y (.str x t) false) ∧
        ∀ h' tk e, Heap.NewExc s.heap h' e "ValueError" → R (.error (.ref e)) { s with heap := h', toks := tk }) := by
  induction k with
  | zero =>
    intro i hk prog w A R s h
    obtain ⟨hp, g, d, tk, os⟩ := s; obtain ⟨hh, hl, he, h⟩ := h
    wp_walk using wpAny_loadPart' hl
    have hi : (if (i : Int) < upto then items[((i : Nat) : Int).toNat]? else none) = none := by
      split
      · simp; omega
      · rfl
    rw [hi]
    refine wpAny_bind (wpAny_rule (wpAny_bind (wpAny_pyRepr_str ?_ (by omega))))
    refine @listRaise A.in1 _ _ Fin (model prog w) "ValueError" _ _ ?_ ?_ ?_ ?_
    · exact plainExc_ValueError
    · exact hh
    · have e1 : (PySem.Str.ofString " is not in list").length = 15 := by decide
      have e2 : (reprText x ++ PySem.Str.ofString " is not in list").length = (reprText x).length + 15 := by rw [PySem.Str.length_append, e1]
      rw [e2]; omega
    · intro h' tk' e hx'
      exact h h' tk' e hx'
  | succ k ih =>
    intro i hk prog w A R s h
    obtain ⟨hp, g, d, tk, os⟩ := s; obtain ⟨hh, hl, he, h⟩ := h
    have hlt : i < items.size := by omega
    wp_walk using wpAny_loadPart' hl
    have hi : (if (i : Int) < upto then items[((i : Nat) : Int).toNat]? else none) = some items[i] := by
      rw [if_pos (by omega)]; simp [hlt]
    have hc : ((i : Int) + 1) = ((i + 1 : Nat) : Int) := by push_cast; rfl
    rw [hi]
    refine wpAny_bind (he _ (Array.getElem_mem hlt) prog w _ _ ?_)
    wp_walk
    rw [hc]
    exact ⟨plainId_quiet plain_index_loop _, codeAny_builtin entry_index_loop (by
      rw [Around.under_plainId plain_index_loop _]
      exact ih (i + 1) (by omega) prog w A R _ ⟨hh, hl, he, h⟩)⟩

theorem miss_index (l : Addr) (items : Array Value) (n : Nat) (dd : Option Addr) (sl : Array (Option Value)) (x : Str) (t : Tok) (hx : (reprText x).length + 16 ≤ sizeLine) (hsz : items.size < 2 ^ 20) :
    Meets (Builtin.«list.index» ⟨[.ref l, .str x t], []⟩)
      (fun A R s => A.handled = none ∧ s.heap.get? l = some { cls := .type "list", dict := dd, data := .seq items n, slots := sl } ∧ (∀ y, y ∈ items → EqAt A.in1 s y (.str x t) false) ∧
        ∀ h' tk e, Heap.NewExc s.heap h' e "ValueError" → R (.error (.ref e)) { s with heap := h', toks := tk }) := by
  intro prog w A R s h
  obtain ⟨hp, g, d, tk, os⟩ := s; obtain ⟨hh, hl, he, h⟩ := h
  wp_walk using wpAny_loadPart' hl
  have a1 : ((fun i : Int => if i < 0 then max 0 (i + (items.size : Int)) else i) ((none : Option Int).getD 0)) = ((0 : Nat) : Int) := by simp
  have a2 : ((fun i : Int => if i < 0 then max 0 (i + (items.size : Int)) else i) ((none : Option Int).getD (2 ^ 63 - 1))) = 2 ^ 63 - 1 := by simp
  rw [a1, a2]
  exact ⟨plainId_quiet plain_index_loop _, codeAny_builtin entry_index_loop (by
    rw [Around.under_plainId plain_index_loop _]
    exact miss_loop l items n dd sl x t hx (2 ^ 63 - 1) (by omega) _ 0 rfl prog w A R _ ⟨hh, hl, he, h⟩)⟩

theorem index_missing {l : Addr} {vs : List Value} {ws : List Str} {x : Str} {t : Tok} {Q : Value → Shared → Prop} (hh : A.handled = none) (hl : s.heap.IsList l vs.toArray) (hw : StrsAre vs ws) (hx : ws.contains x = false) (hz : ws.length < 2 ^ 20) (hr : (reprText x).length + 16 ≤ sizeLine)
    (h : ∀ h' tk e, Heap.NewExc s.heap h' e "ValueError" → E (.ref e) { s with heap := h', toks := tk }) : wpAny (model prog w) A (call (.builtin "list.index") [.ref l, .str x t]) Q E s := by
  obtain ⟨⟨cls, dd, data, sl⟩, ho, hc, n, hd⟩ := id hl
  simp only at hc hd
  subst hc hd
  have hlen : vs.length = ws.length := hw.length
  refine call_meets PySem.F.slot_list_index ⟨_, ho, rfl⟩ PySem.F.entry_list_index (PySem.F.args_list_index_2 _ _)
    (miss_index l vs.toArray n dd sl x t hr (by simpa [hlen] using hz)) ⟨hh, ho, fun y hy => ?_, fun h' tk e hx => h h' tk e hx⟩
  have q := (eq_isStrOf x t hw y (by simpa using hy)).at A.in1 s
  have e : isStrOf x y = false := by
    obtain ⟨j, hj, rfl⟩ := List.getElem_of_mem (show y ∈ vs by simpa using hy)
    rw [isStrOf_at x hw j hj (by omega)]
    cases hq : (ws[j]'(by omega) == x) with
    | false => rfl
    | true =>
      have : ws.contains x = true := by
        rw [List.contains_iff_mem]; rw [← beq_iff_eq.mp hq]; exact List.getElem_mem _
      rw [this] at hx; cases hx
  rw [e] at q
  exact q
end
end Mine
end

section
open PySem PySem.W PySem.Calls PyProof.Rows PySem.Spec
set_option Elab.async false
set_option maxRecDepth 100000
namespace Mine

theorem exc1_set {base h h' : Heap} {e L : Addr} {cls : String} {fl : Value} {m : Str → Option Value} (hx : Exc1 base e cls fl h) (hs : Heap.SameBut L h h') (hn : h.Ns L m) : Exc1 base e cls fl h' := by
  obtain ⟨oe, vs, T, oT, ts, he, hc, hd, h1, h2, hnT, hTe, hT, hdT, h3⟩ := hx
  obtain ⟨oL, es, ep, hL, hLd, _⟩ := hn
  have ne : ∀ {b : Addr} {o : Obj} {ws : Array Value}, h.get? b = some o → o.data = .fields ws → b ≠ L := fun ho hd q => by
    rw [q, hL] at ho; injection ho with ho; subst ho; rw [hLd] at hd; cases hd
  exact ⟨oe, vs, T, oT, ts, (hs.2 _ (ne he hd)).trans he, hc, hd, h1, h2, hnT, hTe, (hs.2 _ (ne hT hdT)).trans hT, hdT, h3⟩

/-- an exception that stands in flight in its frame, out of a handler -/
def HeldS (base g : Heap) (env : Env) (outer : List Env) (e : Addr) (cls : Value) (t : Addr) (vs : List Value) (news : List (Addr × Obj)) (L : Addr) (h : Heap) : Prop :=
  ((∃ B, base.StaysIn B ∧ (∀ b o, g.get? b = some o → b ∉ outer.filterMap (·.frame) → B.get? b = some o) ∧ (∀ q ∈ news, B.get? q.1 = some q.2 ∧ g.get? q.1 = none ∧ base.get? q.1 = none) ∧ Heap.HeldW B (env :: outer) e cls (.ref t) L h ∧ B.get? t = none) ∧ h.TupAt t vs) ∧ g.UpToSlots h

theorem memX {name : Str} {scope : Scope} {L a b : Addr} {cd : Value} {cl : List (Str × Addr)} {outer : List Env} (hm : b ∈ (envX name scope L a cd cl :: outer).filterMap (·.frame)) : b = L ∨ b ∈ outer.filterMap (·.frame) := by
  obtain ⟨env, he, hf⟩ := List.mem_filterMap.mp hm
  rcases List.mem_cons.mp he with rfl | he
  · exact .inl (Option.some.inj hf).symm
  · exact .inr (List.mem_filterMap.mpr ⟨env, he, hf⟩)

section
variable {M : Model} {A : Around} {E : Value → Shared → Prop} {s' : Shared} {base g h : Heap} {outer : List Env} {L a e t : Addr} {m : Str → Option Value} {name : Str} {scope : Scope} {cd : Value} {cl : List (Str × Addr)} {Q : Unit → Shared → Prop} {news : List (Addr × Obj)}

/-- the ground that stays while a frame is left by an exception -/
theorem groundR (K : Below A base outer g) (F : Fr g L h m) (N : News g L h news) (hk : scope.kind = .function) :
    ∃ B, B = hideAll h ((envX name scope L a cd cl :: outer).filterMap (·.frame)) ∧ base.StaysIn B ∧ (∀ b o, g.get? b = some o → b ∉ outer.filterMap (·.frame) → B.get? b = some o) ∧ (∀ q ∈ news, B.get? q.1 = some q.2 ∧ g.get? q.1 = none ∧ base.get? q.1 = none) ∧
      (∀ b o, B.get? b = some o → h.get? b = some o) ∧ h.FunFrames B (envX name scope L a cd cl :: outer) ∧ B.get? L = none := by
  have K' := pushX (env := envX name scope L a cd cl) K F rfl hk
  have hin : ∀ env ∈ (envX name scope L a cd cl :: outer), ∀ b, env.frame = some b → b ∈ (envX name scope L a cd cl :: outer).filterMap (·.frame) := fun env he b hb => List.mem_filterMap.mpr ⟨env, he, hb⟩
  refine ⟨_, rfl, fun b o q => hideAll_get _ (K'.stays b o q) fun hm => ?_, fun b o q nm => hideAll_get _ (F.keep b o q) fun hm => ?_, fun q hq => ⟨hideAll_get _ (N q hq).1 fun hm => ?_, (N q hq).2.2, fresh_of_stays K.stays (N q hq).2.2⟩, fun b o q => of_hideAll _ q, funFrames_hide K'.frames hin, hideAll_none _ (hin _ (.head _) L rfl)⟩
  · rw [(K'.frames.mem hm).1] at q; cases q
  · rcases memX hm with z | z
    · rw [z, kts_self F] at q; cases q
    · exact nm z
  · rcases memX hm with z | z
    · exact (N q hq).2.1 z
    · obtain ⟨o, ho, _⟩ := (K.frames.mem z).2
      rw [(N q hq).2.2] at ho; cases ho

theorem leave_raiseX {cls : Value} {vs : List Value} (K : Below A base outer g) (hx : Heap.MadeExcOf h s'.heap e cls vs) (F : Fr g L h m) (N : News g L h news)
    (hQ : ∀ h' t, RaisedS base g outer e cls t vs news h' → RaisedK base outer e cls t vs news h' → g.UpToSlots h' → Q () { s' with heap := h' }) (hk : scope.kind = .function := by rfl) :
    wpAny M (A.deeper (envX name scope L a cd cl)) (leaving (envX name scope L a cd cl) (.ref e)) Q E s' := by
  obtain ⟨B, rfl, st, sg, hl, hB, hfr, _⟩ := groundR (name := name) (a := a) (cd := cd) (cl := cl) (scope := scope) K F N hk
  exact wpAny_leaves_madeW (Around.frames_deeper K.stack) rfl hB hfr hx fun h' t x1 x2 x3 x4 =>
    have R : RaisedS base g outer e cls t vs news h' := ⟨⟨_, st, sg, hl, x1, x3⟩, x2⟩
    hQ h' t R R.toK (((Heap.UpToSlots.of_keeps F.keep).trans (Heap.UpToSlots.of_keeps hx.keeps)).trans x4)

theorem leave_heldX {cls : Value} {vs : List Value} (R : HeldS base g (envX name scope L a cd cl) outer e cls t vs news L s'.heap)
    (hQ : ∀ h', RaisedS base g outer e cls t vs news h' → RaisedK base outer e cls t vs news h' → g.UpToSlots h' → Q () { s' with heap := h' }) :
    wpAny M (A.deeper (envX name scope L a cd cl)) (leaving (envX name scope L a cd cl) (.ref e)) Q E s' := by
  obtain ⟨⟨⟨B, st, sg, hl, hh, ht⟩, htup⟩, up⟩ := R
  unfold leaving
  refine wpAny_bind (wpAny_noteFrame_againW rfl hh.2.2.2 ?_)
  refine wpAny_landsW hh fun h' hfl u => ?_
  obtain ⟨k1, k2, ⟨_, _, k3⟩, k4⟩ := hfl
  have R : RaisedS base g outer e cls t vs news h' := ⟨⟨B, st, sg, hl, ⟨k1, k2, k3, k4⟩, ht⟩, htup.of_slots u⟩
  exact hQ h' R R.toK (up.trans u)
end
end Mine
end

section
open PySem PySem.W PySem.Calls PyProof.Rows PySem.Spec
set_option Elab.async false
set_option maxRecDepth 100000
namespace Mine
theorem sub_value : isSubtype (.type "ValueError") (.type "ValueError") = pure true := by rw [isSubtype_type]; kernel_rfl

section
variable {prog : Program} {w : World} {A₀ : Around} {E : Value → Shared → Prop} {s' : Shared} {base g h : Heap} {outer : List Env} {L a e : Addr} {m : Str → Option Value} {name : Str} {scope : Scope} {cd : Value} {cl : List (Str × Addr)} {news : List (Addr × Obj)}
  {KF : Frag} {p : Program} {loose : List Str} {mean : ExcName → Option Value} {mg mb : Str → Option Value} {n : Str} {pos np np2 np3 cpos rpos : Pos} {arg : Expr} {rest : List ExceptHandler} {Q : Flow → Shared → Prop}

/-- what follows once the second exception is thrown inside the suite of "except ValueError as n" -/
theorem suite_raised {B : Heap} {e1 e2 t2 : Addr} {m4 : Str → Option Value} {vs : List Value} {s₄ : Shared} {o2 : Obj} {ws : Array Value}
    (hfr : A₀.frames = some outer) (S : Stn B g (envX name scope L a cd cl :: outer) s₄.heap) (hn : s₄.heap.Ns L m4) (hb : B.get? L = none) (hg : g.get? L = none)
    (he : s₄.heap.get? e2 = some o2) (hc : o2.cls = .type "ValueError") (hd : o2.data = .fields ws) (h0 : ws[0]? = some (.ref t2)) (h1 : ws[1]? = some .none) (hen : B.get? e2 = none) (ht : s₄.heap.TupAt t2 vs)
    (hE : ∀ h', Heap.HeldW B (envX name scope L a cd cl :: outer) e2 (.type "ValueError") (.ref t2) L h' → h'.TupAt t2 vs → g.UpToSlots h' → ∀ tk, E (.ref e2) { s₄ with heap := h', toks := tk })
    (hk : scope.kind = .function := by rfl) (hlo : (envX name scope L a cd cl).kindOf n = some .local := by rfl) :
    wpAny (model prog w) ((A₀.deeper (envX name scope L a cd cl)).mark (some (.ref e1))) (noteFrame (.ref e2) (envX name scope L a cd cl)) (fun _ s₅ =>
      wpAny (model prog w) ((A₀.deeper (envX name scope L a cd cl)).mark (some (.ref e1))) (do bindName (envX name scope L a cd cl) n .none; unbindBehindTheSuite (envX name scope L a cd cl) n pos)
        (fun _ s₆ => wpAny (model prog w) ((A₀.deeper (envX name scope L a cd cl)).mark (some (.ref e1))) (PySem.passOn "try.except-as" (.ref e2) (envX name scope L a cd cl) : Sem Flow) (fun _ _ => False)
          (notedBy (model prog w) ((A₀.deeper (envX name scope L a cd cl)).mark (some (.ref e1))) (envX name scope L a cd cl) (cameBackBy (model prog w) (A₀.deeper (envX name scope L a cd cl)) (envX name scope L a cd cl) E)) s₆)
        (fun y s₆ => wpAny (model prog w) ((A₀.deeper (envX name scope L a cd cl)).mark (some (.ref e1))) (setFlight (.ref e2) none) (fun _ s₇ => (notedBy (model prog w) ((A₀.deeper (envX name scope L a cd cl)).mark (some (.ref e1))) (envX name scope L a cd cl) (cameBackBy (model prog w) (A₀.deeper (envX name scope L a cd cl)) (envX name scope L a cd cl) E)) y s₇)
          (notedBy (model prog w) ((A₀.deeper (envX name scope L a cd cl)).mark (some (.ref e1))) (envX name scope L a cd cl) (cameBackBy (model prog w) (A₀.deeper (envX name scope L a cd cl)) (envX name scope L a cd cl) E)) s₆) s₅)
      (notedBy (model prog w) ((A₀.deeper (envX name scope L a cd cl)).mark (some (.ref e1))) (envX name scope L a cd cl) (cameBackBy (model prog w) (A₀.deeper (envX name scope L a cd cl)) (envX name scope L a cd cl) E)) s₄ := by
  have hfr' : ((A₀.deeper (envX name scope L a cd cl)).mark (some (.ref e1))).frames = some (envX name scope L a cd cl :: outer) := Around.frames_deeper hfr
  unfold noteFrame
  refine wpAny_bind (wpAny_field he hd h1 ?_)
  rw [if_neg (by decide)]
  refine wpAny_entryW hfr' S.frames rfl he S.stays hen hd (Array.getElem?_eq_some_iff.mp h1).1 h0 fun h5 N5 => ?_
  obtain ⟨k5, f5, x5, u5⟩ := N5
  have S5 := S.up k5 u5
  have n5 := Heap.UpToSlots.ns u5 hn
  have t5 := ht.of_slots u5
  refine wpAny_nameGoes hlo n5 (by show (scope.kind == .class || (scope.kind == .module && L != mainGlobals)) = false; rw [hk]; rfl) fun h6 m6 n6 s6 => ?_
  have S6 := S5.set s6 n6 hb hg
  have x6 := tracedW_set x5 s6 n5
  have t6 : h6.TupAt t2 vs := by
    obtain ⟨o, k, ho, hoc, hod⟩ := t5
    obtain ⟨oL, es, ep, hL, hLd, _⟩ := n5
    refine ⟨o, k, (s6.2 t2 fun q => ?_).trans ho, hoc, hod⟩
    rw [q, hL] at ho; injection ho with ho; subst ho; rw [hLd] at hod; cases hod
  rw [hc] at x6
  have ref_ne : ∀ T : Addr, (Value.ref T == Value.none) = false := fun _ => rfl
  unfold PySem.passOn
  obtain ⟨oe, vse, T, oT, ts, a1, a2, a3, a4, a5⟩ := id x6
  refine wpAny_bind (wpAny_field a1 a3 a4 ?_)
  rw [if_neg (by rw [ref_ne]; decide)]
  refine wpAny_bind ?_
  refine flightW S6.stays x6 fun h7 k7 u7 x7 => ?_
  refine wpAny_throw ?_
  refine wpAny_noteFrame_againW rfl x7 ?_
  unfold cameBackBy
  obtain ⟨oe', vse', T', oT', ts', b1, b2, b3, b4, b5⟩ := id x7
  refine wpAny_bind (wpAny_field b1 b3 b4 ?_)
  rw [if_neg (by rw [ref_ne]; decide)]
  refine flightW k7 x7 fun h8 k8 u8 x8 => ?_
  have S8 := (S6.up k7 u7).up k8 u8
  exact hE h8 ⟨k8, hen, S8.frames, x8⟩ ((t6.of_slots u7).of_slots u8) S8.upto _
end
end Mine
end

section
open PySem PySem.W PySem.Calls PyProof.Rows PySem.Spec
set_option Elab.async false
set_option maxRecDepth 100000
namespace Mine
section
variable {prog : Program} {w : World} {A₀ : Around} {E : Value → Shared → Prop} {s' : Shared} {base g h : Heap} {outer : List Env} {L a e : Addr} {m : Str → Option Value} {name : Str} {scope : Scope} {cd : Value} {cl : List (Str × Addr)} {news : List (Addr × Obj)}
  {KF : Frag} {p : Program} {loose : List Str} {mean : ExcName → Option Value} {mg mb : Str → Option Value} {n : Str} {pos np np2 np3 cpos rpos : Pos} {arg : Expr} {rest : List ExceptHandler} {Q : Flow → Shared → Prop}

set_option maxHeartbeats 2000000 in
/-- "except ValueError as n: raise ValueError(arg) from n" -/
theorem value_from (K : Below A₀ base outer g) (F : Fr g L h m) (N : News g L h news) (hx : Heap.NewExc h s'.heap e "ValueError") (XB : KF.In base) (TB : Top p loose mean mg mb base)
    (ex : nsIn KF mainGlobals "ValueError" = some none)
    (harg : ∀ (hh : Heap) (tk : Nat) (Q' E' : Value → Shared → Prop), hh.Ns L (fun y => if y = n then some (.ref e) else m y) → (∀ y t k, Q' (.str y t) { s' with heap := hh, toks := k }) →
      wpAny (model prog w) ((A₀.deeper (envX name scope L a cd cl)).mark (some (.ref e))) (eval arg (envX name scope L a cd cl)) Q' E' { s' with heap := hh, toks := tk })
    (hE : ∀ h' e2 t2 y ty tk, HeldS base g (envX name scope L a cd cl) outer e2 (.type "ValueError") t2 [.str y ty] news L h' → E (.ref e2) { s' with heap := h', toks := tk })
    (hk : scope.kind = .function := by rfl) (hlo : (envX name scope L a cd cl).kindOf n = some .local := by rfl) (hx' : (envX name scope L a cd cl).kindOf "ValueError" = some .globalImplicit := by rfl)
    (hnd : (n == ("__debug__" : Str)) = false := by decide)
    (hplain : (backTo cpos (starEach [arg] (envX name scope L a cd cl))).any (·.1) = false := by rfl) (he1 : starEach [arg] (envX name scope L a cd cl) = (false, eval arg (envX name scope L a cd cl)) :: starEach [] (envX name scope L a cd cl) := by rfl) :
    wpAny (model prog w) (A₀.deeper (envX name scope L a cd cl)) (noteFrame (.ref e) (envX name scope L a cd cl))
      (fun _ s₂ => wpAny (model prog w) (A₀.deeper (envX name scope L a cd cl)) (setFlight (.ref e) none) (fun _ s₃ =>
        wpAny (model prog w) (A₀.deeper (envX name scope L a cd cl)) (handleBy (.ref e) (envX name scope L a cd cl) (.ExceptHandler (some (.Name "ValueError" np)) (some n)
          [.Raise (some (.Call (.Name "ValueError" np2) [arg] [] cpos)) (some (.Name n np3)) rpos] pos :: rest)) Q E s₃) E s₂) E s' := by
  obtain ⟨B, _, st, sg, hl, hB, hfrm, hLB⟩ := groundR (name := name) (a := a) (cd := cd) (cl := cl) (scope := scope) K F N hk
  have hfr : (A₀.deeper (envX name scope L a cd cl)).frames = some (envX name scope L a cd cl :: outer) := Around.frames_deeper K.stack
  have hgL : g.get? L = none := kts_self F
  have hBe : B.get? e = none := fresh_of_stays hB hx.new
  have bs : B.StaysIn s'.heap := fun b o q => hx.keeps b o (hB b o q)
  have fs : s'.heap.FunFrames B (envX name scope L a cd cl :: outer) := hfrm.of_keeps fun b o q _ => ⟨o, hx.keeps b o q, rfl⟩
  have us : g.UpToSlots s'.heap := (Heap.UpToSlots.of_keeps F.keep).trans (Heap.UpToSlots.of_keeps hx.keeps)
  have S0 : Stn B g (envX name scope L a cd cl :: outer) s'.heap := ⟨bs, fs, us⟩
  have n0 : s'.heap.Ns L m := F.ns.keeps hx.keeps
  obtain ⟨ob, t1, hob, hoc, hod⟩ := hx.there
  -- what reads names in the handler
  have GB : ∀ b o, (hideAll g (outer.filterMap (·.frame))).get? b = some o → B.get? b = some o := fun b o q =>
    sg b o (of_hideAll _ q) fun hm => by rw [hideAll_none _ hm] at q; cases q
  have bG : ∀ b o, base.get? b = some o → (hideAll g (outer.filterMap (·.frame))).get? b = some o := fun b o q => hideAll_get _ (K.stays b o q) fun hm => by
    rw [(K.frames.mem hm).1] at q; cases q
  have XG : KF.In (hideAll g (outer.filterMap (·.frame))) := XB.keeps bG
  have PG : TopRead p loose mg mb (hideAll g (outer.filterMap (·.frame))) := topRead_of (TB.keeps bG)
  have FG : ∀ {k : Heap} {m' : Str → Option Value}, B.StaysIn k → k.Ns L m' → Fr (hideAll g (outer.filterMap (·.frame))) L k m' := fun hs hn => ⟨hn, fun b o q => hs b o (GB b o q), by rw [hideAll_size]; exact F.above⟩
  have hv : bootBuiltins "ValueError" = some (.type "ValueError") := PyProof.Rows.Boot.«ValueError»
  refine note_new hfr fs rfl hob hoc hod rfl rfl bs hBe fun h1 k1 u1 x1 => ?_
  have S1 := S0.up k1 u1
  refine flight1 (fr := none) k1 x1 fun h2 k2 u2 x2 => ?_
  have S2 := S1.up k2 u2
  have n2 : h2.Ns L m := Heap.UpToSlots.ns u2 (Heap.UpToSlots.ns u1 n0)
  refine wpAny_handleBy_builtin_as (X := "ValueError") (T := "ValueError") (b := true) PySem.F.isExc_ValueError PySem.F.notTuple_ValueError sub_value ?_
  obtain ⟨oe2, vs2, T2, oT2, ts2, c1, c2, c3, _⟩ := id x2
  refine nameX_B (FG k2 n2) XG PG ex hv (by decide) ⟨rfl, ⟨oe2, c1, c2⟩, ?_⟩ hk hx'
  rw [if_pos rfl]
  refine flight1 (fr := none) k2 x2 fun h3 k3 u3 x3 => ?_
  have S3 := S2.up k3 u3
  have n3 : h3.Ns L m := Heap.UpToSlots.ns u3 n2
  refine wpAny_storeName_local hlo n3 (fun h4 n4 s4 => ?_) (by show (scope.kind == .class || (scope.kind == .module && L != mainGlobals)) = false; rw [hk]; rfl)
  have S4 := S3.set s4 n4 hLB hgL
  have x4 := exc1_set x3 s4 n3
  refine wpAny_execs_cons ?_
  rw [arm_exec_Raise]
  refine wpAny_bind (wpAny_standAt ?_)
  show wpAny _ _ (raiseStmt _ (some (do let v ← eval (.Call (.Name "ValueError" np2) [arg] [] cpos) (envX name scope L a cd cl); standAt rpos; pure v)) (some (do let v ← eval (.Name n np3) (envX name scope L a cd cl); standAt rpos; pure v))) _ _ _
  refine raiseStmt_from (e1 := e) PySem.F.excRaise_ValueError rfl ?_
  refine wpAny_bind (wpAny_Call_ofName (nameX_B (FG S4.stays n4) XG PG ex hv (by decide) ?_ hk hx'))
  refine callWith_excType hplain ?_
  rw [he1]
  refine Calls.evalArgs_plain ?_
  refine Calls.spliced_cons (harg h4 _ _ _ n4 fun y ty k => ?_)
  refine Calls.spliced_nil ?_
  refine wpAny_call_exc PySem.F.excCall_ValueError (hrest := by show 1 ≤ sizeLine; exact Nat.le_of_ble_eq_true rfl) fun h5 e2 hm => ?_
  obtain ⟨t2, g1, g2, g3⟩ := hm.there
  refine wpAny_bind (wpAny_standAt (wpAny_pure ⟨e2, t2, rfl, g1, ?_⟩))
  have B4 : B.StaysIn h4 := S4.stays
  have hBe2 : B.get? e2 = none := fresh_of_stays B4 hm.new
  have n5 : h5.Ns L _ := n4.keeps hm.keeps
  obtain ⟨oe, vs, T, oT, ts, d1, d2, d3, d4, d5, _⟩ := id x4
  have hne : e ≠ e2 := fun q => by have := hm.new; rw [← q, d1] at this; cases this
  refine wpAny_bind (wpAny_Name (wpAny_loadName_local hk hlo n5 (if_pos rfl) (wpAny_bind (wpAny_standAt (wpAny_pure ⟨rfl, rfl, hne, ⟨oe, vs, hm.keeps _ _ d1, d2, d3, d5⟩, fun h6 s6 g6 => ?_⟩)))) hnd)
  have u45 : h4.UpToSlots h5 := Heap.UpToSlots.of_keeps hm.keeps
  have S5 := S4.up (fun b o q => hm.keeps b o (B4 b o q)) u45
  have u56 : h5.UpToSlots h6 := fun b o q hn => ⟨o.slots, (s6.2 b fun z => by rw [z, g1] at q; injection q with q; subst q; exact hn _ rfl).trans q⟩
  have S6 := S5.up (fun b o q => (s6.2 b fun z => by rw [z, hBe2] at q; cases q).trans (S5.stays b o q)) u56
  have t6 : h6.TupAt t2 [.str y ty] := Heap.TupAt.of_slots ⟨_, _, g3, rfl, rfl⟩ u56
  have hBt2 : B.get? t2 = none := fresh_of_stays B4 g2
  exact suite_raised (m4 := _) (vs := [.str y ty]) K.stack S6 (Heap.UpToSlots.ns u56 n5) hLB hgL g6 rfl rfl rfl rfl hBe2 t6 (fun h' hh ht hu tk => hE h' e2 t2 y ty tk ⟨⟨⟨B, st, sg, hl, hh, hBt2⟩, ht⟩, hu⟩) hk hlo
end
end Mine
end

section
open PySem PySem.W PySem.Calls PyProof.Rows PySem.Spec
set_option Elab.async false
set_option maxRecDepth 100000
namespace Mine
section
variable {prog : Program} {w : World} {A A₀ : Around} {E : Value → Shared → Prop} {s s' : Shared} {base g h : Heap} {outer : List Env} {L a e : Addr} {m : Str → Option Value} {name : Str} {scope : Scope} {cd : Value} {cl : List (Str × Addr)} {news : List (Addr × Obj)}
  {KF : Frag} {p : Program} {loose : List Str} {mean : ExcName → Option Value} {mg mb : Str → Option Value} {n y : Str} {pos np np2 np3 cpos rpos p1 p2 p3 p4 : Pos} {kk : Nat} {rest : List ExceptHandler} {Q : Flow → Shared → Prop}

theorem fmt_eval {pl : Sem Bool} {fmt x : Str} {u : Tok} {Q : Value → Shared → Prop} (hf : ∀ (t : Tok) (s : Shared) (Q : Value → Shared → Prop), (∀ z t' k, Q (.str z t') { s with toks := k }) → wpAny (model prog w) A (call (.builtin "str.format") [.str fmt t, .str x u]) Q E s)
    (he : eval (.Call (.Attribute (.Constant (.str fmt) kk p1) "format" p2) [.Name y p3] [] p4) (envX name scope L a cd cl) = (do
      let ov ← eval (.Constant (.str fmt) kk p1) (envX name scope L a cd cl)
      standAt p2.atName
      let (f, first) ← holding [ov] (getMethod ov "format" pl)
      callWith p4 f first (backTo p4 (starEach [.Name y p3] (envX name scope L a cd cl))) []))
    (hn : s.heap.Ns L m) (hv : m y = some (.str x u)) (h : ∀ z t k, Q (.str z t) { s with toks := k })
    (hk : scope.kind = .function := by rfl) (hy : (envX name scope L a cd cl).kindOf y = some .local := by rfl) (hd : (y == ("__debug__" : Str)) = false := by decide) :
    wpAny (model prog w) A (eval (.Call (.Attribute (.Constant (.str fmt) kk p1) "format" p2) [.Name y p3] [] p4) (envX name scope L a cd cl)) Q E s := by
  rw [he]
  refine wpAny_bind (wpAny_Constant_str ?_)
  refine wpAny_bind (wpAny_standAt ?_)
  refine wpAny_bind (wpAny_holding (KFm.method ?_))
  dsimp only
  refine callWith_method1 ?_
  refine Calls.spliced_cons ?_
  refine wpAny_Name (wpAny_loadName_local hk hy hn hv ?_) hd
  refine Calls.spliced_nil ?_
  exact hf _ _ _ h

theorem value_tz {pl : Sem Bool} {x : Str} {u : Tok} (K : Below A₀ base outer g) (F : Fr g L h m) (N : News g L h news) (hx : Heap.NewExc h s'.heap e "ValueError") (XB : KF.In base) (TB : Top p loose mean mg mb base)
    (ex : nsIn KF mainGlobals "ValueError" = some none) (hv : m y = some (.str x u)) (hlen : x.length ≤ 1000)
    (he : eval (.Call (.Attribute (.Constant (.str fmtT) kk p1) "format" p2) [.Name y p3] [] p4) (envX name scope L a cd cl) = (do
      let ov ← eval (.Constant (.str fmtT) kk p1) (envX name scope L a cd cl)
      standAt p2.atName
      let (f, first) ← holding [ov] (getMethod ov "format" pl)
      callWith p4 f first (backTo p4 (starEach [.Name y p3] (envX name scope L a cd cl))) []))
    (hE : ∀ h' e2 t2 y ty tk, HeldS base g (envX name scope L a cd cl) outer e2 (.type "ValueError") t2 [.str y ty] news L h' → E (.ref e2) { s' with heap := h', toks := tk })
    (hk : scope.kind = .function := by rfl) (hlo : (envX name scope L a cd cl).kindOf n = some .local := by rfl) (hx' : (envX name scope L a cd cl).kindOf "ValueError" = some .globalImplicit := by rfl) (hy : (envX name scope L a cd cl).kindOf y = some .local := by rfl)
    (hnd : (n == ("__debug__" : Str)) = false := by decide) (hyd : (y == ("__debug__" : Str)) = false := by decide) (hyn : ¬ y = n := by decide) :
    wpAny (model prog w) (A₀.deeper (envX name scope L a cd cl)) (noteFrame (.ref e) (envX name scope L a cd cl))
      (fun _ s₂ => wpAny (model prog w) (A₀.deeper (envX name scope L a cd cl)) (setFlight (.ref e) none) (fun _ s₃ =>
        wpAny (model prog w) (A₀.deeper (envX name scope L a cd cl)) (handleBy (.ref e) (envX name scope L a cd cl) (.ExceptHandler (some (.Name "ValueError" np)) (some n)
          [.Raise (some (.Call (.Name "ValueError" np2) [.Call (.Attribute (.Constant (.str fmtT) kk p1) "format" p2) [.Name y p3] [] p4] [] cpos)) (some (.Name n np3)) rpos] pos :: rest)) Q E s₃) E s₂) E s' :=
  value_from K F N hx XB TB ex (fun _ _ _ _ hn hq => fmt_eval (fun _ _ _ hh => fmt_tz hlen hh) he hn ((if_neg hyn).trans hv) hq hk hy hyd) hE hk hlo hx' hnd
theorem value_hb {pl : Sem Bool} {x : Str} {u : Tok} (K : Below A₀ base outer g) (F : Fr g L h m) (N : News g L h news) (hx : Heap.NewExc h s'.heap e "ValueError") (XB : KF.In base) (TB : Top p loose mean mg mb base)
    (ex : nsIn KF mainGlobals "ValueError" = some none) (hv : m y = some (.str x u)) (hlen : x.length ≤ 1000)
    (he : eval (.Call (.Attribute (.Constant (.str fmtH) kk p1) "format" p2) [.Name y p3] [] p4) (envX name scope L a cd cl) = (do
      let ov ← eval (.Constant (.str fmtH) kk p1) (envX name scope L a cd cl)
      standAt p2.atName
      let (f, first) ← holding [ov] (getMethod ov "format" pl)
      callWith p4 f first (backTo p4 (starEach [.Name y p3] (envX name scope L a cd cl))) []))
    (hE : ∀ h' e2 t2 y ty tk, HeldS base g (envX name scope L a cd cl) outer e2 (.type "ValueError") t2 [.str y ty] news L h' → E (.ref e2) { s' with heap := h', toks := tk })
    (hk : scope.kind = .function := by rfl) (hlo : (envX name scope L a cd cl).kindOf n = some .local := by rfl) (hx' : (envX name scope L a cd cl).kindOf "ValueError" = some .globalImplicit := by rfl) (hy : (envX name scope L a cd cl).kindOf y = some .local := by rfl)
    (hnd : (n == ("__debug__" : Str)) = false := by decide) (hyd : (y == ("__debug__" : Str)) = false := by decide) (hyn : ¬ y = n := by decide) :
    wpAny (model prog w) (A₀.deeper (envX name scope L a cd cl)) (noteFrame (.ref e) (envX name scope L a cd cl))
      (fun _ s₂ => wpAny (model prog w) (A₀.deeper (envX name scope L a cd cl)) (setFlight (.ref e) none) (fun _ s₃ =>
        wpAny (model prog w) (A₀.deeper (envX name scope L a cd cl)) (handleBy (.ref e) (envX name scope L a cd cl) (.ExceptHandler (some (.Name "ValueError" np)) (some n)
          [.Raise (some (.Call (.Name "ValueError" np2) [.Call (.Attribute (.Constant (.str fmtH) kk p1) "format" p2) [.Name y p3] [] p4] [] cpos)) (some (.Name n np3)) rpos] pos :: rest)) Q E s₃) E s₂) E s' :=
  value_from K F N hx XB TB ex (fun _ _ _ _ hn hq => fmt_eval (fun _ _ _ hh => fmt_hb hlen hh) he hn ((if_neg hyn).trans hv) hq hk hy hyd) hE hk hlo hx' hnd
end
theorem hb_len0 : ∀ j, j < 20 → (hb.getD j PySem.Str.empty).length ≤ 1000 ∧ (reprText (hb.getD j PySem.Str.empty)).length + 16 ≤ 1000 ∧ tz.contains (hb.getD j PySem.Str.empty) = false := by decide +kernel
theorem tz_len0 : ∀ j, j < 21 → (tz.getD j PySem.Str.empty).length ≤ 1000 ∧ (reprText (tz.getD j PySem.Str.empty)).length + 16 ≤ 1000 ∧ hb.contains (tz.getD j PySem.Str.empty) = false := by decide +kernel
theorem lit_len : (PySem.Str.ofString "Nobody").length ≤ 1000 ∧ (reprText (PySem.Str.ofString "Nobody")).length + 16 ≤ 1000 ∧ tz.contains (PySem.Str.ofString "Nobody") = false ∧ hb.contains (PySem.Str.ofString "Nobody") = false := by decide +kernel
theorem lit_len2 : (PySem.Str.ofString "pop").length ≤ 1000 ∧ (reprText (PySem.Str.ofString "pop")).length + 16 ≤ 1000 ∧ hb.contains (PySem.Str.ofString "pop") = false := by decide +kernel
end Mine
end

section
open PySem PySem.W PySem.Calls PyProof.Rows PySem.Spec
set_option Elab.async false
set_option maxRecDepth 100000
namespace Mine
noncomputable abbrev lo : List Str := looseW hd.view_39 [PySem.Str.ofString "HAAB", PySem.Str.ofString "TZOLKIN"] ++ (recsOf hd.view_39).map (·.name) ++ (litsOf hd.view_39).map (·.1) ++ (clssOf hd.view_39 (looseW hd.view_39 [PySem.Str.ofString "HAAB", PySem.Str.ofString "TZOLKIN"])).map (·.name)
/-- a call of f out of the law's own frame gives back True; of what stood there only the code table of _tzolkin_count may have grown -/
def TrueBack (w : World) (f : Addr) (vs : List Value) : Prop :=
  ∀ (cn : Str) (cs : Scope) (L a : Addr) (ccd : Value) (h₀ : Heap) (m mg mb : Str → Option Value) (mean : ExcName → Option Value) (s : Shared) (Q E : Value → Shared → Prop) (ps : Array Value),
    cs.kind = .function → Below callerA h₀ [] h₀ → Fr h₀ L s.heap m → (hd.heap_39 w.params).In h₀ → News h₀ L s.heap [(60, tabObj ps)] → Top topProg lo mean mg mb h₀ → CodeHd h₀ 64 60 → Tab ps → AllBare s.gens → 60 < L →
    (∀ h' g' dr tk' ps', Tab ps' → AllBare g' → Fr h₀ L h' m → News h₀ L h' [(60, tabObj ps')] → Q (.bool true) { s with heap := h', gens := g', drawn := dr, toks := tk' }) →
    wpAny (model PySem.Challenge.rw_aq6007_01.row.prog w) (callerA.deeper (envOf cn cs L a ccd)) (call (.ref f) vs) Q E s

theorem fin_of {h₀ h' : Heap} {L : Addr} {m : Str → Option Value} {s : Shared} {Q : Value → Shared → Prop} {ps' : Array Value} {news : List (Addr × Obj)} {g' : Array GenState} {dr : Drawn} {tk' : Nat} {b : Bool}
    (hret : ∀ h' g' dr tk' ps', Tab ps' → AllBare g' → Fr h₀ L h' m → News h₀ L h' [(60, tabObj ps')] → Q (.bool true) { s with heap := h', gens := g', drawn := dr, toks := tk' })
    (F : Fr h₀ L h' m) (N : News h₀ L h' news) (hm : ((60 : Addr), tabObj ps') ∈ news) (ht : Tab ps') (hg : AllBare g') (hb : b = true) : Q (.bool b) { s with heap := h', gens := g', drawn := dr, toks := tk' } := by
  subst hb
  exact hret _ _ _ _ _ ht hg F fun p hp => by
    rcases List.mem_cons.mp hp with rfl | hp
    · exact N _ hm
    · cases hp
theorem wayeb0 : ∀ {j : Nat}, j < 19 → (hb.getD j PySem.Str.empty = PySem.Str.ofString "Wayeb'" ↔ j = 18) := by decide +kernel
theorem wayeb_val {month : Int} (h7 : 0 ≤ month) (h8 : month < 19) (P : Prop) [Decidable P] (hP : P ↔ month.toNat < 19) :
    (if P ∧ hb.getD month.toNat PySem.Str.empty = PySem.Str.ofString "Wayeb'" then (5 : Int) else if ¬ hb.getD month.toNat PySem.Str.empty = PySem.Str.ofString "Wayeb'" then 20 else 0) = if month = 18 then 5 else 20 := by
  have h : month.toNat < 19 := by omega
  have e := wayeb0 h
  have e2 : month.toNat = 18 ↔ month = 18 := by omega
  by_cases q : month = 18
  · rw [if_pos ⟨hP.mpr h, e.mpr (e2.mpr q)⟩, if_pos q]
  · rw [if_neg (fun z => q (e2.mp (e.mp z.2))), if_pos (fun z => q (e2.mp (e.mp z))), if_neg q]
theorem haab_place {month day : Int} (h7 : 0 ≤ month) (h8 : month < 19) : (if 360 < month * 20 then (360:Int) else month * 20) + day = 20 * month + day := by split <;> omega

/-- what both ways of telling a count give: the number and the name -/
abbrev num (c : Int) : Int := if c.fmod 13 = 0 then 13 else c.fmod 13
abbrev word (c : Int) : Str := tz.getD ((c - 1).fmod 20).toNat PySem.Str.empty
theorem fm13 (c : Int) : c.fmod 13 = c % 13 := Int.fmod_eq_emod_of_nonneg _ (by decide)
theorem fm20 (c : Int) : c.fmod 20 = c % 20 := Int.fmod_eq_emod_of_nonneg _ (by decide)
theorem fm260 (c : Int) : c.fmod 260 = c % 260 := Int.fmod_eq_emod_of_nonneg _ (by decide)
theorem lc1 {c : Int} (h : c.fmod 260 = 0) : 13 = num c := by
  unfold num; simp only [fm13, fm260] at *; rw [if_pos (by omega)]
theorem lc1w {c : Int} (h : c.fmod 260 = 0) : PySem.Str.ofString "Ajaw" = word c := by
  have e : (c - 1).fmod 20 = 19 := by simp only [fm20, fm260] at *; omega
  unfold word; rw [e]; rfl
theorem lc2 {c : Int} (h : 0 < (c.fmod 260).fmod 13) : (c.fmod 260).fmod 13 = num c := by
  unfold num; simp only [fm13, fm260] at *; rw [if_neg (by omega)]; omega
theorem lc3 {c : Int} (h : ¬ 0 < (c.fmod 260).fmod 13) : 13 = num c := by
  unfold num; simp only [fm13, fm260] at *; rw [if_pos (by omega)]
theorem lcw {c : Int} : tz.getD ((c.fmod 260 - 1).fmod 20).toNat PySem.Str.empty = word c := by
  have e : (c.fmod 260 - 1).fmod 20 = (c - 1).fmod 20 := by simp only [fm20, fm260]; omega
  unfold word; rw [e]
theorem fcw {c j : Int} (h0 : 0 ≤ j) (h1 : j < 20) (h : j = c.fmod 20 - 1 ∨ j = c.fmod 20 - 1 + 20) : tz.getD j.toNat PySem.Str.empty = word c := by
  have e : j = (c - 1).fmod 20 := by simp only [fm20] at *; omega
  unfold word; rw [e]
/-- a call of f out of the law's own frame gives back a new pair -/
def PairBack (w : World) (f : Addr) (vs : List Value) (x : Int) (y : Str) : Prop :=
  ∀ (cn : Str) (cs : Scope) (L a : Addr) (ccd : Value) (h₀ : Heap) (m mg mb : Str → Option Value) (mean : ExcName → Option Value) (s : Shared) (Q E : Value → Shared → Prop) (news : List (Addr × Obj)),
    cs.kind = .function → Below callerA h₀ [] h₀ → Fr h₀ L s.heap m → (hd.heap_39 w.params).In h₀ → News h₀ L s.heap news → Top topProg lo mean mg mb h₀ → AllBare s.gens →
    (∀ h' D t t' n tk', (∀ p ∈ news, p.1 < D) → Fr h₀ L h' m → News h₀ L h' ((D, ({ cls := .type "tuple", data := .seq #[.int x t, .str y t'] n } : Obj)) :: news) → Q (.ref D) { s with heap := h', toks := tk' }) →
    wpAny (model PySem.Challenge.rw_aq6007_01.row.prog w) (callerA.deeper (envOf cn cs L a ccd)) (call (.ref f) vs) Q E s
theorem pair_of {h₀ h' : Heap} {L D : Addr} {m : Str → Option Value} {s : Shared} {Q : Value → Shared → Prop} {news : List (Addr × Obj)} {n tk' : Nat} {x x' : Int} {y y' : Str} {t t' : Tok}
    (hret : ∀ h' D t t' n tk', (∀ p ∈ news, p.1 < D) → Fr h₀ L h' m → News h₀ L h' ((D, ({ cls := .type "tuple", data := .seq #[.int x t, .str y t'] n } : Obj)) :: news) → Q (.ref D) { s with heap := h', toks := tk' })
    (hlt : ∀ p ∈ news, p.1 < D) (F : Fr h₀ L h' m) (N : News h₀ L h' ((D, ({ cls := .type "tuple", data := .seq #[.int x' t, .str y' t'] n } : Obj)) :: news)) (hx : x' = x) (hy : y' = y) : Q (.ref D) { s with heap := h', toks := tk' } := by
  subst hx; subst hy; exact hret _ _ _ _ _ _ hlt F N
end Mine
end

section
open PySem PySem.W PySem.Calls PyProof.Rows PySem.Spec
set_option Elab.async false
set_option maxRecDepth 100000
namespace Mine
/-- a call of f out of the frame of the law's second helper gives back the text r; the frames below may have changed their slots -/
def StrBack (w : World) (f : Addr) (vs : List Value) (r : Str) : Prop :=
  ∀ (cn cn2 : Str) (cs cs2 : Scope) (L a L2 a2 : Addr) (ccd ccd2 : Value) (base g₀ g : Heap) (m mg mb : Str → Option Value) (mean : ExcName → Option Value) (s : Shared) (Q E : Value → Shared → Prop) (ps : Array Value),
    cs.kind = .function → cs2.kind = .function → Below (callerA.deeper (envOf cn cs L a ccd)) base [envOf cn cs L a ccd] g → Fr g L2 s.heap m → (hd.heap_39 w.params).In g → News g L2 s.heap [(60, tabObj ps)] → Top topProg lo mean mg mb g →
    (hd.heap_39 w.params).In base → Top topProg lo mean mg mb base → KtsDicts ([envOf cn cs L a ccd].filterMap (·.frame)) g → KtsTurn ([envOf cn cs L a ccd].filterMap (·.frame)) g₀ g → CodeHd base 64 60 → Tab ps → AllBare s.gens →
    (∀ g' h' gs dr tk ps' t', KtsTurn ([envOf cn cs L a ccd].filterMap (·.frame)) g₀ g' → Tab ps' → AllBare gs → Fr g' L2 h' m → News g' L2 h' [(60, tabObj ps')] → Below (callerA.deeper (envOf cn cs L a ccd)) base [envOf cn cs L a ccd] g' → (hd.heap_39 w.params).In g' → Top topProg lo mean mg mb g' →
      KtsDicts ([envOf cn cs L a ccd].filterMap (·.frame)) g' → Q (.str r t') { s with heap := h', gens := gs, drawn := dr, toks := tk }) →
    wpAny (model PySem.Challenge.rw_aq6007_01.row.prog w) ((callerA.deeper (envOf cn cs L a ccd)).deeper (envOf cn2 cs2 L2 a2 ccd2)) (call (.ref f) vs) Q E s
theorem str_of {fs : List Addr} {base g₀ g' h' : Heap} {A : Around} {outer : List Env} {K : Frag} {mean : ExcName → Option Value} {mg mb : Str → Option Value} {L2 : Addr} {m : Str → Option Value} {s : Shared} {Q : Value → Shared → Prop} {ps' : Array Value} {news : List (Addr × Obj)} {gs : Array GenState} {dr : Drawn} {tk : Nat} {r : Str} {t' : Tok}
    (hret : ∀ g' h' gs dr tk ps' t', KtsTurn fs g₀ g' → Tab ps' → AllBare gs → Fr g' L2 h' m → News g' L2 h' [(60, tabObj ps')] → Below A base outer g' → K.In g' → Top topProg lo mean mg mb g' → KtsDicts fs g' → Q (.str r t') { s with heap := h', gens := gs, drawn := dr, toks := tk })
    (T : KtsTurn fs g₀ g') (F : Fr g' L2 h' m) (N : News g' L2 h' news) (hm : ((60 : Addr), tabObj ps') ∈ news) (ht : Tab ps') (hg : AllBare gs) (B : Below A base outer g') (X : K.In g') (P : Top topProg lo mean mg mb g') (D : KtsDicts fs g') :
    Q (.str r t') { s with heap := h', gens := gs, drawn := dr, toks := tk } :=
  hret g' h' gs dr tk ps' t' T ht hg F (fun p hp => by
    rcases List.mem_cons.mp hp with rfl | hp
    · exact N _ hm
    · cases hp) B X P D
end Mine
end

section
open PySem PySem.W PySem.Calls PyProof.Rows PySem.Spec
set_option Elab.async false
namespace Mine
abbrev absI (c : Int) : Int := if c < 0 then -c else c
abbrev mid (c : Int) : Int := if 0 < 584283 + absI c then 584283 + absI c else (584283 + absI c) + 1
theorem absI_nn (c : Int) : 0 ≤ absI c := by unfold absI; split <;> omega
theorem mid_eq (c : Int) : mid c - 584283 = absI c := by
  have := absI_nn c
  unfold mid; rw [if_pos (by omega)]; omega
theorem fm365 (c : Int) : c.fmod 365 = c % 365 := Int.fmod_eq_emod_of_nonneg _ (by decide)
theorem fd20 (c : Int) : c.fdiv 20 = c / 20 := Int.fdiv_eq_ediv_of_nonneg _ (by decide)
theorem place_back {c j : Int} (h0 : 0 ≤ j) (h1 : j < 20)
    (h2 : j = (if (mid c - 584283 + 20).fmod 20 = 0 then 20 else (mid c - 584283 + 20).fmod 20) - 1 ∨ j = (if (mid c - 584283 + 20).fmod 20 = 0 then 20 else (mid c - 584283 + 20).fmod 20) - 1 + 20) :
    (40 * (if (mid c - 584283 + 4).fmod 13 = 0 then 13 else (mid c - 584283 + 4).fmod 13) + 221 * (j + 1) - 1).fmod 260 + 1 = (absI c + 159).fmod 260 + 1 := by
  rw [mid_eq] at *
  generalize absI c = l at *
  simp only [fm13, fm20, fm260] at *
  split at h2 <;> split <;> omega
theorem haab_back (c : Int) : (((if 360 < ((mid c - 584283 + 348).fmod 365).fdiv 20 * 20 then 360 else ((mid c - 584283 + 348).fmod 365).fdiv 20 * 20) + ((mid c - 584283 + 348).fmod 365).fmod 20) == (absI c + 348).fmod 365) = true := by
  rw [mid_eq]
  generalize absI c = l
  simp only [fm20, fm365, fd20]
  have e : (if 360 < (l + 348) % 365 / 20 * 20 then 360 else (l + 348) % 365 / 20 * 20) + (l + 348) % 365 % 20 = (l + 348) % 365 := by split <;> omega
  rw [e]; exact beq_self_eq_true _
end Mine
end

open PySem PySem.W PySem.Calls PyProof.Rows
local macro_rules | `(tactic| walk_at "eval GeneratorExp") => `(tactic| (k_here; kn_here; k_dflt (refine' Mine.gen_open ?zqhh ?zqhco ?zqhclos ?zqhcell ?zqh0 ?zqhx ?zqhkind ?zqhroom ?zqhs ?_; (case zqhh => with_unfolding_all rfl); (case zqhco => rfl); (case zqhclos => with_unfolding_all rfl); (case zqhcell => decide); (case zqh0 => with_unfolding_all rfl); (case zqhx => with_unfolding_all rfl); (case zqhkind => rfl); (case zqhroom => k_room); (case zqhs => intro _; with_unfolding_all rfl))))
local macro_rules | `(tactic| walk_at "GenTail") => `(tactic| (k_here; kn_here; k_dflt (refine' Mine.gen_tail ?zqF ?zqN ?zqT ?zqC ?zqcd ?zqge ?zqU ?zqt ?zqr ?zqsm ?zqn ?zqc ?zqm ?zqd ?zqx ?zqy ?zqk ?zqx1 ?zqy1 ?zqy2 ?zqg ?_; (case zqF => k_asm); (case zqN => k_asm); (case zqT => k_asm); (case zqcd => exact rfl); (case zqge => exact rfl); (case zqC => kn_code); (case zqU => k_updF); (case zqt => first | k_asm | kn_triples); (case zqr => k_asm); (case zqsm => decide); (case zqn => first | exact (rfl : _ = ((20 : Nat) : Int)) | exact (rfl : _ = ((13 : Nat) : Int))); (case zqc => exact rfl); (case zqm => k_mem); (case zqd => k_asm); (case zqx => rfl); (case zqy => rfl); (case zqk => rfl); (case zqx1 => decide); (case zqy1 => decide); (case zqy2 => decide); (case zqg => k_asm)); intro a' ps' h' g' tk' ht' hg' F' N' X'; (try dsimp only at N'); (try dsimp only at X'); (try k_sweep)))
local macro_rules | `(tactic| walk_at "call type:set") => `(tactic| (k_here; (with_reducible show wpAny _ _ (call (Value.type "set") [Value.ref _]) _ _ _); k_dflt (refine' Mine.set_gen ?zqF ?zqN ?zqX ?zqhb ?zqg ?_; (case zqF => k_asm); (case zqN => k_asm); (case zqX => k_asm); (case zqhb => unfold PySem.scanBound; decide); (case zqg => k_asm)); intro d' h' g' tk' so' hg' F' N' l1 hs'; (try k_lt l1); (try k_sweep)))
local macro_rules | `(tactic| walk_at "getMethod ref") => `(tactic| (k_here; kse_here; (with_reducible show wpAny _ _ (getMethod (Value.ref _) (PySem.Str.ofString "intersection") _) _ _ _); k_dflt (refine' Mine.meth_inter ?zqN ?zqm ?zqS ?_; (case zqN => k_asm); (case zqm => k_mem); (case zqS => k_asm))))
local macro_rules | `(tactic| walk_at "getMethod ref") => `(tactic| (k_here; kse_here; (with_reducible show wpAny _ _ (getMethod (Value.ref _) (PySem.Str.ofString "pop") _) _ _ _); k_dflt (refine' Mine.meth_pop ?zqN ?zqm ?zqS ?_; (case zqN => k_asm); (case zqm => k_mem); (case zqS => k_asm))))
local macro_rules | `(tactic| walk_at "call builtin:set.intersection") => `(tactic| (k_here; kse_here; k_dflt (refine' Mine.inter_cal ?zqF ?zqN ?zqa ?zqb ?zqab ?zqS ?zqSp ?zqd1 ?zqd2 ?zqn1 ?zqn2 ?_; (case zqF => k_asm); (case zqN => k_asm); (case zqa => k_mem); (case zqb => k_mem); (case zqS => k_asm); (case zqSp => k_asm); (case zqab => k_ne); (case zqd1 => l_fact); (case zqd2 => l_fact); (case zqn1 => l_fact); (case zqn2 => l_fact)); intro d' h' tk' so' F' N' l1 hs'; (try k_lt l1); (try k_sweep)))
local macro_rules | `(tactic| walk_at "call builtin:set.pop") => `(tactic| (k_here; kse_here; k_dflt (refine' Mine.pop_one ?zqF ?zqN ?zqU ?zqS ?_; (case zqF => k_asm); (case zqN => k_asm); (case zqU => k_updF); (case zqS => k_asm)); intro t' h' dr' so' F' N'; (try dsimp only at N'); (try k_sweep)))
local macro_rules | `(tactic| walk_at "call builtin:list.index") => `(tactic| (k_here; (k_dflt (show wpAny _ _ (call (Value.builtin "list.index") [Value.ref _, Value.str _ _]) _ _ _)); k_dflt (refine' Mine.index_text ?zql ?zqw ?zq0 ?zqx ?zqz ?_; (case zql => ktb_isList); (case zqw => repeat constructor); (case zqx => first | exact Mine.tz_index (by first | assumption | omega) | exact Mine.hb_index (by first | assumption | omega)); (case zq0 => l_fact); (case zqz => decide)); intro t'))
local macro_rules | `(tactic| walk_at "subscriptTail") => `(tactic| (k_here; (with_reducible (show wpAny _ _ (subscriptTail (Expr.Name (PySem.Str.ofString "TZOLKIN") _) _ (Value.ref _) (Value.int _ _)) _ _ _)); k_dflt (refine' Mine.item_back ?zql ?zqw ?zqn ?zq0 ?zq1 ?_; (case zql => ktb_isList); (case zqw => repeat constructor); (case zqn => rfl); (case zq0 => l_fact); (case zq1 => l_fact)); intro t' j' hj0' hj1' hj2'))
local macro_rules | `(tactic| walk_at "compareOp NotEq ref ref") => `(tactic| (k_here; k_dflt (refine' Mine.ne_pair ?zqN ?zqa ?zqb ?zqi ?zqx ?zqok ?zqu ?_; (case zqN => k_asm); (case zqa => k_mem); (case zqb => k_mem); (case zqi => first | rfl | l_fact | (split <;> l_fact)); (case zqx => first | rfl | (refine congrArg (fun z : Int => List.getD Mine.tz z.toNat PySem.Str.empty) ?_; l_fact)); (case zqok => exact Mine.tz_ok _); (case zqu => ke_room))))
local macro_rules | `(tactic| walk_at "getMethod ref") => `(tactic| (k_here; (with_reducible show wpAny _ _ (getMethod (Value.ref _) (PySem.Str.ofString "index") _) _ _ _); k_dflt (refine' Mine.meth_indexK ?zqF ?zqX ?zqe ?_; (case zqF => k_asm); (case zqX => k_asm); (case zqe => k_is); k_whole)))
local macro_rules | `(tactic| walk_at "subscriptTail Name Name ref int") => `(tactic| (k_here; (with_reducible (first | show wpAny _ _ (subscriptTail (Expr.Name (PySem.Str.ofString "_law_names") _) _ (Value.ref _) (Value.int _ _)) _ _ _ | show wpAny _ _ (subscriptTail (Expr.Name (PySem.Str.ofString "_law_months") _) _ (Value.ref _) (Value.int _ _)) _ _ _)); k_dflt (refine' KTb.item_tup ?zqt ?zqw ?zq0 ?zq1 ?zqf ?_; (case zqt => with_unfolding_all exact Fr.tup (by k_asm) (tupK (by k_asm) (by k_is))); (case zqw => repeat constructor); (case zq0 => l_fact); (case zq1 => ((try simp only [List.length_cons, List.length_nil]); l_fact)); (case zqf => l_fact)); intro _ ktbLt; (simp only [List.length_cons, List.length_nil, Nat.zero_add] at ktbLt)))
local macro_rules | `(tactic| walk_at "subscriptTail Name BinOp ref int") => `(tactic| (k_here; (with_reducible (show wpAny _ _ (subscriptTail (Expr.Name (PySem.Str.ofString "_law_names") _) _ (Value.ref _) (Value.int _ _)) _ _ _)); k_dflt (refine' KTb.item_tup ?zqt ?zqw ?zq0 ?zq1 ?zqf ?_; (case zqt => with_unfolding_all exact Fr.tup (by k_asm) (tupK (by k_asm) (by k_is))); (case zqw => repeat constructor); (case zq0 => l_fact); (case zq1 => ((try simp only [List.length_cons, List.length_nil]); l_fact)); (case zqf => l_fact)); intro _ ktbLt; (simp only [List.length_cons, List.length_nil, Nat.zero_add] at ktbLt)))
local macro_rules | `(tactic| walk_at "subscriptTail Name Name ref int") => `(tactic| (k_here; (with_reducible (show wpAny _ _ (subscriptTail (Expr.Name (PySem.Str.ofString "HAAB") _) _ (Value.ref _) (Value.int _ _)) _ _ _)); k_dflt (refine' KTb.item_list ?zqt ?zqw ?zq0 ?zq1 ?zqf ?_; (case zqt => ktb_isList); (case zqw => repeat constructor); (case zq0 => l_fact); (case zq1 => ((try simp only [List.length_cons, List.length_nil]); l_fact)); (case zqf => l_fact)); intro _ ktbLt; (simp only [List.length_cons, List.length_nil, Nat.zero_add] at ktbLt)))
local macro_rules | `(tactic| walk_at "subscriptTail Name Constant ref int") => `(tactic| (k_here; (with_reducible show wpAny _ _ (subscriptTail _ (Expr.Constant (Const.int 0) _ _) (Value.ref _) (Value.int _ _)) _ _ _); k_dflt (refine' Mine.tup_at0 ?zqN ?zqm ?_; (case zqN => k_asm); (case zqm => k_mem))))
local macro_rules | `(tactic| walk_at "subscriptTail Name Constant ref int") => `(tactic| (k_here; (with_reducible show wpAny _ _ (subscriptTail _ (Expr.Constant (Const.int 1) _ _) (Value.ref _) (Value.int _ _)) _ _ _); k_dflt (refine' Mine.tup_at1 ?zqN ?zqm ?_; (case zqN => k_asm); (case zqm => k_mem))))
set_option maxRecDepth 100000 in
set_option maxHeartbeats 8000000 in
theorem Mine.fc_ok (w : World) (c : Int) (t1 : Tok) : Mine.PairBack w 58 [.int c t1] (Mine.num c) (Mine.word c) := by
  w_on
  w_strict (
  unfold Mine.PairBack
  k_fill
  intro cn cs L a ccd h₀ m mg mb mean s Q E news hkind B F X N T hBare hret
  refine wpAny_call ?_
  (k_dflt (refine' code_def ?k1 ?k2 ?k3 ?k4 ?k5 ?kA ?kF ?kK ?k6 ?k7 ?k8 ?k9 ?kB ?_ ?c2 ?c3 ?c4 ?c5; (case kA => exact rfl); (case kF => exact rfl); (case kK => assumption); (case k1 => k_asm); (case k2 => k_asm); (case k3 => k_asm); (case k4 => k_asm); (case k5 => k_asm); (case k6 => k_is); (case k7 => k_is); (case k8 => k_room); (case k9 => exact BindsTo.of_eq rfl); (case c5 => decide); (case kB => exact locs rfl); (case c2 => exact rfl); (case c3 => exact rfl); (case c4 => exact rfl); k_whole; intro g' L' h' FG' F' N' B' X' T'; (try dsimp only); (try k_lift B'); (try k_fold)))
  k_steps
  all_goals (first
    | (refine' Mine.pair_of hret ?zl ?zF ?zN ?zx ?zy; (case zl => assumption); (case zF => k_asm); (case zN => k_asm); (case zx => exact rfl); (case zy => exact Mine.fcw (by assumption) (by assumption) (by assumption)))))
set_option maxRecDepth 100000 in
set_option maxHeartbeats 8000000 in
theorem Mine.lc_ok (w : World) (c : Int) (t1 : Tok) : Mine.PairBack w 109 [.int c t1] (Mine.num c) (Mine.word c) := by
  w_on
  w_strict (
  unfold Mine.PairBack
  k_fill
  intro cn cs L a ccd h₀ m mg mb mean s Q E news hkind B F X N T hBare hret
  refine wpAny_call ?_
  (k_dflt (refine' code_def ?k1 ?k2 ?k3 ?k4 ?k5 ?kA ?kF ?kK ?k6 ?k7 ?k8 ?k9 ?kB ?_ ?c2 ?c3 ?c4 ?c5; (case kA => exact rfl); (case kF => exact rfl); (case kK => assumption); (case k1 => k_asm); (case k2 => k_asm); (case k3 => k_asm); (case k4 => k_asm); (case k5 => k_asm); (case k6 => k_is); (case k7 => k_is); (case k8 => k_room); (case k9 => exact BindsTo.of_eq rfl); (case c5 => decide); (case kB => exact locs rfl); (case c2 => exact rfl); (case c3 => exact rfl); (case c4 => exact rfl); k_whole; intro g' L' h' FG' F' N' B' X' T'; (try dsimp only); (try k_lift B'); (try k_fold)))
  k_steps
  all_goals (first
    | (refine' Mine.pair_of hret ?zl ?zF ?zN ?zx ?zy; (case zl => assumption); (case zF => k_asm); (case zN => k_asm); (case zx => first | exact Mine.lc1 (by assumption) | exact Mine.lc2 (by assumption) | exact Mine.lc2 (by omega) | exact Mine.lc3 (by assumption) | exact Mine.lc3 (by omega)); (case zy => first | exact Mine.lc1w (by assumption) | exact Mine.lcw))))
set_option maxRecDepth 100000 in
set_option maxHeartbeats 8000000 in
theorem Mine.wheels_ok (w : World) (number k day month : Int) (t1 t2 t3 t4 : Tok) (h1 : 1 ≤ number) (h2 : number ≤ 13) (h3 : 0 ≤ k) (h4 : k < 20) (h5 : 0 ≤ day) (h6 : day < 20) (h7 : 0 ≤ month) (h8 : month < 19) :
    Mine.TrueBack w 116 [.int number t1, .int k t2, .int day t3, .int month t4] := by
  w_on
  w_strict (
  unfold Mine.TrueBack
  k_fill
  intro cn cs L a ccd h₀ m mg mb mean s Q E ps hkind B F X N T codeHd hTab hBare hLt hret
  refine wpAny_call ?_
  (k_dflt (refine' code_def ?k1 ?k2 ?k3 ?k4 ?k5 ?kA ?kF ?kK ?k6 ?k7 ?k8 ?k9 ?kB ?_ ?c2 ?c3 ?c4 ?c5; (case kA => exact rfl); (case kF => exact rfl); (case kK => assumption); (case k1 => k_asm); (case k2 => k_asm); (case k3 => k_asm); (case k4 => k_asm); (case k5 => k_asm); (case k6 => k_is); (case k7 => k_is); (case k8 => k_room); (case k9 => exact BindsTo.of_eq rfl); (case c5 => decide); (case kB => exact locs rfl); (case c2 => exact rfl); (case c3 => exact rfl); (case c4 => exact rfl); k_whole; intro g' L' h' FG' F' N' B' X' T'; (try dsimp only); (try k_lift B'); (try k_fold)))
  k_steps
  all_goals (first
    | exact absurd rfl ‹(40 * number + 221 * (k + 1) - 1).fmod 260 + 1 ≠ (40 * number + 221 * (k + 1) - 1).fmod 260 + 1›
    | contradiction
    | exact absurd (@Mine.haab_place month day h7 h8) (by assumption)
    | (refine' Mine.fin_of hret ?zF ?zN ?zm ?zt ?zg ?zb; (case zF => k_asm); (case zN => k_asm); (case zm => k_mem); (case zt => assumption); (case zg => assumption); (case zb => (rw [Mine.wayeb_val h7 h8 _ Iff.rfl]; first | (rw [if_pos (by assumption)]; rfl) | (rw [if_neg (by assumption)]; rfl))))))
local macro_rules | `(tactic| walk_at "exec Raise some none") => `(tactic| (k_here; (with_reducible show wpAny _ _ (exec (Stmt.Raise (some (Expr.Call (Expr.Name ("IndexError" : Str) _) (_ :: _) [] _)) none _) _) _ _ _); k_dflt (refine' Raise_madeB PySem.F.excCall_IndexError PySem.F.excRaise_IndexError ?zqh (nameX_B ?zqF ?zqX ?zqT ?zqe ?zqv ?zqn ⟨rfl, ?_⟩ ?zqa ?zqb) ?zqs ?zqp; (case zqh => rfl); (case zqF => k_asm); (case zqX => k_asm); (case zqT => k_asm); (case zqa => rfl); (case zqb => rfl); (case zqe => k_is); (case zqv => boot_fast); (case zqn => decide); (case zqs => rfl); (case zqp => rfl); k_whole)))
local macro_rules | `(tactic| walk_at "leaving ref") => `(tactic| (k_here; (with_reducible rename KtsDicts _ _ => kdX); k_dflt (first
  | (refine' Mine.leave_raiseX ?zqK ?zqx ?zqF ?zqN ?_ ?zqk; (case zqx => exact Heap.MadeExc.of (by assumption)); (case zqF => assumption); (case zqK => assumption); (case zqN => k_asm); (case zqk => rfl); k_whole; intro h' t' S' R' U'; (try dsimp only at S' R' U' ⊢))
  | (refine' Mine.leave_heldX ?zqR ?_; (case zqR => assumption); k_whole; intro h' S' R' U'; (try dsimp only at S' R' U' ⊢)))))
local macro_rules | `(tactic| walk_at "call builtin:list.index") => `(tactic| (k_here; (k_dflt (show wpAny _ _ (call (Value.builtin "list.index") [Value.ref _, Value.str _ _]) _ _ _)); k_dflt (refine' Mine.index_missing ?zqh ?zql ?zqw ?zqx ?zqz ?zqr ?_; (case zqh => rfl); (case zql => ktb_isList); (case zqw => repeat constructor); (case zqx => assumption); (case zqz => decide); (case zqr => exact Nat.le_trans (by assumption) (Nat.le_of_ble_eq_true rfl))); intro h' tk' e' x'))
set_option maxRecDepth 100000 in
set_option maxHeartbeats 8000000 in
theorem Mine.told_index (w : World) (d : Int) (x : Str) (t1 t2 : Tok) (h1 : d < 1 ∨ 13 < d) : Mine.StrBack w 95 [.int d t1, .str x t2] (PySem.Str.ofString "index") := by
  w_on
  w_strict (
  unfold Mine.StrBack
  k_fill
  intro cn cn2 cs cs2 L a L2 a2 ccd ccd2 base g₀ g m mg mb mean s Q E ps hkind hkind2 B F X N T XB TB D T0 codeHd hTab hBare hret
  refine wpAny_call ?_
  (k_dflt (refine' code_defS ?k1 ?k2 ?k3 ?k4 ?k5 ?XB ?TB ?D ?T0 ?kA ?k6 ?k7 ?k8 ?k9 ?kB ?_ ?cK ?c2 ?c3 ?c4 ?c5; (case kA => exact rfl); (case k2 => k_asm); (case k1 => k_asm); (case XB => assumption); (case TB => assumption); (case D => assumption); (case T0 => exact T0); (case k3 => k_asm); (case k4 => k_asm); (case k5 => k_asm); (case k6 => k_is); (case k7 => k_is); (case k8 => k_room); (case k9 => exact BindsTo.of_eq rfl); (case kB => exact locs rfl); (case cK => assumption); (case c2 => exact rfl); (case c3 => exact rfl); (case c4 => exact rfl); (case c5 => decide); k_whole; intro g' L' h' FG' F' N' B' X' T' D'; (try dsimp only); (try k_lift B'); (try k_fold)))
  k_steps
  all_goals (first
    | (refine' Mine.str_of hret ?zT ?zF ?zN ?zm ?zt ?zg ?zB ?zX ?zP ?zD; (case zT => assumption); (case zF => k_asm); (case zN => k_asm); (case zm => k_mem); (case zt => assumption); (case zg => k_asm); (case zB => assumption); (case zX => k_asm); (case zP => k_asm); (case zD => assumption))))
set_option maxRecDepth 100000 in
set_option maxHeartbeats 8000000 in
theorem Mine.haab_index (w : World) (d : Int) (x : Str) (t1 t2 : Tok) (h1 : d < 0 ∨ 19 < d) : Mine.StrBack w 102 [.int d t1, .str x t2] (PySem.Str.ofString "index") := by
  w_on
  w_strict (
  unfold Mine.StrBack
  k_fill
  intro cn cn2 cs cs2 L a L2 a2 ccd ccd2 base g₀ g m mg mb mean s Q E ps hkind hkind2 B F X N T XB TB D T0 codeHd hTab hBare hret
  refine wpAny_call ?_
  (k_dflt (refine' code_defS ?k1 ?k2 ?k3 ?k4 ?k5 ?XB ?TB ?D ?T0 ?kA ?k6 ?k7 ?k8 ?k9 ?kB ?_ ?cK ?c2 ?c3 ?c4 ?c5; (case kA => exact rfl); (case k2 => k_asm); (case k1 => k_asm); (case XB => assumption); (case TB => assumption); (case D => assumption); (case T0 => exact T0); (case k3 => k_asm); (case k4 => k_asm); (case k5 => k_asm); (case k6 => k_is); (case k7 => k_is); (case k8 => k_room); (case k9 => exact BindsTo.of_eq rfl); (case kB => exact locs rfl); (case cK => assumption); (case c2 => exact rfl); (case c3 => exact rfl); (case c4 => exact rfl); (case c5 => decide); k_whole; intro g' L' h' FG' F' N' B' X' T' D'; (try dsimp only); (try k_lift B'); (try k_fold)))
  k_steps
  all_goals (first
    | (refine' Mine.str_of hret ?zT ?zF ?zN ?zm ?zt ?zg ?zB ?zX ?zP ?zD; (case zT => assumption); (case zF => k_asm); (case zN => k_asm); (case zm => k_mem); (case zt => assumption); (case zg => k_asm); (case zB => assumption); (case zX => k_asm); (case zP => k_asm); (case zD => assumption))))
section
local macro_rules | `(tactic| walk_at "noteFrame ref") => `(tactic| (k_here; (with_reducible rename Heap.NewExc _ _ _ _ => nxX); k_dflt (first
  | (refine' Mine.value_tz ?zqK ?zqF ?zqN nxX ?zqXB ?zqTB ?zqex ?zqv ?zql ?zqhe ?_ ?zq1 ?zq2 ?zq3 ?zq4 ?zq5 ?zq6 ?zq7)); k_dflt ((case zq1 => rfl); (case zq2 => rfl); (case zq3 => rfl); (case zq4 => rfl); (case zq5 => decide); (case zq6 => decide); (case zq7 => decide); (case zqF => assumption); (case zqK => assumption); (case zqN => k_asm); (case zqXB => assumption); (case zqTB => assumption); (case zqex => k_is); (case zqv => rfl); (case zql => assumption); (case zqhe => rfl); k_whole); intro h' e2' t2' y' ty' tk' R'; clear nxX; (try dsimp only at R' ⊢)))
set_option maxRecDepth 100000 in
set_option maxHeartbeats 8000000 in
theorem Mine.told_value (w : World) (d : Int) (x : Str) (t1 t2 : Tok) (h1 : 1 ≤ d) (h2 : d ≤ 13) (hlen : x.length ≤ 1000) (hrep : (reprText x).length + 16 ≤ 1000) (hno : Mine.tz.contains x = false) : Mine.StrBack w 95 [.int d t1, .str x t2] (PySem.Str.ofString "value") := by
  w_on
  w_strict (
  unfold Mine.StrBack
  k_fill
  intro cn cn2 cs cs2 L a L2 a2 ccd ccd2 base g₀ g m mg mb mean s Q E ps hkind hkind2 B F X N T XB TB D T0 codeHd hTab hBare hret
  refine wpAny_call ?_
  (k_dflt (refine' code_defS ?k1 ?k2 ?k3 ?k4 ?k5 ?XB ?TB ?D ?T0 ?kA ?k6 ?k7 ?k8 ?k9 ?kB ?_ ?cK ?c2 ?c3 ?c4 ?c5; (case kA => exact rfl); (case k2 => k_asm); (case k1 => k_asm); (case XB => assumption); (case TB => assumption); (case D => assumption); (case T0 => exact T0); (case k3 => k_asm); (case k4 => k_asm); (case k5 => k_asm); (case k6 => k_is); (case k7 => k_is); (case k8 => k_room); (case k9 => exact BindsTo.of_eq rfl); (case kB => exact locs rfl); (case cK => assumption); (case c2 => exact rfl); (case c3 => exact rfl); (case c4 => exact rfl); (case c5 => decide); k_whole; intro g' L' h' FG' F' N' B' X' T' D'; (try dsimp only); (try k_lift B'); (try k_fold)))
  k_steps
  all_goals (first
    | (refine' Mine.str_of hret ?zT ?zF ?zN ?zm ?zt ?zg ?zB ?zX ?zP ?zD; (case zT => assumption); (case zF => k_asm); (case zN => k_asm); (case zm => k_mem); (case zt => assumption); (case zg => k_asm); (case zB => assumption); (case zX => k_asm); (case zP => k_asm); (case zD => assumption))))
end
local macro_rules | `(tactic| walk_at "nothing here") => `(tactic| fail "nothing here")
local macro_rules | `(tactic| walk_at "noteFrame ref") => `(tactic| (k_here; (with_reducible rename Heap.NewExc _ _ _ _ => nxX); k_dflt (first
  | (refine' Mine.value_hb ?zqK ?zqF ?zqN nxX ?zqXB ?zqTB ?zqex ?zqv ?zql ?zqhe ?_ ?zq1 ?zq2 ?zq3 ?zq4 ?zq5 ?zq6 ?zq7)); k_dflt ((case zq1 => rfl); (case zq2 => rfl); (case zq3 => rfl); (case zq4 => rfl); (case zq5 => decide); (case zq6 => decide); (case zq7 => decide); (case zqF => assumption); (case zqK => assumption); (case zqN => k_asm); (case zqXB => assumption); (case zqTB => assumption); (case zqex => k_is); (case zqv => rfl); (case zql => assumption); (case zqhe => rfl); k_whole); intro h' e2' t2' y' ty' tk' R'; clear nxX; (try dsimp only at R' ⊢)))
set_option maxRecDepth 100000 in
set_option maxHeartbeats 8000000 in
theorem Mine.haab_value (w : World) (d : Int) (x : Str) (t1 t2 : Tok) (h1 : 0 ≤ d) (h2 : d ≤ 19) (hlen : x.length ≤ 1000) (hrep : (reprText x).length + 16 ≤ 1000) (hno : Mine.hb.contains x = false) : Mine.StrBack w 102 [.int d t1, .str x t2] (PySem.Str.ofString "value") := by
  w_on
  w_strict (
  unfold Mine.StrBack
  k_fill
  intro cn cn2 cs cs2 L a L2 a2 ccd ccd2 base g₀ g m mg mb mean s Q E ps hkind hkind2 B F X N T XB TB D T0 codeHd hTab hBare hret
  refine wpAny_call ?_
  (k_dflt (refine' code_defS ?k1 ?k2 ?k3 ?k4 ?k5 ?XB ?TB ?D ?T0 ?kA ?k6 ?k7 ?k8 ?k9 ?kB ?_ ?cK ?c2 ?c3 ?c4 ?c5; (case kA => exact rfl); (case k2 => k_asm); (case k1 => k_asm); (case XB => assumption); (case TB => assumption); (case D => assumption); (case T0 => exact T0); (case k3 => k_asm); (case k4 => k_asm); (case k5 => k_asm); (case k6 => k_is); (case k7 => k_is); (case k8 => k_room); (case k9 => exact BindsTo.of_eq rfl); (case kB => exact locs rfl); (case cK => assumption); (case c2 => exact rfl); (case c3 => exact rfl); (case c4 => exact rfl); (case c5 => decide); k_whole; intro g' L' h' FG' F' N' B' X' T' D'; (try dsimp only); (try k_lift B'); (try k_fold)))
  k_steps
  all_goals (first
    | (refine' Mine.str_of hret ?zT ?zF ?zN ?zm ?zt ?zg ?zB ?zX ?zP ?zD; (case zT => assumption); (case zF => k_asm); (case zN => k_asm); (case zm => k_mem); (case zt => assumption); (case zg => k_asm); (case zB => assumption); (case zX => k_asm); (case zP => k_asm); (case zD => assumption))))
local macro_rules | `(tactic| walk_at "call ref") => `(tactic| (k_here; kn_here; (with_reducible (show wpAny _ _ (call (Value.ref 102) [Value.int _ _, Value.str _ _]) _ _ _)); k_dflt (refine' Mine.haab_value _ _ _ _ _ ?zh0 ?zh1 ?zh2 ?zh3 ?zh4 _ _ _ _ _ _ _ _ _ _ _ _ _ _ _ _ _ _ _ _ _ ?zq1 ?zq2 ?zqB ?zqF ?zqX ?zqN ?zqT ?zqXB ?zqTB ?zqD ?zqT0 ?zqC ?zqt ?zqg ?_; (case zh0 => l_fact); (case zh1 => l_fact); (case zh2 => first | (with_reducible exact Mine.lit_len2.1) | (with_reducible exact Mine.lit_len.1) | exact (Mine.tz_len0 _ (by omega)).1); (case zh3 => first | (with_reducible exact Mine.lit_len2.2.1) | (with_reducible exact Mine.lit_len.2.1) | exact (Mine.tz_len0 _ (by omega)).2.1); (case zh4 => first | (with_reducible exact Mine.lit_len2.2.2) | (with_reducible exact Mine.lit_len.2.2.2) | exact (Mine.tz_len0 _ (by omega)).2.2); (case zq1 => assumption); (case zq2 => exact rfl); (case zqB => assumption); (case zqF => k_asm); (case zqX => k_asm); (case zqN => k_asm); (case zqT => k_asm); (case zqXB => assumption); (case zqTB => assumption); (case zqD => assumption); (case zqT0 => first | assumption | exact KtsTurn.refl); (case zqC => assumption); (case zqt => assumption); (case zqg => k_asm)); intro g' h' gs' dr' tk' ps' tt' T0' ht' hg' F' N' B' X' T' D'; (try k_lift B'); (try k_sweep)))
local macro_rules | `(tactic| walk_at "call ref") => `(tactic| (k_here; kn_here; (with_reducible (show wpAny _ _ (call (Value.ref 95) [Value.int _ _, Value.str _ _]) _ _ _)); k_dflt (refine' Mine.told_value _ _ _ _ _ ?zh0 ?zh1 ?zh2 ?zh3 ?zh4 _ _ _ _ _ _ _ _ _ _ _ _ _ _ _ _ _ _ _ _ _ ?zq1 ?zq2 ?zqB ?zqF ?zqX ?zqN ?zqT ?zqXB ?zqTB ?zqD ?zqT0 ?zqC ?zqt ?zqg ?_; (case zh0 => l_fact); (case zh1 => l_fact); (case zh2 => first | (with_reducible exact Mine.lit_len.1) | exact (Mine.hb_len0 _ (by omega)).1); (case zh3 => first | (with_reducible exact Mine.lit_len.2.1) | exact (Mine.hb_len0 _ (by omega)).2.1); (case zh4 => first | (with_reducible exact Mine.lit_len.2.2.1) | exact (Mine.hb_len0 _ (by omega)).2.2); (case zq1 => assumption); (case zq2 => exact rfl); (case zqB => assumption); (case zqF => k_asm); (case zqX => k_asm); (case zqN => k_asm); (case zqT => k_asm); (case zqXB => assumption); (case zqTB => assumption); (case zqD => assumption); (case zqT0 => first | assumption | exact KtsTurn.refl); (case zqC => assumption); (case zqt => assumption); (case zqg => k_asm)); intro g' h' gs' dr' tk' ps' tt' T0' ht' hg' F' N' B' X' T' D'; (try k_lift B'); (try k_sweep)))
local macro_rules | `(tactic| walk_at "call ref") => `(tactic| (k_here; kn_here; (with_reducible (show wpAny _ _ (call (Value.ref 102) [Value.int _ _, Value.str _ _]) _ _ _)); k_dflt (refine' Mine.haab_index _ _ _ _ _ ?zh0 _ _ _ _ _ _ _ _ _ _ _ _ _ _ _ _ _ _ _ _ _ ?zq1 ?zq2 ?zqB ?zqF ?zqX ?zqN ?zqT ?zqXB ?zqTB ?zqD ?zqT0 ?zqC ?zqt ?zqg ?_; (case zh0 => l_fact); (case zq1 => assumption); (case zq2 => exact rfl); (case zqB => assumption); (case zqF => k_asm); (case zqX => k_asm); (case zqN => k_asm); (case zqT => k_asm); (case zqXB => assumption); (case zqTB => assumption); (case zqD => assumption); (case zqT0 => first | assumption | exact KtsTurn.refl); (case zqC => assumption); (case zqt => assumption); (case zqg => k_asm)); intro g' h' gs' dr' tk' ps' tt' T0' ht' hg' F' N' B' X' T' D'; (try k_lift B'); (try k_sweep)))
local macro_rules | `(tactic| walk_at "call ref") => `(tactic| (k_here; kn_here; (with_reducible (show wpAny _ _ (call (Value.ref 95) [Value.int _ _, Value.str _ _]) _ _ _)); k_dflt (refine' Mine.told_index _ _ _ _ _ ?zh0 _ _ _ _ _ _ _ _ _ _ _ _ _ _ _ _ _ _ _ _ _ ?zq1 ?zq2 ?zqB ?zqF ?zqX ?zqN ?zqT ?zqXB ?zqTB ?zqD ?zqT0 ?zqC ?zqt ?zqg ?_; (case zh0 => l_fact); (case zq1 => assumption); (case zq2 => exact rfl); (case zqB => assumption); (case zqF => k_asm); (case zqX => k_asm); (case zqN => k_asm); (case zqT => k_asm); (case zqXB => assumption); (case zqTB => assumption); (case zqD => assumption); (case zqT0 => first | assumption | exact KtsTurn.refl); (case zqC => assumption); (case zqt => assumption); (case zqg => k_asm)); intro g' h' gs' dr' tk' ps' tt' T0' ht' hg' F' N' B' X' T' D'; (try k_lift B'); (try k_sweep)))
set_option maxRecDepth 100000 in
set_option maxHeartbeats 8000000 in
theorem Mine.wrong_ok (w : World) (pick number k day month : Int) (t0 t1 t2 t3 t4 : Tok) (h1 : 1 ≤ number) (h2 : number ≤ 13) (h3 : 0 ≤ k) (h4 : k < 20) (h5 : 0 ≤ day) (h6 : day < 20) (h7 : 0 ≤ month) (h8 : month < 19) :
    Mine.TrueBack w 123 [.int pick t0, .int number t1, .int k t2, .int day t3, .int month t4] := by
  w_on
  w_strict (
  unfold Mine.TrueBack
  k_fill
  intro cn cs L a ccd h₀ m mg mb mean s Q E ps hkind B F X N T codeHd hTab hBare hLt hret
  refine wpAny_call ?_
  (k_dflt (refine' code_defS0 ?k1 ?k2 ?k3 ?k4 ?k5 ?kA ?k6 ?k7 ?k8 ?k9 ?kB ?_ ?cK ?c2 ?c3 ?c4 ?c5; (case kA => exact rfl); (case k2 => k_asm); (case k1 => k_asm); (case k3 => k_asm); (case k4 => k_asm); (case k5 => k_asm); (case k6 => k_is); (case k7 => k_is); (case k8 => k_room); (case k9 => exact BindsTo.of_eq rfl); (case kB => exact locs rfl); (case cK => assumption); (case c2 => exact rfl); (case c3 => exact rfl); (case c4 => exact rfl); (case c5 => decide); k_whole; intro g' L' h' FG' F' N' B' X' T' D'; (try dsimp only); (try k_lift B'); (try k_fold)))
  k_steps
  all_goals (first
    | (refine' Mine.fin_of hret ?zF ?zN ?zm ?zt ?zg ?zb; (case zF => k_asm); (case zN => k_asm); (case zm => k_mem); (case zt => assumption); (case zg => assumption); (case zb => rfl))
    | contradiction
    | (exfalso; l_fact)))
local macro_rules | `(tactic| walk_at "call ref") => `(tactic| (k_here; kn_here; (with_reducible (show wpAny _ _ (call (Value.ref 116) [Value.int _ _, Value.int _ _, Value.int _ _, Value.int _ _]) _ _ _)); k_dflt (refine' Mine.wheels_ok _ _ _ _ _ _ _ _ _ ?zq1 ?zq2 ?zq3 ?zq4 ?zq5 ?zq6 ?zq7 ?zq8 _ _ _ _ _ _ _ _ _ _ _ _ _ _ ?zqk ?zqB ?zqF ?zqX ?zqN ?zqT ?zqC ?zqt ?zqg ?zql ?_; (case zq1 => l_fact); (case zq2 => l_fact); (case zq3 => l_fact); (case zq4 => l_fact); (case zq5 => l_fact); (case zq6 => l_fact); (case zq7 => l_fact); (case zq8 => l_fact); (case zqk => exact rfl); (case zqB => assumption); (case zqF => k_asm); (case zqX => k_asm); (case zqN => k_asm); (case zqT => k_asm); (case zqC => kn_code); (case zqt => first | k_asm | exact True.intro); (case zqg => k_asm); (case zql => assumption)); intro h' g' dr' tk' ps' ht' hg' F' N'; (try k_sweep)))
local macro_rules | `(tactic| walk_at "call ref") => `(tactic| (k_here; kn_here; (with_reducible (show wpAny _ _ (call (Value.ref 123) [Value.int _ _, Value.int _ _, Value.int _ _, Value.int _ _, Value.int _ _]) _ _ _)); k_dflt (refine' Mine.wrong_ok _ _ _ _ _ _ _ _ _ _ _ ?zq1 ?zq2 ?zq3 ?zq4 ?zq5 ?zq6 ?zq7 ?zq8 _ _ _ _ _ _ _ _ _ _ _ _ _ _ ?zqk ?zqB ?zqF ?zqX ?zqN ?zqT ?zqC ?zqt ?zqg ?zql ?_; (case zq1 => l_fact); (case zq2 => l_fact); (case zq3 => l_fact); (case zq4 => l_fact); (case zq5 => l_fact); (case zq6 => l_fact); (case zq7 => l_fact); (case zq8 => l_fact); (case zqk => exact rfl); (case zqB => assumption); (case zqF => k_asm); (case zqX => k_asm); (case zqN => k_asm); (case zqT => k_asm); (case zqC => kn_code); (case zqt => first | k_asm | exact True.intro); (case zqg => k_asm); (case zql => assumption)); intro h' g' dr' tk' ps' ht' hg' F' N'; (try k_sweep)))
local macro_rules | `(tactic| walk_at "call ref") => `(tactic| (k_here; (with_reducible (show wpAny _ _ (call (Value.ref 58) [Value.int _ _]) _ _ _)); k_dflt (refine' Mine.fc_ok _ _ _ _ _ _ _ _ _ _ _ _ _ _ _ _ _ ?zqk ?zqB ?zqF ?zqX ?zqN ?zqT ?zqg ?_; (case zqk => exact rfl); (case zqB => assumption); (case zqF => k_asm); (case zqX => k_asm); (case zqN => k_asm); (case zqT => k_asm); (case zqg => k_asm)); intro h' D' t' tt' n' tk' l1 F' N'; (try k_lt l1); (try k_sweep)))
local macro_rules | `(tactic| walk_at "call ref") => `(tactic| (k_here; (with_reducible (show wpAny _ _ (call (Value.ref 109) [Value.int _ _]) _ _ _)); k_dflt (refine' Mine.lc_ok _ _ _ _ _ _ _ _ _ _ _ _ _ _ _ _ _ ?zqk ?zqB ?zqF ?zqX ?zqN ?zqT ?zqg ?_; (case zqk => exact rfl); (case zqB => assumption); (case zqF => k_asm); (case zqX => k_asm); (case zqN => k_asm); (case zqT => k_asm); (case zqg => k_asm)); intro h' D' t' tt' n' tk' l1 F' N'; (try k_lt l1); (try k_sweep)))
set_option maxRecDepth 100000 in
set_option maxHeartbeats 8000000 in
theorem PySem.Challenge.cw_aq6007_01_holds : PySem.Challenge.rw_aq6007_01.Holds := by
  exact hd (by
  w_strict (
  k_fill
  intro w s₀ s₁ mg mb G Y fa o pm cd doc dV kV ho hd hcd hD hmg hg args vals as hpre hlay hrd hwl hlo
  have KX := kIn_of Y
  have X := (Ground.X G).1
  have V := (Ground.X G).2
  refine Ground.open G ?_
  intro T B D TE TW
  try (refine guard_noD D (by decide +kernel) ?_; clear D)
  have hT9 : TabsAt [(64, 60)] s₁.heap := List.forall_mem_cons.mpr ⟨tab_of (x := PySem.Str.ofString "_tzolkin_count") (c := 64) (P := 60) T KX rfl (by kernel_rfl), fun _ h => nomatch h⟩
  have hb0 : AllBare s₁.gens := .of_eq hg
  clear hmg
  wrow_args hpre hlay hrd hwl hlo
  all_goals (
    first | refine callC_kw (enter_call ?_) | refine enter_call ?_
    w_top on
    refine Mine.post_of hT9 (fun _ => rfl) (postW_of (X := true) rfl (w_eq_bool (k := true) (l := true) (w_res rfl) w_lit) rfl) ?_
    w_call any ho hd hcd hD T F
    clear hd
    kn_ghosts F T
    k_drop
    (try k_fold)
    k_steps
    all_goals (first
      | (exfalso; (with_reducible rename Int.fmod (40 * (_ : Int) + 221 * ((_ : Int) + 1) - 1) 260 + 1 ≠ (_ : Int) => hA); refine hA (Mine.place_back ?_ ?_ ?_) <;> assumption)
      | (refine' Mine.done_of ?zF ?zG rfl ?zg ?zb; (case zF => k_asm); (case zG => exact ⟨GrownAt.of (by k_asm) (by k_mem), True.intro⟩); (case zg => k_asm); (case zb => exact Mine.haab_back _))))))
