import PyProof.Rows.All
import Wide.All
import OpenK.AllK
import Wide.FinOn
import KE.KLam
import PySem.Challenge.RW_il0049_01
set_option Elab.async false
section
open PySem PySem.W PyProof.Rows
set_option maxRecDepth 100000
namespace Mine
theorem ex1_2 {α : Type} {p1 p2 : α → Prop} {P : Prop} (h : ∃ a, p1 a ∧ p2 a) (k : ∀ a, p1 a → p2 a → P) : P := by obtain ⟨a, h1, h2⟩ := h; exact k a h1 h2
theorem ex1_3 {α : Type} {p1 p2 p3 : α → Prop} {P : Prop} (h : ∃ a, p1 a ∧ p2 a ∧ p3 a) (k : ∀ a, p1 a → p2 a → p3 a → P) : P := by obtain ⟨a, h1, h2, h3⟩ := h; exact k a h1 h2 h3
theorem ex1_4 {α : Type} {p1 p2 p3 p4 : α → Prop} {P : Prop} (h : ∃ a, p1 a ∧ p2 a ∧ p3 a ∧ p4 a) (k : ∀ a, p1 a → p2 a → p3 a → p4 a → P) : P := by obtain ⟨a, h1, h2, h3, h4⟩ := h; exact k a h1 h2 h3 h4
theorem ex1_5 {α : Type} {p1 p2 p3 p4 p5 : α → Prop} {P : Prop} (h : ∃ a, p1 a ∧ p2 a ∧ p3 a ∧ p4 a ∧ p5 a) (k : ∀ a, p1 a → p2 a → p3 a → p4 a → p5 a → P) : P := by obtain ⟨a, h1, h2, h3, h4, h5⟩ := h; exact k a h1 h2 h3 h4 h5
theorem ex1_6 {α : Type} {p1 p2 p3 p4 p5 p6 : α → Prop} {P : Prop} (h : ∃ a, p1 a ∧ p2 a ∧ p3 a ∧ p4 a ∧ p5 a ∧ p6 a) (k : ∀ a, p1 a → p2 a → p3 a → p4 a → p5 a → p6 a → P) : P := by obtain ⟨a, h1, h2, h3, h4, h5, h6⟩ := h; exact k a h1 h2 h3 h4 h5 h6
theorem ex1_7 {α : Type} {p1 p2 p3 p4 p5 p6 p7 : α → Prop} {P : Prop} (h : ∃ a, p1 a ∧ p2 a ∧ p3 a ∧ p4 a ∧ p5 a ∧ p6 a ∧ p7 a) (k : ∀ a, p1 a → p2 a → p3 a → p4 a → p5 a → p6 a → p7 a → P) : P := by obtain ⟨a, h1, h2, h3, h4, h5, h6, h7⟩ := h; exact k a h1 h2 h3 h4 h5 h6 h7
theorem ex1_8 {α : Type} {p1 p2 p3 p4 p5 p6 p7 p8 : α → Prop} {P : Prop} (h : ∃ a, p1 a ∧ p2 a ∧ p3 a ∧ p4 a ∧ p5 a ∧ p6 a ∧ p7 a ∧ p8 a) (k : ∀ a, p1 a → p2 a → p3 a → p4 a → p5 a → p6 a → p7 a → p8 a → P) : P := by obtain ⟨a, h1, h2, h3, h4, h5, h6, h7, h8⟩ := h; exact k a h1 h2 h3 h4 h5 h6 h7 h8
theorem ex2_4 {α β : Type} {p1 p2 p3 p4 : α → β → Prop} {P : Prop} (h : ∃ a, ∃ b, p1 a b ∧ p2 a b ∧ p3 a b ∧ p4 a b) (k : ∀ a b, p1 a b → p2 a b → p3 a b → p4 a b → P) : P := by obtain ⟨a, b, h1, h2, h3, h4⟩ := h; exact k a b h1 h2 h3 h4
theorem ex2_6 {α β : Type} {p1 p2 p3 p4 p5 p6 : α → β → Prop} {P : Prop} (h : ∃ a, ∃ b, p1 a b ∧ p2 a b ∧ p3 a b ∧ p4 a b ∧ p5 a b ∧ p6 a b) (k : ∀ a b, p1 a b → p2 a b → p3 a b → p4 a b → p5 a b → p6 a b → P) : P := by obtain ⟨a, b, h1, h2, h3, h4, h5, h6⟩ := h; exact k a b h1 h2 h3 h4 h5 h6
/-- the goal is hidden -/
theorem hideG {P : Prop} (h : ∀ G : Prop, (P → G) → G) : P := h P id
section
variable {prog : Program} {w : World} {A : Around} {E : Value → Shared → Prop} {s : Shared}
/-- the end of a list's iterator, with the heap's size: two new objects (the exception and its tuple) -/
theorem nextEnd {it l : Addr} {i : Nat} {items} {Q : Option Value → Shared → Prop} (hh : A.handled = none)
    (hit : s.heap.IsListIter it l i) (hl : s.heap.IsList l items) (hx : items[i]? = none)
    (hQ : ∀ h', h'.objs.size = s.heap.objs.size + 2 → Heap.ExtBut it s.heap h' → Q none { s with heap := h' }) : wpAny (model prog w) A (pyNext (.ref it)) Q E s := by
  refine hideG fun G hG => ?_
  obtain ⟨o, ho, hc, hd⟩ := id hit
  obtain ⟨ol, hol, _, nl, hdl⟩ := hl
  refine hG ?_
  unfold pyNext
  refine wpAny_bind (wpAny_attempt (wpAny_callSpecial?_slot (name := Str.ofString "__next__") hit.typeIs slot_listiter_next
    (wpAny_call_entry slot_listiter_next hit.typeIs entry_listiter_next ?_ (args_listiter_next _))))
  show wpAny _ _ (field (.ref it) 0 >>= _) _ _ s
  refine wpAny_bind (wpAny_field ho hd (x := .ref l) rfl ?_)
  show wpAny _ _ (if (Value.ref l == Value.none) = true then _ else _) _ _ s
  rw [if_neg (show ¬ ((Value.ref l == Value.none) = true) from Bool.false_ne_true)]
  show wpAny _ _ (field (.ref it) 1 >>= _) _ _ s
  refine wpAny_bind (wpAny_field ho hd (x := .int i 0) rfl ?_)
  show wpAny _ _ (seqItems? (.ref l) >>= _) _ _ s
  refine wpAny_bind (wpAny_seqItems hol hdl ?_)
  simp only [Int.toNat_natCast, hx]
  refine wpAny_bind (wpAny_rule (wpAny_bind (wpAny_setField ho hd (by simp) ?_)))
  show wpAny _ _ (newExc (.type "StopIteration") [] >>= _) _ _ _
  refine wpAny_bind ?_
  simp only [newExc, newTuple]
  refine wpAny_bind (wpAny_newObj_type ?_ (by size_fits))
  refine wpAny_bind (m := firstArgMember _ _) (wpAny_of_eq (a := Value.none) (by first | rfl | (simp only [firstArgMember]; rfl)) ?_)
  refine wpAny_newObj_type ?_ (by size_fits)
  simp only [raiseNew]
  refine wpAny_bind (wpAny_handled ?_)
  rw [show A.in1.handled = none from hh]
  refine wpAny_bind (wpAny_pure (wpAny_throw ?_))
  refine wpAny_bind (wpAny_isInstance (T := "StopIteration") (b := true) ⟨_, Heap.get?_push_size _ rfl, rfl⟩ isSubtype_stop ?_)
  exact wpAny_pure (hQ _ (by rw [Heap.size_push, Heap.size_push, Heap.size_after_update]) (((Heap.SameBut.update ..).extBut.push _).push _))

theorem keepUpd {h : Heap} {S b : Addr} {f : Obj → Obj} {o : Obj} (hb : b ≠ S) (e : h.get? b = some o) : (h.update S f).get? b = some o :=
  (Heap.get?_update_other _ _ (Ne.symm hb)).trans e
set_option maxHeartbeats 400000 in
/-- the loop of the builtin sum over a list of ints, with the heap's size -/
theorem sumLoop {R : Result → Shared → Prop} {I l S : Addr} {vs : List Value} {ns : List Int} (hh : A.in1.handled = none) (hi : IntsAre vs ns) (hSI : S ≠ I) (hlI : l ≠ I) (hlS : l ≠ S) :
    ∀ (k i : Nat) (s : Shared) (tA : Tok) (c : Nat) (st : Int), (st = 0 ∨ st = 2) → vs.length - i = k → i ≤ vs.length → s.heap.IsListIter I l i → s.heap.IsList l vs.toArray →
    s.heap.get? S = some { cls := .type "list", dict := none, data := .seq #[.int ((ns.take i).sum) tA] c, slots := #[] } →
    (∀ h' tk t', h'.objs.size = s.heap.objs.size + 2 → (∀ b o, b ≠ I → b ≠ S → s.heap.get? b = some o → h'.get? b = some o) → R (.ok (.ret (.int ns.sum t'))) { s with heap := h', toks := tk }) →
    codeAny (model prog w) A (.builtin "sum.loop" ⟨[.ref I, .ref S, rawInt st, rawInt 0], []⟩) R s := by
  have hlen : vs.length = ns.length := by
    clear hSI hlI hlS
    induction hi with
    | nil => rfl
    | cons _ _ _ ih => simp [ih]
  have at_ : ∀ i, i < vs.length → ∃ x t, vs[i]? = some (.int x t) ∧ (ns.take (i + 1)).sum = (ns.take i).sum + x := by
    clear hlen hSI hlI hlS
    induction hi with
    | nil => intro i h; cases h
    | cons n t hr ih =>
      intro i h
      cases i with
      | zero => exact ⟨n, t, rfl, by simp⟩
      | succ i =>
        refine hideG fun G hG => ?_
        obtain ⟨x, t', e, q⟩ := ih i (Nat.lt_of_succ_lt_succ h)
        refine hG ?_
        refine ⟨x, t', e, ?_⟩
        rw [List.take_succ_cons, List.take_succ_cons, List.sum_cons, List.sum_cons, q, Int.add_assoc]
  intro k
  induction k with
  | zero =>
    intro i s tA c st _ hk hi' hit hl hS hR
    have e : i = vs.length := by omega
    refine codeAny_builtin F.entry_sum_loop ?_
    rw [Around.under_plainId F.plain_sum_loop _]
    show wpAny _ A.in1 (seqItems? (.ref S) >>= _) _ _ s
    refine wpAny_bind (wpAny_seqItems hS rfl ?_)
    show wpAny _ A.in1 (tryCatch (pyNext (.ref I)) _ >>= _) _ _ s
    refine wpAny_bind (wpAny_tryCatch (nextEnd hh hit hl (by simp [e]) fun h' hz hk' => wpAny_pure ?_))
    rw [show (ns.take i).sum = ns.sum from by rw [List.take_of_length_le (by omega)]]
    exact hR h' s.toks tA hz fun b o hb _ e => hk' b o hb e
  | succ k ih =>
    intro i s tA c st hst hk hi' hit hl hS hR
    have hlt : i < vs.length := by omega
    refine hideG fun G hG => ?_
    obtain ⟨x, t, ex, es⟩ := at_ i hlt
    refine hG ?_
    refine codeAny_builtin F.entry_sum_loop ?_
    rw [Around.under_plainId F.plain_sum_loop _]
    show wpAny _ A.in1 (seqItems? (.ref S) >>= _) _ _ s
    refine wpAny_bind (wpAny_seqItems hS rfl ?_)
    show wpAny _ A.in1 (tryCatch (pyNext (.ref I)) _ >>= _) _ _ s
    refine wpAny_bind (wpAny_tryCatch (wpAny_pyNext_list_item hit hl (by simpa using ex) fun h₁ hit₁ hs₁ => ?_))
    have hS' := (hs₁.2 S hSI).trans hS
    have hl' : h₁.IsList l vs.toArray := (let ⟨o, e, r⟩ := hl; ⟨o, (hs₁.2 l hlI).trans e, r⟩)
    have go : ∀ (st' : Int) (tk tB : Tok) (h₂ : Heap) (c' : Nat), (st' = 0 ∨ st' = 2) → Heap.SameBut S h₁ h₂ → h₂.get? S = some { cls := .type "list", dict := none, data := .seq #[.int ((ns.take i).sum + x) tB] c', slots := #[] } →
        codeAny (model prog w) A (.builtin "sum.loop" ⟨[.ref I, .ref S, rawInt st', rawInt 0], []⟩) R { s with heap := h₂, toks := tk } := by
      intro st' tk tB h₂ c' hst' hsb hS₂
      refine ih (i + 1) _ tB c' st' hst' (by omega) hlt (let ⟨o, e, r⟩ := hit₁; ⟨o, (hsb.2 I (Ne.symm hSI)).trans e, r⟩) (let ⟨o, e, r⟩ := hl'; ⟨o, (hsb.2 l hlS).trans e, r⟩) (by rw [es]; exact hS₂) fun h' tk' t' hz hk' => hR h' tk' t' (by rw [hz, hsb.1, hs₁.1]) fun b o hb hbS e => hk' b o hb hbS ((hsb.2 b hbS).trans ((hs₁.2 b hb).trans e))
    rcases hst with rfl | rfl
    · show wpAny _ A.in1 (if (_ : Bool) = true then (mkInt ((ns.take i).sum + x) >>= _) else _) _ _ _
      split
      · refine wpAny_bind (wpAny_mkInt ?_)
        show wpAny _ A.in1 (updateSeq S (fun _ => #[.int ((ns.take i).sum + x) s.toks]) >>= _) _ _ _
        refine wpAny_bind ?_
        refine wpAny_updateSeq hS' rfl ?_
        exact wpAny_pure ⟨plainId_quiet F.plain_sum_loop _, go 0 _ _ _ _ (.inl rfl) (.update ..) (Heap.get?_update_self _ hS' rfl)⟩
      · refine wpAny_bind (wpAny_rule ?_)
        refine wpAny_bind (wpAny_attempt (wpAny_holding (wpAny_add_int ?_)))
        show wpAny _ A.in1 (updateSeq S (fun _ => #[.int ((ns.take i).sum + x) s.toks]) >>= _) _ _ _
        refine wpAny_bind (wpAny_updateSeq hS' rfl ?_)
        obtain ⟨c₂, hS₂⟩ : ∃ c₂, (h₁.update S (Obj.mapSeq fun _ => #[Value.int ((ns.take i).sum + x) s.toks])).get? S = some { cls := .type "list", dict := none, data := .seq #[.int ((ns.take i).sum + x) s.toks] c₂, slots := #[] } := ⟨_, Heap.get?_update_self _ hS' rfl⟩
        refine wpAny_bind (wpAny_letGo ?_)
        refine wpAny_bind (wpAny_updateSeq hS₂ rfl ?_)
        exact wpAny_pure ⟨plainId_quiet F.plain_sum_loop _, go 2 _ _ _ _ (.inr rfl) ((Heap.SameBut.update ..).trans (.update ..)) (Heap.get?_update_self _ hS₂ rfl)⟩
    · show wpAny _ A.in1 ((holding [Value.int x t] (binaryOp .Add (.int ((ns.take i).sum) tA) (.int x t))).attempt >>= _) _ _ _
      refine wpAny_bind (wpAny_attempt (wpAny_holding (wpAny_add_int ?_)))
      show wpAny _ A.in1 (updateSeq S (fun _ => #[.int ((ns.take i).sum + x) s.toks]) >>= _) _ _ _
      refine wpAny_bind (wpAny_updateSeq hS' rfl ?_)
      obtain ⟨c₂, hS₂⟩ : ∃ c₂, (h₁.update S (Obj.mapSeq fun _ => #[Value.int ((ns.take i).sum + x) s.toks])).get? S = some { cls := .type "list", dict := none, data := .seq #[.int ((ns.take i).sum + x) s.toks] c₂, slots := #[] } := ⟨_, Heap.get?_update_self _ hS' rfl⟩
      refine wpAny_bind (wpAny_letGo ?_)
      refine wpAny_bind (wpAny_updateSeq hS₂ rfl ?_)
      exact wpAny_pure ⟨plainId_quiet F.plain_sum_loop _, go 2 _ _ _ _ (.inr rfl) ((Heap.SameBut.update ..).trans (.update ..)) (Heap.get?_update_self _ hS₂ rfl)⟩
/-- the builtin sum over a list of ints: four new objects -/
theorem sumList {l : Addr} {vs : List Value} {ns : List Int} {Q : Value → Shared → Prop} (hh : A.in1.handled = none) (hi : IntsAre vs ns) (hl : s.heap.IsList l vs.toArray)
    (hQ : ∀ h' tk t', h'.objs.size = s.heap.objs.size + 4 → (∀ b o, s.heap.get? b = some o → h'.get? b = some o) → Q (.int ns.sum t') { s with heap := h', toks := tk }) :
    wpAny (model prog w) A (call (.builtin "sum") [.ref l]) Q E s := by
  have hlt : l < s.heap.objs.size := by obtain ⟨o, e, _⟩ := hl; exact Heap.lt_size e
  refine call_function_tree F.kind_sum F.plain_sum F.entry_sum (F.args_sum1 _) ?_
  unfold Builtin.«sum»
  simp only [List.length_cons, List.length_nil]
  rw [if_neg (by decide)]
  refine wpAny_bind (wpAny_of_eq (show Builtin.Builtins.bindParams "sum" ["start"] 0 { } = pure [none] from rfl) ?_)
  refine wpAny_bind (wpAny_pyIter_list hl ?_)
  refine wpAny_bind (wpAny_mkInt ?_)
  refine wpAny_bind (wpAny_pure ?_)
  simp only [List.forIn_cons, List.forIn_nil]
  refine wpAny_bind (wpAny_bind (wpAny_bind (wpAny_isInstance (T := "int") (b := false) (typeIs_int _ _ _) PySem.sub_int_str ?_)))
  simp only [Bool.false_eq_true, if_false]
  refine wpAny_pure (wpAny_bind (wpAny_bind (wpAny_isInstance (T := "int") (b := false) (typeIs_int _ _ _) PySem.sub_int_bytes ?_)))
  simp only [Bool.false_eq_true, if_false]
  refine wpAny_pure (wpAny_bind (wpAny_bind (wpAny_isInstance (T := "int") (b := false) (typeIs_int _ _ _) PySem.sub_int_bytearray ?_)))
  simp only [Bool.false_eq_true, if_false]
  refine wpAny_pure (wpAny_pure ?_)
  refine wpAny_bind (wpAny_newObj_type ?_)
  refine wpAny_pure ⟨plainId_quiet F.plain_sum_loop _, ?_⟩
  have up : ∀ (o₁ o₂ : Obj) b o, s.heap.get? b = some o → ((s.heap.push o₁).push o₂).get? b = some o := fun o₁ o₂ b o e => Heap.get?_push_of_some _ (Heap.get?_push_of_some _ e)
  refine sumLoop (vs := vs) (l := l) hh hi ?h1 ?h2 ?h3 vs.length 0 _ s.toks 0 0 (.inl rfl) (by omega) (Nat.zero_le _) ?h6 ?h7 ?h8 ?h9
  case h1 => show (s.heap.push _).objs.size ≠ s.heap.objs.size; rw [Heap.size_push]; exact Nat.succ_ne_self _
  case h2 => exact Nat.ne_of_lt hlt
  case h3 => show l ≠ (s.heap.push _).objs.size; rw [Heap.size_push]; exact Nat.ne_of_lt (Nat.lt_succ_of_lt hlt)
  case h6 => exact ⟨_, Heap.get?_push_of_some _ (Heap.get?_push_size _ rfl), rfl, rfl⟩
  case h7 => exact (let ⟨o, e, r⟩ := hl; ⟨o, up _ _ _ _ e, r⟩)
  case h8 => exact Heap.get?_push_size _ rfl
  intro h' tk t' hz hk'
  refine hQ h' tk t' (by rw [hz]; dsimp only; rw [Heap.size_push, Heap.size_push]) fun b o e => ?_
  have hb := Heap.lt_size e
  exact hk' b o (Nat.ne_of_lt hb) (by show b ≠ (s.heap.push _).objs.size; rw [Heap.size_push]; exact Nat.ne_of_lt (Nat.lt_succ_of_lt hb)) (up _ _ _ _ e)
end
end Mine
end
section
open PySem PySem.W PyProof.Rows
set_option maxRecDepth 100000
namespace Mine
section
variable {M : Model} {A : Around} {E : Value → Shared → Prop} {s : Shared}
/-- the six pushes of a function's code object -/
theorem newCodeEx {ctx : CodeContext} {name qualname : Str} {firstLine argc posonly kwonly flags : Nat} {free : List Str} {isFunction : Bool} {l : List Str × List Str} {fd : FuncData} {Q : Value → Shared → Prop}
    (hQ : ∀ c h' tk v0 tq rest, h'.objs.size = s.heap.objs.size + 6 → s.heap.objs.size ≤ c → (∀ b o, s.heap.get? b = some o → h'.get? b = some o) →
      h'.get? c = some ⟨.type "code", none, .fields (v0 :: .str qualname tq :: rest).toArray, #[]⟩ → Q (.ref c) { s with heap := h', toks := tk }) :
    wpAny M A (newCode ctx name qualname firstLine argc posonly kwonly flags free isFunction none (some l) (some fd)) Q E s := by
  unfold newCode
  refine wpAny_bind (wpAny_mkText ?_)
  refine wpAny_bind (wpAny_mkText ?_)
  refine wpAny_bind (wpAny_mkText ?_)
  refine wpAny_bind (wpAny_mkStrs fun fs => ?_)
  refine wpAny_bind (wpAny_newObjAsIs_type ?_)
  refine wpAny_bind (wpAny_alloc ?_)
  refine wpAny_bind (wpAny_mkStrs fun a => ?_)
  refine wpAny_bind (wpAny_newObjAsIs_type ?_)
  refine wpAny_bind (wpAny_mkStrs fun b => ?_)
  refine wpAny_bind (wpAny_newObjAsIs_type ?_)
  refine wpAny_bind (wpAny_bind (wpAny_alloc (wpAny_pure ?_)))
  try refine wpAny_bind (wpAny_pure ?_)
  refine wpAny_bind (wpAny_fresh ?_)
  refine wpAny_bind (wpAny_mkText ?_)
  refine wpAny_newObj_type ?_ (by size_fits)
  refine hQ _ _ _ _ _ _ ?_ ?_ (fun b o e => ?_) (Heap.get?_push_size _ rfl)
  · simp only [Heap.size_push]
  · simp only [Heap.size_push]; omega
  · exact Heap.get?_push_of_some _ (Heap.get?_push_of_some _ (Heap.get?_push_of_some _ (Heap.get?_push_of_some _ (Heap.get?_push_of_some _ (Heap.get?_push_of_some _ e)))))
/-- a lambda's code object, first time: the table of the running code grows by one row -/
theorem fnCodeEx {env : Env} {c P : Addr} {ps : Array Value} {pos : Pos} {firstLine : Nat} {name qualname : Str} {p : Arguments} {scope : Scope} {body : FuncBody} {Q : Value → Shared → Prop} {l : List Str × List Str}
    (hc : env.code = .ref c) (hok : s.heap.IsCode c P ps) (hP : s.heap.get? P = some (tabObj ps)) (hnf : codeAmong pos ps.toList = none) (hl : localNames p scope body = some l)
    (hQ : ∀ c' h' tk v0 tq rest, h'.objs.size = s.heap.objs.size + 6 → s.heap.objs.size ≤ c' → Heap.ExtBut P s.heap h' → h'.get? P = some (tabObj (ps ++ #[rawInt pos.line, rawInt pos.col, .ref c'])) →
      h'.get? c' = some ⟨.type "code", none, .fields (v0 :: .str qualname tq :: rest).toArray, #[]⟩ → Q (.ref c') { s with heap := h', toks := tk }) :
    wpAny M A (functionCode env pos firstLine name qualname p scope body) Q E s := by
  refine hideG fun G hG => ?_
  obtain ⟨o, vs, file, tf, flags, tg, inF, text, tt, op, ho, hd, h11, h2, h7, h9, h10, hop, hpd, htr, hne⟩ := id hok
  refine hG ?_
  have e1 : op = tabObj ps := Option.some.inj (hop.symm.trans hP)
  subst e1
  unfold functionCode codeAt
  rw [hc, if_neg (show ¬ ((Value.ref c == Value.none) = true) from Bool.false_ne_true)]
  refine wpAny_bind (wpAny_fieldsOf ho hd ?_)
  rw [h11]
  refine wpAny_bind (wpAny_fieldsOf hop hpd ?_)
  rw [hnf, h2, h7, h9, h10, hl]
  refine wpAny_bind (newCodeEx fun c' h' tk v0 tq rest hz hge hk hc' => ?_)
  have hop' := hk _ _ hop
  have hcP : c' ≠ P := Nat.ne_of_gt (Nat.lt_of_lt_of_le (Heap.lt_size hop) hge)
  refine wpAny_bind (wpAny_updateFieldsOfTheText hop' hpd ?_)
  have hget : (h'.update P (Obj.mapFields fun vs => if (codeAmong pos vs.toList).isSome = true then vs else vs ++ #[rawInt pos.line, rawInt pos.col, Value.ref c'])).get? P = some (tabObj (ps ++ #[rawInt pos.line, rawInt pos.col, Value.ref c'])) := by
    have q : Obj.mapFields (fun vs => if (codeAmong pos vs.toList).isSome = true then vs else vs ++ #[rawInt pos.line, rawInt pos.col, Value.ref c']) (tabObj ps) = tabObj (ps ++ #[rawInt pos.line, rawInt pos.col, Value.ref c']) := by
      simp only [tabObj, Obj.mapFields, hnf]; rfl
    rw [← q]
    exact Heap.get?_update_self _ hop' (by rw [q]; rfl)
  refine wpAny_bind (wpAny_fieldsOf hget rfl ?_)
  have hl : (ps ++ #[rawInt pos.line, rawInt pos.col, Value.ref c']).toList = ps.toList ++ [rawInt pos.line, rawInt pos.col, .ref c'] := by simp
  rw [hl, codeAmong_snoc _ htr hnf]
  refine wpAny_pure (hQ c' _ _ v0 tq rest (by rw [Heap.size_after_update, hz]) hge (fun b o' hb e => ((Heap.SameBut.update ..).extBut b o' hb (hk b o' e))) hget ?_)
  exact (Heap.SameBut.update ..).extBut _ _ hcP hc'
/-- a lambda with a closure, first time: eight new objects -/
theorem lamEx {env : Env} {params : Arguments} {body : PySem.Expr} {scope : Scope} {c P : Addr} {ps : Array Value} {pos : Pos} {mg : Str → Option Value} {q : Str × Addr} {r : List (Str × Addr)} {l : List Str × List Str} {Q : Value → Shared → Prop}
    (hdef : defaultsOf params env = ([], [])) (hcl : closureFor scope env = pure (q :: r)) (hge0 : env.globals = mainGlobals) (hg : s.heap.Ns mainGlobals mg) (hcode : env.code = .ref c)
    (hok : s.heap.IsCode c P ps) (hP : s.heap.get? P = some (tabObj ps)) (hnf : codeAmong pos ps.toList = none) (hl : localNames params scope (.expr body) = some l) (hgP : mainGlobals ≠ P) (hb : s.heap.BuiltinsAt mg P)
    (h : ∀ c' ctv h' tk v0 tq rest, Heap.ExtBut P s.heap h' → h'.objs.size = s.heap.objs.size + 8 → h'.get? P = some (tabObj (ps ++ #[rawInt pos.line, rawInt pos.col, .ref c'])) →
      h'.get? c' = some ⟨.type "code", none, .fields (v0 :: .str (env.qual ++ "<lambda>") tq :: rest).toArray, #[]⟩ → s.heap.objs.size ≤ c' →
      h'.get? (s.heap.objs.size + 7) = some (kla_obj "<lambda>" (env.qual ++ "<lambda>") params body scope (q :: r) ((mg "__name__").getD .none) c' ctv) →
      Q (.ref (s.heap.objs.size + 7)) { s with heap := h', toks := tk }) :
    wpAny M A (eval (.Lambda params body scope pos) env) Q E s := by
  refine kla_eval hdef ?_
  refine hideG fun G hG => ?_
  obtain ⟨bm, ob, hbm, hne0, _, hneP, hbo, hcls, hdict, hdata⟩ := hb
  refine hG ?_
  rw [makeFunction_eq]
  simp only [List.zip_nil_right, List.filterMap_nil, List.isEmpty_nil, if_true, pure_bind]
  unfold makeTail
  rw [hcl, hge0]
  refine wpAny_bind (wpAny_pure ?_)
  simp only [List.isEmpty_cons, Bool.false_eq_true, if_false]
  have hPlt := Heap.lt_size hP
  refine wpAny_bind (wpAny_newTextTuple ?_)
  refine wpAny_bind (fnCodeEx hcode (hok.push _) (Heap.get?_push_of_some _ hP) hnf hl fun c' h' tk v0 tq rest hz hge hx htb hc' => ?_)
  have hx' : Heap.ExtBut P s.heap h' := fun b o hb' e => hx b o hb' (Heap.get?_push_of_some _ e)
  have hz' : h'.objs.size = s.heap.objs.size + 7 := by rw [hz]; show (s.heap.push _).objs.size + 6 = _; rw [Heap.size_push]
  have hge' : s.heap.objs.size ≤ c' := Nat.le_trans (by show _ ≤ (s.heap.push _).objs.size; rw [Heap.size_push]; exact Nat.le_succ _) hge
  have hg' := (hg.push _).extBut hx hgP
  refine wpAny_bind (wpAny_builtinsFor hg' hbm hne0 (hx' _ _ hneP hbo) hcls hdict hdata ?_)
  refine wpAny_bind (wpAny_nsGet hg' ?_)
  refine wpAny_bind (wpAny_pure (wpAny_newObj_type ?_ (by size_fits)))
  have key := h c' (.ref s.heap.objs.size) (h'.push (kla_obj "<lambda>" (env.qual ++ "<lambda>") params body scope (q :: r) ((mg "__name__").getD .none) c' (.ref s.heap.objs.size))) tk v0 tq rest
    (fun b o hb' e => Heap.get?_push_of_some _ (hx' b o hb' e)) (by rw [Heap.size_push, hz']) (Heap.get?_push_of_some _ htb) (Heap.get?_push_of_some _ hc') hge'
    (by rw [← hz']; exact Heap.get?_push_size _ rfl)
  rw [← hz'] at key
  exact key
end
end Mine
end
section
open PySem PySem.W PyProof.Rows
set_option maxRecDepth 100000
namespace Mine
section
variable {prog : Program} {w : World} {A : Around} {E : Value → Shared → Prop} {s : Shared} {env : Env}
/-- the end of a range's iterator, with the heap's size -/
theorem rangeEnd {it : Addr} {x left step : Int} {Q : Option Value → Shared → Prop} (hh : A.handled = none) (hit : IsRangeIter s.heap it x left step) (hleft : left ≤ 0)
    (hQ : ∀ h', h'.objs.size = s.heap.objs.size + 2 → Heap.ExtBut it s.heap h' → Q none { s with heap := h' }) : wpAny (model prog w) A (pyNext (.ref it)) Q E s := by
  have hT : s.TypeIs (.ref it) "range_iterator" := ⟨_, hit, rfl⟩
  unfold pyNext
  refine wpAny_bind (wpAny_attempt (wpAny_callSpecial?_slot (name := Str.ofString "__next__") hT F.slot_range_iterator_next
    (wpAny_call_entry F.slot_range_iterator_next hT F.entry_range_iterator_next ?_ (F.args_range_iterator_next_1 _))))
  show wpAny _ _ (field (.ref it) 0 >>= _) _ _ s
  refine wpAny_bind (wpAny_field hit rfl (x := rawInt x) rfl ?_)
  show wpAny _ _ (field (.ref it) 1 >>= _) _ _ s
  refine wpAny_bind (wpAny_field hit rfl (x := rawInt left) rfl ?_)
  show wpAny _ _ (field (.ref it) 2 >>= _) _ _ s
  refine wpAny_bind (wpAny_field hit rfl (x := rawInt step) rfl ?_)
  show wpAny _ _ (if left ≤ 0 then _ else _) _ _ s
  rw [if_pos hleft]
  refine wpAny_bind (wpAny_rule ?_)
  refine wpAny_bind ?_
  show wpAny _ _ (newExc (.type "StopIteration") [] >>= _) _ _ _
  refine wpAny_bind ?_
  simp only [newExc, newTuple]
  refine wpAny_bind (wpAny_newObj_type ?_ (by size_fits))
  refine wpAny_bind (m := firstArgMember _ _) (wpAny_of_eq (a := Value.none) (by first | rfl | (simp only [firstArgMember]; rfl)) ?_)
  refine wpAny_newObj_type ?_ (by size_fits)
  simp only [raiseNew]
  refine wpAny_bind (wpAny_handled ?_)
  first | rw [show A.in1.handled = none from hh] | rw [hh]
  refine wpAny_bind (wpAny_pure (wpAny_throw ?_))
  refine wpAny_bind (wpAny_isInstance (T := "StopIteration") (b := true) ⟨_, Heap.get?_push_size _ rfl, rfl⟩ isSubtype_stop ?_)
  exact wpAny_pure (hQ _ (by rw [Heap.size_push, Heap.size_push]) (((Heap.ExtBut.refl it s.heap).push _).push _))

/-- a list comprehension over a range of n, each turn of which makes k new objects: the list, and the heap's size -/
theorem compRangeEx {elt iter : PySem.Expr} {x : Str} {px : Pos} {scope : Scope} {cl : List (Str × Addr)} {pos : Pos} {n k : Nat} {F : Nat → Value → Prop} {Q : Value → Shared → Prop}
    (hclos : closureFor scope env = pure cl) (hcell : ∀ y ∈ scope.names, y.2 ≠ .cell) (hkind : scope.kind = .function) (hnames : ∀ y ∈ scope.names, y.2 = .local → scope.names.lookup y.1 = some .local)
    (hx : scope.names.lookup x = some .local) (hh : A.handled = none) (hn : n ≤ sizeLine) (hsmall : Builtin.Range.small 0 (n : Int) 1 = true)
    (h : wpAny (model prog w) A (eval iter env) (fun xv s₁ => ∃ r t u v, xv = .ref r ∧ IsRange s₁.heap r 0 (n : Int) 1 t u v ∧
      (∀ (i : Nat) (C : Addr) (s₃ : Shared) (m₃ : Str → Option Value) (E' : Value → Shared → Prop) (ti : Tok), i < n → s₁.heap.objs.size ≤ C → s₃.heap.Ns C m₃ → m₃ x = some (.int i ti) →
        (∀ b o, s₁.heap.get? b = some o → s₃.heap.get? b = some o) →
        wpAny (model prog w) A (eval elt (compEnvC scope cl C env)) (fun y s₄ => F i y ∧ ∃ h' tk, s₄ = { s₃ with heap := h', toks := tk } ∧ h'.objs.size = s₃.heap.objs.size + k ∧
          (∀ b o, s₃.heap.get? b = some o → h'.get? b = some o)) E' s₃) ∧
      (∀ D h' tk ys, h'.IsList D ys → ys.size = n → (∀ j v, ys[j]? = some v → F j v) → (∀ b o, s₁.heap.get? b = some o → h'.get? b = some o) → s₁.heap.objs.size ≤ D →
        h'.objs.size = s₁.heap.objs.size + (5 + n * k) → Q (.ref D) { s₁ with heap := h', toks := tk })) E s)
    (hs : ∀ x, foldedSetIterable iter env x = pure x := by intro _; rfl) :
    wpAny (model prog w) A (eval (.ListComp elt [⟨.Name x px, iter, [], 0⟩] scope pos) env) Q E s := by
  rw [eval_ListComp]
  refine wpAny_comprehension_free (use := none) rfl hs hclos hkind hnames (wpAny_mono h (fun xv s₁ h₁ => ?_) fun _ _ e => e)
  refine hideG fun G hG => ?_
  obtain ⟨r, t, u, v, rfl, hr, helt, hQ⟩ := h₁
  refine hG ?_
  refine wpAny_pyIter_range hr hsmall ?_
  refine wpAny_newObj_type (wpAny_newFunctionEnv hcell (by intro y hy; simp at hy) (fun h₁ hns₁ hsb₁ => ?_) hkind)
  dsimp only at hns₁ hsb₁ ⊢
  generalize hH1 : s₁.heap.push { cls := .type "range_iterator", data := .fields #[rawInt 0, rawInt (Builtin.Range.rangeSize 0 (n : Int) 1), rawInt 1] } = H1 at hns₁ hsb₁ ⊢
  have z1 : H1.objs.size = s₁.heap.objs.size + 1 := by rw [← hH1, Heap.size_push]
  have g1 : H1.get? s₁.heap.objs.size = some { cls := .type "range_iterator", data := .fields #[rawInt 0, rawInt (Builtin.Range.rangeSize 0 (n : Int) 1), rawInt 1] } := by rw [← hH1]; exact Heap.get?_push_size _ rfl
  have k1 : ∀ b o, s₁.heap.get? b = some o → H1.get? b = some o := fun b o e => by rw [← hH1]; exact Heap.get?_push_of_some _ e
  generalize hH2 : H1.push { cls := .type "list", dict := none, data := .seq ([] : List Value).toArray } = H2 at hns₁ hsb₁ ⊢
  have z2 : H2.objs.size = s₁.heap.objs.size + 2 := by rw [← hH2, Heap.size_push, z1]
  have g2 : H2.get? H1.objs.size = some { cls := .type "list", dict := none, data := .seq ([] : List Value).toArray } := by rw [← hH2]; exact Heap.get?_push_size _ rfl
  have k2 : ∀ b o, H1.get? b = some o → H2.get? b = some o := fun b o e => by rw [← hH2]; exact Heap.get?_push_of_some _ e
  have k3 : ∀ b o, H2.get? b = some o → h₁.get? b = some o := fun b o e => hsb₁.extBut b o (Nat.ne_of_lt (Heap.lt_size e)) (Heap.get?_push_of_some _ e)
  have z3 : h₁.objs.size = s₁.heap.objs.size + 3 := by rw [hsb₁.1, Heap.size_push, z2]
  generalize hN : s₁.heap.objs.size = N at z1 z2 z3 g1 helt hQ ⊢
  have old : ∀ b o, s₁.heap.get? b = some o → b < N := fun b o e => hN ▸ Heap.lt_size e
  have hit0 : IsRangeIter h₁ N 0 (n : Int) 1 := by
    have q := k3 _ _ (k2 _ _ g1)
    rw [rangeSize_one, show (if (0 : Int) < (n : Int) then (n : Int) - 0 else 0) = (n : Int) from by split <;> omega] at q
    exact q
  have hCN : H2.objs.size ≠ N := by omega
  have hDN : H1.objs.size ≠ N := by omega
  have hDC : H1.objs.size ≠ H2.objs.size := by omega
  have oldN : ∀ b o, s₁.heap.get? b = some o → b ≠ N ∧ b ≠ H1.objs.size ∧ b ≠ H2.objs.size := fun b o e => ⟨Nat.ne_of_lt (old b o e), Nat.ne_of_lt (Nat.lt_of_lt_of_le (old b o e) (by rw [z1]; exact Nat.le_succ _)), Nat.ne_of_lt (Nat.lt_of_lt_of_le (old b o e) (by rw [z2]; exact Nat.le_add_right _ _))⟩
  have loop : ∀ s₃ : Shared, s₃ = { s₁ with heap := h₁, toks := s₁.toks + ([] : List (Str × Value)).length } →
      codeAny (model prog w) A (.compLoop (.ListComp elt [⟨.Name x px, iter, [], 0⟩] scope pos) 0 (.ref N) (.ref H1.objs.size) (compEnvC scope cl H2.objs.size env)) (compPost (model prog w) A E none Q (.ref H1.objs.size) H2.objs.size) s₃ := by
    rintro s₃ rfl
    refine codeAny_compLoop_tests (fun kk s' => ∃ h' tk m' ys, ∃ i : Nat, s' = { s₁ with heap := h', toks := tk } ∧ IsRangeIter h' N i ((n : Int) - i) 1 ∧ h'.IsList H1.objs.size ys ∧ h'.Ns H2.objs.size m' ∧ ys.size = i ∧
      (∀ j v, ys[j]? = some v → F j v) ∧ i ≤ n ∧ kk = n + 1 - i ∧ h'.objs.size = N + 3 + i * k ∧ (∀ b o, s₁.heap.get? b = some o → h'.get? b = some o)) ?_ (n + 1)
      ⟨h₁, _, _, #[], 0, rfl, by simpa using hit0, ⟨_, k3 _ _ g2, rfl, _, rfl⟩, hns₁, rfl, by simp, Nat.zero_le _, rfl, by rw [z3, Nat.zero_mul], fun b o e => k3 _ _ (k2 _ _ (k1 _ _ e))⟩ (fun _ => rfl)
    rintro kk s' jw1
    refine hideG fun G hG => ?_
    obtain ⟨h', tk, m', ys, i, rfl, hit, hl, hns, hsz, hF, hi, rfl, hz, hk⟩ := jw1
    refine hG ?_
    by_cases hlt : i < n
    · refine wpAny_pyNext_range_item hit (by omega) fun h₂ hit₂ hs₂ => ?_
      have hns₂ := hns.sameBut hs₂ hCN
      refine wpAny_assign_Name (wpAny_storeName_local (lookup_relabel_local hx) hns₂ (fun h₃ hns₃ hs₃ => ?_) (by simp [compEnvC, relabel, hkind]))
      refine wpAny_tests_nil ?_
      simp only [if_true]
      have hk₃ : ∀ b o, s₁.heap.get? b = some o → h₃.get? b = some o := fun b o e => hs₃.extBut b o (oldN b o e).2.2 (hs₂.extBut b o (oldN b o e).1 (hk b o e))
      refine wpAny_mono (helt i H2.objs.size _ _ _ tk hlt (by rw [z2]; omega) hns₃ (by simp) hk₃) (fun y s₄ h₄ => ?_) fun _ _ e => e
      refine hideG fun G hG => ?_
      obtain ⟨hFy, h₄, tk₄, rfl, hz₄, hk₄⟩ := h₄
      refine hG ?_
      dsimp only at hz₄ hk₄ ⊢
      have hl₃ : h₃.IsList H1.objs.size ys := (hl.extBut hs₂.extBut hDN).extBut hs₃.extBut hDC
      have hl₄ : h₄.IsList H1.objs.size ys := let ⟨o, e, q⟩ := hl₃; ⟨o, hk₄ _ _ e, q⟩
      refine wpAny_list_append hl₄ (fun h₅ hl₅ hs₅ => ?_) (by omega)
      have hit₄ : IsRangeIter h₄ N ((i : Int) + 1) ((n : Int) - i - 1) 1 := hk₄ _ _ (hs₃.extBut _ _ (Ne.symm hCN) hit₂)
      have hns₅ : h₅.Ns H2.objs.size _ := (Heap.Ns.keeps hns₃ hk₄).sameBut hs₅ (Ne.symm hDC)
      refine ⟨n + 1 - (i + 1), by omega, h₅, tk₄, _, _, i + 1, rfl, ?_, hl₅, hns₅, by rw [Array.size_push, hsz], ?_, hlt, rfl, ?_, fun b o e => ?_⟩
      · have q := hs₅.extBut _ _ (Ne.symm hDN) hit₄
        have e1 : ((i + 1 : Nat) : Int) = (i : Int) + 1 := by omega
        rw [e1, show (n : Int) - ((i : Int) + 1) = (n : Int) - i - 1 from by omega]
        exact q
      · intro j v hj
        rw [Array.getElem?_push] at hj
        split at hj
        · rename_i e; cases hj; rw [e, hsz]; exact hFy
        · exact hF j v hj
      · rw [hs₅.1, hz₄, hs₃.1, hs₂.1, hz, Nat.succ_mul]; omega
      · exact hs₅.extBut b o (oldN b o e).2.1 (hk₄ _ _ (hk₃ _ _ e))
    · have e : i = n := by omega
      subst e
      refine rangeEnd hh hit (by omega) fun h₂ hz₂ he₂ => ?_
      refine ⟨m', hns.extBut he₂ hCN, fun h₃ hs₃ => ?_⟩
      refine hQ _ _ tk ys ((hl.extBut he₂ hDN).extBut hs₃.extBut hDC) hsz hF (fun b o e => ?_) (by rw [z1]; omega) ?_
      · exact hs₃.extBut b o (oldN b o e).2.2 (he₂ b o (oldN b o e).1 (hk b o e))
      · rw [hs₃.1]; dsimp only at hz₂ ⊢; rw [hz₂, hz]; omega
  exact codeAny_compStart_list (loop _ rfl) (wpAny_pyIter_rangeiter hit0 (loop _ rfl))
end
end Mine
end
section
open PySem PySem.W PyProof.Rows
set_option maxRecDepth 100000
namespace Mine
/-- a frame of law with its cells over a base heap (all but the code table T kept), and the heap's size -/
structure PX (base : Heap) (T L : Addr) (cs : List (Str × Addr)) (m cm : Str → Option Value) (N : Nat) (h : Heap) : Prop where
  ns : h.Ns L m
  cell : ∀ n c, cs.lookup n = some c → h.IsCell c (cm n)
  apart : cs.Pairwise fun x y => x.2 ≠ y.2
  above : ∀ n c, (n, c) ∈ cs → L < c
  low : base.objs.size ≤ L
  size : h.objs.size = N
  keep : ∀ b o, b ≠ T → base.get? b = some o → h.get? b = some o
  tab : T < base.objs.size
namespace PX
variable {base h h' : Heap} {T L : Addr} {cs : List (Str × Addr)} {m cm : Str → Option Value} {N N' : Nat}
theorem grow (x : PX base T L cs m cm N h) (hk : ∀ b o, h.get? b = some o → h'.get? b = some o) (hz : h'.objs.size = N') : PX base T L cs m cm N' h' :=
  ⟨x.ns.keeps hk, fun n c e => (x.cell n c e).keeps hk, x.apart, x.above, x.low, hz, fun b o hb e => hk b o (x.keep b o hb e), x.tab⟩
theorem growT (x : PX base T L cs m cm N h) (hk : Heap.ExtBut T h h') (hz : h'.objs.size = N') : PX base T L cs m cm N' h' := by
  have hT : T < L := Nat.lt_of_lt_of_le x.tab x.low
  refine ⟨x.ns.extBut hk (Nat.ne_of_gt hT), fun n c e => ?_, x.apart, x.above, x.low, hz, fun b o hb e => hk b o hb (x.keep b o hb e), x.tab⟩
  refine hideG fun G hG => ?_
  obtain ⟨o, ho, hd⟩ := x.cell n c e
  refine hG ?_
  exact ⟨o, hk _ _ (Nat.ne_of_gt (Nat.lt_trans hT (x.above n c (mem_of_lookup e)))) ho, hd⟩
theorem setC (x : PX base T L cs m cm N h) {n : Str} {c : Addr} {v : Value} (hc : cs.lookup n = some c) (hv : h'.IsCell c (some v)) (hs : Heap.SameBut c h h') : PX base T L cs m (fun y => if y = n then some v else cm y) N h' := by
  have hLc := x.above n c (mem_of_lookup hc)
  refine ⟨x.ns.sameBut hs (Nat.ne_of_lt hLc), fun k c' hk' => ?_, x.apart, x.above, x.low, hs.1.trans x.size, fun b o hb e => (hs.2 b (Nat.ne_of_lt ?_)).trans (x.keep b o hb e), x.tab⟩
  · by_cases hkn : k = n
    · subst hkn
      rw [hc] at hk'; cases hk'
      simpa using hv
    · rw [if_neg hkn]
      exact (x.cell k c' hk').sameBut hs fun e => hkn (name_of_addr x.apart (mem_of_lookup hk') (e ▸ mem_of_lookup hc))
  · exact Nat.lt_trans (Nat.lt_of_lt_of_le (Heap.lt_size e) x.low) hLc
theorem setL (x : PX base T L cs m cm N h) {m' : Str → Option Value} (hn : h'.Ns L m') (hs : Heap.SameBut L h h') : PX base T L cs m' cm N h' :=
  ⟨hn, fun n c e => (x.cell n c e).sameBut hs (Nat.ne_of_gt (x.above n c (mem_of_lookup e))), x.apart, x.above, x.low, hs.1.trans x.size,
    fun b o hb e => (hs.2 b (Nat.ne_of_lt (Nat.lt_of_lt_of_le (Heap.lt_size e) x.low))).trans (x.keep b o hb e), x.tab⟩
end PX
theorem pushCells_size : ∀ (names : List (Str × NameKind)) (h : Heap), (pushCells h names).objs.size = h.objs.size + (names.filter fun x => x.2 == .cell).length
  | [], _ => rfl
  | (n, k) :: r, h => by
    unfold pushCells
    split
    · rename_i e
      rw [pushCells_size r, Heap.size_push, List.filter_cons, if_pos e, List.length_cons]; omega
    · rename_i e
      rw [pushCells_size r, List.filter_cons, if_neg e]
section
variable {prog : Program} {w : World} {A : Around} {s : Shared}
/-- a call of a def with one parameter that is a cell: the frame, the cells, the heap's size -/
theorem callOneCell {R : Result → Shared → Prop} {a T : Addr} {o : Obj} {fd : FuncData} {body : List Stmt} {p : Str} {v : Value} {c : Addr}
    (hroom : A.depth < recursionLimit) (ho : s.heap.get? a = some o) (hdata : o.data = .func fd) (hlim : s.heap.NoLimit) (hcd : s.heap.CodeRec fd.code fd.qualname)
    (hbody : fd.body = .stmts body) (hbind : bindArgs fd ⟨[v], []⟩ = pure [(p, v)]) (hclo : fd.closure = []) (hT : T < s.heap.objs.size)
    (hpk : fd.scope.names.lookup p = some .cell) (hpc : (cellsFrom (s.heap.objs.size + 1) fd.scope.names []).lookup p = some c)
    (h : ∀ h', PX s.heap T s.heap.objs.size (cellsFrom (s.heap.objs.size + 1) fd.scope.names []) (fun _ => none) (fun y => if y = p then some v else none)
        (s.heap.objs.size + 1 + (fd.scope.names.filter fun x => x.2 == .cell).length) h' → (∀ b o, s.heap.get? b = some o → h'.get? b = some o) →
      wpAny (model prog w) (A.deeper (callEnvC fd s.heap.objs.size a)) (execs body (callEnvC fd s.heap.objs.size a)) (fun f s' => R (.ok (.ret (match f with | .ret v => v | _ => .none))) s')
        (fun e s' => wpAny (model prog w) (A.deeper (callEnvC fd s.heap.objs.size a)) (leaving (callEnvC fd s.heap.objs.size a) e) (fun _ s'' => R (.error e) s'') (fun e' s'' => R (.error e') s'') s') { s with heap := h' })
    (hco : fd.scope.isCoroutine = false := by rfl) (hgen : fd.scope.isGenerator = false := by rfl) (hk : fd.scope.kind = .function := by rfl) :
    codeAny (model prog w) A (.call (.ref a) ⟨[v], []⟩) R s := by
  refine codeAny_call_function hroom ho hdata hco hgen hbody hcd ?_
  rw [hbind, hclo]
  refine wpAny_pure ?_
  simp only [newFunctionEnv, Option.isSome_none, Bool.false_eq_true, if_false]
  refine wpAny_bind (wpAny_alloc ?_)
  refine wpAny_bind (wpAny_layCells _ (fun name kind cells => by cases hkc : kind == NameKind.cell <;> simp [hkc]) _ _ _ _ ?_)
  have ok := cellsFrom_ok fd.scope.names (s.heap.push { cls := .type "frame", data := .dict #[] }) (s.heap.objs.size + 1) [] ⟨fun _ _ hm => (nomatch hm), List.Pairwise.nil⟩ (by rw [Heap.size_push]; exact Nat.le_refl _)
  rw [Heap.size_push] at ok
  rw [show ({ s with heap := s.heap.push { cls := .type "frame", data := .dict #[] } } : Shared).heap.objs.size = s.heap.objs.size + 1 from Heap.size_push ..]
  have x0 : PX s.heap T s.heap.objs.size (cellsFrom (s.heap.objs.size + 1) fd.scope.names []) (fun _ => none) (fun _ => none) (s.heap.objs.size + 1 + (fd.scope.names.filter fun x => x.2 == .cell).length)
      (pushCells (s.heap.push { cls := .type "frame", data := .dict #[] }) fd.scope.names) :=
    ⟨(Heap.Ns.new s.heap (.type "frame")).keeps (pushCells_keeps _ _), fun n c hc => (ok.empty n c (mem_of_lookup hc)).1, ok.apart, fun n c hm => (ok.empty n c hm).2, Nat.le_refl _,
      by rw [pushCells_size, Heap.size_push], fun b o _ e => pushCells_keeps _ _ b o (Heap.get?_push_of_some _ e), hT⟩
  simp only [List.forIn_cons, List.forIn_nil]
  refine wpAny_bind (wpAny_bind (wpAny_bind (wpAny_storeName_cell (c := c) hk hpk hpc (x0.cell p c hpc) fun h' hc' hs' => wpAny_pure (wpAny_pure (wpAny_pure ?_)))))
  have hcl : s.heap.objs.size < c := x0.above p c (mem_of_lookup hpc)
  have hkp : ∀ b o, s.heap.get? b = some o → h'.get? b = some o := fun b o e => hs'.extBut b o (Nat.ne_of_lt (Nat.lt_trans (Heap.lt_size e) hcl)) (pushCells_keeps _ _ b o (Heap.get?_push_of_some _ e))
  exact ⟨hlim.keeps hkp, codeAny_func (h h' (x0.setC hpc hc' hs') hkp)⟩
end
end Mine
end
section
open PySem PySem.W PyProof.Rows
set_option maxRecDepth 100000
namespace Mine
noncomputable def lawBody : List Stmt :=
  match PySem.Challenge.pw_il0049_01.main.body.getLast? with
  | some (.FunctionDef _ _ body _ _ _ _ _ _ _) => body
  | _ => []
noncomputable def lawScope : Scope :=
  match PySem.Challenge.pw_il0049_01.main.body.getLast? with
  | some (.FunctionDef _ _ _ _ _ _ sc _ _ _) => sc
  | _ => default
noncomputable def lawSt (i : Nat) : Stmt := (lawBody.drop i).headD (.Pass default)
noncomputable def lawEnv (L : Addr) : Env := newEnv lawScope L mainGlobals (cellsFrom (L + 1) lawScope.names []) "law.<locals>." (some 157) (.ref 156) none builtinsNs
theorem PX.nsBase {base h : Heap} {T L : Addr} {cs : List (Str × Addr)} {m cm : Str → Option Value} {N : Nat} (x : PX base T L cs m cm N h) {a : Addr} {mg : Str → Option Value} (ha : a ≠ T) (hg : base.Ns a mg) : h.Ns a mg :=
  let ⟨o, es, ep, ho, r⟩ := hg; ⟨o, es, ep, x.keep _ _ ha ho, r⟩
theorem PX.listBase {base h : Heap} {T L : Addr} {cs : List (Str × Addr)} {m cm : Str → Option Value} {N : Nat} (x : PX base T L cs m cm N h) {a : Addr} {its : Array Value} (ha : a ≠ T) (hl : base.IsList a its) : h.IsList a its :=
  let ⟨o, ho, r⟩ := hl; ⟨o, x.keep _ _ ha ho, r⟩
end Mine
end
section
open PySem PySem.W PyProof.Rows
set_option maxRecDepth 100000
namespace Mine
section
variable {prog : Program} {w : World} {A : Around} {E : Value → Shared → Prop} {s : Shared} {env : Env}
/-- sum(script[place::4]) in the comprehension's frame -/
theorem sumElt {p1 p2 p3 p4 p5 p6 p7 : Pos} {kd : Nat} {l c : Addr} {vs : List Value} {ns : List Int} {m mg mb : Str → Option Value} {i : Nat} {ti : Tok} {Q : Value → Shared → Prop}
    (hk : env.scope.kind = .function) (kSum : env.kindOf (Str.ofString "sum") = some .globalImplicit) (kScr : env.kindOf (Str.ofString "script") = some .cell) (cScr : env.cells.lookup (Str.ofString "script") = some c)
    (kPl : env.kindOf (Str.ofString "place") = some .local) (hg0 : env.globals = mainGlobals) (hb0 : env.builtins = builtinsNs)
    (hg : s.heap.Ns mainGlobals mg) (mS : mg (Str.ofString "sum") = none) (hb : s.heap.Ns builtinsNs mb) (bS : mb (Str.ofString "sum") = some (.builtin "sum"))
    (hc : s.heap.IsCell c (some (.ref l))) (hl : s.heap.IsList l vs.toArray) (hi : IntsAre vs ns) (hsz : vs.length ≤ sizeLine) (hn : s.heap.Ns env.locals m) (hm : m (Str.ofString "place") = some (.int i ti)) (hh : A.in1.handled = none)
    (hQ : ∀ h' tk x t', h'.objs.size = s.heap.objs.size + 6 → (∀ b o, s.heap.get? b = some o → h'.get? b = some o) → Q (.int x t') { s with heap := h', toks := tk }) :
    wpAny (model prog w) A (eval (.Call (.Name (Str.ofString "sum") p1) [.Subscript (.Name (Str.ofString "script") p2) (.Slice (some (.Name (Str.ofString "place") p3)) none (some (.Constant (.int 4) kd p4)) p5) p6] [] p7) env) Q E s := by
  refine Call_Name (trees := [(false, eval (.Subscript (.Name (Str.ofString "script") p2) (.Slice (some (.Name (Str.ofString "place") p3)) none (some (.Constant (.int 4) kd p4)) p5) p6) env)]) (by rfl) ?_
  refine Calls.Name_function_global hk kSum (Calls.loadGlobal_builtin (hg0 ▸ hg) mS (hb0 ▸ hb) bS ?_) (by decide)
  refine PySem.callWith_builtin1 ?_
  refine wpAny_Subscript_Slice_step (T := "list") list_getitem_lookup ?_
  refine wpAny_Name (wpAny_loadName_cell hk kScr cScr hc ?_) (by decide)
  refine wpAny_Slice ?_
  rw [evalPart_some, evalPart_none, evalPart_some]
  refine wpAny_Name (wpAny_loadName_local hk kPl hn hm ?_) (by decide)
  refine wpAny_pure ?_
  refine wpAny_Constant_int ?_
  have hl1 : ∀ o : Obj, (s.heap.push o).IsList l vs.toArray := fun o => let ⟨q, e, r⟩ := hl; ⟨q, Heap.get?_push_of_some _ e, r⟩
  refine ⟨(hl1 _).typeIs, wpAny_getItem_list_slice (hl1 _) (Heap.IsSliceOf.new ..) (.int _ _) .none (.int _ _) (by simp) ?_ (by simpa using hsz)⟩
  refine sumList (vs := (slicePick vs.toArray (some (i : Int)) none (some 4)).toList) hh (hi.pick _ _ _) ⟨_, Heap.get?_push_size _ rfl, rfl, _, rfl⟩ fun h' tk t' hz hk' => ?_
  refine hQ h' tk _ t' (by rw [hz]; show ((s.heap.push _).push _).objs.size + 4 = _; rw [Heap.size_push, Heap.size_push]) fun b o e => hk' b o (Heap.get?_push_of_some _ (Heap.get?_push_of_some _ e))
end
end Mine
end
section
open PySem PySem.W PyProof.Rows
set_option maxRecDepth 100000
namespace Mine
section
variable {prog : Program} {w : World} {A : Around} {E : Value → Shared → Prop} {s : Shared}
noncomputable def cellAt (L : Addr) (n : String) : Addr := ((cellsFrom (L + 1) lawScope.names []).lookup (Str.ofString n)).getD 0
theorem callN1 {M : Model} {A : Around} {E : Value → Shared → Prop} {s : Shared} {env : Env} {x : Str} {p pos : Pos} {e : PySem.Expr} {Q : Value → Shared → Prop}
    (h : wpAny M A (eval (.Name x p) env) (fun f s₁ => wpAny M A (callWith pos f [] [(false, eval e env)] []) Q E s₁) E s) (ht : backTo pos (starEach [e] env) = [(false, eval e env)] := by rfl) :
    wpAny M A (eval (.Call (.Name x p) [e] [] pos) env) Q E s := Call_Name ht h
/-- heaps = [sum(script[place::4]) for place in range(4)] -/
theorem S1 {base : Heap} {T L l : Addr} {m cm mg mb : Str → Option Value} {N : Nat} {vs : List Value} {ns : List Int} {Q : Flow → Shared → Prop}
    (x : PX base T L (cellsFrom (L + 1) lawScope.names []) m cm N s.heap) (hg : base.Ns mainGlobals mg) (hgT : mainGlobals ≠ T) (hb : base.Ns builtinsNs mb) (hbT : builtinsNs ≠ T)
    (mS : mg (Str.ofString "sum") = none) (bS : mb (Str.ofString "sum") = some (.builtin "sum")) (mR : mg (Str.ofString "range") = none) (bR : mb (Str.ofString "range") = some (.type "range"))
    (hcs : cm (Str.ofString "script") = some (.ref l)) (hl : base.IsList l vs.toArray) (hlT : l ≠ T) (hi : IntsAre vs ns) (hsz : vs.length ≤ sizeLine) (hh : A.handled = none) (hh1 : A.in1.handled = none)
    (hQ : ∀ h' tk D ys, PX base T L (cellsFrom (L + 1) lawScope.names []) m (fun y => if y = Str.ofString "heaps" then some (.ref D) else cm y) (N + 30) h' → h'.IsList D ys → ys.size = 4 → (∀ (j : Nat) v, ys[j]? = some v → ∃ x t, v = Value.int x t) → (∀ b o, b ≠ cellAt L "heaps" → s.heap.get? b = some o → h'.get? b = some o) →
      Q .next { s with heap := h', toks := tk }) :
    wpAny (model prog w) A (exec (lawSt 0) (lawEnv L)) Q E s := by
  refine wpAny_Assign_Name ?_ (by rfl)
  refine compRangeEx (n := 4) (k := 6) (F := fun _ v => ∃ x t, v = Value.int x t) (cl := [(Str.ofString "script", cellAt L "script")]) (by rfl) (by decide) (by rfl) (by decide) (by decide) hh (by decide) (by decide) ?_
  refine callN1 ?_
  refine Calls.Name_function_global (by rfl) (by rfl) (Calls.loadGlobal_builtin (x.nsBase hgT hg) mR (x.nsBase hbT hb) bR ?_) (by decide)
  refine PySem.callWith_type1 ?_
  refine wpAny_Constant_int ?_
  refine call_range_1 ?_
  have kp : ∀ (o : Obj) b q, s.heap.get? b = some q → (s.heap.push o).get? b = some q := fun o b q e => Heap.get?_push_of_some _ e
  refine ⟨_, _, _, _, rfl, IsRange.new .., fun i C s₃ m₃ E' ti hi4 hC hn hm hk => ?_, fun D h' tk ys hl' hsz' hF hk hD hz => ?_⟩
  · have k3 : ∀ b q, s.heap.get? b = some q → s₃.heap.get? b = some q := fun b q e => hk b q (kp _ b q e)
    have x3 := x.grow (N' := s₃.heap.objs.size) k3 rfl
    refine sumElt (c := cellAt L "script") (ns := ns) (vs := vs) (l := l) (by rfl) (by rfl) (by rfl) (by rfl) (by rfl) (by rfl) (by rfl) (x3.nsBase hgT hg) mS (x3.nsBase hbT hb) bS ?_ (x3.listBase hlT hl) hi hsz hn hm hh1 fun h' tk v t' hz hk' => ?_
    · have q := x3.cell (Str.ofString "script") (cellAt L "script") (by rfl)
      rw [hcs] at q
      exact q
    · exact ⟨⟨v, t', rfl⟩, h', tk, rfl, hz, hk'⟩
  · have x4 := x.grow (N' := N + 30) (fun b q e => hk b q (kp _ b q e)) (by rw [hz]; show (s.heap.push _).objs.size + 29 = _; rw [Heap.size_push, x.size])
    have hc4 := x4.cell (Str.ofString "heaps") (cellAt L "heaps") (by rfl)
    refine wpAny_storeName_cell (c := cellAt L "heaps") (by rfl) (by rfl) (by rfl) hc4 fun h₂ hc₂ hs₂ => ?_
    refine hQ h₂ tk D ys (x4.setC (by rfl) hc₂ hs₂) ?_ hsz' hF fun b o hb e => hs₂.extBut b o hb (hk b o (kp _ b o e))
    refine hideG fun G hG => ?_
    obtain ⟨o, ho, r⟩ := hl'
    refine hG ?_
    refine ⟨o, hs₂.extBut _ _ ?_ ho, r⟩
    intro e
    have : cellAt L "heaps" < s.heap.objs.size := (x.cell (Str.ofString "heaps") (cellAt L "heaps") (by rfl)).lt
    rw [e] at hD
    have h2 : (s.heap.push { cls := .type "range", data := .fields #[.int 0 (s.toks + 1), .int 4 s.toks, .int 1 (s.toks + 1 + 1)] }).objs.size ≤ cellAt L "heaps" := hD
    rw [Heap.size_push] at h2
    exact Nat.lt_irrefl _ (Nat.lt_of_lt_of_le this (Nat.le_of_succ_le h2))
end
end Mine
end
section
open PySem PySem.W PyProof.Rows
set_option maxRecDepth 100000
namespace Mine
section
variable {prog : Program} {w : World} {A : Around} {E : Value → Shared → Prop} {s : Shared} {env : Env}
noncomputable abbrev tupObj (vs : List Value) : Obj := { cls := .type "tuple", data := .seq vs.toArray }
theorem pairEx {a b : Int} {k1 k2 kd : Nat} {p1 p2 pos : Pos} {Q : Value → Shared → Prop}
    (h : ∀ ta tb tk, Q (.ref s.heap.objs.size) { s with heap := s.heap.push (tupObj [.int a ta, .int b tb]), toks := tk }) :
    wpAny (model prog w) A (eval (.Tuple [.Constant (.int a) k1 p1, .Constant (.int b) k2 p2] kd pos) env) Q E s := by
  refine wpAny_Tuple_spliced ?_
  rw [show backTo pos (starEach [.Constant (.int a) k1 p1, .Constant (.int b) k2 p2] env) = [(false, eval (.Constant (.int a) k1 p1) env), (false, eval (.Constant (.int b) k2 p2) env)] from rfl]
  refine Calls.spliced_cons (wpAny_Constant_int (Calls.spliced_cons (wpAny_Constant_int (Calls.spliced_nil ⟨by show 2 ≤ sizeLine; decide, h _ _ _⟩))))
/-- six pairs in a tuple: seven new objects, the pairs at their places -/
theorem sixEx {e1 e2 e3 e4 e5 e6 : PySem.Expr} {kd : Nat} {pos : Pos} {o1 o2 o3 o4 o5 o6 : Tok → Tok → Obj} {Q : Value → Shared → Prop}
    (h1 : ∀ (s : Shared) (Q : Value → Shared → Prop), (∀ ta tb tk, Q (.ref s.heap.objs.size) { s with heap := s.heap.push (o1 ta tb), toks := tk }) → wpAny (model prog w) A (eval e1 env) Q E s)
    (h2 : ∀ (s : Shared) (Q : Value → Shared → Prop), (∀ ta tb tk, Q (.ref s.heap.objs.size) { s with heap := s.heap.push (o2 ta tb), toks := tk }) → wpAny (model prog w) A (eval e2 env) Q E s)
    (h3 : ∀ (s : Shared) (Q : Value → Shared → Prop), (∀ ta tb tk, Q (.ref s.heap.objs.size) { s with heap := s.heap.push (o3 ta tb), toks := tk }) → wpAny (model prog w) A (eval e3 env) Q E s)
    (h4 : ∀ (s : Shared) (Q : Value → Shared → Prop), (∀ ta tb tk, Q (.ref s.heap.objs.size) { s with heap := s.heap.push (o4 ta tb), toks := tk }) → wpAny (model prog w) A (eval e4 env) Q E s)
    (h5 : ∀ (s : Shared) (Q : Value → Shared → Prop), (∀ ta tb tk, Q (.ref s.heap.objs.size) { s with heap := s.heap.push (o5 ta tb), toks := tk }) → wpAny (model prog w) A (eval e5 env) Q E s)
    (h6 : ∀ (s : Shared) (Q : Value → Shared → Prop), (∀ ta tb tk, Q (.ref s.heap.objs.size) { s with heap := s.heap.push (o6 ta tb), toks := tk }) → wpAny (model prog w) A (eval e6 env) Q E s)
    (ht : backTo pos (starEach [e1, e2, e3, e4, e5, e6] env) = [(false, eval e1 env), (false, eval e2 env), (false, eval e3 env), (false, eval e4 env), (false, eval e5 env), (false, eval e6 env)])
    (h : ∀ a1 b1 a2 b2 a3 b3 a4 b4 a5 b5 a6 b6 tk, Q (.ref (s.heap.objs.size + 6)) { s with heap := ((((((s.heap.push (o1 a1 b1)).push (o2 a2 b2)).push (o3 a3 b3)).push (o4 a4 b4)).push (o5 a5 b5)).push (o6 a6 b6)).push (tupObj [.ref s.heap.objs.size, .ref (s.heap.objs.size + 1), .ref (s.heap.objs.size + 2), .ref (s.heap.objs.size + 3), .ref (s.heap.objs.size + 4), .ref (s.heap.objs.size + 5)]), toks := tk }) :
    wpAny (model prog w) A (eval (.Tuple [e1, e2, e3, e4, e5, e6] kd pos) env) Q E s := by
  refine wpAny_Tuple_spliced ?_
  rw [ht]
  refine Calls.spliced_cons (h1 _ _ fun a1 b1 _ => Calls.spliced_cons (h2 _ _ fun a2 b2 _ => Calls.spliced_cons (h3 _ _ fun a3 b3 _ => Calls.spliced_cons (h4 _ _ fun a4 b4 _ => Calls.spliced_cons (h5 _ _ fun a5 b5 _ => Calls.spliced_cons (h6 _ _ fun a6 b6 tk => Calls.spliced_nil ⟨by show 6 ≤ sizeLine; decide, ?_⟩))))))
  have q := h a1 b1 a2 b2 a3 b3 a4 b4 a5 b5 a6 b6 tk
  simp only [Heap.size_push] at q ⊢
  exact q
end
end Mine
end
section
open PySem PySem.W PyProof.Rows
set_option maxRecDepth 100000
namespace Mine
noncomputable def pairsOfSizes : List (Int × Int) := [(2, 4), (3, 2), (2, 3), (4, 2), (3, 3), (5, 2)]
section
variable {prog : Program} {w : World} {A : Around} {E : Value → Shared → Prop} {s : Shared}
theorem listAt {h h' : Heap} {a : Addr} {its : Array Value} (hk : ∀ b o, h.get? b = some o → h'.get? b = some o) (hl : h.IsList a its) : h'.IsList a its :=
  let ⟨o, ho, r⟩ := hl; ⟨o, hk _ _ ho, r⟩
/-- sizes = (..)[heaps[3] % 6] -/
theorem S2 {base : Heap} {T L D : Addr} {m cm : Str → Option Value} {N : Nat} {ys : Array Value} {Q : Flow → Shared → Prop}
    (x : PX base T L (cellsFrom (L + 1) lawScope.names []) m cm N s.heap) (hcs : cm (Str.ofString "heaps") = some (.ref D)) (hl : s.heap.IsList D ys) {x3 : Int} {t3 : Tok} (hy : ys[3]? = some (.int x3 t3))
    (hQ : ∀ h' tk a ta tb (j : Nat) many size, pairsOfSizes[j]? = some (many, size) → PX base T L (cellsFrom (L + 1) lawScope.names []) (fun y => if y = Str.ofString "sizes" then some (.ref a) else m y) cm (N + 7) h' →
      h'.get? a = some (tupObj [.int many ta, .int size tb]) → (∀ b o, b ≠ L → s.heap.get? b = some o → h'.get? b = some o) → N ≤ a → Q .next { s with heap := h', toks := tk }) :
    wpAny (model prog w) A (exec (lawSt 1) (lawEnv L)) Q E s := by
  refine wpAny_Assign_Name ?_ ?hs
  case hs => rfl
  refine Subscript_ ?_
  refine sixEx (o1 := fun a b => tupObj [.int 2 a, .int 4 b]) (o2 := fun a b => tupObj [.int 3 a, .int 2 b]) (o3 := fun a b => tupObj [.int 2 a, .int 3 b]) (o4 := fun a b => tupObj [.int 4 a, .int 2 b]) (o5 := fun a b => tupObj [.int 3 a, .int 3 b]) (o6 := fun a b => tupObj [.int 5 a, .int 2 b]) ?h1 ?h2 ?h3 ?h4 ?h5 ?h6 ?ht ?_
  case ht => rfl
  case h1 => exact fun _ _ h => pairEx h
  case h2 => exact fun _ _ h => pairEx h
  case h3 => exact fun _ _ h => pairEx h
  case h4 => exact fun _ _ h => pairEx h
  case h5 => exact fun _ _ h => pairEx h
  case h6 => exact fun _ _ h => pairEx h
  intro a1 b1 a2 b2 a3 b3 a4 b4 a5 b5 a6 b6 tk
  have kk : ∀ (h : Heap) (o : Obj) b q, h.get? b = some q → (h.push o).get? b = some q := fun h o b q e => Heap.get?_push_of_some _ e
  generalize hH : ((((((s.heap.push (tupObj [.int 2 a1, .int 4 b1])).push (tupObj [.int 3 a2, .int 2 b2])).push (tupObj [.int 2 a3, .int 3 b3])).push (tupObj [.int 4 a4, .int 2 b4])).push (tupObj [.int 3 a5, .int 3 b5])).push (tupObj [.int 5 a6, .int 2 b6])).push (tupObj [.ref s.heap.objs.size, .ref (s.heap.objs.size + 1), .ref (s.heap.objs.size + 2), .ref (s.heap.objs.size + 3), .ref (s.heap.objs.size + 4), .ref (s.heap.objs.size + 5)]) = H
  have hz : H.objs.size = s.heap.objs.size + 7 := by rw [← hH]; simp only [Heap.size_push]
  have hk : ∀ b q, s.heap.get? b = some q → H.get? b = some q := fun b q e => by rw [← hH]; exact kk _ _ _ _ (kk _ _ _ _ (kk _ _ _ _ (kk _ _ _ _ (kk _ _ _ _ (kk _ _ _ _ (kk _ _ _ _ e))))))
  have hT : IsTup H (s.heap.objs.size + 6) #[.ref s.heap.objs.size, .ref (s.heap.objs.size + 1), .ref (s.heap.objs.size + 2), .ref (s.heap.objs.size + 3), .ref (s.heap.objs.size + 4), .ref (s.heap.objs.size + 5)] := by
    refine ⟨tupObj [.ref s.heap.objs.size, .ref (s.heap.objs.size + 1), .ref (s.heap.objs.size + 2), .ref (s.heap.objs.size + 3), .ref (s.heap.objs.size + 4), .ref (s.heap.objs.size + 5)], ?_, rfl, _, rfl⟩
    rw [← hH]
    have q := Heap.get?_push_size ((((((s.heap.push (tupObj [.int 2 a1, .int 4 b1])).push (tupObj [.int 3 a2, .int 2 b2])).push (tupObj [.int 2 a3, .int 3 b3])).push (tupObj [.int 4 a4, .int 2 b4])).push (tupObj [.int 3 a5, .int 3 b5])).push (tupObj [.int 5 a6, .int 2 b6])) (o := tupObj [.ref s.heap.objs.size, .ref (s.heap.objs.size + 1), .ref (s.heap.objs.size + 2), .ref (s.heap.objs.size + 3), .ref (s.heap.objs.size + 4), .ref (s.heap.objs.size + 5)]) rfl
    simp only [Heap.size_push] at q
    exact q
  have x4 := x.grow (N' := N + 7) hk (by rw [hz, x.size])
  have hl4 := listAt hk hl
  have hc4 := x4.cell (Str.ofString "heaps") (cellAt L "heaps") (by rfl)
  rw [hcs] at hc4
  refine hideG fun G hG => ?_
  obtain ⟨j, hj6, hje⟩ : ∃ j : Nat, j < 6 ∧ x3.fmod 6 = (j : Int) := ⟨(x3.fmod 6).toNat, by have := Int.fmod_nonneg_of_pos x3 (b := 6) (by decide); have := Int.fmod_lt_of_pos x3 (b := 6) (by decide); omega, by have := Int.fmod_nonneg_of_pos x3 (b := 6) (by decide); omega⟩
  refine hG ?_
  have hp : ∃ ta tb many size, pairsOfSizes[j]? = some (many, size) ∧ H.get? (s.heap.objs.size + j) = some (tupObj [.int many ta, .int size tb]) := by
    have st : ∀ (h : Heap) (o : Obj) (n : Nat), h.objs.size = n → o.isFreed = false → (h.push o).get? n = some o := fun h o n e f => by subst e; exact Heap.get?_push_size _ f
    rw [← hH]
    rcases j with _ | _ | _ | _ | _ | _ | _
    · exact ⟨_, _, _, _, rfl, kk _ _ _ _ (kk _ _ _ _ (kk _ _ _ _ (kk _ _ _ _ (kk _ _ _ _ (kk _ _ _ _ (st _ _ _ rfl rfl))))))⟩
    · exact ⟨_, _, _, _, rfl, kk _ _ _ _ (kk _ _ _ _ (kk _ _ _ _ (kk _ _ _ _ (kk _ _ _ _ (st _ _ _ (by simp only [Heap.size_push]) rfl)))))⟩
    · exact ⟨_, _, _, _, rfl, kk _ _ _ _ (kk _ _ _ _ (kk _ _ _ _ (kk _ _ _ _ (st _ _ _ (by simp only [Heap.size_push]) rfl))))⟩
    · exact ⟨_, _, _, _, rfl, kk _ _ _ _ (kk _ _ _ _ (kk _ _ _ _ (st _ _ _ (by simp only [Heap.size_push]) rfl)))⟩
    · exact ⟨_, _, _, _, rfl, kk _ _ _ _ (kk _ _ _ _ (st _ _ _ (by simp only [Heap.size_push]) rfl))⟩
    · exact ⟨_, _, _, _, rfl, kk _ _ _ _ (st _ _ _ (by simp only [Heap.size_push]) rfl)⟩
    · omega
  refine hideG fun G hG => ?_
  obtain ⟨ta, tb, many, size, hp1, hp2⟩ := hp
  refine hG ?_
  refine wpAny_BinOp ?_
  refine wpAny_Subscript_Constant_late ?_
  refine wpAny_Name (wpAny_loadName_cell (c := cellAt L "heaps") (by rfl) (by rfl) (by rfl) hc4 ?_) (by decide)
  refine wpAny_Constant_int ?_
  refine ⟨"list", _, list_getitem_lookup, hl4.typeIs, wpAny_getItem_list hl4 (by decide) (by decide) hy ?_⟩
  refine wpAny_Constant_int ?_
  refine mod_int' (by decide) ?_
  rw [hje]
  refine item_tupleT (l := [.ref s.heap.objs.size, .ref (s.heap.objs.size + 1), .ref (s.heap.objs.size + 2), .ref (s.heap.objs.size + 3), .ref (s.heap.objs.size + 4), .ref (s.heap.objs.size + 5)]) (j := j) (x := .ref (s.heap.objs.size + j)) hT (by omega) (by omega) ?a1 ?a2 ?_
  case a1 => unfold seqIndex?; simp; omega
  case a2 => rcases j with _ | _ | _ | _ | _ | _ | _ <;> first | rfl | omega
  refine wpAny_storeName_local (by rfl) x4.ns (fun h₂ hn₂ hs₂ => ?_) (by rfl)
  have hLs : L < s.heap.objs.size := x.ns.lt
  refine hQ h₂ _ _ ta tb j many size hp1 (x4.setL hn₂ hs₂) ?_ (fun b o hb e => hs₂.extBut b o hb (hk b o e)) (by rw [← x.size]; exact Nat.le_add_right _ _)
  exact hs₂.extBut _ _ (Nat.ne_of_gt (Nat.lt_of_lt_of_le hLs (Nat.le_add_right _ _))) hp2
end
end Mine
end
section
open PySem PySem.W PyProof.Rows
set_option maxRecDepth 100000
namespace Mine
section
variable {prog : Program} {w : World} {A : Around} {E : Value → Shared → Prop} {s : Shared}
theorem tupAt {h : Heap} {a : Addr} {l : List Value} (e : h.get? a = some (tupObj l)) : IsTup h a l.toArray := ⟨_, e, rfl, _, rfl⟩
/-- many = sizes[0] -/
theorem S3 {base : Heap} {T L a : Addr} {m cm : Str → Option Value} {N : Nat} {many size : Int} {ta tb : Tok} {Q : Flow → Shared → Prop}
    (x : PX base T L (cellsFrom (L + 1) lawScope.names []) m cm N s.heap) (hm : m (Str.ofString "sizes") = some (.ref a)) (ha : s.heap.get? a = some (tupObj [.int many ta, .int size tb]))
    (hQ : ∀ h' tk, PX base T L (cellsFrom (L + 1) lawScope.names []) (fun y => if y = Str.ofString "many" then some (.int many ta) else m y) cm N h' →
      (∀ b o, b ≠ L → s.heap.get? b = some o → h'.get? b = some o) → Q .next { s with heap := h', toks := tk }) :
    wpAny (model prog w) A (exec (lawSt 2) (lawEnv L)) Q E s := by
  refine wpAny_Assign_Name ?_ ?hs
  case hs => rfl
  refine wpAny_Subscript_Constant_late ?_
  refine wpAny_Name (wpAny_loadName_local (by rfl) (by rfl) x.ns hm ?_) (by decide)
  refine wpAny_Constant_int ?_
  refine ⟨"tuple", _, slot_tuple_getitem.lookup, (tupAt ha).typeIs, PyProof.Rows.getItem_tuple (j := 0) (x := .int many ta) (tupAt ha) (by decide) (by decide) (by rfl) (by rfl) ?_⟩
  refine wpAny_storeName_local (by rfl) x.ns (fun h₂ hn₂ hs₂ => ?_) (by rfl)
  exact hQ h₂ _ (x.setL hn₂ hs₂) fun b o hb e => hs₂.extBut b o hb e
/-- size = sizes[1] (a cell) -/
theorem S4 {base : Heap} {T L a : Addr} {m cm : Str → Option Value} {N : Nat} {many size : Int} {ta tb : Tok} {Q : Flow → Shared → Prop}
    (x : PX base T L (cellsFrom (L + 1) lawScope.names []) m cm N s.heap) (hm : m (Str.ofString "sizes") = some (.ref a)) (ha : s.heap.get? a = some (tupObj [.int many ta, .int size tb]))
    (hQ : ∀ h' tk, PX base T L (cellsFrom (L + 1) lawScope.names []) m (fun y => if y = Str.ofString "size" then some (.int size tb) else cm y) N h' →
      (∀ b o, b ≠ cellAt L "size" → s.heap.get? b = some o → h'.get? b = some o) → Q .next { s with heap := h', toks := tk }) :
    wpAny (model prog w) A (exec (lawSt 3) (lawEnv L)) Q E s := by
  refine wpAny_Assign_Name ?_ ?hs
  case hs => rfl
  refine wpAny_Subscript_Constant_late ?_
  refine wpAny_Name (wpAny_loadName_local (by rfl) (by rfl) x.ns hm ?_) (by decide)
  refine wpAny_Constant_int ?_
  refine ⟨"tuple", _, slot_tuple_getitem.lookup, (tupAt ha).typeIs, PyProof.Rows.getItem_tuple (j := 1) (x := .int size tb) (tupAt ha) (by decide) (by decide) (by rfl) (by rfl) ?_⟩
  refine wpAny_storeName_cell (c := cellAt L "size") (by rfl) (by rfl) (by rfl) (x.cell (Str.ofString "size") (cellAt L "size") (by rfl)) fun h₂ hc₂ hs₂ => ?_
  exact hQ h₂ _ (x.setC (by rfl) hc₂ hs₂) fun b o hb e => hs₂.extBut b o hb e
end
end Mine
end
section
open PySem PySem.W PyProof.Rows
set_option maxRecDepth 100000
namespace Mine
section
variable {prog : Program} {w : World} {A : Around} {E : Value → Shared → Prop} {s : Shared}
/-- rule = (heaps[2] + 1) % 4 (a cell) -/
theorem S5 {base : Heap} {T L D : Addr} {m cm : Str → Option Value} {N : Nat} {ys : Array Value} {Q : Flow → Shared → Prop}
    (x : PX base T L (cellsFrom (L + 1) lawScope.names []) m cm N s.heap) (hcs : cm (Str.ofString "heaps") = some (.ref D)) (hl : s.heap.IsList D ys) {x2 : Int} {t2 : Tok} (hy : ys[2]? = some (.int x2 t2))
    (hQ : ∀ h' tk t, PX base T L (cellsFrom (L + 1) lawScope.names []) m (fun y => if y = Str.ofString "rule" then some (.int ((x2 + 1).fmod 4) t) else cm y) N h' →
      (∀ b o, b ≠ cellAt L "rule" → s.heap.get? b = some o → h'.get? b = some o) → Q .next { s with heap := h', toks := tk }) :
    wpAny (model prog w) A (exec (lawSt 4) (lawEnv L)) Q E s := by
  have hc4 := x.cell (Str.ofString "heaps") (cellAt L "heaps") (by rfl)
  rw [hcs] at hc4
  refine wpAny_Assign_Name ?_ ?hs
  case hs => rfl
  refine wpAny_BinOp ?_
  refine wpAny_BinOp ?_
  refine wpAny_Subscript_Constant_late ?_
  refine wpAny_Name (wpAny_loadName_cell (c := cellAt L "heaps") (by rfl) (by rfl) (by rfl) hc4 ?_) (by decide)
  refine wpAny_Constant_int ?_
  refine ⟨"list", _, list_getitem_lookup, hl.typeIs, wpAny_getItem_list hl (by decide) (by decide) hy ?_⟩
  refine wpAny_Constant_int ?_
  refine wpAny_add_int ?_
  refine wpAny_Constant_int ?_
  refine mod_int' (by decide) ?_
  refine wpAny_storeName_cell (c := cellAt L "rule") (by rfl) (by rfl) (by rfl) (x.cell (Str.ofString "rule") (cellAt L "rule") (by rfl)) fun h₂ hc₂ hs₂ => ?_
  exact hQ h₂ _ _ (x.setC (by rfl) hc₂ hs₂) fun b o hb e => hs₂.extBut b o hb e
end
end Mine
end
section
open PySem PySem.W PyProof.Rows
set_option maxRecDepth 100000
namespace Mine
section
variable {prog : Program} {w : World} {A : Around} {E : Value → Shared → Prop} {env : Env}
/-- the block of a list comprehension over a range, exact, for any end -/
theorem compBlockEx {s₁ : Shared} {elt iter : PySem.Expr} {x : Str} {px : Pos} {scope : Scope} {cl : List (Str × Addr)} {pos : Pos} {n k : Nat} {F : Nat → Value → Prop} {RR : Value → Addr → Result → Shared → Prop} {r : Addr} {t u v : Tok}
    (hcell : ∀ y ∈ scope.names, y.2 ≠ .cell) (hkind : scope.kind = .function) (hx : scope.names.lookup x = some .local) (hh : A.handled = none) (hn : n ≤ sizeLine) (hsmall : Builtin.Range.small 0 (n : Int) 1 = true)
    (hr : IsRange s₁.heap r 0 (n : Int) 1 t u v)
    (helt : ∀ (i : Nat) (C : Addr) (s₃ : Shared) (m₃ : Str → Option Value) (E' : Value → Shared → Prop) (ti : Tok), i < n → s₁.heap.objs.size ≤ C → s₃.heap.Ns C m₃ → m₃ x = some (.int i ti) →
        (∀ b o, s₁.heap.get? b = some o → s₃.heap.get? b = some o) →
        wpAny (model prog w) A (eval elt (compEnvC scope cl C env)) (fun y s₄ => F i y ∧ ∃ h' tk, s₄ = { s₃ with heap := h', toks := tk } ∧ h'.objs.size = s₃.heap.objs.size + k ∧
          (∀ b o, s₃.heap.get? b = some o → h'.get? b = some o)) E' s₃)
    (hRR : ∀ D C h' tk m' ys, h'.Ns C m' → h'.IsList D ys → ys.size = n → (∀ (j : Nat) v, ys[j]? = some v → F j v) → (∀ b o, s₁.heap.get? b = some o → h'.get? b = some o) → s₁.heap.objs.size ≤ D → D ≠ C → s₁.heap.objs.size ≤ C →
        h'.objs.size = s₁.heap.objs.size + (5 + n * k) → RR (.ref D) C (.ok .next) { s₁ with heap := h', toks := tk }) :
    wpAny (model prog w) A (pyIter (.ref r)) (fun it s₂ => wpAny (model prog w) A (newList []) (fun acc s₃ => wpAny (model prog w) A (newFunctionEnv scope env.globals cl [] env.qual none .none (some env)) (fun cenv s₄ =>
      codeAny (model prog w) A (.compStart (.ListComp elt [⟨.Name x px, iter, [], 0⟩] scope pos) 0 it acc { cenv with scope := relabel scope env }) (RR acc cenv.locals) s₄) E s₃) E s₂) E s₁ := by
  refine wpAny_pyIter_range hr hsmall ?_
  refine wpAny_newObj_type (wpAny_newFunctionEnv hcell (by intro y hy; simp at hy) (fun h₁ hns₁ hsb₁ => ?_) hkind)
  dsimp only at hns₁ hsb₁ ⊢
  generalize hH1 : s₁.heap.push { cls := .type "range_iterator", data := .fields #[rawInt 0, rawInt (Builtin.Range.rangeSize 0 (n : Int) 1), rawInt 1] } = H1 at hns₁ hsb₁ ⊢
  have z1 : H1.objs.size = s₁.heap.objs.size + 1 := by rw [← hH1, Heap.size_push]
  have g1 : H1.get? s₁.heap.objs.size = some { cls := .type "range_iterator", data := .fields #[rawInt 0, rawInt (Builtin.Range.rangeSize 0 (n : Int) 1), rawInt 1] } := by rw [← hH1]; exact Heap.get?_push_size _ rfl
  have k1 : ∀ b o, s₁.heap.get? b = some o → H1.get? b = some o := fun b o e => by rw [← hH1]; exact Heap.get?_push_of_some _ e
  generalize hH2 : H1.push { cls := .type "list", dict := none, data := .seq ([] : List Value).toArray } = H2 at hns₁ hsb₁ ⊢
  have z2 : H2.objs.size = s₁.heap.objs.size + 2 := by rw [← hH2, Heap.size_push, z1]
  have g2 : H2.get? H1.objs.size = some { cls := .type "list", dict := none, data := .seq ([] : List Value).toArray } := by rw [← hH2]; exact Heap.get?_push_size _ rfl
  have k2 : ∀ b o, H1.get? b = some o → H2.get? b = some o := fun b o e => by rw [← hH2]; exact Heap.get?_push_of_some _ e
  have k3 : ∀ b o, H2.get? b = some o → h₁.get? b = some o := fun b o e => hsb₁.extBut b o (Nat.ne_of_lt (Heap.lt_size e)) (Heap.get?_push_of_some _ e)
  have z3 : h₁.objs.size = s₁.heap.objs.size + 3 := by rw [hsb₁.1, Heap.size_push, z2]
  generalize hN : s₁.heap.objs.size = N at z1 z2 z3 g1 helt hRR ⊢
  have old : ∀ b o, s₁.heap.get? b = some o → b < N := fun b o e => hN ▸ Heap.lt_size e
  have hit0 : IsRangeIter h₁ N 0 (n : Int) 1 := by
    have q := k3 _ _ (k2 _ _ g1)
    rw [rangeSize_one, show (if (0 : Int) < (n : Int) then (n : Int) - 0 else 0) = (n : Int) from by split <;> omega] at q
    exact q
  have hCN : H2.objs.size ≠ N := by omega
  have hDN : H1.objs.size ≠ N := by omega
  have hDC : H1.objs.size ≠ H2.objs.size := by omega
  have oldN : ∀ b o, s₁.heap.get? b = some o → b ≠ N ∧ b ≠ H1.objs.size ∧ b ≠ H2.objs.size := fun b o e => ⟨Nat.ne_of_lt (old b o e), Nat.ne_of_lt (Nat.lt_of_lt_of_le (old b o e) (by rw [z1]; exact Nat.le_succ _)), Nat.ne_of_lt (Nat.lt_of_lt_of_le (old b o e) (by rw [z2]; exact Nat.le_add_right _ _))⟩
  have loop : ∀ s₃ : Shared, s₃ = { s₁ with heap := h₁, toks := s₁.toks + ([] : List (Str × Value)).length } →
      codeAny (model prog w) A (.compLoop (.ListComp elt [⟨.Name x px, iter, [], 0⟩] scope pos) 0 (.ref N) (.ref H1.objs.size) (compEnvC scope cl H2.objs.size env)) (RR (.ref H1.objs.size) H2.objs.size) s₃ := by
    rintro s₃ rfl
    refine codeAny_compLoop_tests (fun kk s' => ∃ h' tk m' ys, ∃ i : Nat, s' = { s₁ with heap := h', toks := tk } ∧ IsRangeIter h' N i ((n : Int) - i) 1 ∧ h'.IsList H1.objs.size ys ∧ h'.Ns H2.objs.size m' ∧ ys.size = i ∧
      (∀ j v, ys[j]? = some v → F j v) ∧ i ≤ n ∧ kk = n + 1 - i ∧ h'.objs.size = N + 3 + i * k ∧ (∀ b o, s₁.heap.get? b = some o → h'.get? b = some o)) ?_ (n + 1)
      ⟨h₁, _, _, #[], 0, rfl, by simpa using hit0, ⟨_, k3 _ _ g2, rfl, _, rfl⟩, hns₁, rfl, by simp, Nat.zero_le _, rfl, by rw [z3, Nat.zero_mul], fun b o e => k3 _ _ (k2 _ _ (k1 _ _ e))⟩ (fun _ => rfl)
    rintro kk s' jw1
    refine hideG fun G hG => ?_
    obtain ⟨h', tk, m', ys, i, rfl, hit, hl, hns, hsz, hF, hi, rfl, hz, hk⟩ := jw1
    refine hG ?_
    by_cases hlt : i < n
    · refine wpAny_pyNext_range_item hit (by omega) fun h₂ hit₂ hs₂ => ?_
      have hns₂ := hns.sameBut hs₂ hCN
      refine wpAny_assign_Name (wpAny_storeName_local (lookup_relabel_local hx) hns₂ (fun h₃ hns₃ hs₃ => ?_) (by simp [compEnvC, relabel, hkind]))
      refine wpAny_tests_nil ?_
      simp only [if_true]
      have hk₃ : ∀ b o, s₁.heap.get? b = some o → h₃.get? b = some o := fun b o e => hs₃.extBut b o (oldN b o e).2.2 (hs₂.extBut b o (oldN b o e).1 (hk b o e))
      refine wpAny_mono (helt i H2.objs.size _ _ _ tk hlt (by rw [z2]; omega) hns₃ (by simp) hk₃) (fun y s₄ h₄ => ?_) fun _ _ e => e
      refine hideG fun G hG => ?_
      obtain ⟨hFy, h₄, tk₄, rfl, hz₄, hk₄⟩ := h₄
      refine hG ?_
      dsimp only at hz₄ hk₄ ⊢
      have hl₃ : h₃.IsList H1.objs.size ys := (hl.extBut hs₂.extBut hDN).extBut hs₃.extBut hDC
      have hl₄ : h₄.IsList H1.objs.size ys := let ⟨o, e, q⟩ := hl₃; ⟨o, hk₄ _ _ e, q⟩
      refine wpAny_list_append hl₄ (fun h₅ hl₅ hs₅ => ?_) (by omega)
      have hit₄ : IsRangeIter h₄ N ((i : Int) + 1) ((n : Int) - i - 1) 1 := hk₄ _ _ (hs₃.extBut _ _ (Ne.symm hCN) hit₂)
      have hns₅ : h₅.Ns H2.objs.size _ := (Heap.Ns.keeps hns₃ hk₄).sameBut hs₅ (Ne.symm hDC)
      refine ⟨n + 1 - (i + 1), by omega, h₅, tk₄, _, _, i + 1, rfl, ?_, hl₅, hns₅, by rw [Array.size_push, hsz], ?_, hlt, rfl, ?_, fun b o e => ?_⟩
      · have q := hs₅.extBut _ _ (Ne.symm hDN) hit₄
        have e1 : ((i + 1 : Nat) : Int) = (i : Int) + 1 := by omega
        rw [e1, show (n : Int) - ((i : Int) + 1) = (n : Int) - i - 1 from by omega]
        exact q
      · intro j v hj
        rw [Array.getElem?_push] at hj
        split at hj
        · rename_i e; cases hj; rw [e, hsz]; exact hFy
        · exact hF j v hj
      · rw [hs₅.1, hz₄, hs₃.1, hs₂.1, hz, Nat.succ_mul]; omega
      · exact hs₅.extBut b o (oldN b o e).2.1 (hk₄ _ _ (hk₃ _ _ e))
    · have e : i = n := by omega
      subst e
      refine rangeEnd hh hit (by omega) fun h₂ hz₂ he₂ => ?_
      refine hRR _ _ _ tk m' ys (hns.extBut he₂ hCN) (hl.extBut he₂ hDN) hsz hF (fun b o e => he₂ b o (oldN b o e).1 (hk b o e)) (by rw [z1]; omega) hDC (by rw [z2]; omega) ?_
      dsimp only at hz₂ ⊢; rw [hz₂, hz]; omega
  exact codeAny_compStart_list (loop _ rfl) (wpAny_pyIter_rangeiter hit0 (loop _ rfl))
/-- y = [elt for x in range(..)] with y a local name, exact -/
theorem assignCompEx {s : Shared} {elt iter : PySem.Expr} {x y : Str} {px py : Pos} {scope : Scope} {cl : List (Str × Addr)} {pos spos : Pos} {n k : Nat} {F : Nat → Value → Prop} {Q : Flow → Shared → Prop}
    (hsw : swapsWith (.ListComp elt [⟨.Name x px, iter, [], 0⟩] scope pos) (some (.Name y py)) spos.line env = pure true)
    (hclos : closureFor scope env = pure cl) (hcell : ∀ z ∈ scope.names, z.2 ≠ .cell) (hkind : scope.kind = .function) (hnames : ∀ z ∈ scope.names, z.2 = .local → scope.names.lookup z.1 = some .local)
    (hx : scope.names.lookup x = some .local) (hy : env.kindOf y = some .local) (hp : (env.scope.kind == .class || (env.scope.kind == .module && env.locals != env.globals)) = false)
    (hh : A.handled = none) (hn : n ≤ sizeLine) (hsmall : Builtin.Range.small 0 (n : Int) 1 = true)
    (h : wpAny (model prog w) A (eval iter env) (fun xv s₁ => ∃ r t u v m, xv = .ref r ∧ IsRange s₁.heap r 0 (n : Int) 1 t u v ∧ s₁.heap.Ns env.locals m ∧
      (∀ (i : Nat) (C : Addr) (s₃ : Shared) (m₃ : Str → Option Value) (E' : Value → Shared → Prop) (ti : Tok), i < n → s₁.heap.objs.size ≤ C → s₃.heap.Ns C m₃ → m₃ x = some (.int i ti) →
        (∀ b o, s₁.heap.get? b = some o → s₃.heap.get? b = some o) →
        wpAny (model prog w) A (eval elt (compEnvC scope cl C env)) (fun y s₄ => F i y ∧ ∃ h' tk, s₄ = { s₃ with heap := h', toks := tk } ∧ h'.objs.size = s₃.heap.objs.size + k ∧
          (∀ b o, s₃.heap.get? b = some o → h'.get? b = some o)) E' s₃) ∧
      (∀ D h' tk ys, h'.IsList D ys → ys.size = n → (∀ (j : Nat) v, ys[j]? = some v → F j v) → s₁.heap.objs.size ≤ D → h'.Ns env.locals (fun z => if z = y then some (.ref D) else m z) →
        (∀ b o, b ≠ env.locals → s₁.heap.get? b = some o → h'.get? b = some o) → h'.objs.size = s₁.heap.objs.size + (5 + n * k) → Q .next { s₁ with heap := h', toks := tk })) E s)
    (hs : ∀ x, foldedSetIterable iter env x = pure x := by intro _; rfl) :
    wpAny (model prog w) A (exec (.Assign [.Name y py] (.ListComp elt [⟨.Name x px, iter, [], 0⟩] scope pos) spos) env) Q E s := by
  rw [exec_Assign_Name_used _ _ _ _ hsw]
  refine wpAny_bind (wpAny_standAt (wpAny_bind ?_))
  show wpAny _ A (do let _ ← comprehension (.ListComp elt [⟨.Name x px, iter, [], 0⟩] scope pos) scope env _ (newList []) false (eval iter env) (some (assign (.Name y py) env))) _ _ s
  refine wpAny_bind (wpAny_mono (wpAny_comprehension_free (use := some (assign (.Name y py) env)) (Q := fun _ s' => Q .next s') rfl hs hclos hkind hnames
    (wpAny_mono h (fun xv s₁ h₁ => ?_) fun _ _ e => e)) (fun _ s' hq => wpAny_pure (wpAny_pure hq)) fun _ _ e => e)
  refine hideG fun G hG => ?_
  obtain ⟨r, t, u, v, m, rfl, hr, hns, helt, hQ⟩ := h₁
  refine hG ?_
  refine compBlockEx (RR := fun acc C => compPost (model prog w) A E (some (assign (.Name y py) env)) (fun _ s' => Q .next s') acc C) hcell hkind hx hh hn hsmall hr helt ?_
  intro D C h' tk m' ys hnC hl hsz hF hk hD hDC hC hz
  have hLlt := hns.lt
  have hLD : env.locals ≠ D := Nat.ne_of_lt (Nat.lt_of_lt_of_le hLlt hD)
  have hLC : env.locals ≠ C := Nat.ne_of_lt (Nat.lt_of_lt_of_le hLlt hC)
  show wpAny _ A (assign (.Name y py) env (.ref D)) _ _ _
  refine wpAny_assign_Name (wpAny_storeName_local hy (hns.keeps hk) (fun h₂ hn₂ hs₂ => ?_) hp)
  refine ⟨m', hnC.sameBut hs₂ (Ne.symm hLC), fun h₃ hs₃ => ?_⟩
  refine hQ D h₃ _ ys ((hl.extBut hs₂.extBut (Ne.symm hLD)).extBut hs₃.extBut hDC) hsz hF hD (hn₂.sameBut hs₃ hLC) (fun b o hb e => ?_) (by rw [hs₃.1, hs₂.1]; exact hz)
  exact hs₃.extBut b o (Nat.ne_of_lt (Nat.lt_of_lt_of_le (Heap.lt_size e) hC)) (hs₂.extBut b o hb (hk b o e))
end
end Mine
end
section
open PySem PySem.W PyProof.Rows
set_option maxRecDepth 100000
namespace Mine
section
variable {prog : Program} {w : World} {A : Around} {E : Value → Shared → Prop} {s : Shared}
/-- the place-th mode -/
noncomputable def modeAt (x0 x1 : Int) (i : Nat) : Int := (x0 + 33188 + i * (2 * x1 + 16437)).fmod 65536
/-- modes = [.. for place in range(many)] -/
theorem S6 {base : Heap} {T L D : Addr} {m cm mg mb : Str → Option Value} {N many : Nat} {tm : Tok} {ys : Array Value} {Q : Flow → Shared → Prop}
    (x : PX base T L (cellsFrom (L + 1) lawScope.names []) m cm N s.heap) (hg : base.Ns mainGlobals mg) (hgT : mainGlobals ≠ T) (hb : base.Ns builtinsNs mb) (hbT : builtinsNs ≠ T)
    (mR : mg (Str.ofString "range") = none) (bR : mb (Str.ofString "range") = some (.type "range"))
    (hm : m (Str.ofString "many") = some (.int many tm)) (hmany : many ≤ 5)
    (hcs : cm (Str.ofString "heaps") = some (.ref D)) (hl : s.heap.IsList D ys) {x0 x1 : Int} {t0 t1 : Tok} (hy0 : ys[0]? = some (.int x0 t0)) (hy1 : ys[1]? = some (.int x1 t1)) (hh : A.handled = none)
    (hQ : ∀ h' tk M zs, PX base T L (cellsFrom (L + 1) lawScope.names []) (fun y => if y = Str.ofString "modes" then some (.ref M) else m y) cm (N + 6) h' → h'.IsList M zs → zs.size = many →
      (∀ (j : Nat) v, zs[j]? = some v → ∃ t, v = Value.int (modeAt x0 x1 j) t) → (∀ b o, b ≠ L → s.heap.get? b = some o → h'.get? b = some o) → N ≤ M → Q .next { s with heap := h', toks := tk }) :
    wpAny (model prog w) A (exec (lawSt 5) (lawEnv L)) Q E s := by
  refine assignCompEx (n := many) (k := 0) (F := fun j v => ∃ t, v = Value.int (modeAt x0 x1 j) t) (cl := [(Str.ofString "heaps", cellAt L "heaps")]) ?sw ?clos (by decide) (by rfl) (by decide) (by decide) (by rfl) (by rfl) hh ?le ?small ?_
  case sw => rfl
  case clos => rfl
  case le => exact Nat.le_trans hmany (by decide)
  case small => rcases many with _ | _ | _ | _ | _ | _ | _ <;> first | decide | omega
  refine callN1 ?_
  refine Calls.Name_function_global (by rfl) (by rfl) (Calls.loadGlobal_builtin (x.nsBase hgT hg) mR (x.nsBase hbT hb) bR ?_) (by decide)
  refine PySem.callWith_type1 ?_
  refine wpAny_Name (wpAny_loadName_local (by rfl) (by rfl) x.ns hm ?_) (by decide)
  refine call_range_1 ?_
  have kp : ∀ (o : Obj) b q, s.heap.get? b = some q → (s.heap.push o).get? b = some q := fun o b q e => Heap.get?_push_of_some _ e
  refine ⟨_, _, _, _, m, rfl, IsRange.new .., x.ns.push _, fun i C s₃ m₃ E' ti hi4 hC hn hm₃ hk => ?_, fun M h' tk zs hl' hsz' hF hM hn' hk hz => ?_⟩
  · have k3 : ∀ b q, s.heap.get? b = some q → s₃.heap.get? b = some q := fun b q e => hk b q (kp _ b q e)
    have x3 := x.grow (N' := s₃.heap.objs.size) k3 rfl
    have hl3 := listAt k3 hl
    have hc3 := x3.cell (Str.ofString "heaps") (cellAt L "heaps") (by rfl)
    rw [hcs] at hc3
    refine wpAny_BinOp ?_
    refine wpAny_BinOp ?_
    refine wpAny_BinOp ?_
    refine wpAny_Subscript_Constant_late ?_
    refine wpAny_Name (wpAny_loadName_cell (c := cellAt L "heaps") (by rfl) (by rfl) (by rfl) hc3 ?_) (by decide)
    refine wpAny_Constant_int ?_
    refine ⟨"list", _, list_getitem_lookup, hl3.typeIs, wpAny_getItem_list hl3 (by decide) (by decide) hy0 ?_⟩
    refine wpAny_Constant_int ?_
    refine wpAny_add_int ?_
    refine wpAny_BinOp ?_
    refine wpAny_Name (wpAny_loadName_local (by rfl) (by rfl) hn hm₃ ?_) (by decide)
    refine wpAny_BinOp ?_
    refine wpAny_BinOp ?_
    refine wpAny_Constant_int ?_
    refine wpAny_Subscript_Constant_late ?_
    refine wpAny_Name (wpAny_loadName_cell (c := cellAt L "heaps") (by rfl) (by rfl) (by rfl) hc3 ?_) (by decide)
    refine wpAny_Constant_int ?_
    refine ⟨"list", _, list_getitem_lookup, hl3.typeIs, wpAny_getItem_list hl3 (by decide) (by decide) hy1 ?_⟩
    refine PyProof.Rows.mul_int ?_ (.of_left (by decide))
    refine wpAny_Constant_int ?_
    refine wpAny_add_int ?_
    refine PyProof.Rows.mul_int ?_ (.of_left (by rcases i with _ | _ | _ | _ | _ | _ <;> first | decide | omega))
    refine wpAny_add_int ?_
    refine wpAny_Constant_int ?_
    refine mod_int' (by decide) ?_
    exact ⟨⟨_, rfl⟩, _, _, rfl, rfl, fun b o e => e⟩
  · refine hQ h' _ M zs ?_ hl' hsz' hF (fun b o hb e => hk b o hb (kp _ b o e)) ?_
    · have e1 : h'.objs.size = N + 6 := by rw [hz]; show (s.heap.push _).objs.size + (5 + many * 0) = _; rw [Heap.size_push, x.size]; omega
      have xk : ∀ b o, b ≠ L → s.heap.get? b = some o → h'.get? b = some o := fun b o hb e => hk b o hb (kp _ b o e)
      refine ⟨hn', fun n c e => ?_, x.apart, x.above, x.low, e1, fun b o hb e => xk b o (Nat.ne_of_lt (Nat.lt_of_lt_of_le (Heap.lt_size e) x.low)) (x.keep b o hb e), x.tab⟩
      refine hideG fun G hG => ?_
      obtain ⟨o, ho, hd⟩ := x.cell n c e
      refine hG ?_
      exact ⟨o, xk _ _ (Nat.ne_of_gt (x.above n c (mem_of_lookup e))) ho, hd⟩
    · have h2 : (s.heap.push _).objs.size ≤ M := hM
      rw [Heap.size_push, x.size] at h2
      exact Nat.le_of_succ_le h2
end
end Mine
end
section
open PySem PySem.W PyProof.Rows
set_option maxRecDepth 100000
namespace Mine
/-- the i-th statement of the text, when it is a def: params, body, scope -/
noncomputable def defNo (i : Nat) : Arguments × List Stmt × Scope :=
  match (PySem.Challenge.pw_il0049_01.main.body.drop i).headD (.Pass default) with
  | .FunctionDef _ a b _ _ _ sc _ _ _ => (a, b, sc)
  | _ => (⟨[], [], none, [], [], none, []⟩, [], default)
end Mine
end
section
open PySem PySem.W PyProof.Rows
set_option maxRecDepth 100000
namespace Mine
/-- the function object of a def of the text (no closure) -/
noncomputable def fdOf (n : String) (i : Nat) (dV doc pm ct : Value) (c : Addr) : FuncData :=
  { name := Str.ofString n, qualname := Str.ofString n, params := (defNo i).1, body := .stmts (defNo i).2.1, scope := (defNo i).2.2,
    globals := mainGlobals, closure := [], defaults := dV, kwdefaults := .none, doc := doc, pyModule := pm, annotations := none, code := .ref c, closureTuple := ct, builtins := builtinsNs }
/-- it stands in the heap, with its code object -/
noncomputable def FnAt (h : Heap) (a : Addr) (n : String) (i : Nat) : Prop := ∃ doc pm ct c o, h.get? a = some o ∧ o.data = .func (fdOf n i .none doc pm ct c) ∧ h.CodeRec (.ref c) (Str.ofString n)
/-- what the functions need of a heap -/
structure Wd (mg mb : Str → Option Value) (h : Heap) : Prop where
  g : h.Ns mainGlobals mg
  b : h.Ns builtinsNs mb
  lim : h.NoLimit
section
variable {prog : Program} {w : World} {A : Around} {E : Value → Shared → Prop} {s : Shared}
theorem ifmt {mg mb : Str → Option Value} {x : Int} {t : Tok} {Q : Value → Shared → Prop} (W : Wd mg mb s.heap) (f : FnAt s.heap 88 "S_IFMT" 10) (hroom : A.depth < recursionLimit)
    (hQ : ∀ h' tk t', (∀ b o, s.heap.get? b = some o → h'.get? b = some o) → Q (.int (Builtin.bitAnd x 61440) t') { s with heap := h', toks := tk }) :
    wpAny (model prog w) A (call (.ref 88) [.int x t]) Q E s := by
  refine hideG fun G hG => ?_
  obtain ⟨doc, pm, ct, c, o, ho, hd, hc⟩ := f
  refine hG ?_
  refine wpAny_call ?_
  refine codeAny_call_def (body := (defNo 10).2.1) (binds := [(Str.ofString "mode", .int x t)]) hroom ho hd W.lim hc rfl ?_ ?_ ?_ ?_
  · exact .of_eq (by rfl)
  · show ∀ x ∈ (defNo 10).2.2.names, x.2 ≠ NameKind.cell
    decide
  · intro y hy; rcases List.mem_singleton.mp hy with rfl; rfl
  intro h₀ hn hk
  refine wpAny_execs_cons (wpAny_Return_some ?_)
  refine wpAny_BinOp ?_
  refine wpAny_Name (wpAny_loadName_local (by rfl) (by rfl) hn (by rfl) ?_) (by decide)
  refine wpAny_Constant_int ?_
  refine and_int ?_
  exact hQ _ _ _ hk
theorem imode {mg mb : Str → Option Value} {x : Int} {t : Tok} {Q : Value → Shared → Prop} (W : Wd mg mb s.heap) (f : FnAt s.heap 81 "S_IMODE" 9) (hroom : A.depth < recursionLimit)
    (hQ : ∀ h' tk t', (∀ b o, s.heap.get? b = some o → h'.get? b = some o) → Q (.int (Builtin.bitAnd x 4095) t') { s with heap := h', toks := tk }) :
    wpAny (model prog w) A (call (.ref 81) [.int x t]) Q E s := by
  refine hideG fun G hG => ?_
  obtain ⟨doc, pm, ct, c, o, ho, hd, hc⟩ := f
  refine hG ?_
  refine wpAny_call ?_
  refine codeAny_call_def (body := (defNo 9).2.1) (binds := [(Str.ofString "mode", .int x t)]) hroom ho hd W.lim hc rfl ?_ ?_ ?_ ?_
  · exact .of_eq (by rfl)
  · show ∀ x ∈ (defNo 9).2.2.names, x.2 ≠ NameKind.cell
    decide
  · intro y hy; rcases List.mem_singleton.mp hy with rfl; rfl
  intro h₀ hn hk
  refine wpAny_execs_cons (wpAny_Return_some ?_)
  refine wpAny_BinOp ?_
  refine wpAny_Name (wpAny_loadName_local (by rfl) (by rfl) hn (by rfl) ?_) (by decide)
  refine wpAny_Constant_int ?_
  refine and_int ?_
  exact hQ _ _ _ hk
end
end Mine
end
section
open PySem PySem.W PyProof.Rows
set_option maxRecDepth 100000
namespace Mine
noncomputable def Keep (h h' : Heap) : Prop := ∀ b o, h.get? b = some o → h'.get? b = some o
theorem kp_refl (h : Heap) : Keep h h := fun _ _ e => e
theorem Keep.tr {a b c : Heap} (x : Keep a b) (y : Keep b c) : Keep a c := fun q o e => y q o (x q o e)
theorem kp_push (h : Heap) (o : Obj) : Keep h (h.push o) := fun _ _ e => Heap.get?_push_of_some _ e
theorem ks_refl (s : Shared) : Keeps s s := ⟨s.heap, s.toks, rfl, fun _ _ e => e⟩
theorem ks_tr {a b c : Shared} (x : Keeps a b) (y : Keeps b c) : Keeps a c := by
  refine hideG fun G hG => ?_
  obtain ⟨h, t, rfl, k⟩ := x
  obtain ⟨h', t', rfl, k'⟩ := y
  refine hG ?_
  exact ⟨h', t', rfl, fun b o e => k' b o (k b o e)⟩
theorem ks_tok (s : Shared) (t : Nat) : Keeps s { s with toks := t } := ⟨s.heap, t, rfl, fun _ _ e => e⟩
theorem ks_of {s : Shared} {h' : Heap} {t : Nat} (k : Keep s.heap h') : Keeps s { s with heap := h', toks := t } := ⟨h', t, rfl, k⟩
theorem ks_push (s : Shared) (o : Obj) (t : Nat) : Keeps s { s with heap := s.heap.push o, toks := t } := ks_of (kp_push _ o)
theorem ks_keep {s s' : Shared} (k : Keeps s s') : Keep s.heap s'.heap := by
  refine hideG fun G hG => ?_
  obtain ⟨h, t, rfl, k⟩ := k
  refine hG ?_
  exact k
theorem icc_ks {s₀ s : Shared} {L : Addr} {m cm : Str → Option Value} {cs : List (Str × Addr)} (x : InCallC s₀ L m cs cm s) : Keeps s₀ s := x.done
/-- all lists and tuples stand -/
noncomputable def KS (h h' : Heap) : Prop := ∀ b o vs n, o.data = .seq vs n → h.get? b = some o → h'.get? b = some o
theorem kS_of {h h' : Heap} (k : Keep h h') : KS h h' := fun b o _ _ _ e => k b o e
theorem KS.tr {a b c : Heap} (x : KS a b) (y : KS b c) : KS a c := fun q o vs n hd e => y q o vs n hd (x q o vs n hd e)
theorem kS_refl (h : Heap) : KS h h := fun _ _ _ _ _ e => e
theorem kS_ns {h h' : Heap} {L : Addr} {m : Str → Option Value} (hn : h.Ns L m) (hs : Heap.SameBut L h h') : KS h h' := fun b o vs n hd e => by
  refine hs.extBut b o ?_ e
  rintro rfl
  refine hideG fun G hG => ?_
  obtain ⟨o', es, ep, ho, hd', _⟩ := hn
  refine hG ?_
  rw [ho] at e
  cases e
  rw [hd] at hd'
  cases hd'
theorem kS_cell {h h' : Heap} {c : Addr} {v : Option Value} (hn : h.IsCell c v) (hs : Heap.SameBut c h h') : KS h h' := fun b o vs n hd e => by
  refine hs.extBut b o ?_ e
  rintro rfl
  refine hideG fun G hG => ?_
  obtain ⟨o', ho, hd'⟩ := hn
  refine hG ?_
  rw [ho] at e
  cases e
  rw [hd] at hd'
  cases hd'
inductive All2 {α β : Type} (R : α → β → Prop) : List α → List β → Prop where
  | nil : All2 R [] []
  | cons {a b l m} : R a b → All2 R l m → All2 R (a :: l) (b :: m)
/-- a list of ints -/
noncomputable def LI (h : Heap) (v : Value) (xs : List Int) : Prop := ∃ a vs, v = .ref a ∧ h.IsList a vs.toArray ∧ IntsAre vs xs
/-- a list of lists of ints -/
noncomputable def LL (h : Heap) (v : Value) (xss : List (List Int)) : Prop := ∃ a vs, v = .ref a ∧ h.IsList a vs.toArray ∧ All2 (LI h) vs xss
theorem isList_ks {h h' : Heap} (k : KS h h') {a : Addr} {vs : Array Value} (x : h.IsList a vs) : h'.IsList a vs := by
  refine hideG fun G hG => ?_
  obtain ⟨o, ho, hc, n, hd⟩ := x
  refine hG ?_
  exact ⟨o, k a o _ _ hd ho, hc, n, hd⟩
theorem LI.ks {h h' : Heap} (k : KS h h') {v : Value} {xs : List Int} (x : LI h v xs) : LI h' v xs := by
  refine hideG fun G hG => ?_
  obtain ⟨a, vs, e, hl, hi⟩ := x
  refine hG ?_
  exact ⟨a, vs, e, isList_ks k hl, hi⟩
theorem fa2_mono {α β : Type} {R S : α → β → Prop} (k : ∀ a b, R a b → S a b) : ∀ {l : List α} {l' : List β}, All2 R l l' → All2 S l l'
  | _, _, .nil => .nil
  | _, _, .cons h t => .cons (k _ _ h) (fa2_mono k t)
theorem LL.ks {h h' : Heap} (k : KS h h') {v : Value} {xs : List (List Int)} (x : LL h v xs) : LL h' v xs := by
  refine hideG fun G hG => ?_
  obtain ⟨a, vs, e, hl, hi⟩ := x
  refine hG ?_
  exact ⟨a, vs, e, isList_ks k hl, fa2_mono (fun _ _ q => LI.ks k q) hi⟩
theorem LI.kp {h h' : Heap} (k : Keep h h') {v : Value} {xs : List Int} (x : LI h v xs) : LI h' v xs := x.ks (kS_of k)
theorem LL.kp {h h' : Heap} (k : Keep h h') {v : Value} {xs : List (List Int)} (x : LL h v xs) : LL h' v xs := x.ks (kS_of k)
section
variable {prog : Program} {w : World} {A : Around} {E : Value → Shared → Prop} {s : Shared}
/-- two lists added -/
theorem addL {l b : Addr} {vs ws : List Value} {Q : Value → Shared → Prop} (hl : s.heap.IsList l vs.toArray) (hb : s.heap.IsList b ws.toArray) (hsz : vs.length + ws.length ≤ sizeLine)
    (h : Q (.ref s.heap.objs.size) { s with heap := s.heap.push { cls := .type "list", data := .seq (vs ++ ws).toArray } }) :
    wpAny (model prog w) A (binaryOp .Add (.ref l) (.ref b)) Q E s := by
  refine hideG fun G hG => ?_
  obtain ⟨⟨cls, dd, data, sl⟩, ho, hc, n, hd⟩ := id hl
  obtain ⟨⟨cls2, dd2, data2, sl2⟩, ho2, hc2, n2, hd2⟩ := id hb
  refine hG ?_
  simp only at hc hd hc2 hd2
  subst hc hd hc2 hd2
  have e : vs.toArray ++ ws.toArray = (vs ++ ws).toArray := by simp
  refine concat_meets ⟨_, ho, rfl⟩ ⟨_, ho2, rfl⟩ noFill_list_add seq_list_add PySem.F.slot_list_add PySem.F.entry_list_add (PySem.F.args_list_add_2 _ _) (list_addW l b vs.toArray ws.toArray n n2 dd dd2 sl sl2 (by simpa using hsz)) ⟨ho, ho2, ?_⟩
  rw [e]
  exact h
theorem newIsList (h : Heap) (vs : List Value) : (h.push { cls := .type "list", data := .seq vs.toArray }).IsList h.objs.size vs.toArray := ⟨_, Heap.get?_push_size _ rfl, rfl, _, rfl⟩
theorem fa2_append {α β : Type} {R : α → β → Prop} : ∀ {l₁ : List α} {l₂ : List β} {m₁ : List α} {m₂ : List β}, All2 R l₁ l₂ → All2 R m₁ m₂ → All2 R (l₁ ++ m₁) (l₂ ++ m₂)
  | _, _, _, _, .nil, y => y
  | _, _, _, _, .cons h t, y => .cons h (fa2_append t y)
theorem fa2_len {α β : Type} {R : α → β → Prop} : ∀ {l₁ : List α} {l₂ : List β}, All2 R l₁ l₂ → l₁.length = l₂.length
  | _, _, .nil => rfl
  | _, _, .cons _ t => by rw [List.length_cons, List.length_cons, fa2_len t]
theorem liReads {h : Heap} {v : Value} {xs : List Int} (x : LI h v xs) : ∃ as, Reads h v (.list (xs.map PyData.int)) as := by
  refine hideG fun G hG => ?_
  obtain ⟨a, vs, rfl, ⟨o, ho, hc, n, hd⟩, hi⟩ := x
  refine hG ?_
  exact ⟨_, reads_list_at ho hc hd (by simpa using (ke_carried hi).reads h)⟩
theorem llReadsAll {h : Heap} : ∀ {vs : List Value} {xss : List (List Int)}, All2 (LI h) vs xss → ∃ as, ReadsAll h vs (xss.map fun xs => .list (xs.map PyData.int)) as
  | _, _, .nil => ⟨_, .nil⟩
  | _, _, .cons x t => by
    refine hideG fun G hG => ?_
    obtain ⟨as, q⟩ := liReads x
    obtain ⟨bs, p⟩ := llReadsAll t
    refine hG ?_
    exact ⟨_, .cons q p⟩
theorem llReads {h : Heap} {v : Value} {xss : List (List Int)} (x : LL h v xss) : ∃ as, Reads h v (.list (xss.map fun xs => .list (xs.map PyData.int))) as := by
  refine hideG fun G hG => ?_
  obtain ⟨a, vs, rfl, ⟨o, ho, hc, n, hd⟩, hi⟩ := x
  obtain ⟨as, q⟩ := llReadsAll hi
  refine hG ?_
  exact ⟨_, reads_list_at ho hc hd (by simpa using q)⟩
end
end Mine
end
section
open PySem PySem.W PyProof.Rows
set_option maxRecDepth 100000
set_option linter.unusedVariables false
namespace Mine
noncomputable def retOf : Flow → Value
  | .ret v => v
  | _ => .none
/-- all but the addresses of M stand -/
noncomputable def KM (M : List Addr) (h h' : Heap) : Prop := ∀ b o, b ∉ M → h.get? b = some o → h'.get? b = some o
theorem km_of {M : List Addr} {h h' : Heap} (k : Keep h h') : KM M h h' := fun b o _ e => k b o e
theorem km_refl (M : List Addr) (h : Heap) : KM M h h := fun _ _ _ e => e
theorem KM.tr {M : List Addr} {a b c : Heap} (x : KM M a b) (y : KM M b c) : KM M a c := fun q o hq e => y q o hq (x q o hq e)
theorem KM.mono {M N : List Addr} {a b : Heap} (x : KM M a b) (h : ∀ c ∈ M, c ∈ N) : KM N a b := fun q o hq e => x q o (fun z => hq (h q z)) e
theorem km_same {a : Addr} {M : List Addr} {h h' : Heap} (hs : Heap.SameBut a h h') (ha : a ∈ M) : KM M h h' := fun b o hb e => hs.extBut b o (fun z => hb (z ▸ ha)) e
/-- all lists and tuples but D stand -/
noncomputable def KSD (D : Addr) (h h' : Heap) : Prop := ∀ b o vs n, b ≠ D → o.data = .seq vs n → h.get? b = some o → h'.get? b = some o
theorem kSD_of {D : Addr} {h h' : Heap} (k : Keep h h') : KSD D h h' := fun b o _ _ _ _ e => k b o e
theorem kSD_ks {D : Addr} {h h' : Heap} (k : KS h h') : KSD D h h' := fun b o vs n _ hd e => k b o vs n hd e
theorem KSD.tr {D : Addr} {a b c : Heap} (x : KSD D a b) (y : KSD D b c) : KSD D a c := fun q o vs n hq hd e => y q o vs n hq hd (x q o vs n hq hd e)
theorem kSD_same {D : Addr} {h h' : Heap} (hs : Heap.SameBut D h h') : KSD D h h' := fun b o _ _ hb _ e => hs.extBut b o hb e
section
variable {prog : Program} {w : World} {A : Around} {E : Value → Shared → Prop} {s : Shared}
noncomputable abbrev envF (n : String) (i : Nat) (doc pm ct : Value) (c L a : Addr) : Env := callEnvC (fdOf n i .none doc pm ct c) L a
noncomputable def RetPost (R : Result → Shared → Prop) (T : Shared → Prop) (f : Flow) (s : Shared) : Prop :=
  match f with
  | .next => T s
  | .cont => T s
  | .brk => R (.ok .next) s
  | .ret v => R (.ok (.ret v)) s
/-- what the end of a turn may be -/
structure LoopQ (R : Result → Shared → Prop) (T : Shared → Prop) (Q' : Flow → Shared → Prop) : Prop where
  nx : ∀ s, T s → Q' .next s
  ct : ∀ s, T s → Q' .cont s
  bk : ∀ s, R (.ok .next) s → Q' .brk s
  rt : ∀ v s, R (.ok (.ret v)) s → Q' (.ret v) s
theorem loopQ (R : Result → Shared → Prop) (T : Shared → Prop) : LoopQ R T (RetPost R T) := ⟨fun _ q => q, fun _ q => q, fun _ q => q, fun _ _ q => q⟩
/-- a statement, what follows it is hidden -/
theorem stepS {M : Model} {A : Around} {E : Value → Shared → Prop} {s : Shared} {env : Env} {st : Stmt} {rest : List Stmt} {Q : Flow → Shared → Prop}
    (h : ∀ Q' : Flow → Shared → Prop, (∀ s', wpAny M A (execs rest env) Q E s' → Q' .next s') → (∀ v s', Q (.ret v) s' → Q' (.ret v) s') → (∀ s', Q .brk s' → Q' .brk s') → wpAny M A (exec st env) Q' E s) : wpAny M A (execs (st :: rest) env) Q E s :=
  wpAny_execs_cons (h _ (fun _ q => q) (fun _ _ q => q) fun _ q => q)
/-- a for loop over anything that walks -/
theorem forWalk {target : PySem.Expr} {body orelse : List Stmt} {env : Env} {R : Result → Shared → Prop} {I : Addr} {fp wr : List Addr} {n : Nat} {P : Nat → Value → Prop} {St : Nat → Heap → Prop} (W : Walks prog w A I fp wr n P St)
    (M : List Addr) (hM : ∀ b ∈ fp, b ∉ M) (J : Nat → Shared → Prop)
    (hJ : ∀ i s h' tk, J i s → St i s.heap → (∀ b o, b ∉ wr → s.heap.get? b = some o → h'.get? b = some o) → J i { s with heap := h', toks := tk })
    (turn : ∀ i v s E' Q', i < n → P i v → J i s → LoopQ R (fun s₃ => KM M s.heap s₃.heap ∧ J (i + 1) s₃) Q' → wpAny (model prog w) A (letOwnedTupleGo target (.ref I) v) (fun _ s₁ => wpAny (model prog w) A (assign target env v) (fun _ s₂ => wpAny (model prog w) A (execs body env)
      Q' E' s₂) E' s₁) E' s)
    (done : ∀ s E', J n s → wpAny (model prog w) A (execs orelse env) (fun f s₃ => R (.ok f) s₃) E' s) (hst : St 0 s.heap) (h0 : J 0 s) :
    codeAny (model prog w) A (.forLoop target (.ref I) body orelse env) R s := by
  refine codeAny_forLoop_any (fun k s => ∃ i, k = n - i ∧ i ≤ n ∧ St i s.heap ∧ J i s) ?_ n ⟨0, rfl, Nat.zero_le _, hst, h0⟩
  rintro k s jw1
  refine hideG fun G hG => ?_
  obtain ⟨i, rfl, hi, st, j⟩ := jw1
  refine hG ?_
  by_cases hlt : i < n
  · refine W.item i s _ _ hlt st fun v h' tk hv st' hk => ?_
    refine wpAny_mono (turn i v _ _ _ hlt hv (hJ i s h' tk j st hk) (loopQ _ _)) (fun _ s₁ q => ?_) fun _ _ e => e
    refine wpAny_mono q (fun _ s₂ q => ?_) fun _ _ e => e
    refine wpAny_mono q (fun f s₃ q => ?_) fun _ _ e => e
    cases f with
    | next => exact ⟨n - (i + 1), by omega, i + 1, rfl, hlt, W.frame _ _ _ st' fun b hb o e => q.1 b o (hM b hb) e, q.2⟩
    | cont => exact ⟨n - (i + 1), by omega, i + 1, rfl, hlt, W.frame _ _ _ st' fun b hb o e => q.1 b o (hM b hb) e, q.2⟩
    | brk => exact q
    | ret v => exact q
  · have e : i = n := by omega
    subst e
    refine W.done s _ _ st fun h' tk hk => ?_
    exact done _ _ (hJ _ _ _ _ j st hk)
end
end Mine
end
section
open PySem PySem.W PyProof.Rows
set_option maxRecDepth 100000
set_option linter.unusedVariables false
namespace Mine
theorem all2_snoc {α β : Type} {R : α → β → Prop} {l : List α} {m : List β} {a : α} {b : β} (x : All2 R l m) (h : R a b) : All2 R (l ++ [a]) (m ++ [b]) := fa2_append x (.cons h .nil)
theorem all2_len {α β : Type} {R : α → β → Prop} {l : List α} {m : List β} (x : All2 R l m) : l.length = m.length := fa2_len x
section
variable {prog : Program} {w : World} {A : Around} {E : Value → Shared → Prop} {env : Env}
/-- the block of a list comprehension, any end; what is said of an item may speak of the heap -/
theorem compBlock {elt iter : PySem.Expr} {x : Str} {px : Pos} {ifs : List PySem.Expr} {scope : Scope} {cl : List (Str × Addr)} {pos : Pos} {s₂ : Shared} {I : Addr} {fp wr : List Addr} {n : Nat} {P : Nat → Value → Prop} {St : Nat → Heap → Prop}
    (W : Walks prog w A I fp wr n P St) (hsz : n ≤ 1000) (p : Nat → Bool) (F : Addr → Nat → Value → Heap → Prop) (hF : ∀ D i v h h', KSD D h h' → F D i v h → F D i v h') {RR : Value → Addr → Result → Shared → Prop}
    (hcell : ∀ y ∈ scope.names, y.2 ≠ .cell) (hkind : scope.kind = .function) (hx : scope.names.lookup x = some .local) (hst : St 0 s₂.heap) (hfp : ∀ b ∈ fp, b < s₂.heap.objs.size) (hwr : ∀ b ∈ wr, ∀ h i, St i h → ∃ o, h.get? b = some o ∧ ∀ vs n, o.data ≠ .seq vs n)
    (helt : ∀ i v C D s₃ m₃ E', i < n → P i v → s₂.heap.objs.size ≤ C → s₃.heap.Ns C m₃ → m₃ x = some v → (∀ b o, b ∉ wr → s₂.heap.get? b = some o → s₃.heap.get? b = some o) → D < s₃.heap.objs.size → s₂.heap.objs.size ≤ D →
      wpAny (model prog w) A (forIn ifs true fun c r => if r = true then do let ok ← isTrue c (compEnvC scope cl C env) (eval c (compEnvC scope cl C env)); pure (ForInStep.yield ok) else pure (ForInStep.yield r))
        (fun ok s₄ => Keeps s₃ s₄ ∧ ok = p i) E' s₃ ∧
      (p i = true → wpAny (model prog w) A (eval elt (compEnvC scope cl C env)) (fun y s₄ => F D i y s₄.heap ∧ Keeps s₃ s₄) E' s₃))
    (hRR : ∀ D C h' tk m' (ys : List Value), s₂.heap.objs.size ≤ D → s₂.heap.get? C = none → D ≠ C → h'.Ns C m' → h'.IsList D ys.toArray → All2 (fun i y => F D i y h') ((List.range n).filter p) ys →
      (∀ b o, b ∉ wr → s₂.heap.get? b = some o → h'.get? b = some o) → RR (.ref D) C (.ok .next) { s₂ with heap := h', toks := tk })
    (hgo : ∀ v, letOwnedTupleGo (.Name x px) (.ref I) v = pure () := by intro _; rfl) :
    wpAny (model prog w) A (newList []) (fun acc s₃ => wpAny (model prog w) A (newFunctionEnv scope env.globals cl [] env.qual none .none (some env)) (fun cenv s₄ =>
      codeAny (model prog w) A (.compStart (.ListComp elt [⟨.Name x px, iter, ifs, 0⟩] scope pos) 0 (.ref I) acc { cenv with scope := relabel scope env }) (RR acc cenv.locals) s₄) E s₃) E s₂ := by
  refine wpAny_newObj_type (wpAny_newFunctionEnv hcell (by intro y hy; simp at hy) (fun h₁ hns₁ hsb₁ => ?_) hkind)
  dsimp only at hns₁ hsb₁ ⊢
  generalize hH2 : s₂.heap.push { cls := .type "list", dict := none, data := .seq ([] : List Value).toArray } = H2 at hns₁ hsb₁ ⊢
  have hC : H2.objs.size = s₂.heap.objs.size + 1 := by rw [← hH2, Heap.size_push]
  have hDC : s₂.heap.objs.size ≠ H2.objs.size := by rw [hC]; exact Nat.ne_of_lt (Nat.lt_succ_self _)
  have hCle : s₂.heap.objs.size ≤ H2.objs.size := by rw [hC]; exact Nat.le_succ _
  have below : ∀ b, b < s₂.heap.objs.size → b ≠ H2.objs.size ∧ b ≠ s₂.heap.objs.size := fun b hb => ⟨by rw [hC]; exact Nat.ne_of_lt (Nat.lt_succ_of_lt hb), Nat.ne_of_lt hb⟩
  have hDf : s₂.heap.objs.size ∉ fp := fun hm => Nat.lt_irrefl _ (hfp _ hm)
  have hCf : H2.objs.size ∉ fp := fun hm => by have := hfp _ hm; rw [hC] at this; exact Nat.lt_irrefl _ (Nat.lt_of_succ_lt this)
  have old : ∀ b o, s₂.heap.get? b = some o → h₁.get? b = some o := fun b o e => hsb₁.extBut b o (below b (Heap.lt_size e)).1 (Heap.get?_push_of_some _ (hH2 ▸ Heap.get?_push_of_some _ e))
  have hacc : h₁.IsList s₂.heap.objs.size #[] := ⟨_, hsb₁.extBut _ _ hDC (Heap.get?_push_of_some _ (hH2 ▸ Heap.get?_push_size _ rfl)), rfl, _, rfl⟩
  have hst₁ : St 0 h₁ := W.frame _ _ _ hst fun b _ o e => old b o e
  have fresh : ∀ a, s₂.heap.objs.size ≤ a → s₂.heap.get? a = none := fun a ha => by
    cases e : s₂.heap.get? a with
    | none => rfl
    | some o' => exact absurd (Heap.lt_size e) (Nat.not_lt.mpr ha)
  have hCw : H2.objs.size ∉ wr := fun h => hCf (W.sub _ h)
  have hDw : s₂.heap.objs.size ∉ wr := fun h => hDf (W.sub _ h)
  have oldN : ∀ b o, s₂.heap.get? b = some o → b ≠ H2.objs.size ∧ b ≠ s₂.heap.objs.size := fun b o e => below b (Heap.lt_size e)
  have loop : ∀ s₃ : Shared, s₃ = { s₂ with heap := h₁, toks := s₂.toks + ([] : List (Str × Value)).length } →
      codeAny (model prog w) A (.compLoop (.ListComp elt [⟨.Name x px, iter, ifs, 0⟩] scope pos) 0 (.ref I) (.ref s₂.heap.objs.size) (compEnvC scope cl H2.objs.size env))
        (RR (.ref s₂.heap.objs.size) H2.objs.size) s₃ := by
    rintro s₃ rfl
    refine codeAny_compLoop_tests (fun k s' => ∃ h' tk m' ys i, s' = { s₂ with heap := h', toks := tk } ∧ i ≤ n ∧ k = n + 1 - i ∧ St i h' ∧ h'.IsList s₂.heap.objs.size (List.toArray ys) ∧ h'.Ns H2.objs.size m' ∧ ys.length ≤ i ∧
      All2 (fun i y => F s₂.heap.objs.size i y h') ((List.range i).filter p) ys ∧ (∀ b o, b ∉ wr → s₂.heap.get? b = some o → h'.get? b = some o)) ?_ (n + 1)
      ⟨h₁, _, _, [], 0, rfl, Nat.zero_le _, rfl, hst₁, hacc, hns₁, Nat.le_refl _, .nil, fun b o _ e => old b o e⟩ hgo
    rintro k s' jw1
    refine hideG fun G hG => ?_
    obtain ⟨h', tk, m', ys, i, rfl, hi, rfl, st, hl, hn, hyl, hys, hk⟩ := jw1
    refine hG ?_
    have hDlt : s₂.heap.objs.size < h'.objs.size := by obtain ⟨o, e, _⟩ := hl; exact Heap.lt_size e
    by_cases hlt : i < n
    · refine W.item i _ _ _ hlt st fun v h₂ tk₂ hv st₂ hk₂ => ?_
      have hn₂ := hn.at' fun o e => hk₂ _ o hCw e
      refine wpAny_assign_Name (wpAny_storeName_local (lookup_relabel_local hx) hn₂ (fun h₃ hn₃ hs₃ => ?_) (by simp [compEnvC, relabel, hkind]))
      have hks : KSD s₂.heap.objs.size h' h₃ := KSD.tr (fun b o vs n _ hd e => hk₂ b o (fun hb => by obtain ⟨o', e', q⟩ := hwr b hb _ _ st; rw [e'] at e; cases e; exact q _ _ hd) e) (kSD_ks (kS_ns hn₂ hs₃))
      have up : ∀ b o, b ∉ wr → s₂.heap.get? b = some o → h₃.get? b = some o := fun b o hb e => hs₃.extBut b o (oldN b o e).1 (hk₂ b o hb (hk b o hb e))
      have hl₃ : h₃.IsList s₂.heap.objs.size ys.toArray := (hl.at fun o e => hk₂ _ o hDw e).extBut hs₃.extBut hDC
      have hl3lt : s₂.heap.objs.size < h₃.objs.size := by obtain ⟨o, e, _⟩ := hl₃; exact Heap.lt_size e
      have st₃ : St (i + 1) h₃ := W.frame _ _ _ st₂ fun b hb o e => hs₃.extBut b o (fun z => hCf ((show b = H2.objs.size from z) ▸ hb)) e
      obtain ⟨ht, he⟩ := helt i v H2.objs.size s₂.heap.objs.size { s₂ with heap := h₃, toks := tk₂ + 1 } _ (notedBy (model prog w) A (compEnvC scope cl H2.objs.size env) fun e s' => RR (.ref s₂.heap.objs.size) H2.objs.size (.error e) s') hlt hv hCle hn₃ (by simp) up hl3lt (Nat.le_refl _)
      have hrange : (List.range (i + 1)).filter p = (List.range i).filter p ++ (if p i = true then [i] else []) := by
        rw [List.range_succ, List.filter_append]; by_cases hp : p i = true <;> simp [hp]
      refine wpAny_mono ht (fun ok s₄ q => ?_) fun _ _ e => e
      obtain ⟨⟨h₄, tk₄, rfl, hk₄⟩, rfl⟩ := q
      dsimp only at hk₄
      by_cases hp : p i = true
      · simp only [hp, if_true]
        obtain ⟨ht', he'⟩ := helt i v H2.objs.size s₂.heap.objs.size { s₂ with heap := h₄, toks := tk₄ } _ (notedBy (model prog w) A (compEnvC scope cl H2.objs.size env) fun e s' => RR (.ref s₂.heap.objs.size) H2.objs.size (.error e) s') hlt hv hCle (Heap.Ns.keeps hn₃ hk₄) (by simp) (fun b o hb e => hk₄ b o (up b o hb e)) (by obtain ⟨o, e, _⟩ := hl₃; exact Heap.lt_size (hk₄ _ _ e)) (Nat.le_refl _)
        refine wpAny_mono (he' hp) (fun y s₅ q => ?_) fun _ _ e => e
        refine hideG fun G hG => ?_
        obtain ⟨fy, h₅, tk₅, rfl, hk₅⟩ := q
        refine hG ?_
        dsimp only at fy hk₅ ⊢
        have hl₅ : h₅.IsList s₂.heap.objs.size ys.toArray := hl₃.at fun o e => hk₅ _ _ (hk₄ _ _ e)
        refine wpAny_list_append hl₅ (fun h₆ hl₆ hs₆ => ?_) (by rw [List.size_toArray, sizeLine_eq]; omega)
        have k6 := kSD_same hs₆
        refine ⟨n + 1 - (i + 1), by omega, h₆, tk₅, _, ys ++ [y], i + 1, rfl, hlt, rfl, W.frame _ _ _ st₃ fun b hb o e => hs₆.extBut b o (fun z => hDf (z ▸ hb)) (hk₅ _ _ (hk₄ _ _ e)), by simpa using hl₆, (Heap.Ns.keeps (Heap.Ns.keeps hn₃ hk₄) hk₅).sameBut hs₆ (Ne.symm hDC), by simp; exact hyl, ?_, fun b o hb e => hs₆.extBut b o (oldN b o e).2 (hk₅ _ _ (hk₄ _ _ (up b o hb e)))⟩
        rw [hrange, if_pos hp]
        have kk : KSD s₂.heap.objs.size h' h₆ := (hks.tr (kSD_of hk₄)).tr ((kSD_of hk₅).tr k6)
        exact all2_snoc (fa2_mono (fun a b q => hF _ _ _ _ _ kk q) hys) (hF _ _ _ _ _ k6 fy)
      · simp only [hp]
        have kk : KSD s₂.heap.objs.size h' h₄ := hks.tr (kSD_of hk₄)
        refine ⟨n + 1 - (i + 1), by omega, h₄, tk₄, _, ys, i + 1, rfl, hlt, rfl, W.frame _ _ _ st₃ fun b hb o e => hk₄ _ _ e, hl₃.at fun o e => hk₄ _ _ e, Heap.Ns.keeps hn₃ hk₄, Nat.le_succ_of_le hyl, ?_, fun b o hb e => hk₄ _ _ (up b o hb e)⟩
        rw [hrange, if_neg hp, List.append_nil]
        exact fa2_mono (fun a b q => hF _ _ _ _ _ kk q) hys
    · have e : i = n := by omega
      subst e
      refine W.done _ _ _ st fun h₂ tk₂ hk₂ => ?_
      refine hRR _ _ h₂ tk₂ m' ys (Nat.le_refl _) (fresh _ hCle) hDC (hn.at' fun o e => hk₂ _ o hCw e) (hl.at fun o e => hk₂ _ o hDw e) ?_ fun b o hb e => hk₂ b o hb (hk b o hb e)
      have hks : KSD s₂.heap.objs.size h' h₂ := fun b o vs n _ hd e => hk₂ b o (fun hb => by obtain ⟨o', e', q⟩ := hwr b hb _ _ st; rw [e'] at e; cases e; exact q _ _ hd) e
      exact fa2_mono (fun a b q => hF _ _ _ _ _ hks q) hys
  exact codeAny_compStart_list (loop _ rfl) (W.self 0 _ _ _ hst₁ (loop _ rfl))
theorem listComp {s : Shared} {elt iter : PySem.Expr} {x : Str} {px : Pos} {ifs : List PySem.Expr} {scope : Scope} {cl : List (Str × Addr)} {pos : Pos} {Q : Value → Shared → Prop}
    (hclos : closureFor scope env = pure cl) (hcell : ∀ y ∈ scope.names, y.2 ≠ .cell) (hkind : scope.kind = .function)
    (hnames : ∀ y ∈ scope.names, y.2 = .local → scope.names.lookup y.1 = some .local) (hx : scope.names.lookup x = some .local)
    (h : wpAny (model prog w) A (eval iter env) (fun xv s₁ => wpAny (model prog w) A (pyIter xv) (fun it s₂ => ∃ I fp wr n P St p, ∃ F : Addr → Nat → Value → Heap → Prop, it = .ref I ∧ Walks prog w A I fp wr n P St ∧ n ≤ 1000 ∧ (∀ D i v h h', KSD D h h' → F D i v h → F D i v h') ∧ St 0 s₂.heap ∧ (∀ b ∈ fp, b < s₂.heap.objs.size) ∧
      (∀ b ∈ wr, ∀ h i, St i h → ∃ o, h.get? b = some o ∧ ∀ vs n, o.data ≠ .seq vs n) ∧
      (∀ i v C D s₃ m₃ E', i < n → P i v → s₂.heap.objs.size ≤ C → s₃.heap.Ns C m₃ → m₃ x = some v → (∀ b o, b ∉ wr → s₂.heap.get? b = some o → s₃.heap.get? b = some o) → D < s₃.heap.objs.size → s₂.heap.objs.size ≤ D →
        wpAny (model prog w) A (forIn ifs true fun c r => if r = true then do let ok ← isTrue c (compEnvC scope cl C env) (eval c (compEnvC scope cl C env)); pure (ForInStep.yield ok) else pure (ForInStep.yield r))
          (fun ok s₄ => Keeps s₃ s₄ ∧ ok = p i) E' s₃ ∧
        (p i = true → wpAny (model prog w) A (eval elt (compEnvC scope cl C env)) (fun y s₄ => F D i y s₄.heap ∧ Keeps s₃ s₄) E' s₃)) ∧
      (∀ D h' tk (ys : List Value), s₂.heap.objs.size ≤ D → h'.IsList D ys.toArray → All2 (fun i y => F D i y h') ((List.range n).filter p) ys → (∀ b o, b ∉ wr → s₂.heap.get? b = some o → h'.get? b = some o) → Q (.ref D) { s₂ with heap := h', toks := tk })) E s₁) E s)
    (hgo : ∀ I v, letOwnedTupleGo (.Name x px) (.ref I) v = pure () := by intro _ _; rfl) (hs : ∀ x, foldedSetIterable iter env x = pure x := by intro _; rfl) :
    wpAny (model prog w) A (eval (.ListComp elt [⟨.Name x px, iter, ifs, 0⟩] scope pos) env) Q E s := by
  rw [eval_ListComp]
  refine wpAny_comprehension_free (use := none) rfl hs hclos hkind hnames (wpAny_mono h (fun xv s₁ h₁ => wpAny_mono h₁ (fun it s₂ h₂ => ?_) fun _ _ e => e) fun _ _ e => e)
  refine hideG fun G hG => ?_
  obtain ⟨I, fp, wr, n, P, St, p, F, rfl, W, hsz, hF, hst, hfp, hwr, helt, hQ⟩ := h₂
  refine hG ?_
  refine compBlock (RR := fun acc C => compPost (model prog w) A E none Q acc C) W hsz p F hF hcell hkind hx hst hfp hwr helt ?_ (hgo I)
  intro D C h' tk m' ys hD hC hDC hn hl hys hk
  exact ⟨m', hn, fun h'' hs'' => hQ D h'' tk ys hD (hl.extBut hs''.extBut hDC) (fa2_mono (fun a b q => hF _ _ _ _ _ (kSD_ks (kS_ns hn hs'')) q) hys) fun b o hbf e => hs''.extBut b o (by rintro rfl; rw [hC] at e; cases e) (hk b o hbf e)⟩
/-- y = [..], y a local name -/
theorem assignComp {s s₀ : Shared} {m cm : Str → Option Value} {elt iter : PySem.Expr} {x y : Str} {px py : Pos} {ifs : List PySem.Expr} {scope : Scope} {cl : List (Str × Addr)} {pos spos : Pos} {Q : Flow → Shared → Prop}
    (hsw : swapsWith (.ListComp elt [⟨.Name x px, iter, ifs, 0⟩] scope pos) (some (.Name y py)) spos.line env = pure true)
    (hclos : closureFor scope env = pure cl) (hcell : ∀ y ∈ scope.names, y.2 ≠ .cell) (hkind : scope.kind = .function)
    (hnames : ∀ y ∈ scope.names, y.2 = .local → scope.names.lookup y.1 = some .local) (hx : scope.names.lookup x = some .local) (hy : env.kindOf y = some .local) (hek : env.scope.kind = .function)
    (h : wpAny (model prog w) A (eval iter env) (fun xv s₁ => wpAny (model prog w) A (pyIter xv) (fun it s₂ => ∃ I fp wr n P St p, ∃ F : Addr → Nat → Value → Heap → Prop, it = .ref I ∧ Walks prog w A I fp wr n P St ∧ n ≤ 1000 ∧ (∀ D i v h h', KSD D h h' → F D i v h → F D i v h') ∧ St 0 s₂.heap ∧ (∀ b ∈ fp, b < s₂.heap.objs.size) ∧
      (∀ b ∈ wr, ∀ h i, St i h → ∃ o, h.get? b = some o ∧ ∀ vs n, o.data ≠ .seq vs n) ∧ s₂.heap.Ns env.locals m ∧ env.locals ∉ wr ∧
      (∀ i v C D s₃ m₃ E', i < n → P i v → s₂.heap.objs.size ≤ C → s₃.heap.Ns C m₃ → m₃ x = some v → (∀ b o, b ∉ wr → s₂.heap.get? b = some o → s₃.heap.get? b = some o) → D < s₃.heap.objs.size → s₂.heap.objs.size ≤ D →
        wpAny (model prog w) A (forIn ifs true fun c r => if r = true then do let ok ← isTrue c (compEnvC scope cl C env) (eval c (compEnvC scope cl C env)); pure (ForInStep.yield ok) else pure (ForInStep.yield r))
          (fun ok s₄ => Keeps s₃ s₄ ∧ ok = p i) E' s₃ ∧
        (p i = true → wpAny (model prog w) A (eval elt (compEnvC scope cl C env)) (fun y s₄ => F D i y s₄.heap ∧ Keeps s₃ s₄) E' s₃)) ∧
      (∀ D h' tk (ys : List Value), s₂.heap.objs.size ≤ D → h'.IsList D ys.toArray → All2 (fun i y => F D i y h') ((List.range n).filter p) ys → h'.Ns env.locals (fun z => if z = y then some (.ref D) else m z) →
        (∀ b o, b ≠ env.locals → b ∉ wr → s₂.heap.get? b = some o → h'.get? b = some o) → Q .next { s₂ with heap := h', toks := tk })) E s₁) E s)
    (hgo : ∀ I v, letOwnedTupleGo (.Name x px) (.ref I) v = pure () := by intro _ _; rfl) (hs : ∀ x, foldedSetIterable iter env x = pure x := by intro _; rfl) :
    wpAny (model prog w) A (exec (.Assign [.Name y py] (.ListComp elt [⟨.Name x px, iter, ifs, 0⟩] scope pos) spos) env) Q E s := by
  rw [exec_Assign_Name_used _ _ _ _ hsw]
  refine wpAny_bind (wpAny_standAt (wpAny_bind ?_))
  show wpAny _ A (do let _ ← comprehension (.ListComp elt [⟨.Name x px, iter, ifs, 0⟩] scope pos) scope env _ (newList []) false (eval iter env) (some (assign (.Name y py) env))) _ _ s
  refine wpAny_bind (wpAny_mono (wpAny_comprehension_free (use := some (assign (.Name y py) env)) (Q := fun _ s' => Q .next s') rfl hs hclos hkind hnames
    (wpAny_mono h (fun xv s₁ h₁ => wpAny_mono h₁ (fun it s₂ h₂ => ?_) fun _ _ e => e) fun _ _ e => e)) (fun _ s' hq => wpAny_pure (wpAny_pure hq)) fun _ _ e => e)
  refine hideG fun G hG => ?_
  obtain ⟨I, fp, wr, n, P, St, p, F, rfl, W, hsz, hF, hst, hfp, hwr, hns, hLw, helt, hQ⟩ := h₂
  refine hG ?_
  refine compBlock (RR := fun acc C => compPost (model prog w) A E (some (assign (.Name y py) env)) (fun _ s' => Q .next s') acc C) W hsz p F hF hcell hkind hx hst hfp hwr helt ?_ (hgo I)
  intro D C h' tk m' ys hD hC hDC hn hl hys hk
  have hLC : env.locals ≠ C := by rintro e; obtain ⟨o, _, _, ho, _⟩ := hns; rw [e, hC] at ho; cases ho
  have hLD : env.locals ≠ D := Nat.ne_of_lt (Nat.lt_of_lt_of_le hns.lt hD)
  show wpAny _ A (assign (.Name y py) env (.ref D)) _ _ _
  have hns' := hns.at' fun o e => hk _ o hLw e
  refine wpAny_assign_Name (wpAny_storeName_local hy hns' (fun h₂ hn₂ hs₂ => ?_) (by rw [hek]; rfl))
  refine ⟨m', hn.sameBut hs₂ (Ne.symm hLC), fun h₃ hs₃ => ?_⟩
  have k1 : KSD D h' h₂ := kSD_ks (kS_ns hns' hs₂)
  have k2 : KSD D h₂ h₃ := kSD_ks (kS_ns (hn.sameBut hs₂ (Ne.symm hLC)) hs₃)
  refine hQ D h₃ _ ys hD ((hl.extBut hs₂.extBut (Ne.symm hLD)).extBut hs₃.extBut hDC) (fa2_mono (fun a b q => hF _ _ _ _ _ (k1.tr k2) q) hys) (hn₂.sameBut hs₃ hLC) fun b o hb hbf e => ?_
  exact hs₃.extBut b o (by rintro rfl; rw [hC] at e; cases e) (hs₂.extBut b o hb (hk b o hbf e))
end
end Mine
end
section
open PySem PySem.W PyProof.Rows
set_option maxRecDepth 100000
set_option linter.unusedVariables false
namespace Mine
noncomputable def NotSeq (o : Obj) : Prop := ∀ vs n, o.data ≠ .seq vs n
/-- what pyIter makes of xv walks over n items, of which P tells -/
noncomputable def IterOf (prog : Program) (w : World) (A : Around) (xv : Value) (n : Nat) (P : Nat → Value → Prop) (s₁ : Shared) : Prop :=
  ∀ (Q : Value → Shared → Prop) (E : Value → Shared → Prop), (∀ I s₂ fp wr St, Keeps s₁ s₂ → s₁.heap.objs.size ≤ s₂.heap.objs.size → Walks prog w A I fp wr n P St → St 0 s₂.heap → (∀ b ∈ fp, b < s₂.heap.objs.size) → (∀ b ∈ fp, s₁.heap.objs.size ≤ b ∨ xv = .ref b) → (∀ b ∈ wr, s₁.heap.objs.size ≤ b) →
    (∀ b ∈ wr, ∀ h i, St i h → ∃ o, h.get? b = some o ∧ NotSeq o) → Q (.ref I) s₂) → wpAny (model prog w) A (pyIter xv) Q E s₁
section
variable {prog : Program} {w : World} {A : Around} {E : Value → Shared → Prop} {env : Env} {s : Shared}
theorem iter_list {l : Addr} {vs : List Value} (hh : A.handled = none) (hl : s.heap.IsList l vs.toArray) : IterOf prog w A (.ref l) vs.length (fun i v => vs[i]? = some v) s := by
  intro Q E h
  have hlt : l < s.heap.objs.size := by obtain ⟨o, e, _⟩ := hl; exact Heap.lt_size e
  refine wpAny_pyIter_list hl ?_
  have W := Walks.list (prog := prog) (w := w) hh s.heap.objs.size l (Nat.ne_of_lt hlt) vs.toArray
  have W' : Walks prog w A s.heap.objs.size [s.heap.objs.size, l] [s.heap.objs.size] vs.length (fun i v => vs[i]? = some v) (fun i h => h.IsListIter s.heap.objs.size l i ∧ h.IsList l vs.toArray) := by simpa using W
  refine h _ _ _ _ _ (ks_push s _ _) (by show _ ≤ (s.heap.push _).objs.size; rw [Heap.size_push]; exact Nat.le_succ _) W' ⟨⟨_, Heap.get?_push_size _ rfl, rfl, rfl⟩, hl.push _⟩ ?_ ?_ ?_ ?_
  · intro b hb
    show b < (s.heap.push _).objs.size
    rw [Heap.size_push]
    simp only [List.mem_cons, List.not_mem_nil, or_false] at hb
    rcases hb with rfl | rfl
    · exact Nat.lt_succ_self _
    · exact Nat.lt_succ_of_lt hlt
  · intro b hb
    simp only [List.mem_cons, List.not_mem_nil, or_false] at hb
    rcases hb with rfl | rfl
    · exact .inl (Nat.le_refl _)
    · exact .inr rfl
  · intro b hb
    rw [List.mem_singleton.mp hb]
    exact Nat.le_refl _
  · intro b hb h i st
    rw [List.mem_singleton.mp hb]
    obtain ⟨⟨o, ho, _, hd⟩, _⟩ := st
    exact ⟨o, ho, fun vs n e => by rw [hd] at e; cases e⟩
theorem iter_range {r : Addr} {a b c : Int} {t u v : Tok} (hh : A.handled = none) (hr : IsRange s.heap r a b c t u v) (hsmall : Builtin.Range.small a b c = true) {n : Nat} (hn : Builtin.Range.rangeSize a b c = (n : Int)) :
    IterOf prog w A (.ref r) n (fun i v => ∃ t, v = .int (a + i * c) t) s := by
  intro Q E h
  refine wpAny_pyIter_range hr hsmall ?_
  rw [hn]
  refine h _ _ _ _ _ (ks_push s _ _) (by show _ ≤ (s.heap.push _).objs.size; rw [Heap.size_push]; exact Nat.le_succ _) (Walks.range hh s.heap.objs.size a c n) ?_ ?_ ?_ ?_ ?_
  · show IsRangeIter _ _ _ _ _
    simp only [Int.ofNat_zero, Int.zero_mul, Int.add_zero, Int.sub_zero]
    show (s.heap.push _).get? _ = _
    simpa using Heap.get?_push_size s.heap (o := { cls := .type "range_iterator", data := .fields #[rawInt a, rawInt (n : Int), rawInt c] }) rfl
  · intro b hb
    show b < (s.heap.push _).objs.size
    rw [Heap.size_push, List.mem_singleton.mp hb]
    exact Nat.lt_succ_self _
  · intro b hb
    rw [List.mem_singleton.mp hb]
    exact .inl (Nat.le_refl _)
  · intro b hb
    rw [List.mem_singleton.mp hb]
    exact Nat.le_refl _
  · intro b hb h i st
    rw [List.mem_singleton.mp hb]
    exact ⟨_, st, fun vs n e => by cases e⟩
/-- a list comprehension over anything that walks -/
theorem compOver {elt iter : PySem.Expr} {x : Str} {px : Pos} {ifs : List PySem.Expr} {scope : Scope} {cl : List (Str × Addr)} {pos : Pos} {Q : Value → Shared → Prop}
    (hclos : closureFor scope env = pure cl) (hcell : ∀ y ∈ scope.names, y.2 ≠ .cell) (hkind : scope.kind = .function)
    (hnames : ∀ y ∈ scope.names, y.2 = .local → scope.names.lookup y.1 = some .local) (hx : scope.names.lookup x = some .local)
    (h : ∀ Q' : Value → Shared → Prop, (∀ xv s₁, (∃ n P p, ∃ F : Addr → Nat → Value → Heap → Prop, IterOf prog w A xv n P s₁ ∧ n ≤ 1000 ∧ (∀ D i v h h', KSD D h h' → F D i v h → F D i v h') ∧
      (∀ i v C D s₃ m₃ E', i < n → P i v → s₁.heap.objs.size ≤ C → s₃.heap.Ns C m₃ → m₃ x = some v → Keep s₁.heap s₃.heap → D < s₃.heap.objs.size → s₁.heap.objs.size ≤ D →
        wpAny (model prog w) A (forIn ifs true fun c r => if r = true then do let ok ← isTrue c (compEnvC scope cl C env) (eval c (compEnvC scope cl C env)); pure (ForInStep.yield ok) else pure (ForInStep.yield r))
          (fun ok s₄ => Keeps s₃ s₄ ∧ ok = p i) E' s₃ ∧
        (p i = true → wpAny (model prog w) A (eval elt (compEnvC scope cl C env)) (fun y s₄ => F D i y s₄.heap ∧ Keeps s₃ s₄) E' s₃)) ∧
      (∀ D s' (ys : List Value), Keeps s₁ s' → s₁.heap.objs.size ≤ D → s'.heap.IsList D ys.toArray → All2 (fun i y => F D i y s'.heap) ((List.range n).filter p) ys → Q (.ref D) s')) → Q' xv s₁) → wpAny (model prog w) A (eval iter env) Q' E s)
    (hgo : ∀ I v, letOwnedTupleGo (.Name x px) (.ref I) v = pure () := by intro _ _; rfl) (hs : ∀ x, foldedSetIterable iter env x = pure x := by intro _; rfl) :
    wpAny (model prog w) A (eval (.ListComp elt [⟨.Name x px, iter, ifs, 0⟩] scope pos) env) Q E s := by
  refine listComp hclos hcell hkind hnames hx (wpAny_mono (h _ fun _ _ q => q) (fun xv s₁ q => ?_) fun _ _ e => e) hgo hs
  refine hideG fun G hG => ?_
  obtain ⟨n, P, p, F, hI, hn, hF, helt, hQ⟩ := q
  refine hG ?_
  refine hI _ _ fun I s₂ fp wr St k hz W st hfp hfp2 hwr hns => ?_
  have up : ∀ {h : Heap}, (∀ b o, b ∉ wr → s₂.heap.get? b = some o → h.get? b = some o) → Keep s₁.heap h := fun hk b o e => hk b o (fun hb => Nat.lt_irrefl _ (Nat.lt_of_lt_of_le (Heap.lt_size e) (hwr b hb))) (ks_keep k b o e)
  refine ⟨I, fp, wr, n, P, St, p, F, rfl, W, hn, hF, st, hfp, hns, fun i v C D s₃ m₃ E' hi hv hC hnC hm hk hD hD2 => ?_, fun D h' tk ys hD hl hys hk => ?_⟩
  · exact helt i v C D s₃ m₃ E' hi hv (Nat.le_trans hz hC) hnC hm (up hk) hD (Nat.le_trans hz hD2)
  · refine hQ D _ ys ?_ (Nat.le_trans hz hD) hl hys
    refine hideG fun G hG => ?_
    obtain ⟨h₂, tk₂, rfl, k₂⟩ := k
    refine hG ?_
    exact ⟨h', tk, rfl, up hk⟩
/-- y = [..] with y a local name, over anything that walks -/
theorem assignOver {s₀ : Shared} {m cm : Str → Option Value} {elt iter : PySem.Expr} {x y : Str} {px py : Pos} {ifs : List PySem.Expr} {scope : Scope} {cl : List (Str × Addr)} {pos spos : Pos} {Q : Flow → Shared → Prop}
    (hsw : swapsWith (.ListComp elt [⟨.Name x px, iter, ifs, 0⟩] scope pos) (some (.Name y py)) spos.line env = pure true)
    (hclos : closureFor scope env = pure cl) (hcell : ∀ y ∈ scope.names, y.2 ≠ .cell) (hkind : scope.kind = .function)
    (hnames : ∀ y ∈ scope.names, y.2 = .local → scope.names.lookup y.1 = some .local) (hx : scope.names.lookup x = some .local) (hy : env.kindOf y = some .local) (hek : env.scope.kind = .function)
    (h : ∀ Q' : Value → Shared → Prop, (∀ xv s₁, (∃ n P p, ∃ F : Addr → Nat → Value → Heap → Prop, InCallC s₀ env.locals m env.cells cm s₁ ∧ IterOf prog w A xv n P s₁ ∧ n ≤ 1000 ∧ (∀ D i v h h', KSD D h h' → F D i v h → F D i v h') ∧
      (∀ i v C D s₃ m₃ E', i < n → P i v → s₁.heap.objs.size ≤ C → s₃.heap.Ns C m₃ → m₃ x = some v → Keep s₁.heap s₃.heap → D < s₃.heap.objs.size → s₁.heap.objs.size ≤ D →
        wpAny (model prog w) A (forIn ifs true fun c r => if r = true then do let ok ← isTrue c (compEnvC scope cl C env) (eval c (compEnvC scope cl C env)); pure (ForInStep.yield ok) else pure (ForInStep.yield r))
          (fun ok s₄ => Keeps s₃ s₄ ∧ ok = p i) E' s₃ ∧
        (p i = true → wpAny (model prog w) A (eval elt (compEnvC scope cl C env)) (fun y s₄ => F D i y s₄.heap ∧ Keeps s₃ s₄) E' s₃)) ∧
      (∀ D s' (ys : List Value), InCallC s₀ env.locals (fun z => if z = y then some (.ref D) else m z) env.cells cm s' → KM [env.locals] s₁.heap s'.heap → KS s₁.heap s'.heap → s₁.heap.objs.size ≤ D → s'.heap.IsList D ys.toArray → All2 (fun i y => F D i y s'.heap) ((List.range n).filter p) ys → Q .next s')) → Q' xv s₁) → wpAny (model prog w) A (eval iter env) Q' E s)
    (hgo : ∀ I v, letOwnedTupleGo (.Name x px) (.ref I) v = pure () := by intro _ _; rfl) (hs : ∀ x, foldedSetIterable iter env x = pure x := by intro _; rfl) :
    wpAny (model prog w) A (exec (.Assign [.Name y py] (.ListComp elt [⟨.Name x px, iter, ifs, 0⟩] scope pos) spos) env) Q E s := by
  refine assignComp (s₀ := s₀) (m := m) (cm := cm) hsw hclos hcell hkind hnames hx hy hek (wpAny_mono (h _ fun _ _ q => q) (fun xv s₁ q => ?_) fun _ _ e => e) hgo hs
  refine hideG fun G hG => ?_
  obtain ⟨n, P, p, F, xc, hI, hn, hF, helt, hQ⟩ := q
  refine hG ?_
  refine hI _ _ fun I s₂ fp wr St k hz W st hfp hfp2 hwr hns => ?_
  have up : ∀ {h : Heap}, (∀ b o, b ∉ wr → s₂.heap.get? b = some o → h.get? b = some o) → Keep s₁.heap h := fun hk b o e => hk b o (fun hb => Nat.lt_irrefl _ (Nat.lt_of_lt_of_le (Heap.lt_size e) (hwr b hb))) (ks_keep k b o e)
  have hLlt : env.locals < s₁.heap.objs.size := xc.toInCall.ns.lt
  refine ⟨I, fp, wr, n, P, St, p, F, rfl, W, hn, hF, st, hfp, hns, xc.toInCall.ns.keeps (ks_keep k), fun hm => Nat.lt_irrefl _ (Nat.lt_of_lt_of_le hLlt (hwr _ hm)), fun i v C D s₃ m₃ E' hi hv hC hnC hm hk hD hD2 => ?_, fun D h' tk ys hD hl hys hn' hk => ?_⟩
  · exact helt i v C D s₃ m₃ E' hi hv (Nat.le_trans hz hC) hnC hm (up hk) hD (Nat.le_trans hz hD2)
  · have km : KM [env.locals] s₁.heap h' := fun b o hb e => hk b o (fun z => hb (by rw [z]; exact .head _)) (fun hb' => Nat.lt_irrefl _ (Nat.lt_of_lt_of_le (Heap.lt_size e) (hwr b hb'))) (ks_keep k b o e)
    refine hQ D _ ys ⟨⟨?_, hn', fun b o e => ?_, xc.toInCall.fresh⟩, fun nm c hc => ?_, xc.apart, xc.above⟩ km ?_ (Nat.le_trans hz hD) hl hys
    · refine hideG fun G hG => ?_
      obtain ⟨h₁, t₁, e₁⟩ := xc.toInCall.same
      obtain ⟨h₂, t₂, e₂, _⟩ := k
      refine hG ?_
      exact ⟨h', tk, by rw [e₂, e₁]⟩
    · refine km b o (fun z => ?_) (xc.toInCall.keep b o e)
      have q := Nat.lt_of_lt_of_le (Heap.lt_size e) xc.toInCall.fresh
      rw [List.mem_singleton.mp z] at q
      exact Nat.lt_irrefl _ q
    · refine hideG fun G hG => ?_
      obtain ⟨o, ho, hd⟩ := xc.cell nm c hc
      refine hG ?_
      refine ⟨o, km c o (fun z => ?_) ho, hd⟩
      have q := xc.above nm c (mem_of_lookup hc)
      rw [List.mem_singleton.mp z] at q
      exact Nat.lt_irrefl _ q
    · intro b o vs nn hd e
      refine km b o (fun z => ?_) e
      rw [List.mem_singleton.mp z] at e
      refine hideG fun G hG => ?_
      obtain ⟨o', es, ep, ho, hd', _⟩ := xc.toInCall.ns
      refine hG ?_
      rw [ho] at e
      cases e
      rw [hd] at hd'
      cases hd'
/-- a for loop over anything that walks -/
theorem forOver {target iter : PySem.Expr} {body orelse : List Stmt} {pos : Pos} {Q : Flow → Shared → Prop}
    (h : ∀ Q' : Value → Shared → Prop, (∀ xv s₁, (∃ n P M, ∃ J : Nat → Shared → Prop, IterOf prog w A xv n P s₁ ∧ (∀ b ∈ M, b < s₁.heap.objs.size ∧ xv ≠ .ref b) ∧
      (∀ i s h' tk, J i s → KS s.heap h' → (∀ b o, b < s₁.heap.objs.size → s.heap.get? b = some o → h'.get? b = some o) → J i { s with heap := h', toks := tk }) ∧ J 0 s₁ ∧
      (∀ i v s I E' Q', i < n → P i v → J i s → LoopQ (fun r s' => match r with | .ok f => Q f s' | .error e => cameBackBy (model prog w) A env E e s') (fun s₃ => KM M s.heap s₃.heap ∧ J (i + 1) s₃) Q' → wpAny (model prog w) A (letOwnedTupleGo target (.ref I) v) (fun _ s₁ => wpAny (model prog w) A (assign target env v) (fun _ s₂ => wpAny (model prog w) A (execs body env)
        Q' E' s₂) E' s₁) E' s) ∧
      (∀ s E', J n s → wpAny (model prog w) A (execs orelse env) Q E' s)) → Q' xv s₁) → wpAny (model prog w) A (eval iter env) Q' E s)
    (hs : ∀ x, foldedSetIterable iter env x = pure x := by intro _; rfl) :
    wpAny (model prog w) A (exec (.For target iter body orelse pos) env) Q E s := by
  refine wpAny_For (wpAny_mono (h _ fun _ _ q => q) (fun xv s₁ q => ?_) fun _ _ e => e) hs
  refine hideG fun G hG => ?_
  obtain ⟨n, P, M, J, hI, hM, hJ, j0, turn, done⟩ := q
  refine hG ?_
  refine hI _ _ fun I s₂ fp wr St k hz W st hfp hfp2 hwr hns => ?_
  refine forWalk W M (fun b hb hbM => ?_) J (fun i s h' tk j st' hk => ?_) (fun i v s E' Q' hi hv j lq => turn i v s I E' Q' hi hv j lq) (fun s E' j => done s E' j) st ?_
  · obtain ⟨h1, h2⟩ := hM b hbM
    rcases hfp2 b hb with q | q
    · exact Nat.lt_irrefl _ (Nat.lt_of_lt_of_le h1 q)
    · exact h2 q
  · refine hJ i s h' tk j (fun b o vs nn hd e => hk b o (fun hb => ?_) e) fun b o hb e => hk b o (fun hb' => Nat.lt_irrefl _ (Nat.lt_of_lt_of_le hb (hwr b hb'))) e
    refine hideG fun G hG => ?_
    obtain ⟨o', e', q⟩ := hns b hb _ _ st'
    refine hG ?_
    rw [e'] at e
    cases e
    exact q _ _ hd
  · refine hideG fun G hG => ?_
    obtain ⟨h₂, t₂, rfl, k₂⟩ := k
    refine hG ?_
    exact hJ 0 s₁ h₂ t₂ j0 (kS_of k₂) fun b o _ e => k₂ b o e
theorem iter_tuple {l : Addr} {vs : List Value} (hh : A.handled = none) (hl : s.heap.IsTuple l vs.toArray) : IterOf prog w A (.ref l) vs.length (fun i v => vs[i]? = some v) s := by
  intro Q E h
  have hlt : l < s.heap.objs.size := by obtain ⟨o, e, _⟩ := hl; exact Heap.lt_size e
  refine wpAny_pyIter_tuple hl ?_
  have W := Walks.tuple (prog := prog) (w := w) hh s.heap.objs.size l (Nat.ne_of_lt hlt) vs.toArray
  have W' : Walks prog w A s.heap.objs.size [s.heap.objs.size, l] [s.heap.objs.size] vs.length (fun i v => vs[i]? = some v) (fun i h => h.IsTupleIter s.heap.objs.size l i ∧ h.IsTuple l vs.toArray) := by simpa using W
  refine h _ _ _ _ _ (ks_push s _ _) (by show _ ≤ (s.heap.push _).objs.size; rw [Heap.size_push]; exact Nat.le_succ _) W' ⟨⟨_, Heap.get?_push_size _ rfl, rfl, rfl⟩, by obtain ⟨o, ho, r⟩ := hl; exact ⟨o, Heap.get?_push_of_some _ ho, r⟩⟩ ?_ ?_ ?_ ?_
  · intro b hb
    show b < (s.heap.push _).objs.size
    rw [Heap.size_push]
    simp only [List.mem_cons, List.not_mem_nil, or_false] at hb
    rcases hb with rfl | rfl
    · exact Nat.lt_succ_self _
    · exact Nat.lt_succ_of_lt hlt
  · intro b hb
    simp only [List.mem_cons, List.not_mem_nil, or_false] at hb
    rcases hb with rfl | rfl
    · exact .inl (Nat.le_refl _)
    · exact .inr rfl
  · intro b hb
    rw [List.mem_singleton.mp hb]
    exact Nat.le_refl _
  · intro b hb h i st
    rw [List.mem_singleton.mp hb]
    obtain ⟨⟨o, ho, _, hd⟩, _⟩ := st
    exact ⟨o, ho, fun vs n e => by rw [hd] at e; cases e⟩
end
end Mine
end
section
open PySem PySem.W PyProof.Rows
set_option maxRecDepth 100000
set_option linter.unusedVariables false
namespace Mine
theorem slot_wd_get : Slot "wrapper_descriptor" "__get__" "wrapper_descriptor.__get__" :=
  .of (owner := "wrapper_descriptor") (n := "__get__") (by rw [typeLookup_type, builtinLookup_eq_fast]; kernel_rfl) (by decide +kernel) (by decide +kernel) (by decide +kernel)
    (by first | exact .inl (by decide +kernel) | exact .inr (by decide +kernel)) (by rw [isSubtype_type]; kernel_rfl)
theorem entry_wd_get : entryFor table "wrapper_descriptor.__get__" = some Builtin.«wrapper_descriptor.__get__» := entryFor_of_tree (by kernel_rfl)
theorem args_wd_get (a b c : Value) : argsOk "wrapper_descriptor.__get__" ⟨[a, b, c], []⟩ := by unfold argsOk; kernel_rfl
theorem type_lc : typeOf (.builtin "list.__contains__") = pure (.type "wrapper_descriptor") := by show builtinType _ = _; rw [builtinType_eq_fast]; kernel_rfl
theorem wd_set : typeLookup (.type "wrapper_descriptor") "__set__" = pure none := by rw [typeLookup_type, builtinLookup_eq_fast]; kernel_rfl
theorem wd_del : typeLookup (.type "wrapper_descriptor") "__delete__" = pure none := by rw [typeLookup_type, builtinLookup_eq_fast]; kernel_rfl
theorem owner_lc : (".".intercalate ("list.__contains__".cutAt '.').dropLast) = "list" := by decide +kernel
theorem sub_lc : isSubtype (.type "list") (.type (".".intercalate ("list.__contains__".cutAt '.').dropLast)) = pure true := by rw [owner_lc, isSubtype_type]; kernel_rfl
noncomputable abbrev wrapObj (l : Addr) : Obj := { cls := .type "method-wrapper", data := .fields #[.builtin "list.__contains__", .ref l] }
section
variable {prog : Program} {w : World} {A : Around} {E : Value → Shared → Prop} {h : Heap} {g : Array GenState} {d : Drawn} {t : Nat} {os : OsState} {a : Addr} {o : Obj}
theorem lc_get {R : Result → Shared → Prop} (hx : h.get? a = some o) (hc : o.cls = .type "list") (hq : R (.ok (.ret (.ref h.objs.size))) ⟨h.push (wrapObj a), g, d, t, os⟩) :
    codeAny (model prog w) A (.call (.builtin "wrapper_descriptor.__get__") ⟨[.builtin "list.__contains__", .ref a, .type "list"], []⟩) R ⟨h, g, d, t, os⟩ := by
  have hT : (⟨h, g, d, t, os⟩ : Shared).TypeIs (.ref a) "list" := ⟨_, hx, hc⟩
  have hT5 : (⟨h, g, d, t, os⟩ : Shared).TypeIs (.builtin "list.__contains__") "wrapper_descriptor" := type_lc
  have f8 := sub_lc
  refine codeAny_call_builtin slot_wd_get.plain entry_wd_get (slot_wd_get.check _ _ _ _ _ _ _ _ hT5 (args_wd_get _ _ _) ?_)
  repeat (any_goals (first | assumption | wp_step))
noncomputable abbrev lstO (its : Array Value) (n : Nat) : Obj := { cls := .type "list", data := .seq its n }
theorem lc_entry {tk : Tok} {its : Array Value} {n : Nat} {Q : Fin → Shared → Prop} (hx : h.get? a = some (lstO its n)) (hq : Q (.done (.ret (.ref h.objs.size))) ⟨h.push (wrapObj a), g, d, t, os⟩) :
    wpAny (model prog w) A (Builtin.«object.__getattribute__» ⟨[.ref a, .str "__contains__" tk], []⟩) Q E ⟨h, g, d, t, os⟩ := by
  have hT : (⟨h, g, d, t, os⟩ : Shared).TypeIs (.ref a) "list" := ⟨_, hx, rfl⟩
  have hT5 : (⟨h, g, d, t, os⟩ : Shared).TypeIs (.builtin "list.__contains__") "wrapper_descriptor" := type_lc
  have f4 := PySem.F.slot_list_contains.lookup
  have f5 := type_lc
  have f6 := slot_wd_get.lookup
  have f7 := wd_set
  have f8 := wd_del
  repeat (any_goals (first | assumption | wp_step))
  refine lc_get hx rfl ?_
  repeat (any_goals (first | assumption | wp_step))
theorem lc_call {tk : Tok} {its : Array Value} {n : Nat} {R : Result → Shared → Prop} (hx : h.get? a = some (lstO its n)) (hq : R (.ok (.ret (.ref h.objs.size))) ⟨h.push (wrapObj a), g, d, t, os⟩) :
    codeAny (model prog w) A (.call (.builtin "list.__getattribute__") ⟨[.ref a, .str "__contains__" tk], []⟩) R ⟨h, g, d, t, os⟩ :=
  codeAny_call_builtin PySem.F.slot_list_getattribute.plain PySem.F.entry_list_ga (PySem.F.slot_list_getattribute.check _ _ _ _ _ _ _ _ (show (⟨h, g, d, t, os⟩ : Shared).TypeIs (.ref a) "list" from ⟨_, hx, rfl⟩) (PySem.F.args_list_getattribute_2 _ _) (lc_entry hx hq))
theorem lc_by {tk : Tok} {its : Array Value} {n : Nat} {b : Bool} {Q : Value → Shared → Prop} (hx : h.get? a = some (lstO its n)) (hq : Q (.ref h.objs.size) ⟨h.push (wrapObj a), g, d, t, os⟩) :
    wpAny (model prog w) A (getAttrBy (.ref a) (.str "__contains__" tk) true b) Q E ⟨h, g, d, t, os⟩ := by
  have hT : (⟨h, g, d, t, os⟩ : Shared).TypeIs (.ref a) "list" := ⟨_, hx, rfl⟩
  have f2 := PySem.F.slot_list_getattribute.lookup
  have f3 := PySem.F.slot_list_getattribute.bind (.ref a)
  repeat (any_goals (first | assumption | wp_step))
  have e : (b && onTheHeap (Value.builtin "list.__getattribute__")) = false := by cases b <;> rfl
  rw [e]
  simp only [Bool.false_eq_true, if_false]
  repeat (any_goals (first | assumption | wp_step))
  refine lc_call hx ?_
  repeat (any_goals (first | assumption | wp_step))
/-- the attribute __contains__ of a list: a new bound wrapper -/
theorem lc_attr {its : Array Value} {n : Nat} {b : Bool} {s : Shared} {Q : Value → Shared → Prop} (hx : s.heap.get? a = some (lstO its n)) (hq : Q (.ref s.heap.objs.size) { s with heap := s.heap.push (wrapObj a), toks := s.toks + 1 }) :
    wpAny (model prog w) A (getAttr (.ref a) "__contains__" b) Q E s := by
  refine hideG fun G hG => ?_
  obtain ⟨h, g, d, t, os⟩ := s
  refine hG ?_
  unfold getAttr
  exact wpAny_bind (wpAny_mkText (lc_by hx hq))
theorem bound_lc (a : Addr) (x : Value) : checkBoundCall "list.__contains__" ⟨[.ref a, x], []⟩ = pure () := by kernel_rfl
theorem eqv_ints (ns ms : List Int) : PyData.eqv (.list (ns.map PyData.int)) (.list (ms.map PyData.int)) = decide (ns = ms) := by
  rw [PyData.eqv]; exact ked_eqvAll ns ms
theorem canLay_lists : ∀ xss : List (List Int), PyData.canLayAll0 (xss.map fun xs => .list (xs.map PyData.int)) = true
  | [] => rfl
  | n :: r => by simp [PyData.canLayAll0, PyData.canLay0, canLay_lists r, PySem.W.canLayAll0_ints n]
theorem any_lists (ys : List Int) : ∀ xss : List (List Int), ((xss.map fun xs => PyData.list (xs.map PyData.int)).any fun z => PyData.eqv z (.list (ys.map PyData.int))) = decide (ys ∈ xss)
  | [] => rfl
  | x :: r => by
    rw [List.map_cons, List.any_cons, any_lists ys r, eqv_ints]
    by_cases e : x = ys
    · subst e; simp
    · simp [e, Ne.symm e]
/-- the bound __contains__ of a list of lists, called -/
theorem lc_in {mw l : Addr} {x : Value} {xss : List (List Int)} {ys : List Int} {s : Shared} {Q : Value → Shared → Prop} (hm : s.heap.get? mw = some (wrapObj l)) (hl : LL s.heap (.ref l) xss) (hx : LI s.heap x ys) (hu : A.units + 10 < cLine)
    (h : Q (.bool (decide (ys ∈ xss))) s) : wpAny (model prog w) A (call (.ref mw) [x]) Q E s := by
  refine hideG fun G hG => ?_
  obtain ⟨as, rx⟩ := liReads hx
  obtain ⟨l', vs, e, ⟨⟨cls, dd, data, sl⟩, ho, hc, n, hd⟩, hi⟩ := hl
  refine hG ?_
  cases e
  simp only at hc hd
  subst hc hd
  obtain ⟨bs, rs⟩ := llReadsAll hi
  refine wpAny_call (codeAny_of_tree ?_)
  show wpAny _ _ (callAny (.ref mw) _) _ _ _
  unfold callAny
  refine wpAny_bind (wpAny_load hm ?_)
  show wpAny _ _ (do checkBoundCall "list.__contains__" ⟨[.ref l, x], []⟩; again (.builtin "list.__contains__" ⟨[.ref l, x], []⟩)) _ _ s
  refine wpAny_bind (wpAny_of_eq (bound_lc l x) ?_)
  refine wpAny_pure ⟨plainId_quiet PySem.F.slot_list_contains.plain _, codeAny_builtin PySem.F.entry_list_contains ?_⟩
  rw [Around.under_plainId PySem.F.slot_list_contains.plain _]
  have g := PySem.SeqAt.list_containsAt l vs.toArray n dd sl x (fun y => PyData.eqv (PySem.SeqAt.readOf s.heap y) (.list (ys.map PyData.int))) prog w A (fun r s' => match r with | .ok (.ret v) => Q v s' | .ok _ => False | .error e => E e s') s
  refine g ⟨ho, ?_, ?_⟩
  · refine PySem.SeqAt.items_eqAt (by simpa using rs) rx (canLay_lists _) (PySem.W.canLayAll0_ints _) ?_
    have := PySem.W.depthAll_ints ys
    have h2 := Nat.min_le_right (PyData.depthAll (xss.map fun xs => PyData.list (xs.map PyData.int))) (PyData.list (ys.map PyData.int)).depth
    have h3 : (PyData.list (ys.map PyData.int)).depth = PyData.depthAll (ys.map PyData.int) + 1 := by rw [PyData.depth]
    omega
  · show Q (.bool (vs.toArray.any _)) s
    have e := PySem.SeqAt.readsAll_map _ _ _ (canLay_lists xss) rs
    have e2 : (vs.toArray.any fun y => PyData.eqv (PySem.SeqAt.readOf s.heap y) (.list (ys.map PyData.int))) = decide (ys ∈ xss) := by
      rw [← any_lists ys xss, ← e, List.any_map]
      simp
      rfl
    rw [e2]
    exact h
end
end Mine
end
section
open PySem PySem.W PyProof.Rows
set_option maxRecDepth 100000
set_option linter.unusedVariables false
namespace Mine
section
variable {prog : Program} {w : World} {A : Around} {E : Value → Shared → Prop} {s : Shared}
/-- next(it): the next item of a list's iterator -/
theorem next_item {it l : Addr} {i : Nat} {items : Array Value} {x : Value} {Q : Value → Shared → Prop} (hit : s.heap.IsListIter it l i) (hl : s.heap.IsList l items) (hx : items[i]? = some x)
    (hQ : ∀ h', h'.IsListIter it l (i + 1) → Heap.SameBut it s.heap h' → Q x { s with heap := h' }) : wpAny (model prog w) A (call (.builtin "next") [.ref it]) Q E s := by
  refine hideG fun G hG => ?_
  obtain ⟨o, ho, hc, hd⟩ := id hit
  obtain ⟨ol, hol, _, nl, hdl⟩ := hl
  refine hG ?_
  refine Calls.call_function_entry (by decide +kernel) (by decide +kernel) kdk_entry_next (kdk_args_next _) ?_
  unfold Builtin.«next»
  refine wpAny_bind (m := someArgs "next" 1 2 _) (wpAny_of_eq (a := [Value.ref it]) (by first | rfl | kernel_rfl!) ?_)
  dsimp only
  refine wpAny_bind (wpAny_specialOf (name := Str.ofString "__next__") hit.typeIs slot_listiter_next.lookup ?_)
  refine wpAny_ite_split (fun hab => absurd hab (by decide)) (fun _ => ?_)
  refine wpAny_bind (wpAny_callSpecial?_slot (name := Str.ofString "__next__") hit.typeIs slot_listiter_next
    (wpAny_call_entry slot_listiter_next hit.typeIs entry_listiter_next ?_ (args_listiter_next _)))
  show wpAny _ _ (field (.ref it) 0 >>= _) _ _ s
  refine wpAny_bind (wpAny_field ho hd (x := .ref l) rfl ?_)
  show wpAny _ _ (if (Value.ref l == Value.none) = true then _ else _) _ _ s
  rw [if_neg (show ¬ ((Value.ref l == Value.none) = true) from Bool.false_ne_true)]
  show wpAny _ _ (field (.ref it) 1 >>= _) _ _ s
  refine wpAny_bind (wpAny_field ho hd (x := .int i 0) rfl ?_)
  show wpAny _ _ (seqItems? (.ref l) >>= _) _ _ s
  refine wpAny_bind (wpAny_seqItems hol hdl ?_)
  simp only [Int.toNat_natCast, hx]
  refine wpAny_bind (wpAny_setField ho hd (by simp) (wpAny_pure ⟨x, rfl, wpAny_pure ⟨_, rfl, hQ _ ?_ (Heap.SameBut.update ..)⟩⟩))
  exact ⟨_, Heap.get?_update_self _ ho (Obj.isFreed_of_fields (Obj.data_mapFields hd _)), (Obj.cls_mapFields ..).trans hc, by
    rw [Obj.data_mapFields hd]; simp [rawInt]⟩
/-- next(it) at the end of a list's iterator: a new StopIteration -/
theorem next_end {it l : Addr} {i : Nat} {items : Array Value} {Q : Value → Shared → Prop} (hh : A.handled = none) (hit : s.heap.IsListIter it l i) (hl : s.heap.IsList l items) (hx : items[i]? = none)
    (hE : ∀ h' e, KM [it] s.heap h' → s.heap.objs.size ≤ e → (∃ ob t, h'.get? e = some ob ∧ ob.cls = .type "StopIteration" ∧ ob.data = .fields #[t, .none, .none, .none, .bool false, .none]) → E (.ref e) { s with heap := h' }) :
    wpAny (model prog w) A (call (.builtin "next") [.ref it]) Q E s := by
  refine hideG fun G hG => ?_
  obtain ⟨o, ho, hc, hd⟩ := id hit
  obtain ⟨ol, hol, _, nl, hdl⟩ := hl
  refine hG ?_
  refine Calls.call_function_entry (by decide +kernel) (by decide +kernel) kdk_entry_next (kdk_args_next _) ?_
  unfold Builtin.«next»
  refine wpAny_bind (m := someArgs "next" 1 2 _) (wpAny_of_eq (a := [Value.ref it]) (by first | rfl | kernel_rfl!) ?_)
  dsimp only
  refine wpAny_bind (wpAny_specialOf (name := Str.ofString "__next__") hit.typeIs slot_listiter_next.lookup ?_)
  refine wpAny_ite_split (fun hab => absurd hab (by decide)) (fun _ => ?_)
  refine wpAny_bind (wpAny_callSpecial?_slot (name := Str.ofString "__next__") hit.typeIs slot_listiter_next
    (wpAny_call_entry slot_listiter_next hit.typeIs entry_listiter_next ?_ (args_listiter_next _)))
  show wpAny _ _ (field (.ref it) 0 >>= _) _ _ s
  refine wpAny_bind (wpAny_field ho hd (x := .ref l) rfl ?_)
  show wpAny _ _ (if (Value.ref l == Value.none) = true then _ else _) _ _ s
  rw [if_neg (show ¬ ((Value.ref l == Value.none) = true) from Bool.false_ne_true)]
  show wpAny _ _ (field (.ref it) 1 >>= _) _ _ s
  refine wpAny_bind (wpAny_field ho hd (x := .int i 0) rfl ?_)
  show wpAny _ _ (seqItems? (.ref l) >>= _) _ _ s
  refine wpAny_bind (wpAny_seqItems hol hdl ?_)
  simp only [Int.toNat_natCast, hx]
  refine wpAny_bind (wpAny_rule (wpAny_bind (wpAny_setField ho hd (by simp) ?_)))
  show wpAny _ _ (newExc (.type "StopIteration") [] >>= _) _ _ _
  refine wpAny_bind ?_
  simp only [newExc, newTuple]
  refine wpAny_bind (wpAny_newObj_type ?_ (by size_fits))
  refine wpAny_bind (m := firstArgMember _ _) (wpAny_of_eq (a := Value.none) (by first | rfl | (simp only [firstArgMember]; rfl)) ?_)
  refine wpAny_newObj_type ?_ (by size_fits)
  simp only [raiseNew]
  refine wpAny_bind (wpAny_handled ?_)
  rw [show A.in1.in1.handled = none from hh]
  refine wpAny_bind (wpAny_pure (wpAny_throw ?_))
  refine hE _ _ (fun b o' hb e => ?_) ?_ ⟨_, _, Heap.get?_push_size _ rfl, rfl, rfl⟩
  · exact Heap.get?_push_of_some _ (Heap.get?_push_of_some _ ((Heap.SameBut.update ..).extBut b o' (fun z => hb (by rw [z]; exact .head _)) e))
  · rw [Heap.size_push, Heap.size_after_update]; exact Nat.le_succ _
end
end Mine
end
section
open PySem PySem.W PyProof.Rows
set_option maxRecDepth 100000
set_option linter.unusedVariables false
namespace Mine
/-- all stands; of the objects of S (frames) the slots may change -/
noncomputable def KFh (S : List Addr) (h h' : Heap) : Prop := (∀ b o, b ∉ S → h.get? b = some o → h'.get? b = some o) ∧ ∀ b o, h.get? b = some o → ∃ sl, h'.get? b = some { o with slots := sl }
noncomputable def KFs (S : List Addr) (s s' : Shared) : Prop := ∃ h' tk, s' = { s with heap := h', toks := tk } ∧ KFh S s.heap h'
theorem kfh_of {S : List Addr} {h h' : Heap} (k : Keep h h') : KFh S h h' := ⟨fun b o _ e => k b o e, fun b o e => ⟨o.slots, k b o e⟩⟩
theorem kfh_refl (S : List Addr) (h : Heap) : KFh S h h := kfh_of (kp_refl h)
theorem kfh_nil {a b : Heap} (x : KFh [] a b) : Keep a b := fun q o e => x.1 q o (fun z => by cases z) e
theorem kfs_of {S : List Addr} {s s' : Shared} (k : Keeps s s') : KFs S s s' := by obtain ⟨h, t, e, k⟩ := k; exact ⟨h, t, e, kfh_of k⟩
theorem kfs_refl (S : List Addr) (s : Shared) : KFs S s s := kfs_of (ks_refl s)
theorem kfs_nil {a b : Shared} (x : KFs [] a b) : Keeps a b := by obtain ⟨h, t, e, k⟩ := x; exact ⟨h, t, e, kfh_nil k⟩
theorem kfs_heap {S : List Addr} {a b : Shared} (x : KFs S a b) : KFh S a.heap b.heap := by obtain ⟨h, t, rfl, k⟩ := x; exact k
theorem kfh_list {S : List Addr} {h h' : Heap} (k : KFh S h h') {a : Addr} {vs : Array Value} (x : h.IsList a vs) : h'.IsList a vs := by
  obtain ⟨o, ho, hc, n, hd⟩ := x
  obtain ⟨sl, e⟩ := k.2 a o ho
  exact ⟨_, e, hc, n, hd⟩
theorem LI.kf {S : List Addr} {h h' : Heap} (k : KFh S h h') {v : Value} {xs : List Int} (x : LI h v xs) : LI h' v xs := by
  obtain ⟨a, vs, e, hl, hi⟩ := x
  exact ⟨a, vs, e, kfh_list k hl, hi⟩
theorem kfh_ns {S : List Addr} {h h' : Heap} (k : KFh S h h') {a : Addr} {m : Str → Option Value} (x : h.Ns a m) : h'.Ns a m := by
  obtain ⟨o, es, ep, ho, r⟩ := x
  obtain ⟨sl, e⟩ := k.2 a o ho
  exact ⟨_, es, ep, e, r⟩
theorem kfh_cell {S : List Addr} {h h' : Heap} (k : KFh S h h') {a : Addr} {v : Option Value} (x : h.IsCell a v) : h'.IsCell a v := by
  obtain ⟨o, ho, r⟩ := x
  obtain ⟨sl, e⟩ := k.2 a o ho
  exact ⟨_, e, r⟩
/-- a frame with cells over a base, up to the slots of the frames of S -/
structure FX (S : List Addr) (s₀ : Shared) (L : Addr) (m : Str → Option Value) (cs : List (Str × Addr)) (cm : Str → Option Value) (s : Shared) : Prop where
  same : ∃ h tk, s = { s₀ with heap := h, toks := tk }
  ns : s.heap.Ns L m
  keep : KFh S s₀.heap s.heap
  fresh : s₀.heap.objs.size ≤ L
  cell : ∀ n c, cs.lookup n = some c → s.heap.IsCell c (cm n)
  apart : cs.Pairwise fun x y => x.2 ≠ y.2
  above : ∀ n c, (n, c) ∈ cs → L < c
theorem fx_of {S : List Addr} {s₀ s : Shared} {L : Addr} {m cm : Str → Option Value} {cs : List (Str × Addr)} (x : InCallC s₀ L m cs cm s) : FX S s₀ L m cs cm s :=
  ⟨x.toInCall.same, x.toInCall.ns, kfh_of x.toInCall.keep, x.toInCall.fresh, x.cell, x.apart, x.above⟩
theorem FX.icc {s₀ s : Shared} {L : Addr} {m cm : Str → Option Value} {cs : List (Str × Addr)} (x : FX [] s₀ L m cs cm s) : InCallC s₀ L m cs cm s :=
  ⟨⟨x.same, x.ns, kfh_nil x.keep, x.fresh⟩, x.cell, x.apart, x.above⟩
theorem FX.kfs {S : List Addr} {s₀ s : Shared} {L : Addr} {m cm : Str → Option Value} {cs : List (Str × Addr)} (x : FX S s₀ L m cs cm s) : KFs S s₀ s := by
  obtain ⟨h, t, e⟩ := x.same
  subst e
  exact ⟨h, t, rfl, x.keep⟩
theorem FX.go {S : List Addr} {s₀ s s' : Shared} {L : Addr} {m cm : Str → Option Value} {cs : List (Str × Addr)} (x : FX S s₀ L m cs cm s) (k : KFs (L :: S) s s') : FX S s₀ L m cs cm s' := by
  obtain ⟨h', tk, rfl, hk⟩ := k
  refine ⟨?_, kfh_ns hk x.ns, ⟨fun b o hb e => ?_, fun b o e => ?_⟩, x.fresh, fun n c e => kfh_cell hk (x.cell n c e), x.apart, x.above⟩
  · obtain ⟨h, t, e⟩ := x.same; exact ⟨h', tk, by rw [e]⟩
  · refine hk.1 b o (fun z => ?_) (x.keep.1 b o hb e)
    rcases List.mem_cons.mp z with z | z
    · rw [z] at e; exact Nat.lt_irrefl _ (Nat.lt_of_lt_of_le (Heap.lt_size e) x.fresh)
    · exact hb z
  · obtain ⟨sl, e1⟩ := x.keep.2 b o e
    obtain ⟨sl2, e2⟩ := hk.2 b _ e1
    exact ⟨sl2, e2⟩
theorem FX.ks {S : List Addr} {s₀ s s' : Shared} {L : Addr} {m cm : Str → Option Value} {cs : List (Str × Addr)} (x : FX S s₀ L m cs cm s) (k : Keeps s s') : FX S s₀ L m cs cm s' := x.go (kfs_of k)
section
variable {prog : Program} {w : World} {A : Around} {E : Value → Shared → Prop} {s : Shared} {env : Env} {S : List Addr} {s₀ : Shared} {m cm : Str → Option Value}
theorem stLX {n : Str} {v : Value} {Q : Unit → Shared → Prop} (x : FX S s₀ env.locals m env.cells cm s) (hk : env.scope.kind = .function) (hl : env.kindOf n = some .local)
    (h : ∀ s', FX S s₀ env.locals (fun y => if y = n then some v else m y) env.cells cm s' → (∃ h' tk, s' = { s with heap := h', toks := tk }) → Heap.SameBut env.locals s.heap s'.heap → KS s.heap s'.heap → Q () s') : wpAny (model prog w) A (storeName env n v) Q E s := by
  refine wpAny_storeName_local hl x.ns (fun h' hn' hs' => h _ ⟨?_, hn', ⟨fun b o hb e => ?_, fun b o e => ?_⟩, x.fresh, fun k c hc => ?_, x.apart, x.above⟩ ⟨_, _, rfl⟩ hs' (kS_ns x.ns hs')) (by rw [hk]; rfl)
  · obtain ⟨h₁, tk, e⟩ := x.same
    exact ⟨h', _, by rw [e]⟩
  · exact hs'.extBut b o (Nat.ne_of_lt (Nat.lt_of_lt_of_le (Heap.lt_size e) x.fresh)) (x.keep.1 b o hb e)
  · obtain ⟨sl, e1⟩ := x.keep.2 b o e
    exact ⟨sl, hs'.extBut b _ (Nat.ne_of_lt (Nat.lt_of_lt_of_le (Heap.lt_size e) x.fresh)) e1⟩
  · exact (x.cell k c hc).sameBut hs' (Nat.ne_of_gt (x.above k c (mem_of_lookup hc)))
theorem stCX {n : Str} {c : Addr} {v : Value} {Q : Unit → Shared → Prop} (x : FX S s₀ env.locals m env.cells cm s) (hk : env.scope.kind = .function) (hl : env.kindOf n = some .cell) (hc : env.cells.lookup n = some c)
    (h : ∀ s', FX S s₀ env.locals m env.cells (fun y => if y = n then some v else cm y) s' → (∃ h' tk, s' = { s with heap := h', toks := tk }) → Heap.SameBut c s.heap s'.heap → KS s.heap s'.heap → Q () s') : wpAny (model prog w) A (storeName env n v) Q E s := by
  have hLc := x.above n c (mem_of_lookup hc)
  refine wpAny_storeName_cell hk hl hc (x.cell n c hc) fun h' hc' hs' => h _ ⟨?_, x.ns.sameBut hs' (Nat.ne_of_lt hLc), ⟨fun b o hb e => ?_, fun b o e => ?_⟩, x.fresh, fun k c' hk' => ?_, x.apart, x.above⟩ ⟨_, _, rfl⟩ hs' (kS_cell (x.cell n c hc) hs')
  · obtain ⟨h₁, tk, e⟩ := x.same
    exact ⟨h', _, by rw [e]⟩
  · exact hs'.extBut b o (Nat.ne_of_lt (Nat.lt_trans (Nat.lt_of_lt_of_le (Heap.lt_size e) x.fresh) hLc)) (x.keep.1 b o hb e)
  · obtain ⟨sl, e1⟩ := x.keep.2 b o e
    exact ⟨sl, hs'.extBut b _ (Nat.ne_of_lt (Nat.lt_trans (Nat.lt_of_lt_of_le (Heap.lt_size e) x.fresh) hLc)) e1⟩
  · by_cases hkn : k = n
    · subst hkn
      rw [hc] at hk'; cases hk'
      simpa using hc'
    · rw [if_neg hkn]
      exact (x.cell k c' hk').sameBut hs' fun e => hkn (name_of_addr x.apart (mem_of_lookup hk') (e ▸ mem_of_lookup hc))
theorem nmL {n : Str} {pos : Pos} {v : Value} {Q : Value → Shared → Prop} (x : FX S s₀ env.locals m env.cells cm s) (hk : env.scope.kind = .function) (hl : env.kindOf n = some .local)
    (hv : m n = some v) (h : Q v s) (hd : (n == ("__debug__" : Str)) = false) : wpAny (model prog w) A (eval (.Name n pos) env) Q E s := wpAny_Name (wpAny_loadName_local hk hl x.ns hv h) hd
theorem nmC {n : Str} {pos : Pos} {c : Addr} {v : Value} {Q : Value → Shared → Prop} (x : FX S s₀ env.locals m env.cells cm s) (hk : env.scope.kind = .function) (hl : env.kindOf n = some .cell)
    (hc : env.cells.lookup n = some c) (hv : cm n = some v) (h : Q v s) (hd : (n == ("__debug__" : Str)) = false) : wpAny (model prog w) A (eval (.Name n pos) env) Q E s := wpAny_Name (wpAny_loadName_cell hk hl hc (hv ▸ x.cell n c hc) h) hd
end
/-- the frames of a stack stand -/
noncomputable def FFr (h : Heap) (l : List Env) : Prop := ∀ env ∈ l, env.scope.kind ≠ .module ∧ ∃ L o, env.frame = some L ∧ h.get? L = some o ∧ ∀ vs, o.data ≠ .fields vs
theorem FFr.kf {S : List Addr} {h h' : Heap} (k : KFh S h h') {l : List Env} (x : FFr h l) : FFr h' l := fun env he => by
  obtain ⟨hk, L, o, hf, ho, hd⟩ := x env he
  obtain ⟨sl, e⟩ := k.2 L o ho
  exact ⟨hk, L, _, hf, e, hd⟩
noncomputable def hole (h : Heap) (S : List Addr) : Heap := ⟨h.objs.mapIdx fun i o => if S.contains i then { o with data := .freed } else o, h.life⟩
theorem hole_out {h : Heap} {S : List Addr} {b : Addr} (hb : b ∉ S) : (hole h S).get? b = h.get? b := by
  unfold hole Heap.get?
  simp only [Array.getElem?_mapIdx]
  cases h.objs[b]? with
  | none => rfl
  | some o => simp [hb]
theorem hole_in {h : Heap} {S : List Addr} {b : Addr} (hb : b ∈ S) : (hole h S).get? b = none := by
  unfold hole Heap.get?
  simp only [Array.getElem?_mapIdx]
  cases h.objs[b]? with
  | none => rfl
  | some o => simp [hb]
theorem fun_of {h : Heap} {base : Heap} : ∀ {l : List Env}, FFr h l → (∀ b ∈ l.filterMap (·.frame), base.get? b = none) → h.FunFrames base l
  | [], _, _ => trivial
  | env :: r, x, hb => by
    obtain ⟨hk, L, o, hf, ho, hd⟩ := x env (.head _)
    exact ⟨hk, ⟨L, o, hf, hb L (by rw [List.filterMap_cons, hf]; exact .head _), ho, hd⟩, fun_of (fun e he => x e (.tail _ he)) fun b hm => hb b (by rw [List.filterMap_cons, hf]; exact .tail _ hm)⟩
/-- a new exception leaves the frame in which it came to be -/
theorem leaveNew {M : Model} {A : Around} {E : Value → Shared → Prop} {s : Shared} {env : Env} {outer : List Env} {L e : Addr} {Q : Unit → Shared → Prop} {ob : Obj} {t : Value} (hfr : A.frames = some (env :: outer)) (hf : env.frame = some L) (fr : FFr s.heap (env :: outer))
    (he : s.heap.get? e = some ob) (hd : ob.data = .fields #[t, .none, .none, .none, .bool false, .none])
    (hQ : ∀ h', (∀ b o, b ≠ e → b ∉ (env :: outer).filterMap (·.frame) → s.heap.get? b = some o → h'.get? b = some o) → (∀ b o, b ≠ e → s.heap.get? b = some o → ∃ sl, h'.get? b = some { o with slots := sl }) → (∃ ob', h'.get? e = some ob' ∧ ob'.cls = ob.cls) → Q () { s with heap := h' }) :
    wpAny M A (leaving env (.ref e)) Q E s := by
  have hbase : ∀ b, b ∉ e :: (env :: outer).filterMap (·.frame) → (hole s.heap (e :: (env :: outer).filterMap (·.frame))).get? b = s.heap.get? b := fun b hb => hole_out hb
  refine wpAny_leaving_first (base := hole s.heap (e :: (env :: outer).filterMap (·.frame))) hfr (fun_of fr fun b hb => hole_in (.tail _ hb)) hf he (fun b o hb => ?_) (hole_in (.head _)) hd rfl fun h' hL => ?_
  · by_cases hm : b ∈ e :: (env :: outer).filterMap (·.frame)
    · rw [hole_in hm] at hb; cases hb
    · rw [hole_out hm] at hb; exact hb
  · obtain ⟨k1, k2, ⟨oe, vs, T, oT, ts, g1, g2, _⟩, k4⟩ := hL
    have out : ∀ b o, b ≠ e → b ∉ (env :: outer).filterMap (·.frame) → s.heap.get? b = some o → h'.get? b = some o := fun b o h1 h2 h3 => k1 b o ((hole_out (fun z => by rcases List.mem_cons.mp z with z | z; exact h1 z; exact h2 z)).trans h3)
    refine hQ h' out (fun b o h1 h3 => ?_) ⟨oe, g1, g2⟩
    by_cases hm : b ∈ (env :: outer).filterMap (·.frame)
    · refine k4 b o h3 ?_
      obtain ⟨en, hen, hfe⟩ := List.mem_filterMap.mp hm
      obtain ⟨_, L', o', hf', ho', hd'⟩ := fr en hen
      rw [hfe] at hf'
      cases hf'
      rw [h3] at ho'
      cases ho'
      exact hd'
    · exact ⟨o.slots, out b o h1 hm h3⟩
end Mine
end
section
open PySem PySem.W PyProof.Rows
set_option maxRecDepth 100000
set_option linter.unusedVariables false
namespace Mine
/-- the j-th statement of the class that is the i-th statement of the text, when it is a def -/
noncomputable def methNo (i j : Nat) : Arguments × List Stmt × Scope :=
  match (PySem.Challenge.pw_il0049_01.main.body.drop i).headD (.Pass default) with
  | .ClassDef _ _ _ body _ _ _ _ _ _ _ => match (body.drop j).headD (.Pass default) with
    | .FunctionDef _ a b _ _ _ sc _ _ _ => (a, b, sc)
    | _ => (⟨[], [], none, [], [], none, []⟩, [], default)
  | _ => (⟨[], [], none, [], [], none, []⟩, [], default)
/-- a function object's data: name, qualname, def, closure, defaults -/
noncomputable def fdM (n q : String) (x : Arguments × List Stmt × Scope) (cl : List (Str × Addr)) (dV doc pm ct : Value) (c : Addr) : FuncData :=
  { name := Str.ofString n, qualname := Str.ofString q, params := x.1, body := .stmts x.2.1, scope := x.2.2,
    globals := mainGlobals, closure := cl, defaults := dV, kwdefaults := .none, doc := doc, pyModule := pm, annotations := none, code := .ref c, closureTuple := ct, builtins := builtinsNs }
/-- it stands in the heap, with its code object -/
noncomputable def FnM (h : Heap) (a : Addr) (n q : String) (x : Arguments × List Stmt × Scope) : Prop := ∃ doc pm ct c o, h.get? a = some o ∧ o.data = .func (fdM n q x [] .none doc pm ct c) ∧ h.CodeRec (.ref c) (Str.ofString q)
theorem kfh_code {S : List Addr} {h h' : Heap} (k : KFh S h h') {cd : Value} {q : Str} (x : h.CodeRec cd q) : h'.CodeRec cd q := by
  refine hideG fun G hG => ?_
  obtain ⟨c, o, vs, t, e, ho, r⟩ := x
  obtain ⟨sl, e1⟩ := k.2 c o ho
  refine hG ?_
  exact ⟨c, _, vs, t, e, e1, r⟩
theorem FnM.kf {S : List Addr} {h h' : Heap} (k : KFh S h h') {a : Addr} {n q : String} {x : Arguments × List Stmt × Scope} (f : FnM h a n q x) : FnM h' a n q x := by
  refine hideG fun G hG => ?_
  obtain ⟨doc, pm, ct, c, o, ho, hd, hc⟩ := f
  obtain ⟨sl, e⟩ := k.2 a o ho
  refine hG ?_
  exact ⟨doc, pm, ct, c, _, e, hd, kfh_code k hc⟩
theorem kfh_lim {S : List Addr} {h h' : Heap} (k : KFh S h h') (x : h.NoLimit) : h'.NoLimit := by
  refine hideG fun G hG => ?_
  obtain ⟨mc, hn, e⟩ := x
  refine hG ?_
  exact ⟨mc, kfh_ns k hn, e⟩
noncomputable abbrev envM (n q : String) (x : Arguments × List Stmt × Scope) (doc pm ct : Value) (c L a : Addr) : Env := callEnvC (fdM n q x [] .none doc pm ct c) L a
section
variable {prog : Program} {w : World} {A : Around} {E : Value → Shared → Prop} {s : Shared}
/-- the call of a def, what it raises is not passed over -/
theorem callX (S : List Addr) {n q : String} {x : Arguments × List Stmt × Scope} {a : Addr} {vals : List Value} {binds : List (Str × Value)} {Q : Value → Shared → Prop} (hroom : A.depth < recursionLimit) (f : FnM s.heap a n q x) (lim : s.heap.NoLimit)
    (hbind : ∀ doc pm ct c, bindArgs (fdM n q x [] .none doc pm ct c) ⟨vals, []⟩ = pure binds)
    (hkind : ∀ y ∈ binds, x.2.2.names.lookup y.1 = some .local ∨ (x.2.2.names.lookup y.1 = some .cell ∧ ((cellsFrom (s.heap.objs.size + 1) x.2.2.names []).lookup y.1).isSome = true))
    (h : ∀ doc pm ct c s₁, FX S s s.heap.objs.size (bindL (envM n q x doc pm ct c s.heap.objs.size a).kindOf binds fun _ => none) (cellsFrom (s.heap.objs.size + 1) x.2.2.names [])
        (bindC (envM n q x doc pm ct c s.heap.objs.size a).kindOf binds fun _ => none) s₁ →
      wpAny (model prog w) (A.deeper (envM n q x doc pm ct c s.heap.objs.size a)) (execs x.2.1 (envM n q x doc pm ct c s.heap.objs.size a)) (fun f s' => Q (retOf f) s')
        (fun e s' => wpAny (model prog w) (A.deeper (envM n q x doc pm ct c s.heap.objs.size a)) (leaving (envM n q x doc pm ct c s.heap.objs.size a) e) (fun _ s'' => E e s'') E s') s₁)
    (hco : x.2.2.isCoroutine = false := by rfl) (hgen : x.2.2.isGenerator = false := by rfl) (hk : x.2.2.kind = .function := by rfl) :
    wpAny (model prog w) A (call (.ref a) vals) Q E s := by
  refine hideG fun G hG => ?_
  obtain ⟨doc, pm, ct, c, o, ho, hd, hc⟩ := f
  refine hG ?_
  refine wpAny_call ?_
  refine codeAny_call_cells hroom ho hd lim hc rfl (hbind doc pm ct c) rfl hkind (fun s₁ y => ?_) hco hgen hk
  refine wpAny_mono (h doc pm ct c s₁ (fx_of y)) (fun f s' q => by cases f <;> exact q) fun e s' q => ?_
  exact wpAny_mono q (fun _ _ q => q) fun _ _ q => q
/-- the call of a def, what follows it is hidden -/
theorem callY (S : List Addr) {n q : String} {x : Arguments × List Stmt × Scope} {a : Addr} {vals : List Value} {binds : List (Str × Value)} {Q : Value → Shared → Prop} (hroom : A.depth < recursionLimit) (f : FnM s.heap a n q x) (lim : s.heap.NoLimit)
    (hbind : ∀ doc pm ct c, bindArgs (fdM n q x [] .none doc pm ct c) ⟨vals, []⟩ = pure binds)
    (hkind : ∀ y ∈ binds, x.2.2.names.lookup y.1 = some .local ∨ (x.2.2.names.lookup y.1 = some .cell ∧ ((cellsFrom (s.heap.objs.size + 1) x.2.2.names []).lookup y.1).isSome = true))
    (h : ∀ doc pm ct c s₁ (E' : Value → Shared → Prop) (Q' : Flow → Shared → Prop), (∀ v s', Q v s' → Q' (.ret v) s') → FX S s s.heap.objs.size (bindL (envM n q x doc pm ct c s.heap.objs.size a).kindOf binds fun _ => none) (cellsFrom (s.heap.objs.size + 1) x.2.2.names [])
        (bindC (envM n q x doc pm ct c s.heap.objs.size a).kindOf binds fun _ => none) s₁ →
      wpAny (model prog w) (A.deeper (envM n q x doc pm ct c s.heap.objs.size a)) (execs x.2.1 (envM n q x doc pm ct c s.heap.objs.size a)) Q' E' s₁)
    (hco : x.2.2.isCoroutine = false := by rfl) (hgen : x.2.2.isGenerator = false := by rfl) (hk : x.2.2.kind = .function := by rfl) :
    wpAny (model prog w) A (call (.ref a) vals) Q E s :=
  callX S hroom f lim hbind hkind (fun doc pm ct c s₁ y => h doc pm ct c s₁ _ _ (fun _ _ q => q) y) hco hgen hk
/-- a slot of an object is read -/
theorem getSlot {K : Frag} {C p x : Addr} {ox : Obj} {name : Str} {i : Nat} {v : Value} {expr : Bool} {od : Option Obj} {Q : Value → Shared → Prop} (X : K.In s.heap) (I : PySem.W.InstAt s.heap x ox C od)
    (hga : findIn K (.ref C) "__getattribute__" = some (some (.builtin "object.__getattribute__"))) (hk : findIn K (.ref C) "__getattr__" = some none)
    (hf : findObj K C od name = some (.bind (.builtin "member_descriptor.__get__") (.ref p))) (hp : slotIn K p C = some i) (hv : (ox.slots[i]?).join = some v) (hh : handedIn v = true)
    (h : Q v { s with toks := s.toks + 1 }) : wpAny (model prog w) A (getAttr (.ref x) name expr) Q E s :=
  get_bind X I hga hf hk (wpAny_call (slot_get (s := { s with toks := s.toks + 1 }) X I hp hv (handed_on hh h)))
/-- the call of a bound wrapper that stands as a value -/
theorem cw_wrap {env : Env} {pos : Pos} {mw l : Addr} {e : PySem.Expr} {Q : Value → Shared → Prop} (h : wpAny (model prog w) A (eval e env) (fun v s₁ => s₁.heap.get? mw = some (wrapObj l) ∧ wpAny (model prog w) A (call (.ref mw) [v]) Q E s₁) E s) :
    wpAny (model prog w) A (callWith pos (.ref mw) [] [(false, eval e env)] []) Q E s := by
  refine callWith_of (P := fun h => h.get? mw = some (wrapObj l)) rfl (fun h hm => ⟨.machine, .inr (.inl rfl), fun A Q E s k q => ?_⟩) (Calls.evalArgs_plain (Calls.spliced_cons (wpAny_mono h (fun v s₁ q => Calls.spliced_nil q) fun _ _ q => q)))
  unfold keeperOf
  exact wpAny_bind (wpAny_load (k _ _ hm) (wpAny_pure q))
end
theorem hole_kf {S M : List Addr} {a b : Heap} (k : KFh S a b) : KFh S (hole a M) b := by
  refine ⟨fun q o hq e => ?_, fun q o e => ?_⟩
  · by_cases hm : q ∈ M
    · rw [hole_in hm] at e; cases e
    · rw [hole_out hm] at e; exact k.1 q o hq e
  · by_cases hm : q ∈ M
    · rw [hole_in hm] at e; cases e
    · rw [hole_out hm] at e; exact k.2 q o e
theorem hole_size (h : Heap) (M : List Addr) : (hole h M).objs.size = h.objs.size := by simp [hole]
theorem FX.hole {S : List Addr} {s₀ s : Shared} {L : Addr} {m cm : Str → Option Value} {cs : List (Str × Addr)} (x : FX S s₀ L m cs cm s) (M : List Addr) : FX S { s₀ with heap := Mine.hole s₀.heap M } L m cs cm s := by
  refine ⟨?_, x.ns, hole_kf x.keep, by show (Mine.hole s₀.heap M).objs.size ≤ L; rw [hole_size]; exact x.fresh, x.cell, x.apart, x.above⟩
  refine hideG fun G hG => ?_
  obtain ⟨h, t, e⟩ := x.same
  refine hG ?_
  exact ⟨h, t, by rw [e]⟩
/-- an object that is no part of the base, of the frame or of a cell is changed -/
theorem FX.step {S : List Addr} {s₀ s : Shared} {L it : Addr} {m cm : Str → Option Value} {cs : List (Str × Addr)} {h' : Heap} (x : FX S s₀ L m cs cm s) (hs : KM [it] s.heap h') (h0 : s₀.heap.get? it = none) (hi : ∃ o vs, s.heap.get? it = some o ∧ o.data = .fields vs) (tk : Nat) :
    FX S s₀ L m cs cm { s with heap := h', toks := tk } := by
  refine hideG fun G hG => ?_
  obtain ⟨oi, vs, ho, hd⟩ := hi
  refine hG ?_
  have hL : L ≠ it := by
    rintro rfl
    refine hideG fun G hG => ?_
    obtain ⟨o, es, ep, e, q, _⟩ := x.ns
    refine hG ?_
    rw [ho] at e; cases e; rw [hd] at q; cases q
  refine ⟨?_, ?_, ⟨fun b o hb e => ?_, fun b o e => ?_⟩, x.fresh, fun n c hc => ?_, x.apart, x.above⟩
  · refine hideG fun G hG => ?_
    obtain ⟨h, t, e⟩ := x.same
    refine hG ?_
    exact ⟨h', tk, by rw [e]⟩
  · refine hideG fun G hG => ?_
    obtain ⟨o, es, ep, e, r⟩ := x.ns
    refine hG ?_
    exact ⟨o, es, ep, hs _ _ (by simpa using hL) e, r⟩
  · exact hs b o (fun z => by rw [List.mem_singleton.mp z, h0] at e; cases e) (x.keep.1 b o hb e)
  · obtain ⟨sl, e1⟩ := x.keep.2 b o e
    exact ⟨sl, hs b _ (fun z => by rw [List.mem_singleton.mp z, h0] at e; cases e) e1⟩
  · refine hideG fun G hG => ?_
    obtain ⟨o, e, r⟩ := x.cell n c hc
    refine hG ?_
    refine ⟨o, hs c o (fun z => ?_) e, r⟩
    rw [List.mem_singleton.mp z, ho] at e
    cases e
    rw [hd] at r
    cases r
end Mine
end
section
open PySem PySem.W PyProof.Rows
set_option maxRecDepth 100000
set_option linter.unusedVariables false
namespace Mine
noncomputable abbrev fltDict : Obj := { cls := .type "dict", data := .dict #[] }
/-- what is asked of the written part of the heap about the class filterfalse -/
structure FltOk (K : Frag) : Prop where
  low : ∀ p ∈ K, p.1 < 158
  ga : findIn K (.ref 47) "__getattribute__" = some (some (.builtin "object.__getattribute__"))
  gt : findIn K (.ref 47) "__getattr__" = some none
  ff : findObj K 47 (some fltDict) "_func" = some (.bind (.builtin "member_descriptor.__get__") (.ref 48))
  fi : findObj K 47 (some fltDict) "_it" = some (.bind (.builtin "member_descriptor.__get__") (.ref 49))
  sf : slotIn K 48 47 = some 0
  si : slotIn K 49 47 = some 1
  nx : findIn K (.ref 47) "__next__" = some (some (.ref 43))
  nxf : isFn K (.ref 43) = true
  itr : findIn K (.ref 47) "__iter__" = some (some (.ref 36))
  itf : isFn K (.ref 36) = true
  noLen : findIn K (.ref 47) "__len__" = some none
  noHint : findIn K (.ref 47) "__length_hint__" = some none
noncomputable abbrev fltObj (mw it dx : Addr) : Obj := { cls := .ref 47, dict := some dx, data := .plain, slots := #[some (.ref mw), some (.ref it)] }
theorem all2_at {α β : Type} {R : α → β → Prop} : ∀ {l : List α} {m : List β} {i : Nat} {a : α}, All2 R l m → l[i]? = some a → ∃ b, m[i]? = some b ∧ R a b
  | _, _, 0, _, .cons h t, e => by cases e; exact ⟨_, rfl, h⟩
  | _, _, i + 1, _, .cons h t, e => by
    refine hideG fun G hG => ?_
    obtain ⟨b, q, r⟩ := all2_at (i := i) t (by simpa using e)
    refine hG ?_
    exact ⟨b, by simpa using q, r⟩
section
variable {prog : Program} {w : World} {A : Around} {E : Value → Shared → Prop} {s : Shared}
/-- the frame of __next__ within the loop -/
structure NF (S : List Addr) (s₀ : Shared) (L mw it fl : Addr) (x : Addr) (cs : List (Str × Addr)) (j : Nat) (s : Shared) : Prop where
  fx : ∃ m cm, FX S s₀ L m cs cm s ∧ m (Str.ofString "self") = some (.ref x) ∧ m (Str.ofString "func") = some (.ref mw)
  it : s.heap.IsListIter it fl j
theorem fltNext {S : List Addr} {outer : List Env} {mg mb : Str → Option Value} {K : Frag} {x mw it sk fl dx : Addr} {vs : List Value} {cands seen : List (List Int)} {j : Nat} {Q : Value → Shared → Prop}
    (hroom : A.depth < recursionLimit) (hu : A.units + 40 < cLine) (hh : A.handled = none) (hfr : A.frames = some outer) (fr : FFr s.heap outer) (hS : S = outer.filterMap (·.frame))
    (ok : FltOk K) (X : K.In s.heap) (fn : FnM s.heap 43 "__next__" "filterfalse.__next__" (methNo 1 3)) (lim : s.heap.NoLimit) (g : s.heap.Ns mainGlobals mg) (b : s.heap.Ns builtinsNs mb)
    (g1 : mg (Str.ofString "next") = none) (b1 : mb (Str.ofString "next") = some (.builtin "next")) (g2 : mg (Str.ofString "bool") = none) (b2 : mb (Str.ofString "bool") = some (.type "bool"))
    (hK : ∀ q ∈ S, 158 ≤ q) (hit2 : K.lookup it = none) (hxS : x ∉ S) (hmS : mw ∉ S) (hdS : dx ∉ S) (hdx : s.heap.get? dx = some fltDict) (hx : s.heap.get? x = some (fltObj mw it dx)) (hm : s.heap.get? mw = some (wrapObj sk)) (hs : LL s.heap (.ref sk) seen) (hit : s.heap.IsListIter it fl j) (hl : s.heap.IsList fl vs.toArray) (hc : All2 (LI s.heap) vs cands)
    (hQ : ∀ (k : Nat) v s', j ≤ k → vs[k]? = some v → (∀ c, cands[k]? = some c → c ∉ seen) → (∀ i c, j ≤ i → i < k → cands[i]? = some c → c ∈ seen) → KFs S { s with heap := hole s.heap [it] } s' → s'.heap.IsListIter it fl (k + 1) → Q v s')
    (hE : (∀ i c, j ≤ i → cands[i]? = some c → c ∈ seen) → ∀ e s', KFs S { s with heap := hole s.heap [it] } s' → (∃ ob, s'.heap.get? e = some ob ∧ ob.cls = .type "StopIteration") → E (.ref e) s') :
    wpAny (model prog w) A (call (.ref 43) [.ref x]) Q E s := by
  refine callX S (binds := [(Str.ofString "self", .ref x)]) hroom fn lim (fun _ _ _ _ => by rfl) ?_ fun doc pm ct c s₁ f => ?_
  · intro y hy
    rcases List.mem_singleton.mp hy with rfl
    exact .inl rfl
  have hfr' : (A.deeper (envM "__next__" "filterfalse.__next__" (methNo 1 3) doc pm ct c s.heap.objs.size 43)).frames = some (envM "__next__" "filterfalse.__next__" (methNo 1 3) doc pm ct c s.heap.objs.size 43 :: outer) := Around.frames_deeper hfr
  have hh' : (A.deeper (envM "__next__" "filterfalse.__next__" (methNo 1 3) doc pm ct c s.heap.objs.size 43)).handled = none := hh
  have hu' : (A.deeper (envM "__next__" "filterfalse.__next__" (methNo 1 3) doc pm ct c s.heap.objs.size 43)).units + 20 < cLine := by show A.units + 3 + 20 < cLine; omega
  generalize (A.deeper (envM "__next__" "filterfalse.__next__" (methNo 1 3) doc pm ct c s.heap.objs.size 43)) = A' at hfr' hh' hu' ⊢
  refine hideG fun G hG => ?_
  obtain ⟨m, hself, f⟩ : ∃ m, m (Str.ofString "self") = some (.ref x) ∧ FX S s s.heap.objs.size m (cellsFrom (s.heap.objs.size + 1) (methNo 1 3).2.2.names []) (fun _ => none) s₁ := ⟨_, by rfl, f⟩
  obtain ⟨oi, hio, hic, hid⟩ := id hit
  refine hG ?_
  have hxi : x ≠ it := by rintro rfl; rw [hx] at hio; cases hio; cases hid
  have hmi : mw ≠ it := by rintro rfl; rw [hm] at hio; cases hio; exact (by decide : (Value.type "method-wrapper") ≠ Value.type "list_iterator") hic
  have hdi : dx ≠ it := by rintro rfl; rw [hdx] at hio; cases hio; cases hid
  have ilt : it < s.heap.objs.size := Heap.lt_size hio
  let sh : Shared := { s with heap := hole s.heap [it] }
  have ho : ∀ {q}, q ≠ it → (hole s.heap [it]).get? q = s.heap.get? q := fun h => hole_out (by simpa using h)
  -- what stands over the holed base
  have facts : ∀ {h : Heap}, KFh S (hole s.heap [it]) h → K.In h ∧ h.get? x = some (fltObj mw it dx) ∧ h.get? dx = some fltDict ∧ h.get? mw = some (wrapObj sk) ∧ LL h (.ref sk) seen ∧ h.IsList fl vs.toArray ∧ All2 (LI h) vs cands ∧ h.Ns mainGlobals mg ∧ h.Ns builtinsNs mb := by
    intro h k
    have kl : ∀ {a ws}, s.heap.IsList a ws → h.IsList a ws := fun {a ws} hl => by
      refine hideG fun G hG => ?_
      obtain ⟨o, e, hc, n, hd⟩ := hl
      refine hG ?_
      have : a ≠ it := by rintro rfl; rw [e] at hio; cases hio; rw [hd] at hid; cases hid
      obtain ⟨sl, e'⟩ := k.2 a o ((ho this).trans e)
      exact ⟨_, e', hc, n, hd⟩
    have kI : ∀ {v ys}, LI s.heap v ys → LI h v ys := fun {v ys} q => by
      refine hideG fun G hG => ?_
      obtain ⟨a, ws, e, hl, hi⟩ := q
      refine hG ?_
      exact ⟨a, ws, e, kl hl, hi⟩
    have kn : ∀ {a mm}, s.heap.Ns a mm → h.Ns a mm := fun {a mm} q => by
      refine hideG fun G hG => ?_
      obtain ⟨o, es, ep, e, hd, r⟩ := q
      refine hG ?_
      have : a ≠ it := by rintro rfl; rw [e] at hio; cases hio; rw [hd] at hid; cases hid
      obtain ⟨sl, e'⟩ := k.2 a o ((ho this).trans e)
      exact ⟨_, es, ep, e', hd, r⟩
    refine ⟨fun a o e => ?_, k.1 x _ hxS ((ho hxi).trans hx), k.1 dx _ hdS ((ho hdi).trans hdx), k.1 mw _ hmS ((ho hmi).trans hm), ?_, kl hl, fa2_mono (fun _ _ q => kI q) hc, kn g, kn b⟩
    · have hlt := ok.low _ (mem_of_lookupK e)
      exact k.1 a o (fun z => Nat.lt_irrefl _ (Nat.lt_of_lt_of_le hlt (hK a z))) ((ho (by rintro rfl; rw [hit2] at e; cases e)).trans (X a o e))
    · refine hideG fun G hG => ?_
      obtain ⟨a, ws, e, hl, hi⟩ := hs
      refine hG ?_
      exact ⟨a, ws, e, kl hl, fa2_mono (fun _ _ q => kI q) hi⟩
  have f1 : FX S sh s.heap.objs.size m (cellsFrom (s.heap.objs.size + 1) (methNo 1 3).2.2.names []) (fun _ => none) s₁ := f.hole [it]
  refine hideG fun G hG => ?_
  obtain ⟨X₁, hx₁, hdx₁, _⟩ := facts f1.keep
  refine hG ?_
  have hit₁ : s₁.heap.IsListIter it fl j := by
    obtain ⟨sl, e⟩ := f.keep.2 it oi hio
    exact ⟨_, e, hic, hid⟩
  -- func = self._func
  refine wpAny_execs_cons (wpAny_Assign_Name ?_ ?hs)
  case hs => rfl
  refine Attribute_Name_ ?_
  refine nmL (m := m) f1 (by rfl) (by rfl) hself ?_ (by decide)
  refine getSlot X₁ ⟨hx₁, rfl, rfl, hdx₁⟩ ok.ga ok.gt ok.ff ok.sf rfl rfl ?_
  refine stLX (m := m) (f1.ks (ks_tok _ _)) (by rfl) (by rfl) fun s₂ f₂ e₂ sb₂ k₂ => ?_
  -- while True
  refine wpAny_execs_cons (wpAny_While ?_)
  have hit₂ : s₂.heap.IsListIter it fl j := by
    refine hideG fun G hG => ?_
    obtain ⟨o, e, r⟩ := hit₁
    refine hG ?_
    exact ⟨o, sb₂.extBut _ _ (Nat.ne_of_lt ilt) e, r⟩
  have hlen : vs.length = cands.length := fa2_len hc
  have hzL : ∀ (h : Heap), (hole s.heap [it]).get? it = none := fun _ => hole_in (.head _)
  refine codeAny_whileLoop (fun k s' => ∃ j' m, k = vs.length + 1 - j' ∧ j ≤ j' ∧ (∀ i c, j ≤ i → i < j' → cands[i]? = some c → c ∈ seen) ∧ m (Str.ofString "self") = some (.ref x) ∧ m (Str.ofString "func") = some (.ref mw) ∧
    FX S sh s.heap.objs.size m (cellsFrom (s.heap.objs.size + 1) (methNo 1 3).2.2.names []) (fun _ => none) s' ∧ s'.heap.IsListIter it fl j') ?_ _ ⟨j, _, rfl, Nat.le_refl _, fun i c h1 h2 _ => absurd h2 (Nat.not_lt.mpr h1), (by rw [if_neg (by decide)]; exact hself), by rfl, f₂, hit₂⟩
  rintro k s' ⟨j', m', rfl, hj', hin, hself', hfunc', f', hit'⟩
  refine hideG fun G hG => ?_
  obtain ⟨X', hx', hdx', hm', hs', hl', hc', g', b'⟩ := facts f'.keep
  refine hG ?_
  refine wpAny_isTrue_value ?_ (by rfl)
  refine wpAny_Constant_bool (wpAny_truthy_bool ?_)
  simp only [if_true]
  refine wpAny_passesOwn PassesOwn.leaving ?_
  refine wpAny_execs_cons (wpAny_Assign_Name ?_ ?hs)
  case hs => rfl
  refine callN1 ?_
  refine Calls.Name_function_global (by rfl) (by rfl) (Calls.loadGlobal_builtin g' g1 b' b1 ?_) (by decide)
  refine PySem.callWith_builtin1 ?_
  refine Attribute_Name_ ?_
  refine nmL (m := m') f' (by rfl) (by rfl) hself' ?_ (by decide)
  refine getSlot X' ⟨hx', rfl, rfl, hdx'⟩ ok.ga ok.gt ok.fi ok.si rfl rfl ?_
  by_cases hlt : j' < vs.length
  · refine hideG fun G hG => ?_
    obtain ⟨v, hv⟩ : ∃ v, vs[j']? = some v := ⟨_, List.getElem?_eq_getElem hlt⟩
    obtain ⟨cd, hcd, hvc⟩ := all2_at hc' hv
    refine hG ?_
    refine next_item hit' hl' (by simpa using hv) fun h₃ hit₃ hs₃ => ?_
    have f₃ := f'.step (h' := h₃) (km_same hs₃ (.head _)) (hzL s.heap) (by obtain ⟨o, e, _, hd⟩ := hit'; exact ⟨o, _, e, hd⟩) (s'.toks + 1)
    -- item = ..
    refine stLX (m := m') f₃ (by rfl) (by rfl) fun s₄ f₄ e₄ sb₄ k₄ => ?_
    have hit₄ : s₄.heap.IsListIter it fl (j' + 1) := by
      refine hideG fun G hG => ?_
      obtain ⟨o, e, r⟩ := hit₃
      refine hG ?_
      exact ⟨o, sb₄.extBut _ _ (Nat.ne_of_lt ilt) e, r⟩
    refine hideG fun G hG => ?_
    obtain ⟨X₄, hx₄, _, hm₄, hs₄, hl₄, hc₄, g₄, b₄⟩ := facts f₄.keep
    obtain ⟨cd', hcd', hvc₄⟩ := all2_at hc₄ hv
    refine hG ?_
    obtain rfl : cd = cd' := by rw [hcd] at hcd'; exact Option.some.inj hcd'
    have hfunc₄ : (fun y => if y = Str.ofString "item" then some v else m' y) (Str.ofString "func") = some (.ref mw) := by dsimp only; rw [if_neg (by decide)]; exact hfunc'
    have hself₄ : (fun y => if y = Str.ofString "item" then some v else m' y) (Str.ofString "self") = some (.ref x) := by dsimp only; rw [if_neg (by decide)]; exact hself'
    have hitem₄ : (fun y => if y = Str.ofString "item" then some v else m' y) (Str.ofString "item") = some v := by simp
    generalize (fun y => if y = Str.ofString "item" then some v else m' y) = m₄ at f₄ hfunc₄ hself₄ hitem₄
    -- if func is None or func is bool
    refine wpAny_execs_cons (wpAny_If ?_)
    refine wpAny_isTrue_BoolOp (wpAny_allTrue_Or_cons (wpAny_isTrue_Compare1 ?_ (by rfl)))
    refine nmL (m := m₄) f₄ (by rfl) (by rfl) hfunc₄ ?_ (by decide)
    refine wpAny_Constant_none (is_none (wpAny_truthy_bool ?_))
    rw [show (Value.ref mw == Value.none) = false from rfl]
    simp only [Bool.false_eq_true, if_false]
    refine wpAny_allTrue_Or_cons (wpAny_isTrue_Compare1 ?_ (by rfl))
    refine nmL (m := m₄) f₄ (by rfl) (by rfl) hfunc₄ ?_ (by decide)
    refine Calls.Name_function_global (by rfl) (by rfl) (Calls.loadGlobal_builtin g₄ g2 b₄ b2 ?_) (by decide)
    refine wpAny_is_other (by rfl) (by intro e; cases e) (wpAny_truthy_bool ?_)
    simp only [Bool.false_eq_true, if_false]
    refine wpAny_allTrue_Or_nil ?_
    simp only [Bool.false_eq_true, if_false]
    -- elif not func(item)
    refine wpAny_execs_cons (wpAny_If ?_)
    refine wpAny_isTrue_Not (wpAny_isTrue_value ?_ (by rfl))
    refine callN1 ?_
    refine nmL (m := m₄) f₄ (by rfl) (by rfl) hfunc₄ ?_ (by decide)
    refine cw_wrap (l := sk) ?_
    refine nmL (m := m₄) f₄ (by rfl) (by rfl) hitem₄ ⟨hm₄, ?_⟩ (by decide)
    refine lc_in hm₄ hs₄ hvc₄ (by omega) (wpAny_truthy_bool ?_)
    by_cases hmem : cd ∈ seen
    · simp only [hmem, decide_true, Bool.not_true, Bool.false_eq_true, if_false]
      refine wpAny_execs_nil ?_
      refine wpAny_execs_nil ?_
      refine wpAny_execs_nil ?_
      exact ⟨vs.length + 1 - (j' + 1), by omega, j' + 1, m₄, rfl, by omega, fun i c h1 h2 h3 => by
        rcases Nat.lt_succ_iff_lt_or_eq.mp h2 with h | h
        · exact hin i c h1 h h3
        · subst h; rw [hcd] at h3; cases h3; exact hmem, hself₄, hfunc₄, f₄, hit₄⟩
    · simp only [hmem, decide_false, Bool.not_false, if_true]
      refine wpAny_execs_cons (wpAny_Return_some ?_)
      refine nmL (m := m₄) f₄ (by rfl) (by rfl) hitem₄ ?_ (by decide)
      exact hQ j' v s₄ hj' hv (fun c h => by rw [hcd] at h; cases h; exact hmem) hin f₄.kfs hit₄
  · refine next_end hh' hit' hl' (by simp; omega) fun h₃ e km he0 heob => ?_
    refine hideG fun G hG => ?_
    obtain ⟨ob, t, hob, hobc, hobd⟩ := heob
    refine hG ?_
    have f₃ := f'.step (h' := h₃) km (hzL s.heap) (by obtain ⟨o, e, _, hd⟩ := hit'; exact ⟨o, _, e, hd⟩) (s'.toks + 1)
    have fr₃ : FFr h₃ (envM "__next__" "filterfalse.__next__" (methNo 1 3) doc pm ct c s.heap.objs.size 43 :: outer) := by
      intro en hen
      rcases List.mem_cons.mp hen with rfl | hen
      · refine hideG fun G hG => ?_
        obtain ⟨o, es, ep, ho, hd, _⟩ := f₃.ns
        refine hG ?_
        exact ⟨(by show (methNo 1 3).2.2.kind ≠ _; decide), s.heap.objs.size, o, rfl, ho, fun ws q => by rw [hd] at q; cases q⟩
      · refine hideG fun G hG => ?_
        obtain ⟨hk, L, o, hf, hoL, hd⟩ := fr en hen
        refine hG ?_
        have : L ≠ it := by rintro rfl; rw [hoL] at hio; cases hio; exact hd _ hid
        obtain ⟨sl, e'⟩ := f₃.keep.2 L o ((ho this).trans hoL)
        exact ⟨hk, L, _, hf, e', hd⟩
    have hout : ∀ i c, j ≤ i → cands[i]? = some c → c ∈ seen := fun i c h1 h3 => hin i c h1 (by have := (List.getElem?_eq_some_iff.mp h3).1; omega) h3
    refine leaveNew hfr' rfl fr₃ hob hobd fun h₄ k1 k2 hob' => ?_
    refine hideG fun G hG => ?_
    obtain ⟨ob', hob', hobc'⟩ := hob'
    refine hG ?_
    have elt : s.heap.objs.size ≤ e := by
      have : s.heap.objs.size < s'.heap.objs.size := f'.ns.lt
      exact Nat.le_trans (Nat.le_of_lt this) he0
    refine hE hout e _ ?_ ⟨ob', hob', hobc'.trans hobc⟩
    refine hideG fun G hG => ?_
    obtain ⟨h₅, t₅, e₅⟩ := f₃.same
    refine hG ?_
    refine ⟨h₄, t₅, by have := congrArg (fun z : Shared => { z with heap := h₄ }) e₅; exact this, ⟨fun b o hb eb => ?_, fun b o eb => ?_⟩⟩
    · have hblt : b < s.heap.objs.size := by have := Heap.lt_size eb; rw [hole_size] at this; exact this
      refine k1 b o (Nat.ne_of_lt (Nat.lt_of_lt_of_le hblt elt)) ?_ (f₃.keep.1 b o hb eb)
      rw [List.filterMap_cons, show (envM "__next__" "filterfalse.__next__" (methNo 1 3) doc pm ct c s.heap.objs.size 43).frame = some s.heap.objs.size from rfl]
      intro z
      rcases List.mem_cons.mp z with z | z
      · rw [z] at hblt; exact Nat.lt_irrefl _ hblt
      · exact hb (hS ▸ z)
    · have hblt : b < s.heap.objs.size := by have := Heap.lt_size eb; rw [hole_size] at this; exact this
      refine hideG fun G hG => ?_
      obtain ⟨sl, e1⟩ := f₃.keep.2 b o eb
      obtain ⟨sl2, e2⟩ := k2 b _ (Nat.ne_of_lt (Nat.lt_of_lt_of_le hblt elt)) e1
      refine hG ?_
      exact ⟨sl2, e2⟩
end
end Mine
end
section
open PySem PySem.W PyProof.Rows
set_option maxRecDepth 100000
set_option linter.unusedVariables false
namespace Mine
noncomputable def trunc (h : Heap) (L : Addr) : Heap := ⟨(h.objs.toList.take L).toArray, h.life⟩
theorem trunc_at (h : Heap) (L b : Addr) : (h.objs.toList.take L).toArray[b]? = if b < L then h.objs[b]? else none := by
  rw [List.getElem?_toArray, List.getElem?_take]
  simp
theorem trunc_get {h : Heap} {L b : Addr} (hb : b < L) : (trunc h L).get? b = h.get? b := by
  unfold trunc Heap.get?
  dsimp only
  rw [trunc_at, if_pos hb]
theorem trunc_ge {h : Heap} {L b : Addr} (hb : ¬ b < L) : (trunc h L).get? b = none := by
  unfold trunc Heap.get?
  dsimp only
  rw [trunc_at, if_neg hb]
theorem trunc_size (h : Heap) (L : Addr) : (trunc h L).objs.size ≤ L := by
  unfold trunc
  simp
  omega
theorem fr_trunc {h : Heap} {L : Addr} {m : Str → Option Value} (hn : h.Ns L m) : Fr (trunc h L) L h m := by
  refine ⟨hn, fun b o e => ?_, trunc_size h L⟩
  by_cases hb : b < L
  · rw [trunc_get hb] at e; exact e
  · rw [trunc_ge hb] at e; cases e
theorem frag_trunc {K : Frag} {h : Heap} {L : Addr} (X : K.In h) (low : ∀ p ∈ K, p.1 < L) : K.In (trunc h L) := fun a o e => by
  rw [trunc_get (low _ (mem_of_lookupK e))]
  exact X a o e
section
variable {prog : Program} {w : World} {A : Around} {E : Value → Shared → Prop} {s : Shared}
/-- the own iterator's next by its class's function -/
theorem pyNextFn {K : Frag} {C x f : Addr} {ox : Obj} {od : Option Obj} {Q : Option Value → Shared → Prop} (X : K.In s.heap) (I : PySem.W.InstAt s.heap x ox C od) (hs : findIn K (.ref C) "__next__" = some (some (.ref f))) (hf : isFn K (.ref f) = true)
    (h : wpAny (model prog w) A (call (.ref f) [.ref x]) (fun v s' => Q (some v) s') (fun e s' => ∃ a ob, e = .ref a ∧ s'.heap.get? a = some ob ∧ ob.cls = .type "StopIteration" ∧ Q none s') s) :
    wpAny (model prog w) A (pyNext (.ref x)) Q E s := by
  unfold pyNext
  refine wpAny_bind (wpAny_attempt (special_fn (name := "__next__") (args := []) X I hs (beq_iff_eq.mp hf) (wpAny_mono h (fun v s' q => ?_) fun e s' q => ?_)))
  · exact wpAny_pure q
  · refine hideG fun G hG => ?_
    obtain ⟨a, ob, rfl, ho, hc, q⟩ := q
    refine hG ?_
    refine wpAny_bind (wpAny_isInstance (T := "StopIteration") (b := true) ⟨_, ho, hc⟩ isSubtype_stop ?_)
    exact wpAny_pure q
/-- __iter__ of filterfalse: itself -/
theorem fltIter {x : Addr} {Q : Value → Shared → Prop} (hroom : A.depth < recursionLimit) (fn : FnM s.heap 36 "__iter__" "filterfalse.__iter__" (methNo 1 2)) (lim : s.heap.NoLimit)
    (hQ : ∀ s', Keeps s s' → Q (.ref x) s') : wpAny (model prog w) A (call (.ref 36) [.ref x]) Q E s := by
  refine callX [] (binds := [(Str.ofString "self", .ref x)]) hroom fn lim (fun _ _ _ _ => by rfl) ?_ fun doc pm ct c s₁ f => ?_
  · intro y hy
    rcases List.mem_singleton.mp hy with rfl
    exact .inl rfl
  refine wpAny_execs_cons (wpAny_Return_some ?_)
  refine nmL f (by rfl) (by rfl) (by rfl) ?_ (by decide)
  exact hQ s₁ (kfs_nil f.kfs)
theorem fltPyIter {K : Frag} {x L mw it dx : Addr} {m : Str → Option Value} {Q : Value → Shared → Prop} (hroom : A.depth < recursionLimit) (ok : FltOk K) (X : K.In s.heap) (fn : FnM s.heap 36 "__iter__" "filterfalse.__iter__" (methNo 1 2)) (lim : s.heap.NoLimit)
    (hn : s.heap.Ns L m) (hL : 158 ≤ L) (hdx : s.heap.get? dx = some fltDict) (hx : s.heap.get? x = some (fltObj mw it dx)) (hQ : ∀ s', Keeps s s' → Q (.ref x) s') : wpAny (model prog w) A (pyIter (.ref x)) Q E s := by
  refine owit_iter (fr_trunc hn) (frag_trunc X fun p hp => Nat.lt_of_lt_of_le (ok.low p hp) hL) (C := 47) (ox := fltObj mw it dx) (od := some fltDict) ⟨hx, rfl, rfl, hdx⟩ ok.itr ok.itf ?_
  refine fltIter hroom fn lim fun s' k => ?_
  have kk := ks_keep k
  exact owit_it (fr_trunc (hn.keeps kk)) (frag_trunc (X.keeps kk) fun p hp => Nat.lt_of_lt_of_le (ok.low p hp) hL) (C := 47) (ox := fltObj mw it dx) (od := some fltDict) ⟨kk _ _ hx, rfl, rfl, kk _ _ hdx⟩ ok.nx (hQ s' k)
end
end Mine
end
section
open PySem PySem.W PyProof.Rows
set_option maxRecDepth 100000
set_option linter.unusedVariables false
namespace Mine
/-- what stands around a running filterfalse -/
structure FB (S : List Addr) (K : Frag) (mg mb : Str → Option Value) (x mw it sk fl dx : Addr) (vs : List Value) (cands seen : List (List Int)) (Lf : Addr) (h : Heap) : Prop where
  ok : FltOk K
  X : K.In h
  fnN : FnM h 43 "__next__" "filterfalse.__next__" (methNo 1 3)
  fnI : FnM h 36 "__iter__" "filterfalse.__iter__" (methNo 1 2)
  lim : h.NoLimit
  g : h.Ns mainGlobals mg
  b : h.Ns builtinsNs mb
  g1 : mg (Str.ofString "next") = none
  b1 : mb (Str.ofString "next") = some (.builtin "next")
  g2 : mg (Str.ofString "bool") = none
  b2 : mb (Str.ofString "bool") = some (.type "bool")
  hK : ∀ q ∈ S, 158 ≤ q
  it2 : K.lookup it = none
  xS : x ∉ S
  mS : mw ∉ S
  dS : dx ∉ S
  hdx : h.get? dx = some fltDict
  hx : h.get? x = some (fltObj mw it dx)
  hm : h.get? mw = some (wrapObj sk)
  hs : LL h (.ref sk) seen
  hl : h.IsList fl vs.toArray
  hc : All2 (LI h) vs cands
  ns : ∃ m, h.Ns Lf m
  hL : 158 ≤ Lf
theorem FB.kf {S : List Addr} {K : Frag} {mg mb : Str → Option Value} {x mw it sk fl dx : Addr} {vs : List Value} {cands seen : List (List Int)} {Lf : Addr} {h h' : Heap} {j : Nat} (B : FB S K mg mb x mw it sk fl dx vs cands seen Lf h)
    (hit : h.IsListIter it fl j) (k : KFh S (hole h [it]) h') : FB S K mg mb x mw it sk fl dx vs cands seen Lf h' := by
  refine hideG fun G hG => ?_
  obtain ⟨oi, hio, hic, hid⟩ := hit
  refine hG ?_
  have hxi : x ≠ it := by rintro rfl; rw [B.hx] at hio; cases hio; cases hid
  have hmi : mw ≠ it := by rintro rfl; rw [B.hm] at hio; cases hio; exact (by decide : (Value.type "method-wrapper") ≠ Value.type "list_iterator") hic
  have hdi : dx ≠ it := by rintro rfl; rw [B.hdx] at hio; cases hio; cases hid
  have ho : ∀ {q}, q ≠ it → (hole h [it]).get? q = h.get? q := fun h => hole_out (by simpa using h)
  have kd : ∀ {a o}, h.get? a = some o → (∀ ws, o.data ≠ .fields ws) → ∃ sl, h'.get? a = some { o with slots := sl } := fun {a o} e hd => by
    have : a ≠ it := by rintro rfl; rw [e] at hio; cases hio; exact hd _ hid
    exact k.2 a o ((ho this).trans e)
  have kl : ∀ {a ws}, h.IsList a ws → h'.IsList a ws := fun {a ws} hl => by
    refine hideG fun G hG => ?_
    obtain ⟨o, e, hc, n, hd⟩ := hl
    obtain ⟨sl, e'⟩ := kd e (fun ws q => by rw [hd] at q; cases q)
    refine hG ?_
    exact ⟨_, e', hc, n, hd⟩
  have kI : ∀ {v ys}, LI h v ys → LI h' v ys := fun {v ys} q => by
    refine hideG fun G hG => ?_
    obtain ⟨a, ws, e, hl, hi⟩ := q
    refine hG ?_
    exact ⟨a, ws, e, kl hl, hi⟩
  have kn : ∀ {a mm}, h.Ns a mm → h'.Ns a mm := fun {a mm} q => by
    refine hideG fun G hG => ?_
    obtain ⟨o, es, ep, e, hd, r⟩ := q
    obtain ⟨sl, e'⟩ := kd e (fun ws q => by rw [hd] at q; cases q)
    refine hG ?_
    exact ⟨_, es, ep, e', hd, r⟩
  have kc : ∀ {cd q}, h.CodeRec cd q → h'.CodeRec cd q := fun {cd q} r => by
    refine hideG fun G hG => ?_
    obtain ⟨c, o, ws, t, e, hco, hd, hq⟩ := r
    refine hG ?_
    have : c ≠ it := by rintro rfl; rw [hco] at hio; cases hio; rw [hd] at hid; cases hid; cases hq
    obtain ⟨sl, e'⟩ := k.2 c o ((ho this).trans hco)
    exact ⟨c, _, ws, t, e, e', hd, hq⟩
  have kf : ∀ {a n q y}, FnM h a n q y → FnM h' a n q y := fun {a n q y} f => by
    refine hideG fun G hG => ?_
    obtain ⟨doc, pm, ct, c, o, hao, hd, hc⟩ := f
    obtain ⟨sl, e'⟩ := kd hao (fun ws q => by rw [hd] at q; cases q)
    refine hG ?_
    exact ⟨doc, pm, ct, c, _, e', hd, kc hc⟩
  refine { B with X := fun a o e => ?_, fnN := kf B.fnN, fnI := kf B.fnI, lim := ?_, g := kn B.g, b := kn B.b, hx := k.1 x _ B.xS ((ho hxi).trans B.hx), hdx := k.1 dx _ B.dS ((ho hdi).trans B.hdx), hm := k.1 mw _ B.mS ((ho hmi).trans B.hm), hs := ?_, hl := kl B.hl, hc := fa2_mono (fun _ _ q => kI q) B.hc, ns := ?_ }
  · have hlt := B.ok.low _ (mem_of_lookupK e)
    exact k.1 a o (fun z => Nat.lt_irrefl _ (Nat.lt_of_lt_of_le hlt (B.hK a z))) ((ho (by rintro rfl; rw [B.it2] at e; cases e)).trans (B.X a o e))
  · refine hideG fun G hG => ?_
    obtain ⟨mc, hn, e⟩ := B.lim
    refine hG ?_
    exact ⟨mc, kn hn, e⟩
  · refine hideG fun G hG => ?_
    obtain ⟨a, ws, e, hl, hi⟩ := B.hs
    refine hG ?_
    exact ⟨a, ws, e, kl hl, fa2_mono (fun _ _ q => kI q) hi⟩
  · obtain ⟨m, hn⟩ := B.ns
    exact ⟨m, kn hn⟩
theorem hole_tr {S M : List Addr} {a b c : Heap} (x : KFh S (hole a M) b) (y : KFh S (hole b M) c) : KFh S (hole a M) c := by
  refine ⟨fun q o hq e => ?_, fun q o e => ?_⟩
  · by_cases hm : q ∈ M
    · rw [hole_in hm] at e; cases e
    · exact y.1 q o hq ((hole_out hm).trans (x.1 q o hq e))
  · by_cases hm : q ∈ M
    · rw [hole_in hm] at e; cases e
    · refine hideG fun G hG => ?_
      obtain ⟨sl, e1⟩ := x.2 q o e
      obtain ⟨sl2, e2⟩ := y.2 q _ ((hole_out hm).trans e1)
      refine hG ?_
      exact ⟨sl2, e2⟩
/-- the kept items from position j on -/
noncomputable def keptFrom (vs : List Value) (cands seen : List (List Int)) (j : Nat) : List (Value × List Int) := ((vs.zip cands).drop j).filter fun z => decide (z.2 ∉ seen)
theorem kept_next {vs : List Value} {cands seen : List (List Int)} {j k : Nat} {v : Value} (hlen : vs.length = cands.length) (hjk : j ≤ k) (hv : vs[k]? = some v) (h1 : ∀ c, cands[k]? = some c → c ∉ seen) (h2 : ∀ i c, j ≤ i → i < k → cands[i]? = some c → c ∈ seen) :
    ∃ c, cands[k]? = some c ∧ keptFrom vs cands seen j = (v, c) :: keptFrom vs cands seen (k + 1) := by
  have hk : k < vs.length := (List.getElem?_eq_some_iff.mp hv).1
  obtain ⟨c, hc⟩ : ∃ c, cands[k]? = some c := ⟨_, List.getElem?_eq_getElem (by omega)⟩
  refine ⟨c, hc, ?_⟩
  have hz : (vs.zip cands)[k]? = some (v, c) := by rw [List.getElem?_zip_eq_some]; exact ⟨hv, hc⟩
  unfold keptFrom
  have split : ∀ d j, k - j = d → j ≤ k → (∀ i c, j ≤ i → i < k → cands[i]? = some c → c ∈ seen) → ((vs.zip cands).drop j).filter (fun z => decide (z.2 ∉ seen)) = (v, c) :: ((vs.zip cands).drop (k + 1)).filter fun z => decide (z.2 ∉ seen) := by
    intro d
    induction d with
    | zero =>
      intro j hd hj h2
      obtain rfl : j = k := by omega
      rw [List.drop_eq_getElem_cons (by rw [List.length_zip]; omega)]
      have e : (vs.zip cands)[j]'(by rw [List.length_zip]; omega) = (v, c) := by
        have := List.getElem?_eq_getElem (l := vs.zip cands) (i := j) (by rw [List.length_zip]; omega)
        rw [hz] at this
        exact (Option.some.inj this).symm
      rw [e, List.filter_cons, if_pos (by simpa using h1 c hc)]
    | succ d ih =>
      intro j hd hj h2
      have hjl : j < (vs.zip cands).length := by rw [List.length_zip]; omega
      rw [List.drop_eq_getElem_cons hjl, List.filter_cons, if_neg, ih (j + 1) (by omega) (by omega) fun i c h3 h4 h5 => h2 i c (by omega) h4 h5]
      have hcj : cands[j]? = some ((vs.zip cands)[j]).2 := by
        rw [List.getElem_zip]
        exact List.getElem?_eq_getElem (by omega)
      simpa using h2 j _ (Nat.le_refl _) (by omega) hcj
  exact split (k - j) j rfl hjk h2
theorem kept_end {vs : List Value} {cands seen : List (List Int)} {j : Nat} (hlen : vs.length = cands.length) (h2 : ∀ i c, j ≤ i → cands[i]? = some c → c ∈ seen) : keptFrom vs cands seen j = [] := by
  unfold keptFrom
  rw [List.filter_eq_nil_iff]
  intro z hz
  refine hideG fun G hG => ?_
  obtain ⟨i, hi, e⟩ := List.mem_iff_getElem.mp hz
  refine hG ?_
  rw [List.getElem_drop] at e
  have hcj : cands[j + i]? = some z.2 := by
    rw [← e, List.getElem_zip]
    exact List.getElem?_eq_getElem _
  simpa using h2 (j + i) z.2 (by omega) hcj
end Mine
end
section
open PySem PySem.W PyProof.Rows
set_option maxRecDepth 100000
set_option linter.unusedVariables false
namespace Mine
section
variable {prog : Program} {w : World} {A : Around} {E : Value → Shared → Prop} {s : Shared}
theorem fltLoop {R : Result → Shared → Prop} {S : List Addr} {outer : List Env} {K : Frag} {mg mb : Str → Option Value} {x mw it sk fl dx Lf D : Addr} {vs : List Value} {cands seen : List (List Int)} {sB : Shared}
    (hroom : A.depth < recursionLimit) (hu : A.units + 60 < cLine) (hh : A.handled = none) (hfr : A.frames = some outer) (hS : S = outer.filterMap (·.frame)) (hDS : D ∉ S) (hDi : D ≠ it) (hDB : sB.heap.objs.size ≤ D) (hv : vs.length ≤ 1000) {j₀ : Nat} (BB : FB S K mg mb x mw it sk fl dx vs cands seen Lf sB.heap) (hitB : sB.heap.IsListIter it fl j₀) :
    ∀ (k j : Nat) (s : Shared) (acc : List Value) (c : Nat), vs.length + 1 - j = k → acc.length ≤ j → FFr s.heap outer → s.heap.IsListIter it fl j → s.heap.get? D = some (lstO acc.toArray c) →
      KFs S { sB with heap := hole sB.heap [it] } s →
      (∀ s' c', FFr s'.heap outer → s'.heap.get? D = some (lstO (acc ++ (keptFrom vs cands seen j).map (·.1)).toArray c') → KFs S { sB with heap := hole sB.heap [it] } s' → R (.ok (.ret .none)) s') →
      codeAny (model prog w) A (.builtin "list.extend.loop" ⟨[.ref D, .ref x, .none], []⟩) R s := by
  intro k
  induction k using Nat.strongRecOn with
  | ind k ih =>
  intro j s acc c hk hacc fr hit hD hkf hR
  have B := BB.kf hitB (kfs_heap hkf)
  have hlen : vs.length = cands.length := fa2_len B.hc
  refine codeAny_builtin F.entry_extend_loop ?_
  rw [Around.under_plainId F.plain_extend_loop _]
  show wpAny _ A.in1 (pyNext (.ref x) >>= _) _ _ s
  have outKF : ∀ {s'}, KFs S { s with heap := hole s.heap [it] } s' → KFs S { sB with heap := hole sB.heap [it] } s' := by
    rintro s' jw1
    refine hideG fun G hG => ?_
    obtain ⟨h', t', rfl, k'⟩ := jw1
    refine hG ?_
    refine hideG fun G hG => ?_
    obtain ⟨h₁, t₁, rfl, k₁⟩ := hkf
    refine hG ?_
    exact ⟨h', t', rfl, hole_tr k₁ k'⟩
  refine wpAny_bind (pyNextFn (od := some fltDict) B.X ⟨B.hx, rfl, rfl, B.hdx⟩ B.ok.nx B.ok.nxf ?_)
  refine fltNext (A := A.in1) (S := S) (outer := outer) hroom (by show A.units + 1 + 40 < cLine; omega) hh hfr fr hS B.ok B.X B.fnN B.lim B.g B.b B.g1 B.b1 B.g2 B.b2 B.hK B.it2 B.xS B.mS B.dS B.hdx B.hx B.hm B.hs hit B.hl B.hc (fun k' v s' hjk hv' h1 h2 hkf' hit' => ?_) fun h2 e s' hkf' hob => ?_
  · refine hideG fun G hG => ?_
    obtain ⟨cd, hcd, hkept⟩ := kept_next hlen hjk hv' h1 h2
    refine hG ?_
    have kk := kfs_heap hkf'
    have fr' : FFr s'.heap outer := fun env he => by
      refine hideG fun G hG => ?_
      obtain ⟨hk, L, o, hf, ho, hd⟩ := fr env he
      obtain ⟨oi, hio, _, hid⟩ := hit
      refine hG ?_
      have : L ≠ it := by rintro rfl; rw [ho] at hio; cases hio; exact hd _ hid
      obtain ⟨sl, e⟩ := kk.2 L o ((hole_out (by simpa using this)).trans ho)
      exact ⟨hk, L, _, hf, e, hd⟩
    have hD' : s'.heap.get? D = some (lstO acc.toArray c) := kk.1 D _ hDS ((hole_out (by simpa using hDi)).trans hD)
    show wpAny _ A.in1 (updateSeq D (·.push v) >>= _) _ _ s'
    have hk'lt : k' < vs.length := (List.getElem?_eq_some_iff.mp hv').1
    refine wpAny_bind ?_
    refine wpAny_updateSeq hD' rfl (wpAny_pure ⟨plainId_quiet F.plain_extend_loop _, ?_⟩) (by rw [List.size_toArray, sizeLine_eq]; omega) (by show (acc.toArray.push v).size ≤ sizeLine + 1; rw [Array.size_push, List.size_toArray, sizeLine_eq]; omega)
    have hs := Heap.SameBut.update s'.heap D (Obj.mapSeq (·.push v))
    obtain ⟨c', hc'⟩ : ∃ c', (s'.heap.update D (Obj.mapSeq (·.push v))).get? D = some (seqObj "list" (acc.toArray.push v) c') := ⟨_, get?_update_seq hD' (·.push v)⟩
    have epush : acc.toArray.push v = (acc ++ [v]).toArray := by simp
    rw [epush] at hc'
    have hDx : ∀ {b o}, s'.heap.get? b = some o → b ≠ D → (s'.heap.update D (Obj.mapSeq (·.push v))).get? b = some o := fun e hb => hs.extBut _ _ hb e
    have hk2 : KFs S { sB with heap := hole sB.heap [it] } { s' with heap := s'.heap.update D (Obj.mapSeq (·.push v)) } := by
      refine hideG fun G hG => ?_
      obtain ⟨h₂, t₂, e₂, k₂⟩ := outKF hkf'
      refine hG ?_
      subst e₂
      refine ⟨_, t₂, rfl, ⟨fun b o hb e => hDx (k₂.1 b o hb e) ?_, fun b o e => ?_⟩⟩
      · rintro rfl
        have := Heap.lt_size e
        rw [hole_size] at this
        exact Nat.lt_irrefl _ (Nat.lt_of_lt_of_le this hDB)
      · obtain ⟨sl, e'⟩ := k₂.2 b o e
        refine ⟨sl, hDx e' ?_⟩
        rintro rfl
        have := Heap.lt_size e
        rw [hole_size] at this
        exact Nat.lt_irrefl _ (Nat.lt_of_lt_of_le this hDB)
    refine ih (vs.length + 1 - (k' + 1)) (by omega) (k' + 1) _ (acc ++ [v]) c' rfl (by simp; omega) ?_ ?_ hc' hk2 fun s₂ c₂ b2 b3 b4 => hR s₂ c₂ b2 (by rw [hkept]; simpa using b3) b4
    · intro env he
      refine hideG fun G hG => ?_
      obtain ⟨hk, L, o, hf, ho, hd⟩ := fr' env he
      refine hG ?_
      refine ⟨hk, L, o, hf, hDx ho ?_, hd⟩
      rintro rfl
      exact hDS (hS ▸ List.mem_filterMap.mpr ⟨env, he, hf⟩)
    · refine hideG fun G hG => ?_
      obtain ⟨o, e, r⟩ := hit'
      refine hG ?_
      exact ⟨o, hDx e (Ne.symm hDi), r⟩
  · refine hideG fun G hG => ?_
    obtain ⟨ob, hob, hobc⟩ := hob
    refine hG ?_
    refine ⟨e, ob, rfl, hob, hobc, ?_⟩
    have kk := kfs_heap hkf'
    refine wpAny_pure ?_
    have fr' : FFr s'.heap outer := fun env he => by
      refine hideG fun G hG => ?_
      obtain ⟨hk, L, o, hf, ho, hd⟩ := fr env he
      obtain ⟨oi, hio, _, hid⟩ := hit
      refine hG ?_
      have : L ≠ it := by rintro rfl; rw [ho] at hio; cases hio; exact hd _ hid
      obtain ⟨sl, e⟩ := kk.2 L o ((hole_out (by simpa using this)).trans ho)
      exact ⟨hk, L, _, hf, e, hd⟩
    refine hR s' c fr' ?_ (outKF hkf')
    rw [kept_end hlen h2]
    simpa using kk.1 D _ hDS ((hole_out (by simpa using hDi)).trans hD)
end
end Mine
end
section
open PySem PySem.W PyProof.Rows
set_option maxRecDepth 100000
set_option linter.unusedVariables false
namespace Mine
theorem kept_vals {vs : List Value} {cands seen : List (List Int)} {R : Value → List Int → Prop} (h : All2 R vs cands) : All2 R ((keptFrom vs cands seen 0).map (·.1)) (cands.filter fun c => decide (c ∉ seen)) := by
  unfold keptFrom
  rw [List.drop_zero]
  induction h with
  | nil => exact .nil
  | @cons a b l m r t ih =>
    rw [List.zip_cons_cons, List.filter_cons, List.filter_cons]
    by_cases q : b ∈ seen
    · simpa [q] using ih
    · simp only [q, not_false_eq_true, decide_true, if_true, List.map_cons]
      exact .cons r ih
section
variable {prog : Program} {w : World} {A : Around} {E : Value → Shared → Prop} {s : Shared}
theorem fltList {Q : Value → Shared → Prop} {S : List Addr} {outer : List Env} {K : Frag} {mg mb : Str → Option Value} {x mw it sk fl dx Lf : Addr} {vs : List Value} {cands seen : List (List Int)}
    (hroom : A.depth < recursionLimit) (hu : A.units + 70 < cLine) (hh : A.handled = none) (hfr : A.frames = some outer) (hS : S = outer.filterMap (·.frame)) (hv : vs.length ≤ 1000)
    (B : FB S K mg mb x mw it sk fl dx vs cands seen Lf s.heap) (fr : FFr s.heap outer) (hit : s.heap.IsListIter it fl 0)
    (hQ : ∀ D s' ys c, KFs S { s with heap := hole s.heap [it] } s' → FFr s'.heap outer → s.heap.objs.size ≤ D → s'.heap.get? D = some (lstO ys.toArray c) → All2 (LI s'.heap) ys (cands.filter fun c => decide (c ∉ seen)) → Q (.ref D) s') :
    wpAny (model prog w) A (call (.type "list") [.ref x]) Q E s := by
  have ilt : it < s.heap.objs.size := by obtain ⟨o, e, _⟩ := hit; exact Heap.lt_size e
  have xlt : x < s.heap.objs.size := Heap.lt_size B.hx
  have hDS : s.heap.objs.size ∉ S := fun hm => by
    rw [hS] at hm
    refine hideG fun G hG => ?_
    obtain ⟨env, he, hf⟩ := List.mem_filterMap.mp hm
    obtain ⟨_, L, o, hf', ho, _⟩ := fr env he
    refine hG ?_
    rw [hf] at hf'
    cases hf'
    exact Nat.lt_irrefl _ (Heap.lt_size ho)
  refine callType_codes (Q₁ := fun obj s₁ => obj = .ref s.heap.objs.size ∧ s₁ = { s with heap := s.heap.push { cls := .type "list", data := .seq #[] } }) F.called_list (F.typeCall_list_1 _) F.entry_list_init
    (code_list_new _ ⟨rfl, rfl⟩) fun obj s₁ h₁ => ?_
  obtain ⟨rfl, rfl⟩ := h₁
  have hD : (s.heap.push { cls := .type "list", data := .seq #[] }).get? s.heap.objs.size = some { cls := .type "list", data := .seq #[] } := Heap.get?_push_size _ rfl
  refine ⟨⟨_, hD, rfl⟩, F.args_list_init_2 _ _, ?_⟩
  show wpAny _ A.in1.in1 (do let old ← Builtin.List.listItems (.ref s.heap.objs.size); Builtin.List.listUpdate (.ref s.heap.objs.size) (fun _ => #[]); letGo old.toList.reverse; Builtin.List.listExtendWith (.ref s.heap.objs.size) (.ref x) .none) _ _ _
  refine wpAny_bind ?_
  unfold Builtin.List.listItems
  refine wpAny_bind (wpAny_seqItems hD rfl (wpAny_pure ?_))
  show wpAny _ A.in1.in1 (updateSeq s.heap.objs.size (fun _ => #[]) >>= fun _ => letGo (#[] : Array Value).toList.reverse >>= fun _ => Builtin.List.listExtendWith (.ref s.heap.objs.size) (.ref x) .none) _ _ _
  refine wpAny_bind (wpAny_updateSeq hD rfl ?_)
  have hD₂ := Heap.get?_update_self (Obj.mapSeq (fun _ => (#[] : Array Value))) hD rfl
  refine wpAny_bind (wpAny_letGo ?_)
  generalize hH : (s.heap.push { cls := .type "list", data := .seq #[] }).update s.heap.objs.size (Obj.mapSeq fun _ => (#[] : Array Value)) = H at hD₂ ⊢
  have kH : Keep s.heap H := fun b o e => by
    rw [← hH]
    exact (Heap.get?_update_other _ _ (Ne.symm (Nat.ne_of_lt (Heap.lt_size e)))).trans (Heap.get?_push_of_some _ e)
  have khH : KFh S (hole s.heap [it]) H := hole_kf (kfh_of kH)
  have B₂ := B.kf hit khH
  have hit₂ : H.IsListIter it fl 0 := by obtain ⟨o, e, r⟩ := hit; exact ⟨o, kH _ _ e, r⟩
  have fr₂ : FFr H outer := fr.kf (kfh_of (S := S) kH)
  unfold Builtin.List.listExtendWith
  have I : ∀ {h : Heap}, h.get? x = some (fltObj mw it dx) → h.get? dx = some fltDict → PySem.W.InstAt h x (fltObj mw it dx) 47 (some fltDict) := fun e e2 => ⟨e, rfl, rfl, e2⟩
  refine wpAny_bind ((I B₂.hx B₂.hdx).type.here ?_)
  have h1 : Builtin.List.listSameRef (.ref s.heap.objs.size) (.ref x) = false := by simp [Builtin.List.listSameRef]; exact Nat.ne_of_gt xlt
  have h2 : (Value.ref 47 == Value.type "list") = false := by decide
  have h3 : (Value.ref 47 == Value.type "tuple") = false := by decide
  simp only [h1, h2, h3, Bool.or_false, Bool.false_eq_true, if_false]
  obtain ⟨mL, hnL⟩ := B₂.ns
  refine wpAny_bind (fltPyIter (A := A.in1.in1) (L := Lf) (m := mL) (mw := mw) (it := it) hroom B₂.ok B₂.X B₂.fnI B₂.lim hnL B₂.hL B₂.hdx B₂.hx fun s₃ k₃ => ?_)
  refine wpAny_bind (wpAny_holding ?_)
  have kk := ks_keep k₃
  have B₃ := B₂.kf hit₂ (hole_kf (kfh_of (S := S) kk))
  have hit₃ : s₃.heap.IsListIter it fl 0 := by obtain ⟨o, e, r⟩ := hit₂; exact ⟨o, kk _ _ e, r⟩
  have hD₃ := kk _ _ hD₂
  unfold Builtin.List.listLengthHint
  refine wpAny_bind (((I B₃.hx B₃.hdx).type.andThen (looks_findIn B₃.X B₃.ok.noLen)).here ?_)
  show wpAny _ A.in1.in1 (specialOf (Value.ref x) (Str.ofString "__length_hint__") >>= _) _ _ _
  refine wpAny_bind (((I B₃.hx B₃.hdx).type.andThen (looks_findIn B₃.X B₃.ok.noHint)).here ?_)
  refine wpAny_pure ?_
  show wpAny _ A.in1.in1 (rule "list.extend.makes-room" >>= fun _ => Builtin.List.listTouch (.ref s.heap.objs.size) >>= fun _ =>
    again (.builtin "list.extend.loop" ⟨[.ref s.heap.objs.size, .ref x, .none], []⟩)) _ _ _
  refine wpAny_bind (wpAny_rule ?_)
  refine wpAny_bind ?_
  show wpAny _ A.in1.in1 (updateSeq s.heap.objs.size (·.push .none) >>= fun _ => updateSeq s.heap.objs.size (·.pop)) _ _ _
  refine wpAny_bind (wpAny_updateSeq hD₃ rfl ?_)
  have hD₄ := Heap.get?_update_self (Obj.mapSeq (·.push Value.none)) hD₃ rfl
  refine wpAny_updateSeq (hz := by seq_fits) hD₄ rfl ?_
  have hD₅ := Heap.get?_update_self (Obj.mapSeq (·.pop)) hD₄ rfl
  have oth : ∀ b o, b ≠ s.heap.objs.size → s₃.heap.get? b = some o → ((s₃.heap.update s.heap.objs.size (Obj.mapSeq (·.push Value.none))).update s.heap.objs.size (Obj.mapSeq (·.pop))).get? b = some o :=
    fun b o hb e => (Heap.get?_update_other _ _ (Ne.symm hb)).trans ((Heap.get?_update_other _ _ (Ne.symm hb)).trans e)
  obtain ⟨c₅, hc₅⟩ : ∃ c₅, ((s₃.heap.update s.heap.objs.size (Obj.mapSeq (·.push Value.none))).update s.heap.objs.size (Obj.mapSeq (·.pop))).get? s.heap.objs.size = some (lstO ([] : List Value).toArray c₅) := ⟨_, hD₅⟩
  generalize (s₃.heap.update s.heap.objs.size (Obj.mapSeq (·.push Value.none))).update s.heap.objs.size (Obj.mapSeq (·.pop)) = H₅ at oth hc₅
  refine hideG fun G hG => ?_
  obtain ⟨h₃, t₃, rfl, k₃'⟩ := k₃
  refine hG ?_
  have kB : ∀ b o, s.heap.get? b = some o → H₅.get? b = some o := fun b o e => oth b o (Nat.ne_of_lt (Heap.lt_size e)) (k₃' b o (kH b o e))
  refine wpAny_pure ⟨plainId_quiet F.plain_extend_loop _, ?_⟩
  refine fltLoop (A := A.in1) (D := s.heap.objs.size) (sB := s) (outer := outer) (vs := vs) (cands := cands) (seen := seen) (Lf := Lf) (K := K) (mg := mg) (mb := mb) (mw := mw) (it := it) (sk := sk) (fl := fl) hroom (by show A.units + 1 + 60 < cLine; omega) hh hfr hS hDS (Nat.ne_of_gt ilt) (Nat.le_refl _) hv B hit _ 0 _ [] c₅ rfl (Nat.zero_le _) (fr.kf (kfh_of (S := S) kB)) ?_ hc₅ ⟨H₅, t₃, rfl, hole_kf (kfh_of kB)⟩ fun s' c' fr' hD' hkf' => ?_
  · refine hideG fun G hG => ?_
    obtain ⟨o, e, r⟩ := hit
    refine hG ?_
    exact ⟨o, kB _ _ e, r⟩
  · have B' := B.kf hit (kfs_heap hkf')
    exact ⟨rfl, hQ _ s' _ c' hkf' fr' (Nat.le_refl _) (by simpa using hD') (kept_vals B'.hc)⟩
end
end Mine
end
section
open PySem PySem.W PySem.W.X PySem.W.ZRun PyProof.Rows
set_option maxRecDepth 100000
set_option maxHeartbeats 4000000
set_option linter.unusedVariables false
namespace Mine
noncomputable def noughtL : Prop := True
theorem noughtL_of (_ : PySem.Challenge.rw_il0049_01.row.Holds) : noughtL = True := rfl
set_option maxHeartbeats 0 in
theorem hl : noughtL ∧ True := by
  simp (discharger := (w_on; z_head; fail)) only [noughtL_of, and_true]
  exact trivial
noncomputable abbrev HL (P : Params) : Frag := hl.heap_149 P
/-- the heap at the start of law, but the two code tables that grow -/
noncomputable def KR (P : Params) : Frag := (HL P).filter fun p => decide (p.1 ≠ 154) && decide (p.1 ≠ 60)
noncomputable def nsOf (o : Obj) (y : Str) : Option Value := match o.data with | .dict es _ => nsFind es y | _ => none
theorem ns_val {h : Heap} {a : Addr} {m : Str → Option Value} {o : Obj} (hn : h.Ns a m) (ho : h.get? a = some o) {y : Str} {v : Option Value} (e : nsOf o y = v) : m y = v := by
  refine hideG fun G hG => ?_
  obtain ⟨o', es, ep, ho', hd, _, hm⟩ := hn
  refine hG ?_
  rw [ho] at ho'; cases ho'
  rw [← hm y, ← e]
  unfold nsOf
  rw [hd]
theorem get_of {K : Frag} {h : Heap} (X : K.In h) (a : Addr) (e : (K.lookup a).isSome = true) : h.get? a = some ((K.lookup a).getD default) := by
  cases q : K.lookup a with
  | none => rw [q] at e; cases e
  | some o => exact X a o q
noncomputable def fdo (o : Obj) : FuncData := match o.data with | .func fd => fd | _ => default
noncomputable def cdo (o : Obj) : Addr := match (fdo o).code with | .ref c => c | _ => 0
noncomputable def codeOk (K : Frag) (c : Addr) (q : Str) : Bool := match K.lookup c with
  | some oc => match oc.data with
    | .fields vs => match (vs[1]? : Option Value) with
      | some (.str x _) => x == q
      | _ => false
    | _ => false
  | none => false
theorem codeRec_of {K : Frag} {h : Heap} {c : Addr} {q : Str} (e : codeOk K c q = true) (X : K.In h) : h.CodeRec (.ref c) q := by
  unfold codeOk at e
  split at e
  · rename_i oc hoc
    split at e
    · rename_i vs hvs
      split at e
      · rename_i x t hx
        exact ⟨c, oc, vs, t, rfl, X c oc hoc, hvs, by rw [hx, eq_of_beq e]⟩
      · cases e
    · cases e
  · cases e
theorem fd_eta (fd : FuncData) {n q : String} {x : Arguments × List Stmt × Scope} {cl : List (Str × Addr)} {dV : Value} {c : Addr} (h1 : fd.name = Str.ofString n) (h2 : fd.qualname = Str.ofString q) (h3 : fd.params = x.1) (h4 : fd.body = .stmts x.2.1) (h5 : fd.scope = x.2.2)
    (h6 : fd.globals = mainGlobals) (h7 : fd.closure = cl) (h8 : fd.defaults = dV) (h9 : fd.kwdefaults = .none) (h10 : fd.annotations = none) (h11 : fd.code = .ref c) (h12 : fd.builtins = builtinsNs) : fd = fdM n q x cl dV fd.doc fd.pyModule fd.closureTuple c := by
  cases fd
  simp only at *
  subst h1 h2 h3 h4 h5 h6 h7 h8 h9 h10 h11 h12
  rfl
/-- a def of the text stands in a written heap -/
structure FnK (K : Frag) (a : Addr) (n q : String) (x : Arguments × List Stmt × Scope) (dV : Value) : Prop where
  h0 : (K.lookup a).isSome = true
  d : ((K.lookup a).getD default).data = .func (fdo ((K.lookup a).getD default))
  h1 : (fdo ((K.lookup a).getD default)).name = Str.ofString n
  h2 : (fdo ((K.lookup a).getD default)).qualname = Str.ofString q
  h3 : (fdo ((K.lookup a).getD default)).params = x.1
  h4 : (fdo ((K.lookup a).getD default)).body = .stmts x.2.1
  h5 : (fdo ((K.lookup a).getD default)).scope = x.2.2
  h6 : (fdo ((K.lookup a).getD default)).globals = mainGlobals
  h7 : (fdo ((K.lookup a).getD default)).closure = []
  h8 : (fdo ((K.lookup a).getD default)).defaults = dV
  h9 : (fdo ((K.lookup a).getD default)).kwdefaults = .none
  h10 : (fdo ((K.lookup a).getD default)).annotations = none
  h11 : (fdo ((K.lookup a).getD default)).code = .ref (cdo ((K.lookup a).getD default))
  h12 : (fdo ((K.lookup a).getD default)).builtins = builtinsNs
  c : codeOk K (cdo ((K.lookup a).getD default)) (Str.ofString q) = true
theorem FnK.fn {K : Frag} {h : Heap} {a : Addr} {n q : String} {x : Arguments × List Stmt × Scope} (f : FnK K a n q x .none) (X : K.In h) : FnM h a n q x :=
  ⟨_, _, _, _, _, get_of X a f.h0, f.d.trans (congrArg _ (fd_eta _ f.h1 f.h2 f.h3 f.h4 f.h5 f.h6 f.h7 f.h8 f.h9 f.h10 f.h11 f.h12)), codeRec_of f.c X⟩
theorem fk43 (P : Params) : FnK (KR P) 43 "__next__" "filterfalse.__next__" (methNo 1 3) .none := ⟨by kernel_rfl, by kernel_rfl, by kernel_rfl, by kernel_rfl, by kernel_rfl, by kernel_rfl, by kernel_rfl, by kernel_rfl, by kernel_rfl, by kernel_rfl, by kernel_rfl, by kernel_rfl, by kernel_rfl, by kernel_rfl, by kernel_rfl⟩
theorem fk36 (P : Params) : FnK (KR P) 36 "__iter__" "filterfalse.__iter__" (methNo 1 2) .none := ⟨by kernel_rfl, by kernel_rfl, by kernel_rfl, by kernel_rfl, by kernel_rfl, by kernel_rfl, by kernel_rfl, by kernel_rfl, by kernel_rfl, by kernel_rfl, by kernel_rfl, by kernel_rfl, by kernel_rfl, by kernel_rfl, by kernel_rfl⟩
theorem fk58 (P : Params) : FnK (KR P) 58 "_filter" "_filter" (defNo 3) .none := ⟨by kernel_rfl, by kernel_rfl, by kernel_rfl, by kernel_rfl, by kernel_rfl, by kernel_rfl, by kernel_rfl, by kernel_rfl, by kernel_rfl, by kernel_rfl, by kernel_rfl, by kernel_rfl, by kernel_rfl, by kernel_rfl, by kernel_rfl⟩
theorem fk81 (P : Params) : FnK (KR P) 81 "S_IMODE" "S_IMODE" (defNo 9) .none := ⟨by kernel_rfl, by kernel_rfl, by kernel_rfl, by kernel_rfl, by kernel_rfl, by kernel_rfl, by kernel_rfl, by kernel_rfl, by kernel_rfl, by kernel_rfl, by kernel_rfl, by kernel_rfl, by kernel_rfl, by kernel_rfl, by kernel_rfl⟩
theorem fk88 (P : Params) : FnK (KR P) 88 "S_IFMT" "S_IFMT" (defNo 10) .none := ⟨by kernel_rfl, by kernel_rfl, by kernel_rfl, by kernel_rfl, by kernel_rfl, by kernel_rfl, by kernel_rfl, by kernel_rfl, by kernel_rfl, by kernel_rfl, by kernel_rfl, by kernel_rfl, by kernel_rfl, by kernel_rfl, by kernel_rfl⟩
theorem fk128 (P : Params) : FnK (KR P) 128 "filemode" "filemode" (defNo 31) .none := ⟨by kernel_rfl, by kernel_rfl, by kernel_rfl, by kernel_rfl, by kernel_rfl, by kernel_rfl, by kernel_rfl, by kernel_rfl, by kernel_rfl, by kernel_rfl, by kernel_rfl, by kernel_rfl, by kernel_rfl, by kernel_rfl, by kernel_rfl⟩
theorem fk135 (P : Params) : FnK (KR P) 135 "_law_signs" "_law_signs" (defNo 33) .none := ⟨by kernel_rfl, by kernel_rfl, by kernel_rfl, by kernel_rfl, by kernel_rfl, by kernel_rfl, by kernel_rfl, by kernel_rfl, by kernel_rfl, by kernel_rfl, by kernel_rfl, by kernel_rfl, by kernel_rfl, by kernel_rfl, by kernel_rfl⟩
theorem fk142 (P : Params) : FnK (KR P) 142 "_law_compare" "_law_compare" (defNo 34) .none := ⟨by kernel_rfl, by kernel_rfl, by kernel_rfl, by kernel_rfl, by kernel_rfl, by kernel_rfl, by kernel_rfl, by kernel_rfl, by kernel_rfl, by kernel_rfl, by kernel_rfl, by kernel_rfl, by kernel_rfl, by kernel_rfl, by kernel_rfl⟩
theorem fk147 (P : Params) : FnK (KR P) 147 "_law_longer" "_law_longer" (defNo 35) .none := ⟨by kernel_rfl, by kernel_rfl, by kernel_rfl, by kernel_rfl, by kernel_rfl, by kernel_rfl, by kernel_rfl, by kernel_rfl, by kernel_rfl, by kernel_rfl, by kernel_rfl, by kernel_rfl, by kernel_rfl, by kernel_rfl, by kernel_rfl⟩
theorem fk152 (P : Params) : FnK (KR P) 152 "_law_words" "_law_words" (defNo 36) .none := ⟨by kernel_rfl, by kernel_rfl, by kernel_rfl, by kernel_rfl, by kernel_rfl, by kernel_rfl, by kernel_rfl, by kernel_rfl, by kernel_rfl, by kernel_rfl, by kernel_rfl, by kernel_rfl, by kernel_rfl, by kernel_rfl, by kernel_rfl⟩
theorem fk29 (P : Params) : FnK (KR P) 29 "__init__" "filterfalse.__init__" (methNo 1 1) .none := ⟨by kernel_rfl, by kernel_rfl, by kernel_rfl, by kernel_rfl, by kernel_rfl, by kernel_rfl, by kernel_rfl, by kernel_rfl, by kernel_rfl, by kernel_rfl, by kernel_rfl, by kernel_rfl, by kernel_rfl, by kernel_rfl, by kernel_rfl⟩
end Mine
end
section
open PySem PySem.W PyProof.Rows
set_option maxRecDepth 100000
set_option linter.unusedVariables false
namespace Mine
noncomputable def allNews (h : Heap) (L : Addr) : List (Addr × Obj) := (List.range h.objs.size).filterMap fun a => if a = L then none else (h.get? a).map fun o => (a, o)
theorem mem_allNews {h : Heap} {L b : Addr} {o : Obj} (hb : b ≠ L) (e : h.get? b = some o) : (b, o) ∈ allNews h L := by
  refine List.mem_filterMap.mpr ⟨b, List.mem_range.mpr (Heap.lt_size e), ?_⟩
  rw [if_neg hb, e]; rfl
theorem news_all (h : Heap) (L : Addr) : News ⟨#[], h.life⟩ L h (allNews h L) := fun p hp => by
  obtain ⟨a, ha, e⟩ := List.mem_filterMap.mp hp
  by_cases hL : a = L
  · rw [if_pos hL] at e; cases e
  · rw [if_neg hL] at e
    cases hq : h.get? a with
    | none => rw [hq] at e; cases e
    | some o => rw [hq] at e; cases e; exact ⟨hq, hL, rfl⟩
theorem fr_none {h : Heap} {L : Addr} {m : Str → Option Value} {l : Life} (hn : h.Ns L m) : Fr ⟨#[], l⟩ L h m := ⟨hn, (fun b o e => by cases e), Nat.zero_le _⟩
/-- all objects but two -/
noncomputable def allNews2 (h : Heap) (L k : Addr) : List (Addr × Obj) := (allNews h L).filter fun p => decide (p.1 ≠ k)
theorem mem_allNews2 {h : Heap} {L k b : Addr} {o : Obj} (hb : b ≠ L) (hk : b ≠ k) (e : h.get? b = some o) : (b, o) ∈ allNews2 h L k := List.mem_filter.mpr ⟨mem_allNews hb e, by simpa using hk⟩
theorem news_all2 (l : Life) (h : Heap) (L k : Addr) : News ⟨#[], l⟩ L h (allNews2 h L k) := fun p hp => by
  have := news_all h L p (List.mem_filter.mp hp).1
  exact ⟨this.1, this.2.1, rfl⟩
theorem ne_allNews2 {h : Heap} {L k : Addr} : ∀ p ∈ allNews2 h L k, p.1 ≠ k := fun p hp => by simpa using (List.mem_filter.mp hp).2
theorem args_iterB (v : Value) : argsOk "iter" ⟨[v], []⟩ := by unfold argsOk; kernel_rfl
/-- what is asked of the written heap about a slot's name of a class -/
structure SetK (K : Frag) (C : Addr) (name : Str) (p i : Nat) : Prop where
  hs : findIn K (.ref C) "__setattr__" = some (some (.builtin "object.__setattr__"))
  hp : plainOver K C = true
  ht : takerIn K C name = some (some (.ref p))
  hT : typeIn K (.ref p) = some (.type "member_descriptor")
  hsl : slotIn K p C = some i
/-- what is asked of the written heap about the making of instances -/
structure MakeK (K : Frag) (C fI : Addr) : Prop where
  ok : makesIn K C = true
  hi : findIn K (.ref C) "__init__" = some (some (.ref fI))
  hf : typeIn K (.ref fI) = some (.type "function")
noncomputable abbrev slotted (C dx : Addr) (sl : Array (Option Value)) : Obj := { cls := .ref C, dict := some dx, data := .plain, slots := sl }
section
variable {prog : Program} {w : World} {A : Around} {E : Value → Shared → Prop} {s : Shared}
theorem iterB {v : Value} {Q : Value → Shared → Prop} (h : ∀ A' E', A'.handled = A.handled → wpAny (model prog w) A' (pyIter v) Q E' s) : wpAny (model prog w) A (call (.builtin "iter") [v]) Q E s := by
  refine Calls.call_function_entry (by decide +kernel) (by decide +kernel) PySem.W.kdk_entry_iter (args_iterB _) ?_
  unfold Builtin.«iter»
  refine wpAny_bind (m := someArgs "iter" 1 2 _) (wpAny_of_eq (a := [v]) (by first | rfl | kernel_rfl!) ?_)
  dsimp only
  refine wpAny_bind (wpAny_mono (h _ _ rfl) (fun x s' q => wpAny_pure ⟨_, rfl, q⟩) fun _ _ e => e)
/-- a slot of an object is set -/
theorem setSlot {K : Frag} {C x dx L : Addr} {name : Str} {p i : Nat} {v : Value} {sl : Array (Option Value)} {m : Str → Option Value} {Q : Unit → Shared → Prop} (X : K.In s.heap) (k : SetK K C name p i) (hi : i < 1000) (ho : s.heap.get? x = some (slotted C dx sl)) (hdx : s.heap.get? dx = some fltDict) (hn : s.heap.Ns L m) (hxL : x ≠ L)
    (h : ∀ h' tk, h'.Ns L m → KM [L, x] s.heap h' → h'.get? x = some (slotted C dx ((sl ++ Array.replicate (i + 1 - sl.size) none).setIfInBounds i (some v))) → Q () { s with heap := h', toks := tk }) :
    wpAny (model prog w) A (setAttr (.ref x) name v) Q E s := by
  refine set_plain (od := some fltDict) X ⟨ho, rfl, rfl, hdx⟩ k.hs ?_
  refine osa_descr (od := some fltDict) (s := { s with toks := s.toks + 1 }) KF.slot_mset X ⟨ho, rfl, rfl, hdx⟩ k.hp k.ht k.hT ?_
  refine slot_set (od := some fltDict) (s := { s with toks := s.toks + 1 }) (ox := slotted C dx sl) (pre := []) (post := allNews2 s.heap L x) (h₀ := ⟨#[], s.heap.life⟩) (L := L) (m := m) (fr_none hn) (fun q hq => ?_) X ⟨ho, rfl, rfl, hdx⟩ k.hsl hi (fun _ z => nomatch z) ne_allNews2 rfl rfl fun h' F N => ?_
  · rcases List.mem_cons.mp hq with rfl | hq
    · exact ⟨ho, hxL, rfl⟩
    · exact news_all2 _ s.heap L x q hq
  · refine h h' _ F.ns (fun b o hb e => ?_) (N _ (.head _)).1
    simp only [List.mem_cons, List.not_mem_nil, or_false, not_or] at hb
    exact (N _ (.tail _ (mem_allNews2 hb.1 hb.2 e))).1
/-- the frame and an object that is new are changed -/
theorem FX.kmLx {s₀ : Shared} {L x : Addr} {m m' cm : Str → Option Value} {h' : Heap} {tk : Nat} (f : FX [] s₀ L m [] cm s) (hn : h'.Ns L m') (k : KM [L, x] s.heap h') (h0 : s₀.heap.get? x = none) : FX [] s₀ L m' [] cm { s with heap := h', toks := tk } := by
  refine ⟨?_, hn, kfh_of fun b o e => k b o (fun z => ?_) (kfh_nil f.keep b o e), f.fresh, (fun _ _ e => nomatch e), f.apart, f.above⟩
  · obtain ⟨h, t, e⟩ := f.same; exact ⟨h', tk, by rw [e]⟩
  · simp only [List.mem_cons, List.not_mem_nil, or_false] at z
    rcases z with rfl | rfl
    · exact Nat.lt_irrefl _ (Nat.lt_of_lt_of_le (Heap.lt_size e) f.fresh)
    · rw [h0] at e; cases e
/-- an object of a class with an __init__ of the text is made -/
theorem makeInst {K : Frag} {C fI : Addr} {n q : String} {xx : Arguments × List Stmt × Scope} {args : List Value} {binds : List (Str × Value)} {Q : Value → Shared → Prop} (X : K.In s.heap) (mk : MakeK K C fI) (fn : FnM s.heap fI n q xx) (lim : s.heap.NoLimit) (hroom : A.depth ≤ 900)
    (hbind : ∀ doc pm ct c, bindArgs (fdM n q xx [] .none doc pm ct c) ⟨.ref (s.heap.objs.size + 1) :: args, []⟩ = pure binds) (hloc : ∀ y ∈ binds, xx.2.2.names.lookup y.1 = some .local) (hcell : ∀ y ∈ xx.2.2.names, y.2 ≠ .cell)
    (h : ∀ doc pm ct c A' E' s₁, FX [] s (s.heap.objs.size + 2) (fun y => binds.reverse.lookup y) [] (fun _ => none) s₁ → s₁.heap.get? (s.heap.objs.size + 1) = some (slotted C s.heap.objs.size #[]) → s₁.heap.get? s.heap.objs.size = some fltDict →
      wpAny (model prog w) A' (execs xx.2.1 (envM n q xx doc pm ct c (s.heap.objs.size + 2) fI)) (fun f s' => retOf f = .none ∧ Q (.ref (s.heap.objs.size + 1)) s') E' s₁)
    (hco : xx.2.2.isCoroutine = false := by rfl) (hgen : xx.2.2.isGenerator = false := by rfl) (hk : xx.2.2.kind = .function := by rfl) (hnc : cellsFrom (s.heap.objs.size + 2 + 1) xx.2.2.names [] = [] := by rfl) :
    wpAny (model prog w) A (call (.ref C) args) Q E s := by
  obtain ⟨hh, g, d, t, os⟩ := s
  obtain ⟨doc, pm, ct, c, o, ho, hd, hc⟩ := fn
  have k2 : Keep hh ((hh.push emptyDict).push (instObj C hh.objs.size)) := (kp_push _ _).tr (kp_push _ _)
  have hz : ((hh.push emptyDict).push (instObj C hh.objs.size)).objs.size = hh.objs.size + 2 := by rw [Heap.size_push, Heap.size_push]
  have hx : ((hh.push emptyDict).push (instObj C hh.objs.size)).get? (hh.objs.size + 1) = some (slotted C hh.objs.size #[]) := by
    have := Heap.get?_push_size (hh.push emptyDict) (o := instObj C hh.objs.size) rfl
    rwa [Heap.size_push] at this
  have hdx : ((hh.push emptyDict).push (instObj C hh.objs.size)).get? hh.objs.size = some fltDict := Heap.get?_push_of_some _ (Heap.get?_push_size _ rfl)
  have hw1 : (Code.builtin "type.__call__" ⟨.ref C :: args, []⟩).weight = 1 := by first | rfl | kernel_rfl
  refine wpAny_call (make_core (makes_of X mk.ok) (looks_findIn X mk.hi) (fun self => bind_fn X self mk.hf) (.inl rfl) ?_)
  refine codeAny_call_function (body := xx.2.1) (by show A.depth + (Code.builtin "type.__call__" ⟨.ref C :: args, []⟩).weight < recursionLimit; rw [hw1]; exact Nat.lt_of_le_of_lt (Nat.add_le_add_right hroom 1) (by decide)) (k2 _ _ ho) hd hco hgen rfl (hc.keeps k2) ?_
  rw [hbind]
  refine wpAny_pure (wpAny_newFunctionEnv hcell hloc (fun h₁ hns hsb => ⟨(lim.keeps k2).fresh _ hsb, ?_⟩) hk)
  dsimp only at hns hsb ⊢
  have hk₁ : Keep ((hh.push emptyDict).push (instObj C hh.objs.size)) h₁ := fun b o e => hsb.extBut b o (Nat.ne_of_lt (Heap.lt_size e)) (Heap.get?_push_of_some _ e)
  have e2 : envM n q xx doc pm ct c (hh.objs.size + 2) fI = newEnv xx.2.2 (hh.objs.size + 2) mainGlobals [] (Str.ofString q ++ ".<locals>.") (some fI) (.ref c) none builtinsNs := by
    show newEnv _ _ _ (cellsFrom (hh.objs.size + 2 + 1) xx.2.2.names []) _ _ _ _ _ = _
    rw [hnc]
    rfl
  rw [hz] at hns ⊢
  refine codeAny_func (wpAny_mono (e2 ▸ h doc pm ct c _ _ _ ⟨⟨h₁, _, rfl⟩, hns, kfh_of (k2.tr hk₁), Nat.le_add_right _ _, (fun _ _ e => nomatch e), List.Pairwise.nil, (fun _ _ e => nomatch e)⟩ (hk₁ _ _ hx) (hk₁ _ _ hdx)) (fun f s' q => ?_) fun _ _ e => e)
  cases f <;> exact q
end
end Mine
end
section
open PySem PySem.W PyProof.Rows
set_option maxRecDepth 100000
set_option linter.unusedVariables false
namespace Mine
noncomputable abbrev PR : Program := PySem.Challenge.rw_il0049_01.row.prog
noncomputable abbrev HF (w : World) : Frag := KR w.params
theorem mk47 (P : Params) : MakeK (KR P) 47 29 := ⟨by kernel_rfl, by kernel_rfl, by kernel_rfl⟩
theorem sk49 (P : Params) : SetK (KR P) 47 "_it" 49 1 := ⟨by kernel_rfl, by kernel_rfl, by kernel_rfl, by kernel_rfl, by kernel_rfl⟩
theorem sk48 (P : Params) : SetK (KR P) 47 "_func" 48 0 := ⟨by kernel_rfl, by kernel_rfl, by kernel_rfl, by kernel_rfl, by kernel_rfl⟩
noncomputable def FltMade (h h' : Heap) (x mw l : Addr) : Prop := ∃ it dx, h'.get? x = some ⟨.ref 47, some dx, .plain, #[some (.ref mw), some (.ref it)]⟩ ∧ h'.get? dx = some ⟨.type "dict", none, .dict #[] 0, #[]⟩ ∧ h'.get? it = some ⟨.type "list_iterator", none, .fields #[.ref l, .int 0 0], #[]⟩ ∧ h.get? x = none ∧ h.get? dx = none ∧ h.get? it = none
section
variable {w : World} {A : Around} {E : Value → Shared → Prop} {s : Shared} {mg mb : Str → Option Value}
theorem fltNew {mw l : Addr} {its : Array Value} {Q : Value → Shared → Prop} (X : (HF w).In s.heap) (lim : s.heap.NoLimit) (hg : s.heap.Ns mainGlobals mg) (hb : s.heap.Ns builtinsNs mb) (g1 : mg (Str.ofString "iter") = none) (b1 : mb (Str.ofString "iter") = some (.builtin "iter")) (hd : A.depth ≤ 900) (hl : s.heap.IsList l its)
    (hq : ∀ x h' tk, Keep s.heap h' → FltMade s.heap h' x mw l → Q (.ref x) { s with heap := h', toks := tk }) :
    wpAny (model PR w) A (call (.ref 47) [.ref mw, .ref l]) Q E s := by
  refine makeInst (n := "__init__") (q := "filterfalse.__init__") (xx := methNo 1 1) (binds := [(Str.ofString "self", .ref (s.heap.objs.size + 1)), (Str.ofString "function", .ref mw), (Str.ofString "iterable", .ref l)]) X (mk47 _) ((fk29 _).fn X) lim hd (fun _ _ _ _ => by rfl) ?_ ?_ fun doc pm ct c A' E' s₁ f hx hdx => ?_
  · intro y hy
    simp only [List.mem_cons, List.not_mem_nil, or_false] at hy
    rcases hy with rfl | rfl | rfl <;> rfl
  · show ∀ y ∈ (methNo 1 1).2.2.names, y.2 ≠ NameKind.cell
    decide
  have n0 : ∀ {a : Addr}, s.heap.objs.size ≤ a → s.heap.get? a = none := fun h => Heap.get?_none_of_le h
  have nx := n0 (a := s.heap.objs.size + 1) (Nat.le_succ _)
  have xL : s.heap.objs.size + 1 ≠ s.heap.objs.size + 2 := Nat.ne_of_lt (Nat.lt_succ_self _)
  have dL : s.heap.objs.size ≠ s.heap.objs.size + 2 := by omega
  have dx : s.heap.objs.size ≠ s.heap.objs.size + 1 := Nat.ne_of_lt (Nat.lt_succ_self _)
  have hk := kfh_nil f.keep
  refine hideG fun G hG => ?_
  obtain ⟨m, m1, m2, m3, f⟩ : ∃ m, m (Str.ofString "self") = some (Value.ref (s.heap.objs.size + 1)) ∧ m (Str.ofString "function") = some (Value.ref mw) ∧ m (Str.ofString "iterable") = some (Value.ref l) ∧ FX [] s (s.heap.objs.size + 2) m [] (fun _ => none) s₁ := ⟨_, by rfl, by rfl, by rfl, f⟩
  refine hG ?_
  have hLs : s.heap.objs.size + 2 < s₁.heap.objs.size := f.ns.lt
  refine wpAny_execs_cons (plainObj_wpAny_Assign_Attribute ?_)
  refine callN1 ?_
  refine Calls.Name_function_global (by rfl) (by rfl) (Calls.loadGlobal_builtin (hg.keeps hk) g1 (hb.keeps hk) b1 ?_) (by decide)
  refine PySem.callWith_builtin1 ?_
  refine nmL (m := m) f (by rfl) (by rfl) m3 ?_ (by decide)
  refine iterB fun A₂ E₂ _ => ?_
  refine wpAny_pyIter_list (listAt hk hl) ?_
  have kI := kp_push s₁.heap { cls := .type "list_iterator", data := .fields #[.ref l, .int 0 0] }
  have hit : (s₁.heap.push { cls := .type "list_iterator", data := .fields #[.ref l, .int 0 0] }).get? s₁.heap.objs.size = some ⟨.type "list_iterator", none, .fields #[.ref l, .int 0 0], #[]⟩ := Heap.get?_push_size _ rfl
  have nit := n0 (a := s₁.heap.objs.size) (by omega)
  have iL : s₁.heap.objs.size ≠ s.heap.objs.size + 2 ∧ s₁.heap.objs.size ≠ s.heap.objs.size + 1 := by omega
  generalize s₁.heap.objs.size = it at hit nit iL ⊢
  have f₂ := f.ks (ks_of (t := s₁.toks) kI)
  have hx₂ := kI _ _ hx
  have hdx₂ := kI _ _ hdx
  generalize s₁.heap.push { cls := .type "list_iterator", data := .fields #[.ref l, .int 0 0] } = h₂ at hit f₂ hx₂ hdx₂ ⊢
  refine nmL (m := m) f₂ (by rfl) (by rfl) m1 ?_ (by decide)
  refine setSlot (X.keeps (kfh_nil f₂.keep)) (sk49 _) (by decide) hx₂ hdx₂ f₂.ns xL fun h₃ t₃ hn₃ k₃ hx₃ => ?_
  have f₃ := f₂.kmLx (tk := t₃) hn₃ k₃ nx
  have up : ∀ {h h' : Heap} {b : Addr} {o : Obj}, KM [s.heap.objs.size + 2, s.heap.objs.size + 1] h h' → b ≠ s.heap.objs.size + 2 → b ≠ s.heap.objs.size + 1 → h.get? b = some o → h'.get? b = some o := fun k h1 h2 e => k _ _ (by simp [h1, h2]) e
  refine wpAny_execs_cons (plainObj_wpAny_Assign_Attribute ?_)
  refine nmL (m := m) f₃ (by rfl) (by rfl) m2 ?_ (by decide)
  refine nmL (m := m) f₃ (by rfl) (by rfl) m1 ?_ (by decide)
  refine setSlot (X.keeps (kfh_nil f₃.keep)) (sk48 _) (by decide) hx₃ (up k₃ dL dx hdx₂) f₃.ns xL fun h₄ t₄ hn₄ k₄ hx₄ => ?_
  have f₄ := f₃.kmLx (tk := t₄) hn₄ k₄ nx
  refine wpAny_execs_nil ⟨rfl, ?_⟩
  refine hideG fun G hG => ?_
  obtain ⟨hh, tt, e⟩ := f.same
  refine hG ?_
  have hq' := hq (s.heap.objs.size + 1) h₄ t₄ (kfh_nil f₄.keep) ⟨it, s.heap.objs.size, hx₄, up k₄ dL dx (up k₃ dL dx hdx₂), up k₄ iL.1 iL.2 (up k₃ iL.1 iL.2 hit), nx, n0 (Nat.le_refl _), nit⟩
  rw [e]
  exact hq'
end
end Mine
end
section
open PySem PySem.W PyProof.Rows
set_option maxRecDepth 100000
set_option linter.unusedVariables false
namespace Mine
theorem fltOk (w : World) : FltOk (HF w) := by
  refine ⟨?_, ?_, ?_, ?_, ?_, ?_, ?_, ?_, ?_, ?_, ?_, ?_, ?_⟩
  · have : (HF w).all (fun p => decide (p.1 < 158)) = true := by kernel_rfl
    intro p hp
    exact of_decide_eq_true (List.all_eq_true.mp this p hp)
  all_goals kernel_rfl
theorem keep47 (w : World) : keepIn (HF w) (.ref 47) = true := by kernel_rfl
/-- what is asked of the names -/
structure GOk (mg mb : Str → Option Value) : Prop where
  n_next : mg (Str.ofString "next") = none
  n_bool : mg (Str.ofString "bool") = none
  n_list : mg (Str.ofString "list") = none
  n_len : mg (Str.ofString "len") = none
  n_range : mg (Str.ofString "range") = none
  n_iter : mg (Str.ofString "iter") = none
  n_sorted : mg (Str.ofString "sorted") = none
  n_enum : mg (Str.ofString "enumerate") = none
  b_next : mb (Str.ofString "next") = some (.builtin "next")
  b_bool : mb (Str.ofString "bool") = some (.type "bool")
  b_list : mb (Str.ofString "list") = some (.type "list")
  b_len : mb (Str.ofString "len") = some (.builtin "len")
  b_range : mb (Str.ofString "range") = some (.type "range")
  b_iter : mb (Str.ofString "iter") = some (.builtin "iter")
  b_sorted : mb (Str.ofString "sorted") = some (.builtin "sorted")
  b_enum : mb (Str.ofString "enumerate") = some (.type "enumerate")
  g_ff : mg (Str.ofString "filterfalse") = some (.ref 47)
  g_filter : mg (Str.ofString "_filter") = some (.ref 58)
  g_ctk : mg (Str.ofString "cmp_to_key") = some (.ref 65)
  g_init : mg (Str.ofString "_initial_missing") = some (.ref 66)
  g_reduce : mg (Str.ofString "reduce") = some (.ref 74)
  g_imode : mg (Str.ofString "S_IMODE") = some (.ref 81)
  g_ifmt : mg (Str.ofString "S_IFMT") = some (.ref 88)
  g_fm : mg (Str.ofString "filemode") = some (.ref 128)
  g_signs : mg (Str.ofString "_law_signs") = some (.ref 135)
  g_cmp : mg (Str.ofString "_law_compare") = some (.ref 142)
  g_longer : mg (Str.ofString "_law_longer") = some (.ref 147)
  g_words : mg (Str.ofString "_law_words") = some (.ref 152)
/-- what the functions ask of a heap -/
structure GW (w : World) (mg mb : Str → Option Value) (h : Heap) : Prop where
  X : (HF w).In h
  fnN : FnM h 43 "__next__" "filterfalse.__next__" (methNo 1 3)
  fnI : FnM h 36 "__iter__" "filterfalse.__iter__" (methNo 1 2)
  filter : FnM h 58 "_filter" "_filter" (defNo 3)
  imode : FnM h 81 "S_IMODE" "S_IMODE" (defNo 9)
  ifmt : FnM h 88 "S_IFMT" "S_IFMT" (defNo 10)
  fm : FnM h 128 "filemode" "filemode" (defNo 31)
  signs : FnM h 135 "_law_signs" "_law_signs" (defNo 33)
  cmp : FnM h 142 "_law_compare" "_law_compare" (defNo 34)
  longer : FnM h 147 "_law_longer" "_law_longer" (defNo 35)
  words : FnM h 152 "_law_words" "_law_words" (defNo 36)
  lim : h.NoLimit
  g : h.Ns mainGlobals mg
  b : h.Ns builtinsNs mb
theorem GW.kf {w : World} {mg mb : Str → Option Value} {S : List Addr} {h h' : Heap} (G : GW w mg mb h) (hS : ∀ q ∈ S, 158 ≤ q) (k : KFh S h h') : GW w mg mb h' := by
  refine ⟨fun a o e => ?_, G.fnN.kf k, G.fnI.kf k, G.filter.kf k, G.imode.kf k, G.ifmt.kf k, G.fm.kf k, G.signs.kf k, G.cmp.kf k, G.longer.kf k, G.words.kf k, kfh_lim k G.lim, kfh_ns k G.g, kfh_ns k G.b⟩
  have hlt := (fltOk w).low _ (mem_of_lookupK e)
  exact k.1 a o (fun z => Nat.lt_irrefl _ (Nat.lt_of_lt_of_le hlt (hS a z))) (G.X a o e)
theorem GW.ks {w : World} {mg mb : Str → Option Value} {h h' : Heap} (G : GW w mg mb h) (k : Keep h h') : GW w mg mb h' := G.kf (S := []) (fun _ z => nomatch z) (kfh_of k)
/-- where a call stands -/
structure Ar (A : Around) (outer : List Env) (S : List Addr) (h : Heap) : Prop where
  d : A.depth ≤ 700
  u : A.units ≤ 4000
  hh : A.handled = none
  fr : A.frames = some outer
  ff : FFr h outer
  hS : S = outer.filterMap (·.frame)
  hi : ∀ q ∈ S, 158 ≤ q
  sq : ∀ q ∈ S, ∃ m, h.Ns q m
theorem Ar.new {A : Around} {outer : List Env} {S : List Addr} {h : Heap} (a : Ar A outer S h) : h.objs.size ∉ S := fun hm => by
  rw [a.hS] at hm
  obtain ⟨env, he, hf⟩ := List.mem_filterMap.mp hm
  obtain ⟨_, L, o, hf', ho, _⟩ := a.ff env he
  rw [hf] at hf'
  cases hf'
  exact Nat.lt_irrefl _ (Heap.lt_size ho)
theorem Ar.kf {A : Around} {outer : List Env} {S T : List Addr} {h h' : Heap} (a : Ar A outer S h) (k : KFh T h h') : Ar A outer S h' := ⟨a.d, a.u, a.hh, a.fr, a.ff.kf k, a.hS, a.hi, fun q hq => let ⟨m, hn⟩ := a.sq q hq; ⟨m, kfh_ns k hn⟩⟩
theorem Ar.noSeq {A : Around} {outer : List Env} {S : List Addr} {h : Heap} {q : Addr} {o : Obj} {vs : Array Value} {n : Nat} (a : Ar A outer S h) (e : h.get? q = some o) (hd : o.data = .seq vs n) : q ∉ S := fun hq => by
  obtain ⟨m, o', es, ep, ho, hd', _⟩ := a.sq q hq
  rw [e] at ho; cases ho; rw [hd] at hd'; cases hd'
theorem Ar.noFunc {A : Around} {outer : List Env} {S : List Addr} {h : Heap} {q : Addr} {o : Obj} {fd : FuncData} (a : Ar A outer S h) (e : h.get? q = some o) (hd : o.data = .func fd) : q ∉ S := fun hq => by
  obtain ⟨m, o', es, ep, ho, hd', _⟩ := a.sq q hq
  rw [e] at ho; cases ho; rw [hd] at hd'; cases hd'
theorem Ar.noFields {A : Around} {outer : List Env} {S : List Addr} {h : Heap} {q : Addr} {o : Obj} {vs : Array Value} (a : Ar A outer S h) (e : h.get? q = some o) (hd : o.data = .fields vs) : q ∉ S := fun hq => by
  obtain ⟨m, o', es, ep, ho, hd', _⟩ := a.sq q hq
  rw [e] at ho; cases ho; rw [hd] at hd'; cases hd'
theorem Ar.sqn {A : Around} {outer : List Env} {S : List Addr} {h : Heap} (a : Ar A outer S h) : ∀ q ∈ S, ∀ o, h.get? q = some o → NotSeq o := fun q hq o e vs n hd => a.noSeq e hd hq
theorem Ar.deep {A : Around} {outer : List Env} {S : List Addr} {h : Heap} {env : Env} {L : Addr} {T : List Addr} {s₀ s : Shared} {m cm : Str → Option Value} {cs : List (Str × Addr)} (a : Ar A outer S s₀.heap) (x : FX S s₀ L m cs cm s) (hf : env.frame = some L) (hk : env.scope.kind ≠ .module) (h158 : 158 ≤ L)
    (hd : A.depth ≤ 699) (hu : A.units ≤ 3990) : Ar (A.deeper env) (env :: outer) (L :: S) s.heap := by
  refine ⟨by show A.depth + 1 ≤ 700; omega, by show A.units + 3 ≤ 4000; omega, a.hh, Around.frames_deeper a.fr, ?_, ?_, ?_, ?_⟩
  · intro en hen
    rcases List.mem_cons.mp hen with rfl | hen
    · obtain ⟨o, es, ep, ho, hd, _⟩ := x.ns
      exact ⟨hk, L, o, hf, ho, fun ws q => by rw [hd] at q; cases q⟩
    · exact (a.ff.kf x.keep) en hen
  · rw [List.filterMap_cons, hf, a.hS]
  · intro q hq
    rcases List.mem_cons.mp hq with rfl | hq
    · exact h158
    · exact a.hi q hq
  · intro q hq
    rcases List.mem_cons.mp hq with rfl | hq
    · exact ⟨_, x.ns⟩
    · exact (a.kf x.keep).sq q hq
section
variable {w : World} {A : Around} {E : Value → Shared → Prop} {s : Shared} {mg mb : Str → Option Value}
theorem filterFn {S : List Addr} {outer : List Env} {fl sk : Addr} {vs ws : List Value} {nk : Nat} {cands seen : List (List Int)} {Q : Value → Shared → Prop} (G : GW w mg mb s.heap) (N : GOk mg mb) (a : Ar A outer S s.heap) (hd : A.depth ≤ 690) (hu : A.units ≤ 3900)
    (h158 : 158 ≤ s.heap.objs.size) (hg : s.gens = #[]) (hv : vs.length ≤ 1000) (hf : s.heap.IsList fl vs.toArray) (hfc : All2 (LI s.heap) vs cands) (hsk : s.heap.get? sk = some (lstO ws.toArray nk)) (hskc : All2 (LI s.heap) ws seen)
    (hQ : ∀ D s' ys c, KFs S s s' → s.heap.objs.size ≤ D → s'.heap.get? D = some (lstO ys.toArray c) → All2 (LI s'.heap) ys (cands.filter fun c => decide (c ∉ seen)) → Q (.ref D) s') :
    wpAny (model PR w) A (call (.ref 58) [.ref fl, .ref sk]) Q E s := by
  refine callX S (binds := [(Str.ofString "flist", .ref fl), (Str.ofString "skip", .ref sk)]) (Nat.lt_of_le_of_lt a.d (by decide)) G.filter G.lim (fun _ _ _ _ => by rfl) ?_ fun doc pm ct c s₁ f => ?_
  · intro y hy
    simp only [List.mem_cons, List.not_mem_nil, or_false] at hy
    rcases hy with rfl | rfl
    · exact .inl rfl
    · exact .inl rfl
  have a' := a.deep (h := s₁.heap) (T := S) (env := envM "_filter" "_filter" (defNo 3) doc pm ct c s.heap.objs.size 58) f rfl (by show (defNo 3).2.2.kind ≠ _; decide) h158 (by omega) (by omega)
  have hu' : (A.deeper (envM "_filter" "_filter" (defNo 3) doc pm ct c s.heap.objs.size 58)).units ≤ 3910 := by show A.units + 3 ≤ 3910; omega
  have hd' : (A.deeper (envM "_filter" "_filter" (defNo 3) doc pm ct c s.heap.objs.size 58)).depth ≤ 691 := by show A.depth + 1 ≤ 691; omega
  obtain ⟨m, hfl, hsk', f⟩ : ∃ m, m (Str.ofString "flist") = some (.ref fl) ∧ m (Str.ofString "skip") = some (.ref sk) ∧ FX S s s.heap.objs.size m (cellsFrom (s.heap.objs.size + 1) (defNo 3).2.2.names []) (fun _ => none) s₁ := ⟨_, by rfl, by rfl, f⟩
  generalize hA' : (A.deeper (envM "_filter" "_filter" (defNo 3) doc pm ct c s.heap.objs.size 58)) = A' at a' hu' hd' ⊢
  have G₁ := G.kf a.hi f.keep
  have hf₁ := kfh_list f.keep hf
  have hsk₁ := f.keep.1 _ _ (a.noSeq hsk rfl) hsk
  refine wpAny_execs_cons (wpAny_Return_some ?_)
  refine callN1 ?_
  refine Calls.Name_function_global (by rfl) (by rfl) (Calls.loadGlobal_builtin G₁.g N.n_list G₁.b N.b_list ?_) (by decide)
  refine PySem.callWith_type1 ?_
  refine Call_Name (trees := [(false, eval _ _), (false, eval _ _)]) rfl ?_
  refine Calls.Name_function_global (by rfl) (by rfl) (Calls.loadGlobal_global G₁.g N.g_ff ?_) (by decide)
  refine callWith_of (P := (HF w).In) rfl (keeps_K (keep47 w)) (Calls.evalArgs_plain (Calls.spliced_cons ?_))
  refine Attribute_Name_ ?_
  refine nmL (m := m) f (by rfl) (by rfl) hsk' ?_ (by decide)
  refine lc_attr hsk₁ ?_
  refine Calls.spliced_cons ?_
  have f₂ := f.ks (ks_push s₁ (wrapObj sk) (s₁.toks + 1))
  refine nmL (m := m) f₂ (by rfl) (by rfl) hfl ?_ (by decide)
  refine Calls.spliced_nil ?_
  have k2 : Keep s₁.heap (s₁.heap.push (wrapObj sk)) := kp_push _ _
  have G₂ := G₁.ks k2
  refine ⟨G₂.X, ?_⟩
  obtain ⟨h₁, t₁, e₁⟩ := f.same
  obtain ⟨h, g, d, t, os⟩ := s
  subst hg e₁
  show wpAny _ _ (call (.ref 47) [.ref h₁.objs.size, .ref fl]) _ _ _
  have k01 : ∀ q o, (h₁.push (wrapObj sk)).get? q = some o → True := fun _ _ _ => trivial
  obtain ⟨⟨cls₁, dd₁, da₁, sl₁⟩, ho₁, hc₁, nf, hd₁⟩ := id hf₁
  simp only at hc₁ hd₁
  subst hc₁ hd₁
  refine fltNew G₂.X G₂.lim G₂.g G₂.b N.n_iter N.b_iter (Nat.le_trans a'.d (by decide)) ⟨_, k2 _ _ ho₁, rfl, _, rfl⟩ fun x h₃ t₃ k3 mk => ?_
  obtain ⟨it, dx, hx, hdx, hit, nx, ndx, nit⟩ := mk
  have a₃ := (a'.kf (T := []) (kfh_of k2)).kf (T := []) (kfh_of k3)
  have ninS : ∀ q, (h₁.push (wrapObj sk)).get? q = none → q ∉ h.objs.size :: S := fun q hq hm => by
    have hm' : q ∈ (envM "_filter" "_filter" (defNo 3) doc pm ct c h.objs.size 58 :: outer).filterMap (·.frame) := a'.hS ▸ hm
    obtain ⟨env, he, hf'⟩ := List.mem_filterMap.mp hm'
    obtain ⟨_, L, o, hfe, ho, _⟩ := (a'.kf (T := []) (kfh_of k2)).ff env he
    rw [hf'] at hfe
    cases hfe
    rw [hq] at ho
    cases ho
  have G₃ := G₂.ks k3
  have k13 : Keep h₁ h₃ := k2.tr k3
  have fls : ∀ {q : Addr} {o : Obj}, (h₁.push (wrapObj sk)).get? q = some o → h₃.get? q = some o := fun e => k3 _ _ e
  have wS : h₁.objs.size ∉ h.objs.size :: S := a'.new
  refine fltList (A := A') (S := h.objs.size :: S) (outer := envM "_filter" "_filter" (defNo 3) doc pm ct c h.objs.size 58 :: outer) (K := HF w) (mg := mg) (mb := mb) (mw := h₁.objs.size) (it := it) (sk := sk) (fl := fl) (dx := dx) (vs := vs) (cands := cands) (seen := seen) (Lf := h.objs.size)
    (Nat.lt_of_le_of_lt hd' (by decide)) (by rw [show cLine = 9900 from rfl]; omega) a'.hh a'.fr a'.hS hv ?_ a₃.ff ⟨_, hit, rfl, rfl⟩ fun D s' ys c' kf' ff' hD hDo hys => ?_
  · have hit2 : (HF w).lookup it = none := by
      cases e : (HF w).lookup it with
      | none => rfl
      | some o => have := G₂.X it o e; rw [nit] at this; cases this
    exact { ok := fltOk w, X := G₃.X, fnN := G₃.fnN, fnI := G₃.fnI, lim := G₃.lim, g := G₃.g, b := G₃.b, g1 := N.n_next, b1 := N.b_next, g2 := N.n_bool, b2 := N.b_bool, hK := a'.hi, it2 := hit2, xS := ninS _ nx, mS := wS, dS := ninS _ ndx, hdx := hdx, hx := hx, hm := fls (Heap.get?_push_size _ rfl), hs := ⟨sk, ws, rfl, ⟨_, k13 _ _ hsk₁, rfl, _, rfl⟩, fa2_mono (fun _ _ q => (q.kf f.keep).kp k13) hskc⟩, hl := ⟨_, k13 _ _ ho₁, rfl, _, rfl⟩, hc := fa2_mono (fun _ _ q => (q.kf f.keep).kp k13) hfc, ns := ⟨_, (f.ns.keeps k13)⟩, hL := h158 }
  · have hLD : h.objs.size ≤ D := by
      have h1 : h.objs.size < h₁.objs.size := f.ns.lt
      have h2 : h₁.objs.size < h₃.objs.size := Heap.lt_size (fls (Heap.get?_push_size _ rfl))
      exact Nat.le_trans (Nat.le_of_lt (Nat.lt_trans h1 h2)) hD
    refine hQ D s' ys c' ?_ hLD hDo hys
    obtain ⟨h₄, t₄, e₄, k₄⟩ := kf'
    subst e₄
    have out : ∀ {q o}, h.get? q = some o → q ≠ h.objs.size ∧ q ∉ [it] := fun {q o} e => by
      refine ⟨Nat.ne_of_lt (Heap.lt_size e), fun z => ?_⟩
      rw [List.mem_singleton.mp z] at e
      obtain ⟨sl, e1⟩ := f.keep.2 it o e
      have := k2 _ _ e1
      rw [nit] at this
      cases this
    refine ⟨h₄, t₄, rfl, ⟨fun q o hq e => ?_, fun q o e => ?_⟩⟩
    · obtain ⟨o1, o2⟩ := out e
      refine k₄.1 q o (fun z => ?_) ((hole_out o2).trans (k13 _ _ (f.keep.1 q o hq e)))
      rcases List.mem_cons.mp z with z | z
      · exact o1 z
      · exact hq z
    · obtain ⟨o1, o2⟩ := out e
      obtain ⟨sl, e1⟩ := f.keep.2 q o e
      obtain ⟨sl2, e2⟩ := k₄.2 q _ ((hole_out o2).trans (k13 _ _ e1))
      exact ⟨sl2, e2⟩
end
end Mine
end
section
open PySem PySem.W PyProof.Rows
set_option maxRecDepth 100000
set_option linter.unusedVariables false
namespace Mine
section
variable {prog : Program} {w : World} {A : Around} {E : Value → Shared → Prop} {s : Shared} {env : Env}
/-- a slice of a list: a new list, exactly -/
theorem sliceGen {value : PySem.Expr} {lower upper : Option PySem.Expr} {p pos : Pos} {Q : Value → Shared → Prop}
    (h : ∀ Q' : Value → Value → Value → Shared → Prop, (∀ o vl vu s₃, (∃ l vs lo hi, o = .ref l ∧ s₃.heap.IsList l vs ∧ vs.size ≤ sizeLine ∧ IsPart vl lo ∧ IsPart vu hi ∧
      (∀ r s₄, Keeps s₃ s₄ → s₃.heap.objs.size ≤ r → s₄.heap.get? r = some (lstO (slicePick vs lo hi none) 0) → Q (.ref r) s₄)) → Q' o vl vu s₃) →
      wpAny (model prog w) A (eval value env) (fun o s₁ => wpAny (model prog w) A (evalPart lower env) (fun vl s₂ => wpAny (model prog w) A (evalPart upper env) (Q' o vl) E s₂) E s₁) E s) :
    wpAny (model prog w) A (eval (.Subscript value (.Slice lower upper none p) pos) env) Q E s := by
  refine Subscript_ (wpAny_mono (h _ fun _ _ _ _ q => q) (fun o s₁ h₁ => wpAny_Slice (wpAny_mono h₁ (fun vl s₂ h₂ => wpAny_mono h₂ (fun vu s₃ h₃ => ?_) fun _ _ x => x) fun _ _ x => x)) fun _ _ x => x)
  rw [evalPart_none]
  refine wpAny_pure ?_
  refine hideG fun G hG => ?_
  obtain ⟨l, vs, lo, hi, rfl, hl, hsz, pl, pu, hq⟩ := h₃
  refine hG ?_
  have hl1 : ∀ o : Obj, (s₃.heap.push o).IsList l vs := fun o => let ⟨q, e, r⟩ := hl; ⟨q, Heap.get?_push_of_some _ e, r⟩
  refine tail_any (ops := _) (hl1 _).typeIs list_getitem_lookup (wpAny_getItem_list_slice (hl1 _) (Heap.IsSliceOf.new ..) pl pu .none (by simp) ?_ hsz) (by with_unfolding_all rfl)
  refine hq _ _ (ks_of ((kp_push _ _).tr (kp_push _ _))) ?_ (Heap.get?_push_size _ rfl)
  show s₃.heap.objs.size ≤ (s₃.heap.push _).objs.size
  rw [Heap.size_push]
  exact Nat.le_succ _
/-- an item of a list -/
theorem itemGen {value slice : PySem.Expr} {pos : Pos} {Q : Value → Shared → Prop}
    (h : ∀ Q' : Value → Value → Shared → Prop, (∀ o i s₂, (∃ l vs, ∃ k : Nat, ∃ t x, o = .ref l ∧ i = .int k t ∧ s₂.heap.IsList l vs ∧ k < 2 ^ 63 ∧ vs[k]? = some x ∧ Q x s₂) → Q' o i s₂) →
      wpAny (model prog w) A (eval value env) (fun o s₁ => wpAny (model prog w) A (eval slice env) (Q' o) E s₁) E s)
    (hs : ∀ o i, subscripted slice false o i = operate [o, i] (getItem o i) := by intro _ _; with_unfolding_all rfl) :
    wpAny (model prog w) A (eval (.Subscript value slice pos) env) Q E s := by
  refine Subscript_ (wpAny_mono (h _ fun _ _ _ q => q) (fun o s₁ h₁ => wpAny_mono h₁ (fun i s₂ h₂ => ?_) fun _ _ x => x) fun _ _ x => x)
  refine hideG fun G hG => ?_
  obtain ⟨l, vs, k, t, x, rfl, rfl, hl, hk, hx, hq⟩ := h₂
  refine hG ?_
  refine tail_any hl.typeIs list_getitem_lookup (wpAny_getItem_list hl (by omega) (by omega) (by simpa using hx) hq) (hs _ _)
end
end Mine
end
section
open PySem PySem.W PyProof.Rows
set_option maxRecDepth 100000
set_option linter.unusedVariables false
namespace Mine
noncomputable def longer (ls : List Int) (sz : Nat) (st : List Int × List (List Int)) : List Int × List (List Int) :=
  match (ls.map fun c => st.1.drop (st.1.length + 1 - sz) ++ [c]).filter (fun c => decide (c ∉ st.2)) with
  | [] => st
  | c :: _ => (st.1 ++ c.drop (sz - 1), st.2 ++ [c])
theorem all2_map {α β γ : Type} {R : α → β → Prop} {T : β → γ → Prop} {g : α → γ} (k : ∀ a y, R a y → T y (g a)) : ∀ {l : List α} {ys : List β}, All2 R l ys → All2 T ys (l.map g)
  | _, _, .nil => .nil
  | _, _, .cons h t => .cons (k _ _ h) (all2_map k t)
theorem range_getD {α : Type} (f : Int → α) (ls : List Int) : (List.range ls.length).map (fun i => f (ls.getD i 0)) = ls.map f := by
  refine List.ext_getElem (by simp) fun i h1 h2 => ?_
  have : i < ls.length := by simpa using h1
  simp [this]
theorem depth_lists : ∀ xss : List (List Int), PyData.depthAll (xss.map fun xs => .list (xs.map PyData.int)) ≤ 2
  | [] => by simp [PyData.depthAll]
  | n :: r => by have := depth_lists r; have := PySem.W.depthAll_ints n; simp [PyData.depthAll, PyData.depth]; omega
theorem shaped_ll (xss : List (List Int)) : SeqAt.shaped (.list (xss.map fun xs => .list (xs.map PyData.int))) = true := by
  have := depth_lists xss
  unfold SeqAt.shaped
  simp [PyData.canLay0, canLay_lists, PyData.depth]
  omega
theorem eqv_nil (xss : List (List Int)) : PyData.eqv (.list (xss.map fun xs => .list (xs.map PyData.int))) (.list (([] : List (List Int)).map fun xs => .list (xs.map PyData.int))) = decide (xss = []) := by
  cases xss <;> simp [PyData.eqv, PyData.eqvAll]
/-- a list of ints at another address than D -/
noncomputable def LID (D : Addr) (h : Heap) (v : Value) (xs : List Int) : Prop := ∃ a vs, v = .ref a ∧ a ≠ D ∧ h.IsList a vs.toArray ∧ IntsAre vs xs
theorem LID.ksd {D : Addr} {h h' : Heap} (k : KSD D h h') {v : Value} {xs : List Int} (x : LID D h v xs) : LID D h' v xs := by
  obtain ⟨a, vs, e, hd, ⟨o, ho, hc, n, hdd⟩, hi⟩ := x
  exact ⟨a, vs, e, hd, ⟨o, k a o _ _ hd hdd ho, hc, n, hdd⟩, hi⟩
theorem LID.li {D : Addr} {h : Heap} {v : Value} {xs : List Int} (x : LID D h v xs) : LI h v xs := by
  obtain ⟨a, vs, e, hd, hl, hi⟩ := x
  exact ⟨a, vs, e, hl, hi⟩
/-- the state of the fold: a pair of a row and a list of words -/
noncomputable def ST (h : Heap) (v : Value) (st : List Int × List (List Int)) : Prop := ∃ t a b rs ws n, v = .ref t ∧ h.IsTuple t #[.ref a, .ref b] ∧ h.IsList a rs.toArray ∧ IntsAre rs st.1 ∧ h.get? b = some (lstO ws.toArray n) ∧ All2 (LI h) ws st.2
theorem kfh_tuple {S : List Addr} {h h' : Heap} (k : KFh S h h') {a : Addr} {vs : Array Value} (x : h.IsTuple a vs) : h'.IsTuple a vs := by
  obtain ⟨o, ho, hc, n, hd⟩ := x
  obtain ⟨sl, e⟩ := k.2 a o ho
  exact ⟨_, e, hc, n, hd⟩
theorem ST.kf {S : List Addr} {h h' : Heap} (k : KFh S h h') {v : Value} {st : List Int × List (List Int)} (sq : ∀ q ∈ S, ∀ o, h.get? q = some o → NotSeq o) (x : ST h v st) : ST h' v st := by
  obtain ⟨t, a, b, rs, ws, n, e, ht, hl, hi, hb, hw⟩ := x
  exact ⟨t, a, b, rs, ws, n, e, kfh_tuple k ht, kfh_list k hl, hi, k.1 b _ (fun z => sq b z _ hb _ _ rfl) hb, fa2_mono (fun _ _ q => q.kf k) hw⟩
section
variable {w : World} {A : Around} {E : Value → Shared → Prop} {s : Shared} {mg mb : Str → Option Value} {env : Env}
theorem ks_ext {s : Shared} {h' : Heap} {t : Nat} (x : Heap.ExtBut s.heap.objs.size s.heap h') : Keeps s { s with heap := h', toks := t } := ks_of fun b o e => x b o (Nat.ne_of_lt (Heap.lt_size e)) e
theorem longerFn {S : List Addr} {outer : List Env} {lv v : Value} {ls : List Int} {sz : Nat} {tz : Tok} {st : List Int × List (List Int)} {Q : Value → Shared → Prop} (G : GW w mg mb s.heap) (N : GOk mg mb) (a : Ar A outer S s.heap) (hd : A.depth ≤ 650) (hu : A.units ≤ 3800)
    (h158 : 158 ≤ s.heap.objs.size) (hg : s.gens = #[]) (hl : LI s.heap lv ls) (hst : ST s.heap v st) (h1 : 1 ≤ sz) (h2 : sz ≤ st.1.length + 1) (b1 : ls.length ≤ 100) (b2 : st.1.length ≤ 500) (b3 : st.2.length ≤ 500)
    (hQ : ∀ v' s', KFs S s s' → ST s'.heap v' (longer ls sz st) → Q v' s') :
    wpAny (model PR w) A (call (.ref 147) [lv, .int sz tz, v]) Q E s := by
  obtain ⟨t, ra, sb, rs, ws, nw, rfl, ht, hra, hri, hsb, hws⟩ := hst
  refine callY S (binds := [(Str.ofString "letters", lv), (Str.ofString "size", .int sz tz), (Str.ofString "state", .ref t)]) (Nat.lt_of_le_of_lt a.d (by decide)) G.longer G.lim (fun _ _ _ _ => by rfl) ?_ fun doc pm ct c s₁ E' Q' hq f => ?_
  · intro y hy
    simp only [List.mem_cons, List.not_mem_nil, or_false] at hy
    rcases hy with rfl | rfl | rfl
    · exact .inl rfl
    · exact .inl rfl
    · exact .inl rfl
  have hQ := fun v' s' a b => hq v' s' (hQ v' s' a b)
  have hA : ∀ {s' : Shared} {m cm}, FX S s s.heap.objs.size m (cellsFrom (s.heap.objs.size + 1) (defNo 35).2.2.names []) cm s' → Ar (A.deeper (envM "_law_longer" "_law_longer" (defNo 35) doc pm ct c s.heap.objs.size 147)) (envM "_law_longer" "_law_longer" (defNo 35) doc pm ct c s.heap.objs.size 147 :: outer) (s.heap.objs.size :: S) s'.heap :=
    fun {s' m cm} f => a.deep (h := s'.heap) (T := S) (env := envM "_law_longer" "_law_longer" (defNo 35) doc pm ct c s.heap.objs.size 147) f rfl (by show (defNo 35).2.2.kind ≠ _; decide) h158 (by omega) (by omega)
  have hu' : (A.deeper (envM "_law_longer" "_law_longer" (defNo 35) doc pm ct c s.heap.objs.size 147)).units ≤ 3810 := by show A.units + 3 ≤ 3810; omega
  have hd' : (A.deeper (envM "_law_longer" "_law_longer" (defNo 35) doc pm ct c s.heap.objs.size 147)).depth ≤ 651 := by show A.depth + 1 ≤ 651; omega
  obtain ⟨m, m1, m2, m3, f⟩ : ∃ m, m (Str.ofString "letters") = some lv ∧ m (Str.ofString "size") = some (.int sz tz) ∧ m (Str.ofString "state") = some (.ref t) ∧ FX S s s.heap.objs.size m (cellsFrom (s.heap.objs.size + 1) (defNo 35).2.2.names []) (fun _ => none) s₁ := ⟨_, by rfl, by rfl, by rfl, f⟩
  generalize hA' : (A.deeper (envM "_law_longer" "_law_longer" (defNo 35) doc pm ct c s.heap.objs.size 147)) = A' at hA hu' hd' ⊢
  have hgens : ∀ {s' : Shared} {m cm}, FX S s s.heap.objs.size m (cellsFrom (s.heap.objs.size + 1) (defNo 35).2.2.names []) cm s' → s'.gens = #[] := fun {s' m cm} f => by obtain ⟨h, t, e⟩ := f.same; rw [e]; exact hg
  -- row, seen = state
  refine stepS fun Q₁ n₁ r₁ b₁ => Assign_Tuple ?_
  refine nmL (m := m) f (by rfl) (by rfl) m3 ?_ (by decide)
  refine wpAny_assign_Tuple (hA f).hh (kfh_tuple f.keep ht) rfl rfl fun h₂ x₂ => ?_
  have f₂ := f.ks (ks_ext (t := s₁.toks) x₂)
  show wpAny _ _ (assignInOrder [assign _ _, assign _ _] [Value.ref ra, Value.ref sb]) _ _ _
  unfold assignInOrder
  refine wpAny_bind (wpAny_holding (wpAny_assign_Name ?_))
  refine stLX (m := m) f₂ (by rfl) (by rfl) fun s₃ f₃ e₃ sb₃ k₃ => ?_
  unfold assignInOrder
  refine wpAny_bind (wpAny_holding (wpAny_assign_Name ?_))
  refine stLX f₃ (by rfl) (by rfl) fun s₄ f₄ e₄ sb₄ k₄ => ?_
  refine wpAny_pure ?_
  obtain ⟨m', m1, m2, m3, m4, m5, f₄⟩ : ∃ m', m' (Str.ofString "letters") = some lv ∧ m' (Str.ofString "size") = some (.int sz tz) ∧ m' (Str.ofString "state") = some (.ref t) ∧ m' (Str.ofString "row") = some (.ref ra) ∧ m' (Str.ofString "seen") = some (.ref sb) ∧ FX S s s.heap.objs.size m' (cellsFrom (s.heap.objs.size + 1) (defNo 35).2.2.names []) (fun _ => none) s₄ := by
    refine ⟨_, ?_, ?_, ?_, ?_, ?_, f₄⟩
    · rw [if_neg (by decide), if_neg (by decide)]; exact m1
    · rw [if_neg (by decide), if_neg (by decide)]; exact m2
    · rw [if_neg (by decide), if_neg (by decide)]; exact m3
    · rw [if_neg (by decide), if_pos rfl]
    · rw [if_pos rfl]
  -- tail = row[len(row) - size + 1:]
  refine n₁ _ (stepS fun Q₂ n₂ r₂ b₂ => wpAny_Assign_Name ?_ ?hs)
  case hs => rfl
  have hra4 := kfh_list f₄.keep hra
  refine sliceGen ?_
  intro Qs qs
  refine nmL (m := m') f₄ (by rfl) (by rfl) m4 ?_ (by decide)
  rw [evalPart_some, evalPart_none]
  refine wpAny_BinOp (wpAny_BinOp ?_)
  refine callN1 ?_
  have G₄ := G.kf a.hi f₄.keep
  refine Calls.Name_function_global (by rfl) (by rfl) (Calls.loadGlobal_builtin G₄.g N.n_len G₄.b N.b_len ?_) (by decide)
  refine PySem.callWith_builtin1 ?_
  refine nmL (m := m') f₄ (by rfl) (by rfl) m4 ?_ (by decide)
  refine len_list hra4 (by rw [List.size_toArray, hri.length]; omega) ?_
  have f₅ := f₄.ks (ks_tok s₄ (s₄.toks + 1 + 1))
  refine nmL (m := m') f₅ (by rfl) (by rfl) m2 ?_ (by decide)
  refine sub_int ?_
  refine wpAny_Constant_int ?_
  refine add_int ?_
  refine wpAny_pure ?_
  have hlen : (rs.toArray.size : Int) - (sz : Int) + 1 = ((st.1.length + 1 - sz : Nat) : Int) := by rw [List.size_toArray, hri.length]; omega
  rw [hlen]
  have hti := slice_ints_fromW hri (x := ((st.1.length + 1 - sz : Nat) : Int)) (by omega)
  rw [Int.toNat_natCast] at hti
  refine qs _ _ _ _ ⟨ra, _, _, _, rfl, hra4, by rw [List.size_toArray, hri.length, sizeLine_eq]; omega, .int _ _, .none, fun r s₅ k₅ _ hr5 => ?_⟩
  refine stCX (m := m') (f₄.ks (ks_tr (ks_tok _ _) k₅)) (by rfl) (by rfl) (by rfl) fun s₆ f₆ e₆ sb₆ k₆ => ?_
  obtain ⟨cm6, hcm, f₆⟩ : ∃ cm6, cm6 (Str.ofString "tail") = some (Value.ref r) ∧ FX S s s.heap.objs.size m' (cellsFrom (s.heap.objs.size + 1) (defNo 35).2.2.names []) cm6 s₆ := ⟨_, if_pos rfl, f₆⟩
  have htail : s₆.heap.IsList r (slicePick rs.toArray (some ((st.1.length + 1 - sz : Nat) : Int)) none none).toList.toArray := isList_ks k₆ ⟨_, hr5, rfl, _, rfl⟩
  have hcell := f₆.cell (Str.ofString "tail") (s.heap.objs.size + 1) (by rfl)
  rw [hcm] at hcell
  generalize (slicePick rs.toArray (some ((st.1.length + 1 - sz : Nat) : Int)) none none).toList = tvs at htail hti
  -- fresh = _filter(..)
  refine n₂ _ (stepS fun Q₃ n₃ r₃ b₃ => wpAny_Assign_Name ?_ ?hs)
  case hs => rfl
  refine Call_Name (trees := [(false, eval _ _), (false, eval _ _)]) rfl ?_
  have G₆ := G.kf a.hi f₆.keep
  refine Calls.Name_function_global (by rfl) (by rfl) (Calls.loadGlobal_global G₆.g N.g_filter ?_) (by decide)
  obtain ⟨dF, pF, cF, kF, oF, hoF, hdF, hcF⟩ := id G₆.filter
  refine Calls.callWith_function (o := oF) (fd := fdM "_filter" "_filter" (defNo 3) [] .none dF pF cF kF) (Calls.evalArgs_plain (Calls.spliced_cons ?_))
  refine compOver (cl := [(Str.ofString "tail", s.heap.objs.size + 1)]) (by rfl) (by intro y hy; simp at hy; rcases hy with rfl | rfl | rfl <;> decide) rfl (by intro y hy h; simp at hy; rcases hy with rfl | rfl | rfl <;> first | rfl | cases h) (by rfl) fun Qc qc => ?_
  refine nmL (m := m') f₆ (by rfl) (by rfl) m1 ?_ (by decide)
  have hlv6 := hl.kf f₆.keep
  obtain ⟨la, lvs, rfl, hla, hli⟩ := id hlv6
  refine qc _ _ ⟨lvs.length, _, fun _ => true, fun D i y h => LID D h y (st.1.drop (st.1.length + 1 - sz) ++ [ls.getD i 0]), iter_list (hA f₆).hh hla, by rw [hli.length]; omega, fun D i v h h' k q => q.ksd k, ?_, ?_⟩
  · intro i v C D s₇ m₇ E' hi hv hC hn hm hk7 hD1 hD2
    refine ⟨wpAny_pure ⟨ks_refl _, rfl⟩, fun _ => ?_⟩
    obtain ⟨tk, rfl⟩ := hli.int_at i v hv
    have htl8 : (s₇.heap.push { cls := .type "list", data := .seq [Value.int (ls.getD i 0) tk].toArray }).IsList r tvs.toArray := listAt (fun b o e => kp_push _ _ b o (hk7 b o e)) htail
    refine wpAny_BinOp ?_
    refine wpAny_Name (wpAny_loadName_cell (by rfl) (by rfl) (by rfl) (hcell.keeps hk7) ?_) (by decide)
    refine List_ ?_
    refine Calls.spliced_cons ?_
    refine wpAny_Name (wpAny_loadName_local (by rfl) (by rfl) hn hm ?_) (by decide)
    refine Calls.spliced_nil ?_
    refine wpAny_newList ?_
    refine addL (vs := tvs) (ws := [.int (ls.getD i 0) tk]) htl8 (newIsList s₇.heap [.int (ls.getD i 0) tk]) (by rw [hti.length, List.length_drop, sizeLine_eq]; simp; omega) ?_
    refine ⟨⟨_, tvs ++ [.int (ls.getD i 0) tk], rfl, ?_, newIsList _ _, hti.append (.cons _ _ .nil)⟩, ks_of ((kp_push _ _).tr (kp_push _ _))⟩
    show (s₇.heap.push _).objs.size ≠ D
    rw [Heap.size_push]
    omega
  · intro D s₇ ys k₇ hD hlD hys
    have f₇ := f₆.ks k₇
    rw [List.filter_eq_self.mpr (fun _ _ => rfl)] at hys
    have hyc : All2 (LI s₇.heap) ys (ls.map fun c => st.1.drop (st.1.length + 1 - sz) ++ [c]) := by
      rw [← range_getD (fun c => st.1.drop (st.1.length + 1 - sz) ++ [c]) ls, ← hli.length]
      exact all2_map (fun i y q => q.li) hys
    refine Calls.spliced_cons ?_
    refine nmL (m := m') f₇ (by rfl) (by rfl) m5 ?_ (by decide)
    refine Calls.spliced_nil ?_
    refine ⟨⟨?_, hdF⟩, ?_⟩
    · exact ks_keep k₇ _ _ hoF
    show wpAny _ _ (call (.ref 58) [.ref D, .ref sb]) _ _ _
    have hLs7 : s.heap.objs.size < s₇.heap.objs.size := f₇.ns.lt
    refine filterFn (S := s.heap.objs.size :: S) (outer := _ :: outer) (G.kf a.hi f₇.keep) N (hA f₇) (by omega) (by omega) (by omega) (hgens f₇) (by rw [fa2_len hyc, List.length_map]; omega) hlD hyc (f₇.keep.1 sb _ (a.noSeq hsb rfl) hsb) (fa2_mono (fun _ _ q => q.kf f₇.keep) hws) fun D' s₈ zs c' k₈ hD8 hD' hzs => ?_
    have f₈ := f₇.go k₈
    -- the name fresh
    refine stLX (m := m') f₈ (by rfl) (by rfl) fun s₉ f₉ e₉ sb₉ k₉ => ?_
    have hL9 : D' ≠ s.heap.objs.size := by omega
    have hD9 : s₉.heap.get? D' = some (lstO zs.toArray c') := sb₉.extBut _ _ hL9 hD'
    have hzs9 := fa2_mono (fun _ _ q => LI.ks k₉ q) hzs
    obtain ⟨m9, m1, m2, m3, m4, m5, m6, f₉⟩ : ∃ m9, m9 (Str.ofString "letters") = some (.ref la) ∧ m9 (Str.ofString "size") = some (.int sz tz) ∧ m9 (Str.ofString "state") = some (.ref t) ∧ m9 (Str.ofString "row") = some (.ref ra) ∧ m9 (Str.ofString "seen") = some (.ref sb) ∧ m9 (Str.ofString "fresh") = some (.ref D') ∧ FX S s s.heap.objs.size m9 (cellsFrom (s.heap.objs.size + 1) (defNo 35).2.2.names []) cm6 s₉ := by
      refine ⟨_, ?_, ?_, ?_, ?_, ?_, ?_, f₉⟩
      · rw [if_neg (by decide)]; exact m1
      · rw [if_neg (by decide)]; exact m2
      · rw [if_neg (by decide)]; exact m3
      · rw [if_neg (by decide)]; exact m4
      · rw [if_neg (by decide)]; exact m5
      · rw [if_pos rfl]
    refine n₃ _ (stepS fun Q₄ n₄ r₄ b₄ => wpAny_If ?_)
    refine wpAny_isTrue_Compare1 ?_ (by rfl)
    refine nmL (m := m9) f₉ (by rfl) (by rfl) m6 ?_ (by decide)
    refine List_ ?_
    refine Calls.spliced_nil ?_
    refine wpAny_newList ?_
    generalize hcd : (ls.map fun c => st.1.drop (st.1.length + 1 - sz) ++ [c]).filter (fun c => decide (c ∉ st.2)) = cd at hzs hzs9
    have hne : ∀ (h : Heap), Keep s₉.heap h → LL h (.ref D') cd := fun h k => ⟨D', zs, rfl, ⟨_, k _ _ hD9, rfl, _, rfl⟩, fa2_mono (fun _ _ q => q.kp k) hzs9⟩
    obtain ⟨as, ra1⟩ := llReads (hne _ (kp_push s₉.heap { cls := .type "list", data := .seq ([] : List Value).toArray }))
    obtain ⟨bs, rb1⟩ := llReads (h := s₉.heap.push { cls := .type "list", data := .seq ([] : List Value).toArray }) (v := .ref s₉.heap.objs.size) (xss := []) ⟨_, [], rfl, newIsList _ _, .nil⟩
    refine eq_dataH ra1 rb1 (shaped_ll _) (shaped_ll _) (by rw [show cLine = 9900 from rfl]; omega) (wpAny_truthy_bool ?_)
    rw [eqv_nil]
    have f₁₀ := f₉.ks (ks_push s₉ { cls := .type "list", data := .seq ([] : List Value).toArray } s₉.toks)
    have hS10 : ∀ {s'}, Keeps { s₉ with heap := s₉.heap.push { cls := .type "list", data := .seq ([] : List Value).toArray } } s' → LL s'.heap (.ref D') cd ∧ s'.heap.IsList D' zs.toArray ∧ All2 (LI s'.heap) zs cd := fun k => by
      have kk := (kp_push s₉.heap { cls := .type "list", data := .seq ([] : List Value).toArray }).tr (ks_keep k)
      exact ⟨hne _ kk, ⟨_, kk _ _ hD9, rfl, _, rfl⟩, fa2_mono (fun _ _ q => q.kp kk) hzs9⟩
    generalize hs10 : ({ s₉ with heap := s₉.heap.push { cls := .type "list", data := .seq ([] : List Value).toArray } } : Shared) = s₁₀ at f₁₀ hS10 ⊢
    cases cd with
    | nil =>
      simp only [decide_true, if_true]
      refine wpAny_execs_cons (wpAny_Return_some ?_)
      refine nmL (m := m9) f₁₀ (by rfl) (by rfl) m3 ?_ (by decide)
      refine r₄ _ _ (hQ _ _ f₁₀.kfs ?_)
      unfold longer
      rw [hcd]
      exact ST.kf f₁₀.keep a.sqn ⟨t, ra, sb, rs, ws, nw, rfl, ht, hra, hri, hsb, hws⟩
    | cons cc cr =>
      simp only [reduceCtorEq, decide_false, Bool.false_eq_true, if_false]
      refine wpAny_execs_nil ?_
      refine n₄ _ (wpAny_execs_cons (wpAny_Return_some ?_))
      refine wpAny_Tuple_spliced ?_
      refine Calls.spliced_cons ?_
      refine wpAny_BinOp ?_
      refine nmL (m := m9) f₁₀ (by rfl) (by rfl) m4 ?_ (by decide)
      refine sliceGen ?_
      intro Qs qs
      refine itemGen ?_
      intro Qi qi
      refine nmL (m := m9) f₁₀ (by rfl) (by rfl) m6 ?_ (by decide)
      refine wpAny_Constant_int ?_
      obtain ⟨hLL10, hlD10, hzs10⟩ := hS10 (ks_tok s₁₀ (s₁₀.toks + 1))
      obtain ⟨z, zr, rfl, hz, hzr⟩ : ∃ z zr, zs = z :: zr ∧ LI s₁₀.heap z cc ∧ All2 (LI s₁₀.heap) zr cr := by
        cases hzs10 with
        | cons h t => exact ⟨_, _, rfl, h, t⟩
      refine qi _ _ _ ⟨D', _, 0, _, z, rfl, rfl, hlD10, by decide, rfl, ?_⟩
      rw [evalPart_some, evalPart_none]
      refine wpAny_BinOp ?_
      refine nmL (m := m9) (f₁₀.ks (ks_tok s₁₀ (s₁₀.toks + 1))) (by rfl) (by rfl) m2 ?_ (by decide)
      refine wpAny_Constant_int ?_
      refine sub_int ?_
      refine wpAny_pure ?_
      obtain ⟨za, zv, rfl, hza, hzi⟩ := hz
      have hccl : cc.length ≤ 600 := by
        have : cc ∈ (ls.map fun c => st.1.drop (st.1.length + 1 - sz) ++ [c]) := (List.mem_filter.mp (hcd ▸ (List.mem_cons_self : cc ∈ cc :: cr))).1
        obtain ⟨c0, _, e0⟩ := List.mem_map.mp this
        rw [← e0, List.length_append, List.length_drop, List.length_singleton]
        omega
      have hz1 : (sz : Int) - 1 = ((sz - 1 : Nat) : Int) := by omega
      rw [hz1]
      refine qs _ _ _ _ ⟨za, _, _, _, rfl, hza, by rw [List.size_toArray, hzi.length, sizeLine_eq]; omega, .int _ _, .none, fun r₁ s₁₁ k₁₁ hr₁ hro₁ => ?_⟩
      have hdi := slice_ints_fromW hzi (x := ((sz - 1 : Nat) : Int)) (by omega)
      rw [Int.toNat_natCast] at hdi
      have f₁₁ := f₁₀.ks (ks_tr (ks_tok s₁₀ _) k₁₁)
      refine addL (vs := rs) (ws := (slicePick zv.toArray (some ((sz - 1 : Nat) : Int)) none none).toList) (kfh_list f₁₁.keep hra) ⟨_, hro₁, rfl, _, rfl⟩ (by rw [hri.length, hdi.length, List.length_drop, sizeLine_eq]; omega) ?_
      generalize hws1 : (slicePick zv.toArray (some ((sz - 1 : Nat) : Int)) none none).toList = sl₁ at hdi
      have k₁₂ := ks_push s₁₁ { cls := .type "list", data := .seq (rs ++ sl₁).toArray } s₁₁.toks
      have hr₁₂ : (s₁₁.heap.push { cls := .type "list", data := .seq (rs ++ sl₁).toArray }).IsList s₁₁.heap.objs.size (rs ++ sl₁).toArray := newIsList _ _
      generalize hs12 : ({ s₁₁ with heap := s₁₁.heap.push { cls := .type "list", data := .seq (rs ++ sl₁).toArray } } : Shared) = s₁₂ at k₁₂ ⊢
      have hr₁₂ : s₁₂.heap.IsList s₁₁.heap.objs.size (rs ++ sl₁).toArray := by rw [← hs12]; exact hr₁₂
      have f₁₂ := f₁₁.ks k₁₂
      refine Calls.spliced_cons ?_
      refine wpAny_BinOp ?_
      refine nmL (m := m9) f₁₂ (by rfl) (by rfl) m5 ?_ (by decide)
      refine sliceGen ?_
      intro Qs qs
      refine nmL (m := m9) f₁₂ (by rfl) (by rfl) m6 ?_ (by decide)
      rw [evalPart_some, evalPart_none]
      refine wpAny_pure ?_
      refine wpAny_Constant_int ?_
      have k₁₀₁₂ := ks_tr k₁₁ k₁₂
      have hD12 : s₁₂.heap.IsList D' (Value.ref za :: zr).toArray := by
        obtain ⟨o, ho, r⟩ := hlD10
        exact ⟨o, ks_keep k₁₀₁₂ _ _ ho, r⟩
      have hzl : (Value.ref za :: zr).length ≤ 200 := by
        rw [List.length_cons, fa2_len hzr]
        have h1 : (cc :: cr).length ≤ ls.length := by
          rw [← hcd]
          exact Nat.le_trans (List.length_filter_le _ _) (by rw [List.length_map]; exact Nat.le_refl _)
        rw [List.length_cons] at h1
        omega
      refine qs _ _ _ _ ⟨D', _, _, _, rfl, hD12, by rw [List.size_toArray, sizeLine_eq]; omega, .none, .int _ _, fun r₂ s₁₃ k₁₃ hr₂ hro₂ => ?_⟩
      rw [show slicePick (Value.ref za :: zr).toArray none (some 1) none = [Value.ref za].toArray from slicePick_upto _ 1 (by simp)] at hro₂
      have f₁₃ := f₁₂.ks (ks_tr (ks_tok s₁₂ _) k₁₃)
      have hsb13 : s₁₃.heap.get? sb = some (lstO ws.toArray nw) := f₁₃.keep.1 sb _ (a.noSeq hsb rfl) hsb
      refine addL (vs := ws) (ws := [Value.ref za]) ⟨_, hsb13, rfl, _, rfl⟩ ⟨_, hro₂, rfl, _, rfl⟩ (by rw [fa2_len hws, sizeLine_eq]; simp; omega) ?_
      refine Calls.spliced_nil ⟨by show 2 ≤ sizeLine; decide, ?_⟩
      have k₁₄ : Keep s₁₃.heap ((s₁₃.heap.push { cls := .type "list", data := .seq (ws ++ [Value.ref za]).toArray }).push (tupObj [.ref s₁₁.heap.objs.size, .ref s₁₃.heap.objs.size])) := (kp_push _ _).tr (kp_push _ _)
      have f₁₄ := f₁₃.ks (ks_of (t := s₁₃.toks) k₁₄)
      refine hQ _ _ f₁₄.kfs ?_
      unfold longer
      rw [hcd]
      have kk : Keep s₁₂.heap ((s₁₃.heap.push { cls := .type "list", data := .seq (ws ++ [Value.ref za]).toArray }).push (tupObj [.ref s₁₁.heap.objs.size, .ref s₁₃.heap.objs.size])) := (ks_keep k₁₃).tr k₁₄
      refine ⟨_, s₁₁.heap.objs.size, s₁₃.heap.objs.size, rs ++ sl₁, ws ++ [Value.ref za], 0, rfl, ?_, listAt kk hr₁₂, hri.append hdi, Heap.get?_push_of_some _ (Heap.get?_push_size _ rfl), ?_⟩
      · exact ⟨_, Heap.get?_push_size _ rfl, rfl, _, rfl⟩
      · refine fa2_append (fa2_mono (fun _ _ q => q.kf f₁₄.keep) hws) (.cons ?_ .nil)
        exact ⟨za, zv, rfl, listAt ((ks_keep k₁₀₁₂).tr kk) hza, hzi⟩
end
end Mine
end
section
open PySem PySem.W PyProof.Rows
set_option maxRecDepth 100000
set_option linter.unusedVariables false
namespace Mine
/-- the lambda of reduce -/
noncomputable def lam9 : Arguments × PySem.Expr × Scope × Pos := match lawSt 9 with
  | .Assign _ (.Call _ (.Lambda p b pos sc :: _) _ _) _ => (p, b, pos, sc)
  | _ => default
section
variable {prog : Program} {w : World} {A : Around} {E : Value → Shared → Prop} {s : Shared}
/-- the call of a function of one expression -/
theorem callLam (S : List Addr) {name qual : Str} {params : Arguments} {body : PySem.Expr} {scope : Scope} {cl : List (Str × Addr)} {pm ctv : Value} {c' f : Addr} {vals : List Value} {binds : List (Str × Value)} {Q : Value → Shared → Prop}
    (hroom : A.depth < recursionLimit) (ho : s.heap.get? f = some (kla_obj name qual params body scope cl pm c' ctv)) (lim : s.heap.NoLimit) (hcd : s.heap.CodeRec (.ref c') qual)
    (hbind : bindArgs (kla_fn name qual params body scope cl pm (.ref c') ctv) ⟨vals, []⟩ = pure binds) (hloc : ∀ y ∈ binds, scope.names.lookup y.1 = some .local) (hcell : ∀ x ∈ scope.names, x.2 ≠ .cell)
    (h : ∀ s₁ E', FX S s s.heap.objs.size (fun y => binds.reverse.lookup y) [] (fun _ => none) s₁ →
      wpAny (model prog w) (A.deeper (envX qual scope s.heap.objs.size f (.ref c') cl)) (eval body (envX qual scope s.heap.objs.size f (.ref c') cl)) Q E' s₁)
    (hco : scope.isCoroutine = false := by rfl) (hgen : scope.isGenerator = false := by rfl) (hk : scope.kind = .function := by rfl) :
    wpAny (model prog w) A (call (.ref f) vals) Q E s := by
  refine wpAny_call (kla_callFunE hroom ho rfl hco hgen rfl hcd ?_)
  rw [hbind]
  refine wpAny_pure (wpAny_newFunctionEnv hcell hloc (fun h₁ hns hsb => ⟨lim.fresh _ hsb, ?_⟩) hk)
  show codeAny _ _ (.expr body (envX qual scope s.heap.objs.size f (.ref c') cl)) _ _
  have hk₁ : ∀ b o, s.heap.get? b = some o → h₁.get? b = some o := fun b o e => hsb.extBut b o (Nat.ne_of_lt (Heap.lt_size e)) (Heap.get?_push_of_some _ e)
  refine kla_codeExpr (wpAny_mono (h _ _ ⟨⟨h₁, _, rfl⟩, hns, kfh_of hk₁, Nat.le_refl _, (fun n c e => nomatch e), List.Pairwise.nil, (fun n c e => nomatch e)⟩) (fun v s' q => q) fun _ _ y => y)
end
section
variable {w : World} {A : Around} {E : Value → Shared → Prop} {s : Shared} {mg mb : Str → Option Value}
/-- the lambda of reduce stands with its cells -/
structure L9 (h : Heap) (f cL cS : Addr) (lv : Value) (ls : List Int) (sz : Nat) (tz : Tok) : Prop where
  fn : ∃ qual pm c' ctv, h.get? f = some (kla_obj "<lambda>" qual lam9.1 lam9.2.1 lam9.2.2.1 [(Str.ofString "size", cS), (Str.ofString "letters", cL)] pm c' ctv) ∧ h.CodeRec (.ref c') qual
  cl : h.IsCell cL (some lv)
  cs : h.IsCell cS (some (.int sz tz))
  li : LI h lv ls
theorem L9.kf {S : List Addr} {h h' : Heap} {f cL cS : Addr} {lv : Value} {ls : List Int} {sz : Nat} {tz : Tok} (x : L9 h f cL cS lv ls sz tz) (hf : f ∉ S) (k : KFh S h h') : L9 h' f cL cS lv ls sz tz := by
  obtain ⟨qual, pm, c', ctv, e, r⟩ := x.fn
  exact ⟨⟨qual, pm, c', ctv, k.1 _ _ hf e, kfh_code k r⟩, kfh_cell k x.cl, kfh_cell k x.cs, x.li.kf k⟩
theorem lamLonger {S : List Addr} {outer : List Env} {f cL cS : Addr} {lv v x : Value} {ls : List Int} {sz : Nat} {tz : Tok} {st : List Int × List (List Int)} {Q : Value → Shared → Prop} (G : GW w mg mb s.heap) (N : GOk mg mb) (a : Ar A outer S s.heap) (hd : A.depth ≤ 640) (hu : A.units ≤ 3790)
    (h158 : 158 ≤ s.heap.objs.size) (hg : s.gens = #[]) (l9 : L9 s.heap f cL cS lv ls sz tz) (hst : ST s.heap v st) (h1 : 1 ≤ sz) (h2 : sz ≤ st.1.length + 1) (b1 : ls.length ≤ 100) (b2 : st.1.length ≤ 500) (b3 : st.2.length ≤ 500)
    (hQ : ∀ v' s', KFs S s s' → ST s'.heap v' (longer ls sz st) → Q v' s') :
    wpAny (model PR w) A (call (.ref f) [v, x]) Q E s := by
  obtain ⟨qual, pm, c', ctv, hf, hcd⟩ := l9.fn
  refine callLam S (binds := [(Str.ofString "state", v), (Str.ofString "stop", x)]) (Nat.lt_of_le_of_lt a.d (by decide)) hf G.lim hcd (by rfl) ?_ ?_ fun s₁ E' fx => ?_
  · intro y hy
    simp only [List.mem_cons, List.not_mem_nil, or_false] at hy
    rcases hy with rfl | rfl <;> rfl
  · show ∀ x ∈ lam9.2.2.1.names, x.2 ≠ NameKind.cell
    decide
  have hA : Ar (A.deeper (envX qual lam9.2.2.1 s.heap.objs.size f (.ref c') [(Str.ofString "size", cS), (Str.ofString "letters", cL)])) (envX qual lam9.2.2.1 s.heap.objs.size f (.ref c') [(Str.ofString "size", cS), (Str.ofString "letters", cL)] :: outer) (s.heap.objs.size :: S) s₁.heap :=
    a.deep (h := s₁.heap) (T := S) fx rfl (by show lam9.2.2.1.kind ≠ _; decide) h158 (by omega) (by omega)
  have hu' : (A.deeper (envX qual lam9.2.2.1 s.heap.objs.size f (.ref c') [(Str.ofString "size", cS), (Str.ofString "letters", cL)])).units ≤ 3800 := by show A.units + 3 ≤ 3800; omega
  have hd' : (A.deeper (envX qual lam9.2.2.1 s.heap.objs.size f (.ref c') [(Str.ofString "size", cS), (Str.ofString "letters", cL)])).depth ≤ 650 := by show A.depth + 1 ≤ 650; omega
  generalize (A.deeper (envX qual lam9.2.2.1 s.heap.objs.size f (.ref c') [(Str.ofString "size", cS), (Str.ofString "letters", cL)])) = A' at hA hu' hd' ⊢
  have G₁ := G.kf a.hi fx.keep
  have hLs : s.heap.objs.size < s₁.heap.objs.size := fx.ns.lt
  refine Call_Name (trees := [(false, eval _ _), (false, eval _ _), (false, eval _ _)]) rfl ?_
  refine Calls.Name_function_global (by rfl) (by rfl) (Calls.loadGlobal_global G₁.g N.g_longer ?_) (by decide)
  obtain ⟨dF, pF, cF, kF, oF, hoF, hdF, hcF⟩ := id G₁.longer
  refine Calls.callWith_function (o := oF) (fd := fdM "_law_longer" "_law_longer" (defNo 35) [] .none dF pF cF kF) (Calls.evalArgs_plain (Calls.spliced_cons ?_))
  refine wpAny_Name (wpAny_loadName_free (by rfl) (by rfl) (by rfl) (kfh_cell fx.keep l9.cl) ?_) (by decide)
  refine Calls.spliced_cons ?_
  refine wpAny_Name (wpAny_loadName_free (by rfl) (by rfl) (by rfl) (kfh_cell fx.keep l9.cs) ?_) (by decide)
  refine Calls.spliced_cons ?_
  refine wpAny_Name (wpAny_loadName_local (v := v) (by rfl) (by rfl) fx.ns (by rfl) ?_) (by decide)
  refine Calls.spliced_nil ?_
  refine ⟨⟨hoF, hdF⟩, ?_⟩
  show wpAny _ _ (call (.ref 147) [lv, .int sz tz, v]) _ _ _
  obtain ⟨h₁, t₁, e₁⟩ := fx.same
  refine longerFn G₁ N hA (by omega) (by omega) (by omega) (by rw [e₁]; exact hg) (l9.li.kf fx.keep) (hst.kf fx.keep a.sqn) h1 h2 b1 b2 b3 fun v' s' k q => ?_
  exact hQ v' s' (fx.go k).kfs q
end
end Mine
end
section
open PySem PySem.W PyProof.Rows
set_option maxRecDepth 100000
set_option linter.unusedVariables false
namespace Mine
/-- reduce stands, with its default's tuple and object -/
noncomputable def RdAt (h : Heap) : Prop := (∃ doc pm ct c o d od n, h.get? 74 = some o ∧ o.data = .func (fdM "reduce" "reduce" (defNo 7) [] (.ref d) doc pm ct c) ∧ h.CodeRec (.ref c) (Str.ofString "reduce") ∧ h.get? d = some od ∧ od.data = .seq #[.ref 66] n) ∧
  ∃ o, h.get? 66 = some o ∧ o.cls ≠ .type "tuple"
theorem RdAt.kf {S : List Addr} {h h' : Heap} (k : KFh S h h') (x : RdAt h) : RdAt h' := by
  obtain ⟨⟨doc, pm, ct, c, o, d, od, n, e1, e2, e3, e4, e5⟩, o6, e6, e7⟩ := x
  obtain ⟨s1, q1⟩ := k.2 _ _ e1
  obtain ⟨s2, q2⟩ := k.2 _ _ e4
  obtain ⟨s3, q3⟩ := k.2 _ _ e6
  exact ⟨⟨doc, pm, ct, c, _, d, _, n, q1, e2, kfh_code k e3, q2, e5⟩, _, q3, e7⟩
theorem ST.ks {h h' : Heap} (k : KS h h') {v : Value} {st : List Int × List (List Int)} (x : ST h v st) : ST h' v st := by
  obtain ⟨t, a, b, rs, ws, n, e, ⟨o, ho, hc, n', hd⟩, hl, hi, hb, hw⟩ := x
  exact ⟨t, a, b, rs, ws, n, e, ⟨o, k _ _ _ _ hd ho, hc, n', hd⟩, isList_ks k hl, hi, k b _ _ _ rfl hb, fa2_mono (fun _ _ q => q.ks k) hw⟩
noncomputable def iter {α : Type} (f : α → α) : Nat → α → α
  | 0, x => x
  | n + 1, x => f (iter f n x)
theorem longer_len {ls : List Int} {sz : Nat} {st : List Int × List (List Int)} (h1 : 1 ≤ sz) (h2 : sz ≤ st.1.length + 1) : st.1.length ≤ (longer ls sz st).1.length ∧ (longer ls sz st).1.length ≤ st.1.length + 1 ∧ (longer ls sz st).2.length ≤ st.2.length + 1 := by
  unfold longer
  split
  · omega
  · rename_i c r e
    have hc : c ∈ (ls.map fun c => st.1.drop (st.1.length + 1 - sz) ++ [c]) := (List.mem_filter.mp (e ▸ (List.mem_cons_self : c ∈ c :: r))).1
    obtain ⟨c0, _, e0⟩ := List.mem_map.mp hc
    subst e0
    simp
    omega
theorem iter_len {ls : List Int} {sz : Nat} {st : List Int × List (List Int)} (h1 : 1 ≤ sz) (h2 : sz ≤ st.1.length + 1) : ∀ n, st.1.length ≤ (iter (longer ls sz) n st).1.length ∧ (iter (longer ls sz) n st).1.length ≤ st.1.length + n ∧ (iter (longer ls sz) n st).2.length ≤ st.2.length + n
  | 0 => ⟨Nat.le_refl _, Nat.le_refl _, Nat.le_refl _⟩
  | n + 1 => by
    have ih := iter_len h1 h2 (ls := ls) n
    have := longer_len (ls := ls) (sz := sz) (st := iter (longer ls sz) n st) h1 (by omega)
    show _ ≤ (longer ls sz (iter (longer ls sz) n st)).1.length ∧ (longer ls sz (iter (longer ls sz) n st)).1.length ≤ _ ∧ (longer ls sz (iter (longer ls sz) n st)).2.length ≤ _
    omega
section
variable {w : World} {A : Around} {E : Value → Shared → Prop} {s : Shared} {mg mb : Str → Option Value}
theorem is_other2 {x y : Addr} {ox oy : Obj} {Q : Value → Shared → Prop} (hxy : x ≠ y) (hx : s.heap.get? x = some ox) (hy : s.heap.get? y = some oy) (hnt : oy.cls ≠ .type "tuple")
    (h : Q (.bool false) s) : wpAny (model PR w) A (compareOp .Is (.ref x) (.ref y)) Q E s := by
  show wpAny _ _ (do return .bool (← isSame (.ref x) (.ref y))) Q E s
  refine wpAny_bind ?_
  show wpAny _ _ (if (x == y) = true then pure true else _) _ E s
  rw [if_neg (by simpa using hxy)]
  refine wpAny_bind (wpAny_load hx (wpAny_bind (wpAny_load hy ?_)))
  split
  · rename_i h1 _ _; exact absurd h1 hnt
  · exact wpAny_pure (wpAny_pure h)
theorem reduceFn {S : List Addr} {outer : List Env} {f r cL cS : Addr} {lv v : Value} {ls : List Int} {sz n : Nat} {tz ta tb tc : Tok} {st : List Int × List (List Int)} {Q : Value → Shared → Prop} (G : GW w mg mb s.heap) (N : GOk mg mb) (RA : RdAt s.heap) (a : Ar A outer S s.heap) (hd : A.depth ≤ 630) (hu : A.units ≤ 3780)
    (h158 : 158 ≤ s.heap.objs.size) (hg : s.gens = #[]) (l9 : L9 s.heap f cL cS lv ls sz tz) (hst : ST s.heap v st) (hr : IsRange s.heap r 0 n 1 ta tb tc) (h1 : 1 ≤ sz) (h2 : sz ≤ st.1.length + 1) (b1 : ls.length ≤ 100) (b2 : st.1.length ≤ 100) (b3 : st.2.length ≤ 100) (b4 : n ≤ 300)
    (hQ : ∀ v' s', KFs S s s' → ST s'.heap v' (iter (longer ls sz) n st) → Q v' s') :
    wpAny (model PR w) A (call (.ref 74) [.ref f, .ref r, v]) Q E s := by
  obtain ⟨⟨doc, pm, ct, c, o, d, od, nn, e1, e2, e3, e4, e5⟩, o6, e6, e7⟩ := id RA
  obtain ⟨tv, rfl⟩ : ∃ t, v = .ref t := by obtain ⟨t, _, _, _, _, _, e, _⟩ := hst; exact ⟨t, e⟩
  obtain ⟨otv, hotv, hctv⟩ : ∃ o, s.heap.get? tv = some o ∧ o.cls = .type "tuple" := by obtain ⟨t, _, _, _, _, _, e, ⟨o, ho, hc, _⟩, _⟩ := hst; cases e; exact ⟨o, ho, hc⟩
  have htv6 : tv ≠ 66 := by rintro rfl; rw [e6] at hotv; cases hotv; exact e7 hctv
  refine wpAny_call (codeAny_call_def (binds := [(Str.ofString "function", .ref f), (Str.ofString "sequence", .ref r), (Str.ofString "initial", .ref tv)]) (Nat.lt_of_le_of_lt a.d (by decide)) e1 e2 G.lim e3 rfl (.of_defaults rfl e4 e5 rfl (by rfl)) ?_ ?_ fun h₀ hns hk => ?_)
  · show ∀ x ∈ (defNo 7).2.2.names, x.2 ≠ NameKind.cell
    decide
  · intro y hy
    simp only [List.mem_cons, List.not_mem_nil, or_false] at hy
    rcases hy with rfl | rfl | rfl <;> rfl
  have fx : FX S s s.heap.objs.size (fun y => ([(Str.ofString "function", Value.ref f), (Str.ofString "sequence", Value.ref r), (Str.ofString "initial", Value.ref tv)] : List (Str × Value)).reverse.lookup y) [] (fun _ => none) ({ s with heap := h₀, toks := s.toks + ([(Str.ofString "function", Value.ref f), (Str.ofString "sequence", Value.ref r), (Str.ofString "initial", Value.ref tv)] : List (Str × Value)).length } : Shared) :=
    ⟨⟨_, _, rfl⟩, hns, kfh_of hk, Nat.le_refl _, (fun _ _ e => nomatch e), List.Pairwise.nil, (fun _ _ e => nomatch e)⟩
  generalize ({ s with heap := h₀, toks := s.toks + ([(Str.ofString "function", Value.ref f), (Str.ofString "sequence", Value.ref r), (Str.ofString "initial", Value.ref tv)] : List (Str × Value)).length } : Shared) = s₁ at fx ⊢
  obtain ⟨m, m1, m2, m3, fx⟩ : ∃ m, m (Str.ofString "function") = some (Value.ref f) ∧ m (Str.ofString "sequence") = some (Value.ref r) ∧ m (Str.ofString "initial") = some (Value.ref tv) ∧ FX S s s.heap.objs.size m [] (fun _ => none) s₁ := ⟨_, by rfl, by rfl, by rfl, fx⟩
  have hA : ∀ {s' : Shared} {m : Str → Option Value}, FX S s s.heap.objs.size m [] (fun _ => none) s' → Ar (A.deeper (callEnv (fdM "reduce" "reduce" (defNo 7) [] (.ref d) doc pm ct c) s.heap.objs.size 74)) (callEnv (fdM "reduce" "reduce" (defNo 7) [] (.ref d) doc pm ct c) s.heap.objs.size 74 :: outer) (s.heap.objs.size :: S) s'.heap :=
    fun {s' m} f => a.deep (h := s'.heap) (T := S) (env := callEnv (fdM "reduce" "reduce" (defNo 7) [] (.ref d) doc pm ct c) s.heap.objs.size 74) f rfl (by show (defNo 7).2.2.kind ≠ _; decide) h158 (by omega) (by omega)
  have hu' : (A.deeper (callEnv (fdM "reduce" "reduce" (defNo 7) [] (.ref d) doc pm ct c) s.heap.objs.size 74)).units ≤ 3790 := by show A.units + 3 ≤ 3790; omega
  have hd' : (A.deeper (callEnv (fdM "reduce" "reduce" (defNo 7) [] (.ref d) doc pm ct c) s.heap.objs.size 74)).depth ≤ 640 := by show A.depth + 1 ≤ 640; omega
  generalize (A.deeper (callEnv (fdM "reduce" "reduce" (defNo 7) [] (.ref d) doc pm ct c) s.heap.objs.size 74)) = A' at hA hu' hd' ⊢
  have hgens : ∀ {s' : Shared} {m : Str → Option Value}, FX S s s.heap.objs.size m [] (fun _ => none) s' → s'.gens = #[] := fun {s' m} f => by obtain ⟨h, t, e⟩ := f.same; rw [e]; exact hg
  have hGA : ∀ {s' : Shared} {m : Str → Option Value}, FX S s s.heap.objs.size m [] (fun _ => none) s' → GW w mg mb s'.heap := fun {s' m} f => G.kf a.hi f.keep
  -- it = iter(sequence)
  refine stepS fun Qa na ra ba => wpAny_Assign_Name ?_ ?hs
  case hs => rfl
  refine callN1 ?_
  refine Calls.Name_function_global (by rfl) (by rfl) (Calls.loadGlobal_builtin (hGA fx).g N.n_iter (hGA fx).b N.b_iter ?_) (by decide)
  refine PySem.callWith_builtin1 ?_
  refine nmL (m := m) fx (by rfl) (by rfl) m2 ?_ (by decide)
  have hrS : r ∉ S := a.noFields hr rfl
  refine iterB fun A₂ E₂ hh₂ => ?_
  refine wpAny_pyIter_range (fx.keep.1 _ _ hrS hr) (small_one (by omega) (by omega) (by omega) (by omega)) ?_
  rw [rangeSize_one, show (if (0 : Int) < (n : Int) then (n : Int) - 0 else 0) = (n : Int) from by split <;> omega]
  have hI0 : IsRangeIter (s₁.heap.push { cls := .type "range_iterator", data := .fields #[rawInt 0, rawInt (n : Int), rawInt 1] }) s₁.heap.objs.size 0 (n : Int) 1 := Heap.get?_push_size _ rfl
  have hIg : s.heap.objs.size < s₁.heap.objs.size := fx.ns.lt
  generalize hI : s₁.heap.objs.size = I at hI0 hIg ⊢
  have fx := fx.ks (ks_push s₁ { cls := .type "range_iterator", data := .fields #[rawInt 0, rawInt (n : Int), rawInt 1] } s₁.toks)
  refine stLX (m := m) fx (by rfl) (by rfl) fun s₂ f₂ g₂ sb₂ k₂ => ?_
  have hI2 : IsRangeIter s₂.heap I 0 (n : Int) 1 := sb₂.extBut _ _ (Nat.ne_of_gt hIg) hI0
  obtain ⟨m₂, m1, m2, m3, m4, f₂⟩ : ∃ m', m' (Str.ofString "function") = some (Value.ref f) ∧ m' (Str.ofString "sequence") = some (Value.ref r) ∧ m' (Str.ofString "initial") = some (Value.ref tv) ∧ m' (Str.ofString "it") = some (Value.ref I) ∧ FX S s s.heap.objs.size m' [] (fun _ => none) s₂ := by
    refine ⟨_, ?_, ?_, ?_, ?_, f₂⟩
    · rw [if_neg (by decide)]; exact m1
    · rw [if_neg (by decide)]; exact m2
    · rw [if_neg (by decide)]; exact m3
    · rw [if_pos rfl]
  -- if initial is _initial_missing
  refine na _ (stepS fun Qb nb rb bb => wpAny_If ?_)
  refine wpAny_isTrue_Compare1 ?_ (by rfl)
  refine nmL (m := m₂) f₂ (by rfl) (by rfl) m3 ?_ (by decide)
  refine Calls.Name_function_global (by rfl) (by rfl) (Calls.loadGlobal_global (hGA f₂).g N.g_init ?_) (by decide)
  obtain ⟨sl6, q6⟩ := f₂.keep.2 _ _ e6
  obtain ⟨slt, qt⟩ := f₂.keep.2 _ _ hotv
  refine is_other2 htv6 qt q6 e7 (wpAny_truthy_bool ?_)
  simp only [Bool.false_eq_true, if_false]
  refine stepS fun Qc nc rc bc => wpAny_Assign_Name ?_ ?hs
  case hs => rfl
  refine nmL (m := m₂) f₂ (by rfl) (by rfl) m3 ?_ (by decide)
  refine stLX (m := m₂) f₂ (by rfl) (by rfl) fun s₃ f₃ g₃ sb₃ k₃ => ?_
  have hI3 : IsRangeIter s₃.heap I 0 (n : Int) 1 := sb₃.extBut _ _ (Nat.ne_of_gt hIg) hI2
  obtain ⟨m₃, m1, m4, m5, f₃⟩ : ∃ m', m' (Str.ofString "function") = some (Value.ref f) ∧ m' (Str.ofString "it") = some (Value.ref I) ∧ m' (Str.ofString "value") = some (Value.ref tv) ∧ FX S s s.heap.objs.size m' [] (fun _ => none) s₃ := by
    refine ⟨_, ?_, ?_, ?_, f₃⟩
    · rw [if_neg (by decide)]; exact m1
    · rw [if_neg (by decide)]; exact m4
    · rw [if_pos rfl]
  refine nc _ (wpAny_execs_nil ?_)
  -- for element in it
  refine nb _ (stepS fun Qd nd rd bd => wpAny_For ?_ (by intro _; rfl))
  refine nmL (m := m₃) f₃ (by rfl) (by rfl) m4 ?_ (by decide)
  refine wpAny_pyIter_rangeiter hI3 ?_
  have W := Walks.range (prog := PR) (w := w) (hA f₃).hh I 0 1 n
  have h0I : s.heap.get? I = none := Heap.get?_none_of_le (Nat.le_of_lt hIg)
  have hIS : ∀ b ∈ [I], b ∉ s.heap.objs.size :: S := fun b hb hm => by
    rw [List.mem_singleton.mp hb] at hm
    rcases List.mem_cons.mp hm with z | z
    · exact Nat.lt_irrefl _ (z ▸ hIg)
    · obtain ⟨mm, hn⟩ := a.sq _ z
      obtain ⟨o', _, _, ho', _⟩ := hn
      rw [h0I] at ho'; cases ho'
  refine forWalk W (s.heap.objs.size :: S) hIS (fun i s' => ∃ m x, m (Str.ofString "function") = some (Value.ref f) ∧ m (Str.ofString "value") = some x ∧ FX S s s.heap.objs.size m [] (fun _ => none) s' ∧ ST s'.heap x (iter (longer ls sz) i st)) ?_ ?_ ?_ (by simpa using hI3) ⟨m₃, _, m1, m5, f₃, hst.kf f₃.keep a.sqn⟩
  · rintro i s₄ h' tk ⟨m, x, q1, q2, q3, q4⟩ st' hk'
    have st' : IsRangeIter s₄.heap I (0 + (i : Nat) * 1) ((n : Int) - (i : Nat)) 1 := st'
    refine ⟨m, x, q1, q2, q3.step (fun b o hb e => hk' b o hb e) h0I ⟨_, _, st', rfl⟩ tk, ?_⟩
    refine q4.ks fun b o vs nn hd e => hk' b o (fun hb => ?_) e
    rw [List.mem_singleton.mp hb, st'] at e
    cases e
    cases hd
  · rintro i v s₄ E' Q' hi hv ⟨m, x, q1, q2, q3, q4⟩ lq
    refine wpAny_pure ?_
    refine wpAny_assign_Name ?_
    refine stLX (m := m) q3 (by rfl) (by rfl) fun s₅ f₅ g₅ sb₅ k₅ => ?_
    obtain ⟨m₅, m1, m2, m3, f₅⟩ : ∃ m', m' (Str.ofString "function") = some (Value.ref f) ∧ m' (Str.ofString "value") = some x ∧ m' (Str.ofString "element") = some v ∧ FX S s s.heap.objs.size m' [] (fun _ => none) s₅ := by
      refine ⟨_, ?_, ?_, ?_, f₅⟩
      · rw [if_neg (by decide)]; exact q1
      · rw [if_neg (by decide)]; exact q2
      · rw [if_pos rfl]
    have l₅ : L9 s₅.heap f cL cS lv ls sz tz := by
      obtain ⟨_, _, _, _, hff, _⟩ := l9.fn
      exact l9.kf (a.noFunc hff rfl) f₅.keep
    refine stepS fun Qe ne re be => wpAny_Assign_Name ?_ ?hs
    case hs => rfl
    refine Call_Name (trees := [(false, eval _ _), (false, eval _ _)]) rfl ?_
    refine nmL (m := m₅) f₅ (by rfl) (by rfl) m1 ?_ (by decide)
    obtain ⟨qual, pm', c', ctv, hff, hcd⟩ := l₅.fn
    refine Calls.callWith_function (o := kla_obj "<lambda>" qual lam9.1 lam9.2.1 lam9.2.2.1 [(Str.ofString "size", cS), (Str.ofString "letters", cL)] pm' c' ctv) (fd := kla_fn "<lambda>" qual lam9.1 lam9.2.1 lam9.2.2.1 [(Str.ofString "size", cS), (Str.ofString "letters", cL)] pm' (.ref c') ctv) (Calls.evalArgs_plain (Calls.spliced_cons ?_))
    refine nmL (m := m₅) f₅ (by rfl) (by rfl) m2 ?_ (by decide)
    refine Calls.spliced_cons ?_
    refine nmL (m := m₅) f₅ (by rfl) (by rfl) m3 ?_ (by decide)
    refine Calls.spliced_nil ?_
    refine ⟨⟨hff, rfl⟩, ?_⟩
    show wpAny _ _ (call (.ref f) [x, v]) _ _ _
    have hb := iter_len (ls := ls) h1 h2 i
    have hLs : s.heap.objs.size < s₅.heap.objs.size := f₅.ns.lt
    refine lamLonger (S := s.heap.objs.size :: S) (hGA f₅) N (hA f₅) (by omega) (by omega) (by omega) (hgens f₅) l₅ (q4.ks k₅) h1 (by omega) b1 (by omega) (by omega) fun v' s₆ k₆ q₆ => ?_
    refine stLX (m := m₅) (f₅.go k₆) (by rfl) (by rfl) fun s₇ f₇ g₇ sb₇ k₇ => ?_
    refine ne _ (wpAny_execs_nil ?_)
    refine lq.nx _ ⟨((km_same sb₅ (.head _)).tr (kfs_heap k₆).1).tr (km_same sb₇ (.head _)), _, v', ?_, ?_, f₇, q₆.ks k₇⟩
    · rw [if_neg (by decide)]; exact m1
    · rw [if_pos rfl]
  · rintro s₄ E' ⟨m, x, q1, q2, q3, q4⟩
    refine wpAny_execs_nil (nd _ ?_)
    refine wpAny_execs_cons (wpAny_Return_some ?_)
    refine nmL (m := m) q3 (by rfl) (by rfl) q2 ?_ (by decide)
    exact hQ x s₄ q3.kfs q4
end
end Mine
end
section
open PySem PySem.W PyProof.Rows
open AutoSeq1 (wpAny_loadPart')
open PySem.SeqAt
set_option maxRecDepth 100000
set_option linter.unusedVariables false
namespace Mine
noncomputable def lexc (le : Bool) : List Int → List Int → Bool
  | [], [] => le
  | [], _ :: _ => true
  | _ :: _, [] => false
  | x :: xs, y :: ys => if x = y then lexc le xs ys else decide (x < y)
noncomputable def opLe (le : Bool) : Int := if le then 1 else 0
set_option maxHeartbeats 0 in
theorem lex_loop (le : Bool) (l b : Addr) (vs ws : List Value) (xs ys : List Int) (hv : IntsAre vs xs) (hw : IntsAre ws ys) (n n2 : Nat) (dd dd2 : Option Addr) (sl sl2 : Array (Option Value)) (k : Nat) :
    ∀ i : Nat, vs.length - i = k → i ≤ vs.length → i ≤ ws.length → Meets (Builtin.«list.__eq__.loop» ⟨[.ref l, .ref b, rawInt i, rawInt (opLe le)], []⟩)
      (fun A R s => s.heap.get? l = some { cls := .type "list", dict := dd, data := .seq vs.toArray n, slots := sl } ∧ s.heap.get? b = some { cls := .type "list", dict := dd2, data := .seq ws.toArray n2, slots := sl2 } ∧
        R (.ok (.ret (.bool (lexc le (xs.drop i) (ys.drop i))))) s) := by
  induction k with
  | zero =>
    intro i hk h1 h2 prog w A R s h
    refine hideG fun G hG => ?_
    obtain ⟨hp, g, d, tk, os⟩ := s; obtain ⟨hl, hb, h⟩ := h
    refine hG ?_
    have hi1 : vs.toArray[((i : Nat) : Int).toNat]? = none := by simp; omega
    have hd1 : xs.drop i = [] := by rw [List.drop_eq_nil_iff, ← hv.length]; omega
    rw [hd1] at h
    have e1 : i = vs.length := by omega
    have hsz : xs.length = vs.length ∧ ys.length = ws.length := ⟨hv.length.symm, hw.length.symm⟩
    cases le with
    | true =>
      wp_walk using wpAny_loadPart' hl, wpAny_loadPart' hb
      rw [hi1]
      wp_walk using wpAny_loadPart' hl, wpAny_loadPart' hb
      show R (.ok (.ret (.bool (decide (vs.toArray.size ≤ ws.toArray.size))))) _
      have e : decide (vs.toArray.size ≤ ws.toArray.size) = lexc true [] (ys.drop i) := by
        rw [decide_eq_true (by simp; omega)]
        cases ys.drop i <;> rfl
      rw [e]; exact h
    | false =>
      wp_walk using wpAny_loadPart' hl, wpAny_loadPart' hb
      rw [hi1]
      wp_walk using wpAny_loadPart' hl, wpAny_loadPart' hb
      show R (.ok (.ret (.bool (decide (vs.toArray.size < ws.toArray.size))))) _
      have e : decide (vs.toArray.size < ws.toArray.size) = lexc false [] (ys.drop i) := by
        cases hq : ys.drop i with
        | nil => rw [List.drop_eq_nil_iff] at hq; rw [decide_eq_false (by simp; omega)]; rfl
        | cons a r =>
          have : ¬ ys.length ≤ i := fun z => by rw [List.drop_eq_nil_iff.mpr z] at hq; cases hq
          rw [decide_eq_true (by simp; omega)]; rfl
      rw [e]; exact h
  | succ k ih =>
    intro i hk h1 h2 prog w A R s h
    refine hideG fun G hG => ?_
    obtain ⟨hp, g, d, tk, os⟩ := s; obtain ⟨hl, hb, h⟩ := h
    refine hG ?_
    have hlt : i < vs.length := by omega
    obtain ⟨t1, e1⟩ := hv.int_at i _ (List.getElem?_eq_getElem hlt)
    have hi1 : vs.toArray[((i : Nat) : Int).toNat]? = some (.int (xs.getD i 0) t1) := by simp [hlt, e1]
    have hx : xs.drop i = xs.getD i 0 :: xs.drop (i + 1) := by
      have hlx : i < xs.length := by rw [← hv.length]; exact hlt
      rw [List.drop_eq_getElem_cons hlx]; simp [hlx]
    have hc : ((i : Int) + 1) = ((i + 1 : Nat) : Int) := by push_cast; rfl
    by_cases hlt2 : i < ws.length
    · obtain ⟨t2, e2⟩ := hw.int_at i _ (List.getElem?_eq_getElem hlt2)
      have hi2 : ws.toArray[((i : Nat) : Int).toNat]? = some (.int (ys.getD i 0) t2) := by simp [hlt2, e2]
      have hy : ys.drop i = ys.getD i 0 :: ys.drop (i + 1) := by
        have hly : i < ys.length := by rw [← hw.length]; exact hlt2
        rw [List.drop_eq_getElem_cons hly]; simp [hly]
      rw [hx, hy, lexc] at h
      cases le with
      | true =>
        wp_walk using wpAny_loadPart' hl, wpAny_loadPart' hb
        rw [hi1, hi2]
        refine wpAny_bind (wpAny_eqBool_int ?_)
        by_cases he : xs.getD i 0 = ys.getD i 0
        · rw [if_pos he] at h
          rw [if_pos (by simpa using he), hc]
          refine wpAny_pure ⟨plainId_quiet MeetsSeq3.plain_eq_loop _, codeAny_builtin MeetsSeq3.entry_eq_loop (by
            rw [Around.under_plainId MeetsSeq3.plain_eq_loop _]
            exact ih (i + 1) (by omega) (by omega) (by omega) prog w A R _ ⟨hl, hb, h⟩)⟩
        · rw [if_neg he] at h
          rw [if_neg (by simpa using he)]
          wp_walk using wpAny_loadPart' hl, wpAny_loadPart' hb
          rw [hi1, hi2]
          show wpAny _ _ (compareOp .LtE _ _ >>= _) _ _ _
          refine wpAny_bind (le_int ?_)
          exact wpAny_pure (by rw [show decide (xs.getD i 0 ≤ ys.getD i 0) = decide (xs.getD i 0 < ys.getD i 0) from decide_eq_decide.mpr (by omega)]; exact h)
      | false =>
        wp_walk using wpAny_loadPart' hl, wpAny_loadPart' hb
        rw [hi1, hi2]
        refine wpAny_bind (wpAny_eqBool_int ?_)
        by_cases he : xs.getD i 0 = ys.getD i 0
        · rw [if_pos he] at h
          rw [if_pos (by simpa using he), hc]
          refine wpAny_pure ⟨plainId_quiet MeetsSeq3.plain_eq_loop _, codeAny_builtin MeetsSeq3.entry_eq_loop (by
            rw [Around.under_plainId MeetsSeq3.plain_eq_loop _]
            exact ih (i + 1) (by omega) (by omega) (by omega) prog w A R _ ⟨hl, hb, h⟩)⟩
        · rw [if_neg he] at h
          rw [if_neg (by simpa using he)]
          wp_walk using wpAny_loadPart' hl, wpAny_loadPart' hb
          rw [hi1, hi2]
          show wpAny _ _ (compareOp .Lt _ _ >>= _) _ _ _
          refine wpAny_bind (wpAny_lt_int ?_)
          exact wpAny_pure (h)
    · have hi2 : ws.toArray[((i : Nat) : Int).toNat]? = none := by simp; omega
      have hd2 : ys.drop i = [] := by rw [List.drop_eq_nil_iff, ← hw.length]; omega
      rw [hx, hd2, lexc] at h
      cases le with
      | true =>
        wp_walk using wpAny_loadPart' hl, wpAny_loadPart' hb
        rw [hi1, hi2]
        wp_walk using wpAny_loadPart' hl, wpAny_loadPart' hb
        show R (.ok (.ret (.bool (decide (vs.toArray.size ≤ ws.toArray.size))))) _
        rw [decide_eq_false (by simp; omega)]; exact h
      | false =>
        wp_walk using wpAny_loadPart' hl, wpAny_loadPart' hb
        rw [hi1, hi2]
        wp_walk using wpAny_loadPart' hl, wpAny_loadPart' hb
        show R (.ok (.ret (.bool (decide (vs.toArray.size < ws.toArray.size))))) _
        rw [decide_eq_false (by simp; omega)]; exact h
section
variable {prog : Program} {w : World} {A : Around} {E : Value → Shared → Prop} {s : Shared}
theorem list_lex (le : Bool) (l b : Addr) (vs ws : List Value) (xs ys : List Int) (hv : IntsAre vs xs) (hw : IntsAre ws ys) (n n2 : Nat) (dd dd2 : Option Addr) (sl sl2 : Array (Option Value)) :
    Meets ((if le then Builtin.«list.__le__» else Builtin.«list.__lt__») ⟨[.ref l, .ref b], []⟩)
      (fun A R s => s.heap.get? l = some { cls := .type "list", dict := dd, data := .seq vs.toArray n, slots := sl } ∧ s.heap.get? b = some { cls := .type "list", dict := dd2, data := .seq ws.toArray n2, slots := sl2 } ∧
        R (.ok (.ret (.bool (lexc le xs ys)))) s) := by
  intro prog w A R s h
  refine hideG fun G hG => ?_
  obtain ⟨hp, g, d, tk, os⟩ := s; obtain ⟨hl, hb, h⟩ := h
  refine hG ?_
  have f3 := AutoSeq1.sub_list_list
  cases le with
  | true =>
    simp only [if_true]
    wp_walk using wpAny_loadPart' hl, wpAny_loadPart' hb
    exact ⟨plainId_quiet MeetsSeq3.plain_eq_loop _, codeAny_builtin MeetsSeq3.entry_eq_loop (by
      rw [Around.under_plainId MeetsSeq3.plain_eq_loop _]
      exact lex_loop true l b vs ws xs ys hv hw n n2 dd dd2 sl sl2 _ 0 rfl (Nat.zero_le _) (Nat.zero_le _) prog w A R _ ⟨hl, hb, by simpa using h⟩)⟩
  | false =>
    simp only [Bool.false_eq_true, if_false]
    wp_walk using wpAny_loadPart' hl, wpAny_loadPart' hb
    exact ⟨plainId_quiet MeetsSeq3.plain_eq_loop _, codeAny_builtin MeetsSeq3.entry_eq_loop (by
      rw [Around.under_plainId MeetsSeq3.plain_eq_loop _]
      exact lex_loop false l b vs ws xs ys hv hw n n2 dd dd2 sl sl2 _ 0 rfl (Nat.zero_le _) (Nat.zero_le _) prog w A R _ ⟨hl, hb, by simpa using h⟩)⟩
/-- two lists of ints compared: <= -/
theorem leLI {u v : Value} {xs ys : List Int} {Q : Value → Shared → Prop} (x : LI s.heap u xs) (y : LI s.heap v ys) (hu : A.units + 10 < cLine) (h : Q (.bool (lexc true xs ys)) s) :
    wpAny (model prog w) A (compareOp .LtE u v) Q E s := by
  refine hideG fun G hG => ?_
  obtain ⟨a, vs, rfl, hl, hi⟩ := x
  obtain ⟨b, ws, rfl, hm, hj⟩ := y
  obtain ⟨⟨cls, dd, data, sl⟩, ho, hc, n, hd⟩ := id hl
  obtain ⟨⟨cls2, dd2, data2, sl2⟩, ho2, hc2, n2, hd2⟩ := id hm
  refine hG ?_
  simp only at hc hd hc2 hd2
  subst hc hd hc2 hd2
  refine cmp_ofLtE (richCompare_meets_room hl.typeIs hm.typeIs PySem.F.slot_list_le PySem.F.entry_list_le (PySem.F.args_list_le_2 _ _) (by have := list_lex true a b vs ws xs ys hi hj n n2 dd dd2 sl sl2; simpa using this) ?_ ?_)
  · exact ⟨ho, ho2, (fun e => nomatch e), h⟩
  · omega
end
end Mine
end
section
open PySem PySem.W PyProof.Rows
set_option maxRecDepth 100000
set_option linter.unusedVariables false
namespace Mine
/-- the tree with its asks answered -/
noncomputable def kRun {α : Type} (lt : Nat → Nat → Bool) : KasT α → α
  | .ret a => a
  | .ask i j k => kRun lt (k (lt i j))
/-- all asks on the road are of places under n -/
noncomputable def kGood {α : Type} (lt : Nat → Nat → Bool) (n : Nat) : KasT α → Bool
  | .ret _ => true
  | .ask i j k => decide (i < n) && (decide (j < n) && kGood lt n (k (lt i j)))
theorem kasWp_run {α : Type} {cmp : Nat → Nat → (Bool → Shared → Prop) → Shared → Prop} {lt : Nat → Nat → Bool} {n : Nat} {Inv : Shared → Prop} (hc : ∀ i j C s, i < n → j < n → Inv s → (∀ s', Inv s' → C (lt i j) s') → cmp i j C s) :
    ∀ (t : KasT α) (s : Shared) (Q : α → Shared → Prop), kGood lt n t = true → Inv s → (∀ s', Inv s' → Q (kRun lt t) s') → t.kasWp cmp Q s
  | .ret a, s, Q, _, hi, hq => hq s hi
  | .ask i j k, s, Q, hg, hi, hq => by
    simp only [kGood, Bool.and_eq_true, decide_eq_true_eq] at hg
    exact hc i j _ s hg.1 hg.2.1 hi fun s' hi' => kasWp_run hc (k (lt i j)) s' Q hg.2.2 hi' hq
section
variable {prog : Program} {w : World} {A : Around} {E : Value → Shared → Prop} {s : Shared}
/-- two lists of ints compared as keys of a sort -/
theorem ltKey {u v : Value} {xs ys : List Int} {Q : Bool → Shared → Prop} (x : LI s.heap u xs) (y : LI s.heap v ys) (hu : A.units + 10 < cLine) (h : Q (lexc false xs ys) s) :
    wpAny (model prog w) A (keyLt' oneType' u v) Q E s := by
  refine hideG fun G hG => ?_
  obtain ⟨a, vs, rfl, hl, hi⟩ := x
  obtain ⟨b, ws, rfl, hm, hj⟩ := y
  obtain ⟨⟨cls, dd, data, sl⟩, ho, hc, n, hd⟩ := id hl
  obtain ⟨⟨cls2, dd2, data2, sl2⟩, ho2, hc2, n2, hd2⟩ := id hm
  refine hG ?_
  simp only at hc hd hc2 hd2
  subst hc hd hc2 hd2
  rw [keyLt'_oneType, oneLt'_eq]
  simp only [if_true]
  refine wpAny_bind (wpAny_cRoomFor (by omega) ?_)
  refine wpAny_bind (wpAny_callSpecialIfBound?_slot (name := "__lt__") hl.typeIs PySem.F.slot_list_lt ?_)
  have g := list_lex false a b vs ws xs ys hi hj n n2 dd dd2 sl sl2
  simp only [Bool.false_eq_true, if_false] at g
  refine call_meets PySem.F.slot_list_lt hl.typeIs PySem.F.entry_list_lt (PySem.F.args_list_lt_2 _ _) g ⟨ho, ho2, ?_⟩
  exact wpAny_truthy_bool h
theorem getD_all2 {R : Value → List Int → Prop} : ∀ {vs : List Value} {xss : List (List Int)}, All2 R vs xss → ∀ i, i < vs.length → R (vs.getD i .none) (xss.getD i [])
  | _, _, .cons h t, 0, _ => h
  | _, _, .cons h t, i + 1, hi => getD_all2 t i (by simpa using hi)
/-- the order that the sort of lists gives -/
noncomputable def sortIdx (xss : List (List Int)) : List Nat := (kRun (fun i j => lexc false (xss.getD i []) (xss.getD j [])) (kas_sort xss.length)).toList
noncomputable def sortLists (xss : List (List Int)) : List (List Int) := (sortIdx xss).map fun i => xss.getD i []
theorem sortedLL {L l : Addr} {m : Str → Option Value} {vs : List Value} {xss : List (List Int)} {Q : Value → Shared → Prop} (hn : s.heap.Ns L m) (hl : s.heap.IsList l vs.toArray) (hi : All2 (LI s.heap) vs xss) (h2 : 2 ≤ vs.length) (h64 : vs.length < 64) (hu : A.units + 20 < cLine)
    (hin : ∀ i ∈ sortIdx xss, i < vs.length) (hgo : kGood (fun i j => lexc false (xss.getD i []) (xss.getD j [])) xss.length (kas_sort xss.length) = true)
    (h : ∀ D ys s', (∃ h' tk, s' = { s with heap := h', toks := tk }) → s'.heap.Ns L m → (∀ b o, b ≠ L → s.heap.get? b = some o → s'.heap.get? b = some o) → s'.heap.IsList D ys.toArray → All2 (LI s'.heap) ys (sortLists xss) → Q (.ref D) s') :
    wpAny (model prog w) A (call (.builtin "sorted") [.ref l]) Q E s := by
  have hlen : vs.length = xss.length := fa2_len hi
  have old : ∀ {h : Heap}, News ⟨#[], s.heap.life⟩ L h (allNews s.heap L) → ∀ b o, b ≠ L → s.heap.get? b = some o → h.get? b = some o := fun N b o hb e => (N _ (mem_allNews hb e)).1
  have li : ∀ {h : Heap}, (∀ b o, b ≠ L → s.heap.get? b = some o → h.get? b = some o) → ∀ (v : Value) (xs : List Int), LI s.heap v xs → LI h v xs := fun k v xs q => by
    refine hideG fun G hG => ?_
    obtain ⟨a, ws, e, ⟨o, ho, hc, n, hd⟩, r⟩ := q
    refine hG ?_
    refine ⟨a, ws, e, ⟨o, k a o ?_ ho, hc, n, hd⟩, r⟩
    rintro rfl
    refine hideG fun G hG => ?_
    obtain ⟨o', es, ep, ho', hd', _⟩ := hn
    refine hG ?_
    rw [ho] at ho'; cases ho'; rw [hd] at hd'; cases hd'
  refine kas_sorted (T := .type "list") (fr_none hn) (news_all s.heap L) hl h2 h64 (fun h _ N v hv => ?_) (by decide) fun D e1 h' F N hD => ?_
  · refine hideG fun G hG => ?_
    obtain ⟨i, hi', rfl⟩ := List.mem_iff_getElem.mp hv
    obtain ⟨xs, _, q⟩ := all2_at hi (List.getElem?_eq_getElem hi')
    obtain ⟨a, ws, e, ⟨o, ho, hc, n, hd⟩, r⟩ := li (old N) _ _ q
    refine hG ?_
    rw [e]
    intro A Q E s' k q
    exact wpAny_typeOf (T := "list") ⟨o, k _ _ ho, hc⟩ q
  · have k1 := old fun p hp => N p (.tail _ hp)
    rw [hlen]
    refine kasWp_run (lt := fun i j => lexc false (xss.getD i []) (xss.getD j [])) (n := xss.length) (Inv := fun s' => s' = { s with heap := h' }) ?_ _ _ _ hgo rfl ?_
    · rintro i j C s' h1 h2 rfl hC
      exact ltKey (li k1 _ _ (getD_all2 hi i (by omega))) (li k1 _ _ (getD_all2 hi j (by omega))) (by show A.units + 1 + 1 + 10 < cLine; omega) (hC _ rfl)
    · rintro s' rfl
      refine KasFin.intro F N (.head fun p hp => Nat.ne_of_lt (hD p hp)) fun h'' c F' N' => ?_
      have k2 := old fun p hp => N' p (.tail _ hp)
      refine h D _ _ ⟨h'', _, rfl⟩ F'.ns k2 ⟨_, (N' _ (.head _)).1, rfl, _, rfl⟩ ?_
      have : ∀ (l : List Nat), (∀ i ∈ l, i < vs.length) → All2 (LI h'') (l.map fun i => vs.getD i Value.none) (l.map fun i => xss.getD i []) := by
        intro l
        induction l with
        | nil => exact fun _ => .nil
        | cons a r ih => exact fun hr => .cons (li k2 _ _ (getD_all2 hi a (hr a (.head _)))) (ih fun i q => hr i (.tail _ q))
      exact this _ hin
end
end Mine
end
section
open PySem PySem.W PyProof.Rows
set_option maxRecDepth 100000
set_option linter.unusedVariables false
namespace Mine
/-- the digits of a word -/
noncomputable def wordAt (many len n : Nat) : List Int := (List.range len).map fun i => ((n / many ^ (len - 1 - i) % many : Nat) : Int)
noncomputable def turnsOf (wd : List Int) : List (List Int) := (List.range (wd.length - 1)).map fun i => wd.drop (i + 1) ++ wd.take (i + 1)
noncomputable def isLyn (wd : List Int) : Bool := decide ((turnsOf wd).filter (fun o => lexc true o wd) = [])
theorem FX.base {S : List Addr} {s₀ s : Shared} {L N : Addr} {m cm : Str → Option Value} {cs : List (Str × Addr)} {h' : Heap} {tk : Nat} (x : FX S s₀ L m cs cm s) (hL : L < N) (hc : ∀ n c, cs.lookup n = some c → c < N) (k : ∀ b o, b < N → s.heap.get? b = some o → h'.get? b = some o) : FX S s₀ L m cs cm { s with heap := h', toks := tk } := by
  have lt : ∀ {b o}, s₀.heap.get? b = some o → b < N := fun e => Nat.lt_trans (Nat.lt_of_lt_of_le (Heap.lt_size e) x.fresh) hL
  refine ⟨?_, ?_, ⟨fun b o hb e => k _ _ (lt e) (x.keep.1 b o hb e), fun b o e => ?_⟩, x.fresh, fun n c e => ?_, x.apart, x.above⟩
  · obtain ⟨h, t, e⟩ := x.same; exact ⟨h', tk, by rw [e]⟩
  · obtain ⟨o, es, ep, e, r⟩ := x.ns; exact ⟨o, es, ep, k _ _ hL e, r⟩
  · obtain ⟨sl, e1⟩ := x.keep.2 b o e; exact ⟨sl, k _ _ (lt e) e1⟩
  · obtain ⟨o, e1, r⟩ := x.cell n c e; exact ⟨o, k _ _ (hc n c e) e1, r⟩
theorem FX.sameBut {S : List Addr} {s₀ s : Shared} {L D : Addr} {m cm : Str → Option Value} {cs : List (Str × Addr)} {h' : Heap} {tk : Nat} (x : FX S s₀ L m cs cm s) (hs : Heap.SameBut D s.heap h') (hL : L ≠ D) (hb : s₀.heap.objs.size ≤ D) (hc : ∀ n c, cs.lookup n = some c → c ≠ D) : FX S s₀ L m cs cm { s with heap := h', toks := tk } := by
  have lt : ∀ {b o}, s₀.heap.get? b = some o → b ≠ D := fun e => Nat.ne_of_lt (Nat.lt_of_lt_of_le (Heap.lt_size e) hb)
  refine ⟨?_, ?_, ⟨fun b o hb e => hs.extBut _ _ (lt e) (x.keep.1 b o hb e), fun b o e => ?_⟩, x.fresh, fun n c e => ?_, x.apart, x.above⟩
  · obtain ⟨h, t, e⟩ := x.same; exact ⟨h', tk, by rw [e]⟩
  · obtain ⟨o, es, ep, e, r⟩ := x.ns; exact ⟨o, es, ep, hs.extBut _ _ hL e, r⟩
  · obtain ⟨sl, e1⟩ := x.keep.2 b o e; exact ⟨sl, hs.extBut _ _ (lt e) e1⟩
  · obtain ⟨o, e1, r⟩ := x.cell n c e; exact ⟨o, hs.extBut _ _ (hc n c e) e1, r⟩
theorem powOk (m k : Nat) (hm : m ≤ 5) (hk : k ≤ 4) : (Builtin.Int.intBits (m : Int) : Int) * (k : Int) ≤ 2 ^ 27 := by
  have : ∀ m < 6, ∀ k < 5, (Builtin.Int.intBits ((m : Nat) : Int) : Int) * ((k : Nat) : Int) ≤ 2 ^ 27 := by decide +kernel
  exact this m (by omega) k (by omega)
theorem powLe (m k : Nat) (hm : m ≤ 5) (hk : k ≤ 4) : m ^ k ≤ 625 := by
  have : ∀ m < 6, ∀ k < 5, m ^ k ≤ 625 := by decide +kernel
  exact this m (by omega) k (by omega)
theorem filter_range (q : List Int → Bool) (l : List (List Int)) : ((List.range l.length).filter (fun i => q (l.getD i []))).map (fun i => l.getD i []) = l.filter q := by
  have e : (List.range l.length).map (fun i => l.getD i []) = l := by
    refine List.ext_getElem (by simp) fun i h1 h2 => ?_
    simp [h2]
  conv => rhs; rw [← e, List.filter_map]
  rfl
theorem list1 (h : Heap) (v : Value) : h.push { cls := .type "list", data := .seq [v].toArray } = h.push (lstO #[v] 0) := rfl
section
variable {prog : Program} {w : World} {A : Around} {E : Value → Shared → Prop} {s : Shared} {mg mb : Str → Option Value}
noncomputable abbrev envW (doc pm ct : Value) (c L : Addr) : Env := envM "_law_words" "_law_words" (defNo 36) doc pm ct c L 152
/-- the body of the inner loop of _law_words -/
noncomputable def wInner : List Stmt := match (defNo 36).2.1 with
  | [_, .For _ _ [.If _ [.For _ _ b _ _] _ _] _ _, _] => b
  | _ => []
noncomputable def cms (many : Nat) (tm : Tok) (n : Nat) (tn : Tok) (wv : Option Value) : Str → Option Value := fun y => if y = Str.ofString "word" then wv else if y = Str.ofString "number" then some (.int n tn) else if y = Str.ofString "many" then some (.int many tm) else none
theorem wInnerTurn {doc pm ct : Value} {c : Addr} {s₀ : Shared} {m cm : Str → Option Value} {D : Addr} {acc : List Value} {many len n : Nat} {tm tn tl : Tok} {Q : Flow → Shared → Prop} (N : GOk mg mb) (hg : s₀.heap.Ns mainGlobals mg) (hb : s₀.heap.Ns builtinsNs mb) (hh : A.handled = none) (hu : A.units ≤ 4000)
    (f : FX [] s₀ s₀.heap.objs.size m (cellsFrom (s₀.heap.objs.size + 1) (defNo 36).2.2.names []) cm s)
    (c1 : cm (Str.ofString "many") = some (.int many tm)) (c2 : cm (Str.ofString "number") = some (.int n tn)) (m1 : m (Str.ofString "length") = some (.int len tl)) (m2 : m (Str.ofString "words") = some (.ref D))
    (hD : s.heap.PlainList D acc.toArray) (hDL : s₀.heap.objs.size + 3 < D) (ha : acc.length ≤ 4000) (hm1 : 2 ≤ many) (hm2 : many ≤ 5) (hl1 : 1 ≤ len) (hl2 : len ≤ 4) (hn1 : n ≤ 625)
    (hQ : ∀ s' m' cm', FX [] s₀ s₀.heap.objs.size m' (cellsFrom (s₀.heap.objs.size + 1) (defNo 36).2.2.names []) cm' s' → cm' (Str.ofString "many") = some (.int many tm) → m' (Str.ofString "length") = some (.int len tl) → m' (Str.ofString "words") = some (.ref D) → m' (Str.ofString "size") = m (Str.ofString "size") →
      KM [s₀.heap.objs.size, D, s₀.heap.objs.size + 2, s₀.heap.objs.size + 3] s.heap s'.heap → (∃ v, s'.heap.PlainList D (if isLyn (wordAt many len n) then acc ++ [v] else acc).toArray ∧ LID D s'.heap v (wordAt many len n)) → Q .next s') :
    wpAny (model PR w) A (execs wInner (envW doc pm ct c s₀.heap.objs.size)) Q E s := by
  refine stepS fun Qa na ra ba => wpAny_Assign_Name ?_ ?hs
  case hs => rfl
  refine compOver (cl := [(Str.ofString "number", s₀.heap.objs.size + 2), (Str.ofString "many", s₀.heap.objs.size + 1)]) (by rfl) (by intro y hy; simp at hy; rcases hy with rfl | rfl | rfl | rfl <;> decide) rfl (by intro y hy h; simp at hy; rcases hy with rfl | rfl | rfl | rfl <;> first | rfl | cases h) (by rfl) fun Qc qc => ?_
  refine Call_Name (trees := [(false, eval _ _), (false, eval _ _), (false, eval _ _)]) rfl ?_
  refine Calls.Name_function_global (by rfl) (by rfl) (Calls.loadGlobal_builtin (kfh_ns f.keep hg) N.n_range (kfh_ns f.keep hb) N.b_range ?_) (by decide)
  refine PyProof.Rows.callWith_type (by rfl) (Calls.evalArgs_plain (Calls.spliced_cons (wpAny_BinOp ?_)))
  refine nmL (m := m) f (by rfl) (by rfl) m1 ?_ (by decide)
  refine wpAny_Constant_int ?_
  refine sub_int ?_
  refine Calls.spliced_cons (wpAny_UnaryOp ?_)
  refine wpAny_Constant_int ?_
  refine neg_int ?_
  refine Calls.spliced_cons (wpAny_UnaryOp ?_)
  refine wpAny_Constant_int ?_
  refine neg_int ?_
  refine Calls.spliced_nil ?_
  show wpAny _ _ (call (.type "range") [_, _, _]) _ _ _
  refine call_range_3 (by decide) ?_ (.inl (PyProof.noPylong_small (by omega)))
  have hlen1 : (len : Int) - 1 = ((len - 1 : Nat) : Int) := by omega
  rw [hlen1]
  have hsz : Builtin.Range.rangeSize ((len - 1 : Nat) : Int) (-1) (-1) = (len : Int) := by rw [rangeSize_downNat]; omega
  have kS : Keeps s ({ s with heap := s.heap.push { cls := .type "range", data := .fields #[.int ((len - 1 : Nat) : Int) (s.toks + 1), .int (-1) (s.toks + 1 + 1 + 1), .int (-1) (s.toks + 1 + 1 + 1 + 1 + 1)] }, toks := s.toks + 1 + 1 + 1 + 1 + 1 + 1 } : Shared) := ks_push _ _ _
  refine qc _ _ ⟨len, _, fun _ => true, fun D i y h => ∃ t, y = Value.int ((n / many ^ (len - 1 - i) % many : Nat) : Int) t, iter_range hh (Heap.get?_push_size _ rfl) (small_down (by omega) (by omega) (by omega) (by omega)) hsz, by omega, fun D i v h h' k q => q, ?_, ?_⟩
  · rintro i v C Dd s₃ m₃ E' hi ⟨tv, rfl⟩ hC hn hm hk3 hd1 hd2
    have hk3' : Keep s.heap s₃.heap := fun b o e => hk3 b o (Heap.get?_push_of_some _ e)
    have hma := f.cell (Str.ofString "many") (s₀.heap.objs.size + 1) (by rfl)
    have hnu := f.cell (Str.ofString "number") (s₀.heap.objs.size + 2) (by rfl)
    rw [c1] at hma
    rw [c2] at hnu
    refine ⟨wpAny_pure ⟨ks_refl _, rfl⟩, fun _ => ?_⟩
    refine wpAny_BinOp (wpAny_BinOp ?_)
    refine wpAny_Name (wpAny_loadName_cell (by rfl) (by rfl) (by rfl) (hnu.keeps hk3') ?_) (by decide)
    refine wpAny_BinOp ?_
    refine wpAny_Name (wpAny_loadName_cell (by rfl) (by rfl) (by rfl) (hma.keeps hk3') ?_) (by decide)
    refine wpAny_Name (wpAny_loadName_local (by rfl) (by rfl) hn hm ?_) (by decide)
    have hp : (((len - 1 : Nat) : Int) + (i : Int) * -1) = ((len - 1 - i : Nat) : Int) := by omega
    rw [hp]
    refine pow_int (by omega) (powOk _ _ hm2 (by omega)) ?_
    rw [Int.toNat_natCast]
    have hpos : 0 < many ^ (len - 1 - i) := Nat.pow_pos (by omega)
    have hcast : ((many : Int) ^ (len - 1 - i)) = ((many ^ (len - 1 - i) : Nat) : Int) := by push_cast; rfl
    rw [hcast]
    have hle := powLe many (len - 1 - i) hm2 (by omega)
    refine floordiv_int (by omega) ?_ (.inl (PyProof.noPylong_small (by omega)))
    refine wpAny_Name (wpAny_loadName_cell (by rfl) (by rfl) (by rfl) (hma.keeps hk3') ?_) (by decide)
    have hdiv : (n : Int).fdiv ((many ^ (len - 1 - i) : Nat) : Int) = ((n / many ^ (len - 1 - i) : Nat) : Int) := by
      rw [Int.fdiv_eq_ediv_of_nonneg _ (by omega)]; rfl
    rw [hdiv]
    have hdl : n / many ^ (len - 1 - i) ≤ 625 := Nat.le_trans (Nat.div_le_self _ _) hn1
    refine mod_int' (by omega) ?_
    have hmod : ((n / many ^ (len - 1 - i) : Nat) : Int).fmod (many : Int) = ((n / many ^ (len - 1 - i) % many : Nat) : Int) := by
      rw [Int.fmod_eq_emod_of_nonneg _ (by omega)]; rfl
    rw [hmod]
    exact ⟨⟨_, rfl⟩, ks_tok _ _⟩
  · intro Dw s₄ ys k₄ hDw hlw hys
    rw [List.filter_eq_self.mpr (fun _ _ => rfl)] at hys
    have hyi : IntsAre ys (wordAt many len n) := by
      have : ∀ (l : List Nat) ys, All2 (fun i y => ∃ t, y = Value.int ((n / many ^ (len - 1 - i) % many : Nat) : Int) t) l ys → IntsAre ys (l.map fun i => ((n / many ^ (len - 1 - i) % many : Nat) : Int)) := by
        intro l
        induction l with
        | nil => intro ys q; cases q; exact .nil
        | cons a r ih => intro ys q; cases q with | cons h t => obtain ⟨t', rfl⟩ := h; exact .cons _ _ (ih _ t)
      exact this _ _ hys
    have kk4 := ks_tr kS k₄
    have f₄ := f.ks kk4
    have hwl : (wordAt many len n).length = len := by simp [wordAt]
    have hDw' : s.heap.objs.size ≤ Dw := Nat.le_trans (by show _ ≤ (s.heap.push _).objs.size; rw [Heap.size_push]; exact Nat.le_succ _) hDw
    clear hDw k₄ hys kS
    generalize wordAt many len n = wd at hyi hwl hQ
    -- the cell word
    refine stCX (m := m) f₄ (by rfl) (by rfl) (by rfl) fun s₅ f₅ e₅ sb₅ k₅ => ?_
    have hlw5 : s₅.heap.IsList Dw ys.toArray := isList_ks k₅ hlw
    obtain ⟨cm5, d1, d2, f₅⟩ : ∃ cm5, cm5 (Str.ofString "many") = some (Value.int many tm) ∧ cm5 (Str.ofString "word") = some (Value.ref Dw) ∧ FX [] s₀ s₀.heap.objs.size m (cellsFrom (s₀.heap.objs.size + 1) (defNo 36).2.2.names []) cm5 s₅ := by
      refine ⟨_, ?_, ?_, f₅⟩
      · rw [if_neg (by decide)]; exact c1
      · rw [if_pos rfl]
    -- turned
    refine na _ (stepS fun Qb nb rb bb => assignOver (s₀ := s₀) (m := m) (cm := cm5) (cl := [(Str.ofString "word", s₀.heap.objs.size + 3)]) (by rfl) (by rfl) (by intro y hy; simp at hy; rcases hy with rfl | rfl | rfl <;> decide) rfl (by intro y hy h; simp at hy; rcases hy with rfl | rfl | rfl <;> first | rfl | cases h) (by rfl) (by rfl) (by rfl) fun Qc qc => ?_)
    refine Call_Name (trees := [(false, eval _ _), (false, eval _ _)]) rfl ?_
    refine Calls.Name_function_global (by rfl) (by rfl) (Calls.loadGlobal_builtin (kfh_ns f₅.keep hg) N.n_range (kfh_ns f₅.keep hb) N.b_range ?_) (by decide)
    refine PyProof.Rows.callWith_type (by rfl) (Calls.evalArgs_plain (Calls.spliced_cons ?_))
    refine wpAny_Constant_int ?_
    refine Calls.spliced_cons ?_
    refine nmL (m := m) (f₅.ks (ks_tok _ _)) (by rfl) (by rfl) m1 ?_ (by decide)
    refine Calls.spliced_nil ?_
    show wpAny _ _ (call (.type "range") [_, _]) _ _ _
    refine call_range_2 ?_
    have hsz2 : Builtin.Range.rangeSize 1 (len : Int) 1 = ((len - 1 : Nat) : Int) := by rw [rangeSize_one]; split <;> omega
    have hwc := f₅.cell (Str.ofString "word") (s₀.heap.objs.size + 3) (by rfl)
    rw [d2] at hwc
    refine qc _ _ ⟨len - 1, _, fun _ => true, fun D i y h => LID D h y (wd.drop (i + 1) ++ wd.take (i + 1)), (f₅.ks (ks_push _ _ _)).icc, iter_range hh (Heap.get?_push_size _ rfl) (small_one (by omega) (by omega) (by omega) (by omega)) hsz2, by omega, fun D i v h h' k q => q.ksd k, ?_, ?_⟩
    · rintro i v C Dd s₆ m₆ E' hi ⟨tv, rfl⟩ hC hn hm hk6 hd1 hd2
      have hk6' : Keep s₅.heap s₆.heap := fun b o e => hk6 b o (Heap.get?_push_of_some _ e)
      refine ⟨wpAny_pure ⟨ks_refl _, rfl⟩, fun _ => ?_⟩
      have hcut : (1 + (i : Int) * 1) = ((i + 1 : Nat) : Int) := by push_cast; omega
      rw [hcut] at hm
      refine wpAny_BinOp ?_
      refine sliceGen ?_
      intro Qs qs
      refine wpAny_Name (wpAny_loadName_cell (by rfl) (by rfl) (by rfl) (hwc.keeps hk6') ?_) (by decide)
      rw [evalPart_some, evalPart_none]
      refine wpAny_Name (wpAny_loadName_local (by rfl) (by rfl) hn hm ?_) (by decide)
      refine wpAny_pure ?_
      have hlw6 := listAt hk6' hlw5
      have hyl : ys.length = len := by rw [hyi.length, hwl]
      refine qs _ _ _ _ ⟨Dw, _, _, _, rfl, hlw6, by rw [List.size_toArray, sizeLine_eq]; omega, .int _ _, .none, fun r₁ s₇ k₇ hr₁ hro₁ => ?_⟩
      have hi1 := slice_ints_fromW hyi (x := ((i + 1 : Nat) : Int)) (by omega)
      rw [Int.toNat_natCast] at hi1
      refine sliceGen ?_
      intro Qs qs
      refine wpAny_Name (wpAny_loadName_cell (by rfl) (by rfl) (by rfl) (hwc.keeps (hk6'.tr (ks_keep k₇))) ?_) (by decide)
      rw [evalPart_some, evalPart_none]
      refine wpAny_pure ?_
      refine wpAny_Name (wpAny_loadName_local (by rfl) (by rfl) (hn.keeps (ks_keep k₇)) hm ?_) (by decide)
      refine qs _ _ _ _ ⟨Dw, _, _, _, rfl, listAt (ks_keep k₇) hlw6, by rw [List.size_toArray, sizeLine_eq]; omega, .none, .int _ _, fun r₂ s₈ k₈ hr₂ hro₂ => ?_⟩
      have hi2 := slice_ints_uptoW hyi (y := ((i + 1 : Nat) : Int)) (by omega)
      rw [Int.toNat_natCast] at hi2
      have hro₁' := ks_keep k₈ _ _ hro₁
      refine addL (vs := (slicePick ys.toArray (some ((i + 1 : Nat) : Int)) none none).toList) (ws := (slicePick ys.toArray none (some ((i + 1 : Nat) : Int)) none).toList) ⟨_, hro₁', rfl, _, rfl⟩ ⟨_, hro₂, rfl, _, rfl⟩ (by rw [hi1.length, hi2.length, List.length_drop, List.length_take, sizeLine_eq]; omega) ?_
      refine ⟨⟨_, _, rfl, ?_, newIsList _ _, hi1.append hi2⟩, ks_tr k₇ (ks_tr k₈ (ks_push _ _ _))⟩
      have h1 := Heap.lt_size hro₁'
      show s₈.heap.objs.size ≠ Dd
      exact Nat.ne_of_gt (Nat.lt_of_lt_of_le (Nat.lt_of_lt_of_le hd1 hr₁) (Nat.le_of_lt h1))
    · intro Dt s₆ zs x₆ km₆ ks₆ hDt hlt hzs
      rw [List.filter_eq_self.mpr (fun _ _ => rfl)] at hzs
      have htl : All2 (LI s₆.heap) zs (turnsOf wd) := by
        unfold turnsOf
        rw [hwl]
        exact all2_map (fun i y q => q.li) hzs
      have hzlen : zs.length ≤ 100 := by rw [fa2_len htl]; simp [turnsOf, hwl]; omega
      have f₆ := fx_of (S := []) x₆
      have hlw6 : s₆.heap.IsList Dw ys.toArray := isList_ks ks₆ (listAt (kp_push _ _) hlw5)
      have e6 : (fun z => if z = Str.ofString "turned" then some (Value.ref Dt) else m z) (Str.ofString "turned") = some (Value.ref Dt) := if_pos rfl
      obtain ⟨m6, g1, g2, g3, g4, f₆⟩ : ∃ m6, m6 (Str.ofString "length") = some (Value.int len tl) ∧ m6 (Str.ofString "words") = some (Value.ref D) ∧ m6 (Str.ofString "turned") = some (Value.ref Dt) ∧ m6 (Str.ofString "size") = m (Str.ofString "size") ∧ FX [] s₀ s₀.heap.objs.size m6 (cellsFrom (s₀.heap.objs.size + 1) (defNo 36).2.2.names []) cm5 s₆ := by
        refine ⟨_, ?_, ?_, e6, ?_, f₆⟩
        · rw [if_neg (by decide)]; exact m1
        · rw [if_neg (by decide)]; exact m2
        · rw [if_neg (by decide)]
      -- if [..] == []
      refine nb _ (stepS fun Qd nd rd bd => wpAny_If ?_)
      refine wpAny_isTrue_Compare1 ?_ (by rfl)
      refine compOver (cl := [(Str.ofString "word", s₀.heap.objs.size + 3)]) (by rfl) (by intro y hy; simp at hy; rcases hy with rfl | rfl | rfl <;> decide) rfl (by intro y hy h; simp at hy; rcases hy with rfl | rfl | rfl <;> first | rfl | cases h) (by rfl) fun Qc qc => ?_
      refine nmL (m := m6) f₆ (by rfl) (by rfl) g3 ?_ (by decide)
      have hwc6 := f₆.cell (Str.ofString "word") (s₀.heap.objs.size + 3) (by rfl)
      rw [d2] at hwc6
      refine qc _ _ ⟨zs.length, _, fun i => lexc true ((turnsOf wd).getD i []) wd, fun D i y h => LID D h y ((turnsOf wd).getD i []), iter_list hh hlt, by omega, fun D i v h h' k q => q.ksd k, ?_, ?_⟩
      · intro i v C Dd s₇ m₇ E' hi hv hC hn hm hk7 hd1 hd2
        have hlv0 := getD_all2 htl i hi
        rw [List.getD_eq_getElem?_getD, hv] at hlv0
        have hlv : LI s₇.heap v ((turnsOf wd).getD i []) := LI.kp hk7 hlv0
        have hLw : LI s₇.heap (.ref Dw) wd := ⟨_, _, rfl, listAt hk7 hlw6, hyi⟩
        refine ⟨?_, fun _ => ?_⟩
        · rw [List.forIn_cons]
          simp only [if_true]
          refine wpAny_bind (wpAny_bind (wpAny_isTrue_Compare1 ?_ (by rfl)))
          refine wpAny_Name (wpAny_loadName_local (by rfl) (by rfl) hn hm ?_) (by decide)
          refine wpAny_Name (wpAny_loadName_cell (by rfl) (by rfl) (by rfl) (hwc6.keeps hk7) ?_) (by decide)
          refine leLI hlv hLw (by rw [show cLine = 9900 from rfl]; omega) (wpAny_truthy_bool ?_)
          refine wpAny_pure ?_
          exact wpAny_pure ⟨ks_refl _, rfl⟩
        · refine wpAny_Name (wpAny_loadName_local (by rfl) (by rfl) hn hm ?_) (by decide)
          refine ⟨?_, ks_refl _⟩
          obtain ⟨a, ws, rfl, hla, hia⟩ := hlv0
          obtain ⟨o, ho, r⟩ := id hla
          exact ⟨a, ws, rfl, Nat.ne_of_lt (Nat.lt_of_lt_of_le (Heap.lt_size ho) hd2), listAt hk7 hla, hia⟩
      · intro De s₇ us k₇ hDe hle hus
        have hus' : LL s₇.heap (.ref De) ((turnsOf wd).filter fun o => lexc true o wd) := by
          refine ⟨De, us, rfl, hle, ?_⟩
          rw [← filter_range, ← fa2_len htl]
          exact all2_map (fun i y q => q.li) hus
        have f₇ := f₆.ks k₇
        refine List_ ?_
        refine Calls.spliced_nil ?_
        refine wpAny_newList ?_
        obtain ⟨as, ra1⟩ := llReads (hus'.kp (kp_push s₇.heap { cls := .type "list", data := .seq ([] : List Value).toArray }))
        obtain ⟨bs, rb1⟩ := llReads (h := s₇.heap.push { cls := .type "list", data := .seq ([] : List Value).toArray }) (v := .ref s₇.heap.objs.size) (xss := []) ⟨_, [], rfl, newIsList _ _, .nil⟩
        refine eq_dataH ra1 rb1 (shaped_ll _) (shaped_ll _) (by rw [show cLine = 9900 from rfl]; omega) (wpAny_truthy_bool ?_)
        rw [eqv_nil]
        have k₈ : Keeps s₆ { s₇ with heap := s₇.heap.push { cls := .type "list", data := .seq ([] : List Value).toArray } } := ks_tr k₇ (ks_push _ _ _)
        generalize ({ s₇ with heap := s₇.heap.push { cls := .type "list", data := .seq ([] : List Value).toArray } } : Shared) = s₈ at k₈ ⊢
        have f₈ := f₆.ks k₈
        have km5 : KM [s₀.heap.objs.size + 3] s.heap s₅.heap := (km_of (ks_keep kk4)).tr (km_same sb₅ (.head _))
        have km8 : KM [s₀.heap.objs.size, D, s₀.heap.objs.size + 2, s₀.heap.objs.size + 3] s.heap s₈.heap :=
          ((km5.mono (by simp)).tr ((km_of (kp_push _ _)).tr (km₆.mono (by intro c hc; rw [List.mem_singleton.mp hc]; exact .head _)))).tr (km_of (ks_keep k₈))
        have hDp : s₈.heap.PlainList D acc.toArray := by
          obtain ⟨nD, hDo⟩ := hD
          refine ⟨nD, ks_keep k₈ _ _ (km₆ D _ ?_ (kp_push _ _ _ _ (km5 D _ ?_ hDo)))⟩
          · intro z; rw [List.mem_singleton.mp z] at hDL; exact absurd hDL (by show ¬ (s₀.heap.objs.size + 3 < s₀.heap.objs.size); omega)
          · intro z; rw [List.mem_singleton.mp z] at hDL; exact absurd hDL (Nat.lt_irrefl _)
        have hDlt : D < s.heap.objs.size := by obtain ⟨nD, hDo⟩ := hD; exact Heap.lt_size hDo
        have hLw8 : LID D s₈.heap (.ref Dw) wd := ⟨_, _, rfl, Nat.ne_of_gt (Nat.lt_of_lt_of_le hDlt hDw'), listAt (ks_keep k₈) hlw6, hyi⟩
        have hlyn : decide (((turnsOf wd).filter fun o => lexc true o wd) = []) = isLyn wd := rfl
        rw [hlyn]
        by_cases hq : isLyn wd = true
        · simp only [hq, if_true] at hQ ⊢
          refine wpAny_execs_cons (wpAny_Expr ?_)
          refine wpAny_Call_append (by rfl) (by rfl) (by rfl) (by rfl) ?_
          refine nmL (m := m6) f₈ (by rfl) (by rfl) g2 ?_ (by decide)
          refine ⟨D, _, rfl, by obtain ⟨nD, e⟩ := hDp; exact ⟨_, nD, e, rfl, rfl, rfl⟩, ?_⟩
          have hwc8 := f₈.cell (Str.ofString "word") (s₀.heap.objs.size + 3) (by rfl)
          rw [d2] at hwc8
          refine wpAny_Name (wpAny_loadName_cell (by rfl) (by rfl) (by rfl) hwc8 ?_) (by decide)
          refine wpAny_list_append_plain hDp (fun h₉ hp₉ sb₉ => ?_) (by rw [List.size_toArray, sizeLine_eq]; omega)
          refine wpAny_execs_nil (nd _ (wpAny_execs_nil ?_))
          have hcs : ∀ nm c, (cellsFrom (s₀.heap.objs.size + 1) (defNo 36).2.2.names []).lookup nm = some c → c ≠ D := by
            intro nm c hc
            have : (nm, c) ∈ [(Str.ofString "word", s₀.heap.objs.size + 3), (Str.ofString "number", s₀.heap.objs.size + 2), (Str.ofString "many", s₀.heap.objs.size + 1)] := mem_of_lookup (show ([(Str.ofString "word", s₀.heap.objs.size + 3), (Str.ofString "number", s₀.heap.objs.size + 2), (Str.ofString "many", s₀.heap.objs.size + 1)] : List (Str × Addr)).lookup nm = some c from hc)
            have h4 : c ≤ s₀.heap.objs.size + 3 := by
              simp only [List.mem_cons, Prod.mk.injEq, List.not_mem_nil, or_false] at this
              rcases this with ⟨_, rfl⟩ | ⟨_, rfl⟩ | ⟨_, rfl⟩
              · exact Nat.le_refl _
              · exact Nat.le_succ _
              · exact Nat.le_add_right (s₀.heap.objs.size + 1) 2
            exact Nat.ne_of_lt (Nat.lt_of_le_of_lt h4 hDL)
          have f₉ := f₈.sameBut (tk := s₈.toks) sb₉ (Nat.ne_of_lt (Nat.lt_of_le_of_lt (Nat.le_add_right _ 3) hDL)) (Nat.le_of_lt (Nat.lt_of_le_of_lt (Nat.le_add_right _ 3) hDL)) hcs
          refine hQ _ m6 cm5 f₉ d1 g1 g2 g4 (km8.tr (km_same sb₉ (.tail _ (.head _)))) ⟨.ref Dw, ?_, ?_⟩
          · have e : acc.toArray.push (Value.ref Dw) = (acc ++ [Value.ref Dw]).toArray := by simp
            rw [← e]; exact hp₉
          · obtain ⟨a, vs, e, hne, ⟨o, ho, hc, nn, hd⟩, hi⟩ := hLw8
            exact ⟨a, vs, e, hne, ⟨o, sb₉.extBut _ _ hne ho, hc, nn, hd⟩, hi⟩
        · simp only [hq, Bool.false_eq_true, if_false] at hQ ⊢
          refine wpAny_execs_nil (nd _ (wpAny_execs_nil ?_))
          exact hQ s₈ m6 cm5 f₈ d1 g1 g2 g4 km8 ⟨.ref Dw, hDp, hLw8⟩
end
end Mine
end
section
open PySem PySem.W PyProof.Rows
set_option maxRecDepth 100000
set_option linter.unusedVariables false
namespace Mine
noncomputable def lenTo (many len k : Nat) : List (List Int) := ((List.range k).map (wordAt many len)).filter isLyn
noncomputable def lenWords (many len : Nat) : List (List Int) := lenTo many len (many ^ len)
noncomputable def rawTo (many size k : Nat) : List (List Int) := (List.range k).flatMap fun i => if size % (i + 1) = 0 then lenWords many (i + 1) else []
noncomputable def wordsOf (many size : Nat) : List (List Int) := sortLists (rawTo many size size)
theorem lenTo_succ (many len k : Nat) : lenTo many len (k + 1) = if isLyn (wordAt many len k) then lenTo many len k ++ [wordAt many len k] else lenTo many len k := by
  unfold lenTo
  rw [List.range_succ, List.map_append, List.filter_append]
  by_cases h : isLyn (wordAt many len k) = true <;> simp [h]
theorem rawTo_succ (many size k : Nat) : rawTo many size (k + 1) = rawTo many size k ++ (if size % (k + 1) = 0 then lenWords many (k + 1) else []) := by
  unfold rawTo
  rw [List.range_succ, List.flatMap_append]
  simp
section
variable {w : World} {A : Around} {E : Value → Shared → Prop} {s : Shared} {mg mb : Str → Option Value}
theorem wordsFn {many size : Nat} {tm ts : Tok} {Q : Value → Shared → Prop} (G : GW w mg mb s.heap) (N : GOk mg mb) (hd : A.depth ≤ 700) (hu : A.units ≤ 3900) (hh : A.handled = none)
    (hm1 : 2 ≤ many) (hm2 : many ≤ 5) (hs1 : 1 ≤ size) (hs2 : size ≤ 4)
    (hr1 : 2 ≤ (rawTo many size size).length) (hr2 : (rawTo many size size).length < 64) (hin : ∀ i ∈ sortIdx (rawTo many size size), i < (rawTo many size size).length)
    (hgo : kGood (fun i j => lexc false ((rawTo many size size).getD i []) ((rawTo many size size).getD j [])) (rawTo many size size).length (kas_sort (rawTo many size size).length) = true)
    (hQ : ∀ v s', Keeps s s' → LL s'.heap v (wordsOf many size) → Q v s') :
    wpAny (model PR w) A (call (.ref 152) [.int many tm, .int size ts]) Q E s := by
  refine callY [] (binds := [(Str.ofString "many", .int many tm), (Str.ofString "size", .int size ts)]) (Nat.lt_of_le_of_lt hd (by decide)) G.words G.lim (fun _ _ _ _ => by rfl) ?_ fun doc pm ct c s₁ E' Q' hq f => ?_
  · intro y hy
    simp only [List.mem_cons, List.not_mem_nil, or_false] at hy
    rcases hy with rfl | rfl
    · exact .inr ⟨rfl, rfl⟩
    · exact .inl rfl
  have hQ := fun v s' a b => hq v s' (hQ v s' a b)
  have hu' : (A.deeper (envM "_law_words" "_law_words" (defNo 36) doc pm ct c s.heap.objs.size 152)).units ≤ 3910 := by show A.units + 3 ≤ 3910; omega
  have hh' : (A.deeper (envM "_law_words" "_law_words" (defNo 36) doc pm ct c s.heap.objs.size 152)).handled = none := hh
  obtain ⟨m, cm, m1, c1, f⟩ : ∃ m cm, m (Str.ofString "size") = some (.int size ts) ∧ cm (Str.ofString "many") = some (.int many tm) ∧ FX [] s s.heap.objs.size m (cellsFrom (s.heap.objs.size + 1) (defNo 36).2.2.names []) cm s₁ := ⟨_, _, by rfl, by rfl, f⟩
  generalize (A.deeper (envM "_law_words" "_law_words" (defNo 36) doc pm ct c s.heap.objs.size 152)) = A' at hu' hh' ⊢
  -- words = []
  refine stepS fun Qz nz rz bz => wpAny_Assign_Name ?_ ?hs
  case hs => rfl
  refine List_ ?_
  refine Calls.spliced_nil ?_
  refine wpAny_newList ?_
  have hD0 : (s₁.heap.push { cls := .type "list", data := .seq ([] : List Value).toArray }).PlainList s₁.heap.objs.size (([] : List Value).toArray) := ⟨_, Heap.get?_push_size _ rfl⟩
  have hDL : s.heap.objs.size + 3 < s₁.heap.objs.size := by
    obtain ⟨o, e, _⟩ := f.cell (Str.ofString "word") (s.heap.objs.size + 3) (by rfl)
    exact Heap.lt_size e
  refine stLX (m := m) (f.ks (ks_push s₁ _ s₁.toks)) (by rfl) (by rfl) fun s₂ f₂ e₂ sb₂ k₂ => ?_
  generalize hDe : s₁.heap.objs.size = D at hDL hD0 f₂
  have hD2 : s₂.heap.PlainList D ([] : List Value).toArray := hD0.extBut sb₂.extBut (Nat.ne_of_gt (Nat.lt_of_le_of_lt (Nat.le_add_right _ 3) hDL))
  obtain ⟨m₂, g1, g2, f₂⟩ : ∃ m', m' (Str.ofString "size") = some (.int size ts) ∧ m' (Str.ofString "words") = some (.ref D) ∧ FX [] s s.heap.objs.size m' (cellsFrom (s.heap.objs.size + 1) (defNo 36).2.2.names []) cm s₂ := by
    refine ⟨_, ?_, ?_, f₂⟩
    · rw [if_neg (by decide)]; exact m1
    · rw [if_pos rfl]
  have hcs : ∀ nm c, (cellsFrom (s.heap.objs.size + 1) (defNo 36).2.2.names []).lookup nm = some c → c ≤ s.heap.objs.size + 3 := by
    intro nm c hc
    have : (nm, c) ∈ [(Str.ofString "word", s.heap.objs.size + 3), (Str.ofString "number", s.heap.objs.size + 2), (Str.ofString "many", s.heap.objs.size + 1)] := mem_of_lookup (show ([(Str.ofString "word", s.heap.objs.size + 3), (Str.ofString "number", s.heap.objs.size + 2), (Str.ofString "many", s.heap.objs.size + 1)] : List (Str × Addr)).lookup nm = some c from hc)
    simp only [List.mem_cons, Prod.mk.injEq, List.not_mem_nil, or_false] at this
    rcases this with ⟨_, rfl⟩ | ⟨_, rfl⟩ | ⟨_, rfl⟩
    · exact Nat.le_refl _
    · exact Nat.le_succ _
    · exact Nat.le_add_right (s.heap.objs.size + 1) 2
  -- for length in range(1, size + 1)
  refine nz _ (stepS fun Qa na ra ba => forOver fun Qi qi => ?_)
  refine Call_Name (trees := [(false, eval _ _), (false, eval _ _)]) rfl ?_
  refine Calls.Name_function_global (by rfl) (by rfl) (Calls.loadGlobal_builtin (kfh_ns f₂.keep G.g) N.n_range (kfh_ns f₂.keep G.b) N.b_range ?_) (by decide)
  refine PyProof.Rows.callWith_type (by rfl) (Calls.evalArgs_plain (Calls.spliced_cons ?_))
  refine wpAny_Constant_int ?_
  refine Calls.spliced_cons (wpAny_BinOp ?_)
  refine nmL (m := m₂) (f₂.ks (ks_tok _ _)) (by rfl) (by rfl) g1 ?_ (by decide)
  refine wpAny_Constant_int ?_
  refine add_int ?_
  refine Calls.spliced_nil ?_
  show wpAny _ _ (call (.type "range") [_, _]) _ _ _
  refine call_range_2 ?_
  have hsz : Builtin.Range.rangeSize 1 ((size : Int) + 1) 1 = ((size : Nat) : Int) := by rw [rangeSize_one]; split <;> omega
  have hDlt : D < s₂.heap.objs.size := by obtain ⟨nn, e⟩ := hD2; exact Heap.lt_size e
  refine qi _ _ ⟨size, _, [s.heap.objs.size, D, s.heap.objs.size + 2, s.heap.objs.size + 3], fun i s' => ∃ m cm acc, FX [] s s.heap.objs.size m (cellsFrom (s.heap.objs.size + 1) (defNo 36).2.2.names []) cm s' ∧ cm (Str.ofString "many") = some (.int many tm) ∧
      m (Str.ofString "size") = some (.int size ts) ∧ m (Str.ofString "words") = some (.ref D) ∧ s'.heap.PlainList D (List.toArray acc) ∧ All2 (LID D s'.heap) acc (rawTo many size i) ∧ acc.length ≤ 625 * i, iter_range hh' (Heap.get?_push_size _ rfl) (small_one (by omega) (by omega) (by omega) (by omega)) hsz, ?_, ?_, ?_, ?_, ?_⟩
  · intro b hb
    have hbD : b ≤ D := by
      simp only [List.mem_cons, List.not_mem_nil, or_false] at hb
      rcases hb with rfl | rfl | rfl | rfl
      · exact Nat.le_of_lt (Nat.lt_of_le_of_lt (Nat.le_add_right _ 3) hDL)
      · exact Nat.le_refl _
      · exact Nat.le_of_lt (Nat.lt_trans (Nat.lt_succ_self _) hDL)
      · exact Nat.le_of_lt hDL
    have hlt : b < s₂.heap.objs.size := Nat.lt_of_le_of_lt hbD hDlt
    refine ⟨by show b < (s₂.heap.push _).objs.size; rw [Heap.size_push]; exact Nat.lt_succ_of_lt hlt, ?_⟩
    show Value.ref s₂.heap.objs.size ≠ .ref b
    intro e
    cases e
    exact Nat.lt_irrefl _ hlt
  · rintro i s' h' tk ⟨m, cm, acc, q1, q2, q3, q4, q5, q6, q7⟩ hks hbs
    have hbs' : ∀ b o, b < s₂.heap.objs.size → s'.heap.get? b = some o → h'.get? b = some o := fun b o hb => hbs b o (by show b < (s₂.heap.push _).objs.size; rw [Heap.size_push]; exact Nat.lt_succ_of_lt hb)
    refine ⟨m, cm, acc, q1.base (N := s₂.heap.objs.size) (Nat.lt_trans (Nat.lt_of_le_of_lt (Nat.le_add_right _ 3) hDL) hDlt) (fun n c hc => Nat.lt_of_le_of_lt (hcs n c hc) (Nat.lt_trans hDL hDlt)) hbs', q2, q3, q4, ?_, fa2_mono (fun _ _ q => q.ksd (kSD_ks hks)) q6, q7⟩
    obtain ⟨nn, e⟩ := q5
    exact ⟨nn, hbs' _ _ hDlt e⟩
  · refine ⟨m₂, cm, [], f₂.ks (ks_push _ _ _), c1, g1, g2, ?_, .nil, Nat.le_refl _⟩
    obtain ⟨nn, e⟩ := hD2
    exact ⟨nn, Heap.get?_push_of_some _ e⟩
  · rintro i v s₃ I E' Q' hi ⟨tv, rfl⟩ ⟨m, cm, acc, q1, q2, q3, q4, q5, q6, q7⟩ lq
    refine wpAny_pure ?_
    refine wpAny_assign_Name ?_
    refine stLX (m := m) q1 (by rfl) (by rfl) fun s₄ f₄ e₄ sb₄ k₄ => ?_
    have hlen : (1 + (i : Int) * 1) = ((i + 1 : Nat) : Int) := by push_cast; omega
    rw [hlen] at f₄
    have q5' : s₄.heap.PlainList D (List.toArray acc) := q5.extBut sb₄.extBut (Nat.ne_of_gt (Nat.lt_of_le_of_lt (Nat.le_add_right _ 3) hDL))
    have q6' := fa2_mono (fun _ _ q => LID.ksd (kSD_ks k₄) q) q6
    obtain ⟨m₄, r1, r2, r3, f₄⟩ : ∃ m', m' (Str.ofString "size") = some (.int size ts) ∧ m' (Str.ofString "words") = some (.ref D) ∧ m' (Str.ofString "length") = some (.int ((i + 1 : Nat) : Int) tv) ∧ FX [] s s.heap.objs.size m' (cellsFrom (s.heap.objs.size + 1) (defNo 36).2.2.names []) cm s₄ := by
      refine ⟨_, ?_, ?_, ?_, f₄⟩
      · rw [if_neg (by decide)]; exact q3
      · rw [if_neg (by decide)]; exact q4
      · rw [if_pos rfl]
    refine stepS fun Qb nb rb bb => wpAny_If ?_
    refine wpAny_isTrue_Compare1 ?_ (by rfl)
    refine wpAny_BinOp ?_
    refine nmL (m := m₄) f₄ (by rfl) (by rfl) r1 ?_ (by decide)
    refine nmL (m := m₄) f₄ (by rfl) (by rfl) r3 ?_ (by decide)
    refine mod_int' (by omega) ?_
    refine wpAny_Constant_int ?_
    have hmod : (size : Int).fmod ((i + 1 : Nat) : Int) = ((size % (i + 1) : Nat) : Int) := by rw [Int.fmod_eq_emod_of_nonneg _ (by omega)]; rfl
    rw [hmod]
    refine eq_int (wpAny_truthy_bool ?_)
    have hdec : ∀ r : Nat, (((r : Int)) == 0) = decide (r = 0) := by intro r; rw [Bool.eq_iff_iff]; simp
    rw [hdec]
    have f₄ := f₄.ks (ks_tok s₄ (s₄.toks + 1 + 1))
    have kmL : KM [s.heap.objs.size, D, s.heap.objs.size + 2, s.heap.objs.size + 3] s₃.heap s₄.heap := km_same sb₄ (.head _)
    by_cases h0 : size % (i + 1) = 0
    case neg =>
      simp only [h0, decide_false, Bool.false_eq_true, if_false]
      refine wpAny_execs_nil (nb _ (wpAny_execs_nil (lq.nx _ ?_)))
      refine ⟨kmL, m₄, cm, acc, f₄, q2, r1, r2, q5', ?_, by omega⟩
      rw [rawTo_succ, if_neg h0, List.append_nil]
      exact q6'
    simp only [h0, decide_true, if_true]
    -- for number in range(many ** length)
    refine stepS fun Qc nc rc bc => forOver fun Qj qj => ?_
    refine callN1 ?_
    refine Calls.Name_function_global (by rfl) (by rfl) (Calls.loadGlobal_builtin (kfh_ns f₄.keep G.g) N.n_range (kfh_ns f₄.keep G.b) N.b_range ?_) (by decide)
    refine PySem.callWith_type1 ?_
    refine wpAny_BinOp ?_
    refine nmC (c := s.heap.objs.size + 1) f₄ (by rfl) (by rfl) (by rfl) q2 ?_ (by decide)
    refine nmL (m := m₄) f₄ (by rfl) (by rfl) r3 ?_ (by decide)
    refine pow_int (by omega) (powOk _ _ hm2 (by omega)) ?_
    rw [Int.toNat_natCast]
    have hcast : ((many : Int) ^ (i + 1)) = ((many ^ (i + 1) : Nat) : Int) := by push_cast; rfl
    rw [hcast]
    have hle := powLe many (i + 1) hm2 (by omega)
    refine call_range_1 ?_
    have hszn : Builtin.Range.rangeSize 0 ((many ^ (i + 1) : Nat) : Int) 1 = ((many ^ (i + 1) : Nat) : Int) := by rw [rangeSize_one]; split <;> omega
    have hDlt4 : D < s₄.heap.objs.size := by obtain ⟨nn, e⟩ := q5'; exact Heap.lt_size e
    refine qj _ _ ⟨many ^ (i + 1), _, [s.heap.objs.size, D, s.heap.objs.size + 2, s.heap.objs.size + 3], fun j s' => ∃ m cm acc, FX [] s s.heap.objs.size m (cellsFrom (s.heap.objs.size + 1) (defNo 36).2.2.names []) cm s' ∧ cm (Str.ofString "many") = some (.int many tm) ∧
      m (Str.ofString "size") = some (.int size ts) ∧ m (Str.ofString "words") = some (.ref D) ∧ m (Str.ofString "length") = some (.int ((i + 1 : Nat) : Int) tv) ∧ s'.heap.PlainList D (List.toArray acc) ∧ All2 (LID D s'.heap) acc (rawTo many size i ++ lenTo many (i + 1) j) ∧ acc.length ≤ 625 * i + j ∧
      KM [s.heap.objs.size, D, s.heap.objs.size + 2, s.heap.objs.size + 3] s₃.heap s'.heap, iter_range hh' (Heap.get?_push_size _ rfl) (small_one (by omega) (by omega) (by omega) (by omega)) hszn, ?_, ?_, ?_, ?_, ?_⟩
    · intro b hb
      have hbD : b ≤ D := by
        simp only [List.mem_cons, List.not_mem_nil, or_false] at hb
        rcases hb with rfl | rfl | rfl | rfl
        · exact Nat.le_of_lt (Nat.lt_of_le_of_lt (Nat.le_add_right _ 3) hDL)
        · exact Nat.le_refl _
        · exact Nat.le_of_lt (Nat.lt_trans (Nat.lt_succ_self _) hDL)
        · exact Nat.le_of_lt hDL
      have hlt : b < s₄.heap.objs.size := Nat.lt_of_le_of_lt hbD hDlt4
      refine ⟨by show b < (s₄.heap.push _).objs.size; rw [Heap.size_push]; exact Nat.lt_succ_of_lt hlt, ?_⟩
      show Value.ref s₄.heap.objs.size ≠ .ref b
      intro e
      cases e
      exact Nat.lt_irrefl _ hlt
    · rintro j s' h' tk ⟨m, cm, acc, q1, q2, q3, q4, q8, q5, q6, q7, q9⟩ hks hbs
      have hbs' : ∀ b o, b < s₄.heap.objs.size → s'.heap.get? b = some o → h'.get? b = some o := fun b o hb => hbs b o (by show b < (s₄.heap.push _).objs.size; rw [Heap.size_push]; exact Nat.lt_succ_of_lt hb)
      refine ⟨m, cm, acc, q1.base (N := s₄.heap.objs.size) (Nat.lt_trans (Nat.lt_of_le_of_lt (Nat.le_add_right _ 3) hDL) hDlt4) (fun n c hc => Nat.lt_of_le_of_lt (hcs n c hc) (Nat.lt_trans hDL hDlt4)) hbs', q2, q3, q4, q8, ?_, fa2_mono (fun _ _ q => q.ksd (kSD_ks hks)) q6, q7, ?_⟩
      · obtain ⟨nn, e⟩ := q5
        exact ⟨nn, hbs' _ _ hDlt4 e⟩
      · intro b o hb e
        exact hbs' b o (by rw [sb₄.1]; exact Heap.lt_size e) (q9 b o hb e)
    · refine ⟨m₄, cm, acc, f₄.ks (ks_push _ _ _), q2, r1, r2, r3, ?_, ?_, by omega, kmL.tr (km_of (kp_push _ _))⟩
      · obtain ⟨nn, e⟩ := q5'
        exact ⟨nn, Heap.get?_push_of_some _ e⟩
      · rw [show lenTo many (i + 1) 0 = [] from rfl, List.append_nil]
        exact fa2_mono (fun _ _ q => q.ksd (kSD_of (kp_push _ _))) q6'
    · rintro j v s₅ I' E₂ Q₂ hj ⟨tv', rfl⟩ ⟨m, cm, acc, q1, q2, q3, q4, q8, q5, q6, q7, q9⟩ lq₂
      refine wpAny_pure ?_
      refine wpAny_assign_Name ?_
      refine stCX (m := m) (c := s.heap.objs.size + 2) q1 (by rfl) (by rfl) (by rfl) fun s₆ f₆ e₆ sb₆ k₆ => ?_
      have hnum : (0 + (j : Int) * 1) = (j : Int) := by omega
      rw [hnum] at f₆
      have q5₆ : s₆.heap.PlainList D (List.toArray acc) := q5.extBut sb₆.extBut (Nat.ne_of_gt (Nat.lt_trans (Nat.lt_succ_self _) hDL))
      have q6₆ := fa2_mono (fun _ _ q => LID.ksd (kSD_ks k₆) q) q6
      obtain ⟨cm₆, r4, r5, f₆⟩ : ∃ cm', cm' (Str.ofString "many") = some (Value.int many tm) ∧ cm' (Str.ofString "number") = some (Value.int j tv') ∧ FX [] s s.heap.objs.size m (cellsFrom (s.heap.objs.size + 1) (defNo 36).2.2.names []) cm' s₆ := by
        refine ⟨_, ?_, ?_, f₆⟩
        · rw [if_neg (by decide)]; exact q2
        · rw [if_pos rfl]
      refine wInnerTurn (mg := mg) (mb := mb) (D := D) (acc := acc) (tm := tm) (tn := tv') (tl := tv) (len := i + 1) N G.g G.b hh' (by omega) f₆ r4 r5 q8 q4 q5₆ hDL (by omega) hm1 hm2 (by omega) (by omega) (by omega) fun s₇ m' cm' f₇ u1 u2 u3 u4 km₇ hv => ?_
      obtain ⟨v, hp, hlv⟩ := hv
      have km5 : KM [s.heap.objs.size, D, s.heap.objs.size + 2, s.heap.objs.size + 3] s₅.heap s₇.heap := (km_same sb₆ (.tail _ (.tail _ (.head _)))).tr km₇
      have hLs : s.heap.objs.size < s₆.heap.objs.size := f₆.ns.lt
      have old : ∀ v xs, LID D s₆.heap v xs → LID D s₇.heap v xs := by
        rintro v xs ⟨a, ws, e, hne, ⟨o, ho, hc, nn, hd⟩, hi⟩
        refine ⟨a, ws, e, hne, ⟨o, km₇ a o (fun z => ?_) ho, hc, nn, hd⟩, hi⟩
        have cellNo : ∀ c x, s₆.heap.IsCell c x → a ≠ c := by
          rintro c x ⟨o', ho', hd'⟩ rfl
          rw [ho] at ho'; cases ho'; rw [hd] at hd'; cases hd'
        simp only [List.mem_cons, List.not_mem_nil, or_false] at z
        rcases z with z | z | z | z
        · obtain ⟨o', es, ep, ho', hd', _⟩ := f₆.ns
          rw [← z, ho] at ho'; cases ho'; rw [hd] at hd'; cases hd'
        · exact hne z
        · exact cellNo _ _ (f₆.cell (Str.ofString "number") (s.heap.objs.size + 2) (by rfl)) z
        · exact cellNo _ _ (f₆.cell (Str.ofString "word") (s.heap.objs.size + 3) (by rfl)) z
      refine lq₂.nx _ ⟨km5, m', cm', _, f₇, u1, u4.trans q3, u3, u2, hp, ?_, ?_, q9.tr km5⟩
      · rw [lenTo_succ]
        by_cases hq : isLyn (wordAt many (i + 1) j) = true
        · rw [if_pos hq, if_pos hq, ← List.append_assoc]
          exact fa2_append (fa2_mono old q6₆) (.cons hlv .nil)
        · rw [if_neg hq, if_neg hq]
          exact fa2_mono old q6₆
      · by_cases hq : isLyn (wordAt many (i + 1) j) = true
        · rw [if_pos hq, List.length_append]; simp; omega
        · rw [if_neg hq]; omega
    · rintro s₅ E₂ ⟨m, cm, acc, q1, q2, q3, q4, q8, q5, q6, q7, q9⟩
      refine wpAny_execs_nil (nc _ (wpAny_execs_nil (nb _ (wpAny_execs_nil (lq.nx _ ?_)))))
      refine ⟨q9, m, cm, acc, q1, q2, q3, q4, q5, ?_, by omega⟩
      rw [rawTo_succ, if_pos h0]
      exact q6
  · rintro s₃ E' ⟨m, cm, acc, q1, q2, q3, q4, q5, q6, q7⟩
    refine wpAny_execs_nil (na _ ?_)
    refine wpAny_execs_cons (wpAny_Return_some ?_)
    refine callN1 ?_
    refine Calls.Name_function_global (by rfl) (by rfl) (Calls.loadGlobal_builtin (kfh_ns q1.keep G.g) N.n_sorted (kfh_ns q1.keep G.b) N.b_sorted ?_) (by decide)
    refine PySem.callWith_builtin1 ?_
    refine nmL (m := m) q1 (by rfl) (by rfl) q4 ?_ (by decide)
    have hal : acc.length = (rawTo many size size).length := fa2_len q6
    refine sortedLL q1.ns q5.isList (fa2_mono (fun _ _ q => q.li) q6) (by omega) (by omega) (by rw [show cLine = 9900 from rfl]; omega) (by rw [hal]; exact hin) hgo fun Dr ys s₄ hsame hns hk hl hys => ?_
    refine hQ _ _ ?_ ⟨Dr, ys, rfl, hl, hys⟩
    obtain ⟨h₃, t₃, e₃⟩ := q1.same
    obtain ⟨h₄, t₄, e₄⟩ := hsame
    refine ⟨h₄, t₄, by rw [e₄, e₃], fun b o e => ?_⟩
    have e1 := kfh_nil q1.keep b o e
    have := hk b o (Nat.ne_of_lt (Heap.lt_size e)) e1
    rw [e₄] at this
    exact this
end
end Mine
end
section
open PySem PySem.W PyProof.Rows
set_option maxRecDepth 100000
set_option linter.unusedVariables false
namespace Mine
noncomputable def figs (many : Nat) : List Int := (List.range many).map Int.ofNat
/-- what is asked of a pair of sizes, by figures alone -/
noncomputable def pairOk (many size : Nat) : Bool :=
  let raw := rawTo many size size
  decide (2 ≤ raw.length) && decide (raw.length < 64) && (sortIdx raw).all (fun i => decide (i < raw.length)) &&
  kGood (fun i j => lexc false (raw.getD i []) (raw.getD j [])) raw.length (kas_sort raw.length) &&
  (wordsOf many size).all (fun wd => wd.all fun f => decide (0 ≤ f) && decide (f < (many : Int))) &&
  decide (((iter (longer (figs many) size) (many ^ size + 1) (List.replicate (size - 1) ((many : Int) - 1), [])).1.drop (size - 1)) = (wordsOf many size).flatten)
theorem pairs_ok : pairOk 2 4 = true ∧ pairOk 3 2 = true ∧ pairOk 2 3 = true ∧ pairOk 4 2 = true ∧ pairOk 3 3 = true ∧ pairOk 5 2 = true := by
  refine ⟨?_, ?_, ?_, ?_, ?_, ?_⟩ <;> decide +kernel
/-- an injective renaming of the letters goes through -/
theorem longer_map (f : Int → Int) (hf : ∀ a b, f a = f b → a = b) (ls : List Int) (sz : Nat) (st : List Int × List (List Int)) :
    longer (ls.map f) sz (st.1.map f, st.2.map (·.map f)) = ((longer ls sz st).1.map f, (longer ls sz st).2.map (·.map f)) := by
  have hinj : ∀ a b : List Int, a.map f = b.map f → a = b := by
    intro a
    induction a with
    | nil => intro b h; cases b <;> simp_all
    | cons x r ih => intro b h; cases b with
      | nil => simp at h
      | cons y q => simp only [List.map_cons, List.cons.injEq] at h; rw [hf _ _ h.1, ih _ h.2]
  have hmem : ∀ (c : List Int), (c.map f ∈ st.2.map (·.map f)) ↔ c ∈ st.2 := by
    intro c
    rw [List.mem_map]
    constructor
    · rintro ⟨a, ha, e⟩; rw [← hinj _ _ e]; exact ha
    · intro h; exact ⟨c, h, rfl⟩
  have hl : ((ls.map f).map fun c => (st.1.map f).drop ((st.1.map f).length + 1 - sz) ++ [c]) = ((ls.map fun c => st.1.drop (st.1.length + 1 - sz) ++ [c]).map (·.map f)) := by
    rw [List.map_map, List.map_map, List.length_map]
    refine List.map_congr_left fun c _ => ?_
    simp [List.map_drop]
  have hfil : ((ls.map f).map fun c => (st.1.map f).drop ((st.1.map f).length + 1 - sz) ++ [c]).filter (fun c => decide (c ∉ st.2.map (·.map f))) =
      (((ls.map fun c => st.1.drop (st.1.length + 1 - sz) ++ [c]).filter fun c => decide (c ∉ st.2)).map (·.map f)) := by
    rw [hl, List.filter_map]
    congr 1
    refine List.filter_congr fun c _ => ?_
    show decide (c.map f ∉ _) = _
    rw [decide_eq_decide]
    exact not_congr (hmem c)
  unfold longer
  rw [show (st.1.map f, st.2.map (·.map f)).1 = st.1.map f from rfl, show (st.1.map f, st.2.map (·.map f)).2 = st.2.map (·.map f) from rfl, hfil]
  cases (ls.map fun c => st.1.drop (st.1.length + 1 - sz) ++ [c]).filter fun c => decide (c ∉ st.2) with
  | nil => rfl
  | cons c r => simp [List.map_drop]
theorem iter_map (f : Int → Int) (hf : ∀ a b, f a = f b → a = b) (ls : List Int) (sz : Nat) (st : List Int × List (List Int)) : ∀ n,
    iter (longer (ls.map f) sz) n (st.1.map f, st.2.map (·.map f)) = ((iter (longer ls sz) n st).1.map f, (iter (longer ls sz) n st).2.map (·.map f))
  | 0 => rfl
  | n + 1 => by
    show longer _ _ (iter _ n _) = _
    rw [iter_map f hf ls sz st n, longer_map f hf]
    rfl
noncomputable def renm (ls : List Int) (i : Int) : Int := if i < 0 then i - 1 else if i < ls.length then ls.getD i.toNat 0 else i + 65536
theorem renm_inj (ls : List Int) (hnd : ls.Nodup) (hb : ∀ x ∈ ls, 0 ≤ x ∧ x < 65536) : ∀ a b, renm ls a = renm ls b → a = b := by
  have hg : ∀ i : Nat, i < ls.length → 0 ≤ ls.getD i 0 ∧ ls.getD i 0 < 65536 := fun i hi => by
    have e : ls.getD i 0 = ls[i] := by simp [hi]
    rw [e]
    exact hb _ (List.getElem_mem hi)
  intro a b h
  unfold renm at h
  by_cases a0 : a < 0 <;> by_cases b0 : b < 0
  · rw [if_pos a0, if_pos b0] at h; omega
  · rw [if_pos a0, if_neg b0] at h
    split at h
    · have := hg b.toNat (by omega); omega
    · omega
  · rw [if_neg a0, if_pos b0] at h
    split at h
    · have := hg a.toNat (by omega); omega
    · omega
  · rw [if_neg a0, if_neg b0] at h
    by_cases a1 : a < ls.length <;> by_cases b1 : b < ls.length
    · rw [if_pos a1, if_pos b1] at h
      have e1 : ls.getD a.toNat 0 = ls[a.toNat]'(by omega) := by simp [show a.toNat < ls.length by omega]
      have e2 : ls.getD b.toNat 0 = ls[b.toNat]'(by omega) := by simp [show b.toNat < ls.length by omega]
      rw [e1, e2] at h
      have pw := List.pairwise_iff_getElem.mp hnd
      rcases Nat.lt_trichotomy a.toNat b.toNat with q | q | q
      · exact absurd h (pw _ _ (by omega) (by omega) q)
      · omega
      · exact absurd h.symm (pw _ _ (by omega) (by omega) q)
    · rw [if_pos a1, if_neg b1] at h
      have := hg a.toNat (by omega); omega
    · rw [if_neg a1, if_pos b1] at h
      have := hg b.toNat (by omega); omega
    · rw [if_neg a1, if_neg b1] at h; omega
theorem pureRow {many size : Nat} (hp : pairOk many size = true) (ls : List Int) (hlen : ls.length = many) (hnd : ls.Nodup) (hb : ∀ x ∈ ls, 0 ≤ x ∧ x < 65536) (hm : 1 ≤ many) :
    (iter (longer ls size) (many ^ size + 1) (List.replicate (size - 1) (ls.getD (many - 1) 0), [])).1.drop (size - 1) = (wordsOf many size).flatten.map fun f => ls.getD f.toNat 0 := by
  unfold pairOk at hp
  simp only [Bool.and_eq_true, decide_eq_true_eq] at hp
  obtain ⟨⟨_, hfg⟩, heq⟩ := hp
  have hls : ls = (figs many).map (renm ls) := by
    refine List.ext_getElem (by simp [figs, hlen]) fun i h1 h2 => ?_
    simp [figs, renm, h1]
    omega
  have hst : (List.replicate (size - 1) (ls.getD (many - 1) 0), ([] : List (List Int))) = ((List.replicate (size - 1) ((many : Int) - 1)).map (renm ls), ([] : List (List Int)).map (·.map (renm ls))) := by
    rw [List.map_replicate]
    congr 2
    unfold renm
    rw [if_neg (by omega), if_pos (by omega)]
    congr 1
    omega
  have key := iter_map (renm ls) (renm_inj ls hnd hb) (figs many) size (List.replicate (size - 1) ((many : Int) - 1), []) (many ^ size + 1)
  rw [hst]
  conv => lhs; rw [show longer ls size = longer ((figs many).map (renm ls)) size from by rw [← hls]]
  rw [key, ← List.map_drop, heq]
  refine List.map_congr_left fun f hf => ?_
  refine hideG fun G hG => ?_
  obtain ⟨wd, hwd, hfw⟩ := List.mem_flatten.mp hf
  refine hG ?_
  have h3 := List.all_eq_true.mp hfg wd hwd
  have h4 := List.all_eq_true.mp h3 f hfw
  simp only [Bool.and_eq_true, decide_eq_true_eq] at h4
  unfold renm
  rw [if_neg (by omega), if_pos (by omega)]
end Mine
end
section
open PySem PySem.W PyProof.Rows
set_option maxRecDepth 100000
set_option linter.unusedVariables false
namespace Mine
noncomputable def chr (x : Str) (k : Nat) : Str := ⟨#[x.cps.getD k 0]⟩
noncomputable def three (mode p : Nat) : Nat := mode / 8 ^ (2 - p) % 8
noncomputable def lastOf (mode p : Nat) : Nat := three mode p % 2 + 2 * (mode / 2 ^ (11 - p) % 2)
noncomputable def triOf (p : Nat) : Str := if p = 2 then Str.ofString "-xTt" else Str.ofString "-xSs"
noncomputable def sgNext (mode p : Nat) (x : Str) : Str := ((x ++ (if three mode p > 3 then Str.ofString "r" else Str.ofString "-")) ++ (if three mode p % 4 > 1 then Str.ofString "w" else Str.ofString "-")) ++ chr (triOf p) (lastOf mode p)
noncomputable def sgTo (mode : Nat) : Nat → Str
  | 0 => chr (Str.ofString "?pc?d?b?-?l?s???") (mode / 4096)
  | p + 1 => sgNext mode p (sgTo mode p)
noncomputable def sg (mode : Nat) : Str := sgTo mode 3
section
variable {prog : Program} {w : World} {A : Around} {E : Value → Shared → Prop} {s : Shared} {env : Env}
theorem ifConst {c : Bool} {x y : Str} {k1 k2 : Nat} {p1 p2 : Pos} {Q : Value → Shared → Prop} (h : Q (.str (if c then x else y) s.toks) { s with toks := s.toks + 1 }) :
    if c = true then wpAny (model prog w) A (eval (.Constant (.str x) k1 p1) env) Q E s else wpAny (model prog w) A (eval (.Constant (.str y) k2 p2) env) Q E s := by
  cases c
  · exact wpAny_Constant_str h
  · exact wpAny_Constant_str h
theorem addS {x y : Str} {t u : Tok} {Q : Value → Shared → Prop} (hsz : x.length + y.length ≤ sizeLine) (h : ∀ t' s', Keeps s s' → Q (.str (x ++ y) t') s') : wpAny (model prog w) A (binaryOp .Add (.str x t) (.str y u)) Q E s :=
  add_str (fun t' tk => h t' _ (ks_tok s tk)) hsz
theorem len_if {c : Prop} [Decidable c] {x y : Str} (hx : x.length = 1) (hy : y.length = 1) : (if c then x else y).length = 1 := by split <;> assumption
/-- a sign of a text -/
theorem strItem {value slice : PySem.Expr} {pos : Pos} {Q : Value → Shared → Prop}
    (h : ∀ Q' : Value → Value → Shared → Prop, (∀ o i s₂, (∃ x u, ∃ k : Nat, ∃ t, o = .str x u ∧ i = .int k t ∧ k < x.cps.size ∧ k < 2 ^ 62 ∧ Q (.str (chr x k) s₂.toks) { s₂ with toks := s₂.toks + 1 }) → Q' o i s₂) →
      wpAny (model prog w) A (eval value env) (fun o s₁ => wpAny (model prog w) A (eval slice env) (Q' o) E s₁) E s)
    (hs : ∀ o i, subscripted slice false o i = operate [o, i] (getItem o i) := by intro _ _; with_unfolding_all rfl) :
    wpAny (model prog w) A (eval (.Subscript value slice pos) env) Q E s := by
  refine Subscript_ (wpAny_mono (h _ fun _ _ _ q => q) (fun o s₁ h₁ => wpAny_mono h₁ (fun i s₂ h₂ => ?_) fun _ _ x => x) fun _ _ x => x)
  obtain ⟨x, u, k, t, rfl, rfl, hk, hk2, hq⟩ := h₂
  refine tail_any (T := "str") (typeIs_str _ _ _) slot_str_getitem.lookup (getItem_str ?_ ?_ hq) (hs _ _)
  · simp; omega
  · have e : seqIndex? (k : Int) x.length = some k := by
      unfold seqIndex?
      have : x.length = x.cps.size := rfl
      have h0 : ¬ ((k : Int) < 0) := by omega
      simp only [this, if_neg h0]
      simp [hk]
    rw [e]
    simp [hk]
end
theorem sgBits8 {i : Nat} (hi : i < 3) : (Builtin.Int.intBits (8 : Int) : Int) * ((2 - i : Nat) : Int) ≤ 2 ^ 27 := by rcases i with _ | _ | _ | _ <;> first | decide +kernel | omega
theorem sgBits2 {i : Nat} (hi : i < 3) : (Builtin.Int.intBits (2 : Int) : Int) * ((11 - i : Nat) : Int) ≤ 2 ^ 27 := by rcases i with _ | _ | _ | _ <;> first | decide +kernel | omega
theorem sgP8 {i : Nat} (hi : i < 3) : 1 ≤ 8 ^ (2 - i) ∧ 8 ^ (2 - i) ≤ 64 := by rcases i with _ | _ | _ | _ <;> first | decide | omega
theorem sgP2 {i : Nat} (hi : i < 3) : 1 ≤ 2 ^ (11 - i) ∧ 2 ^ (11 - i) ≤ 2048 := by rcases i with _ | _ | _ | _ <;> first | decide | omega
theorem sgIdx {i : Nat} (hi : i < 3) : seqIndex? (i : Int) 3 = some i := by rcases i with _ | _ | _ | _ <;> first | rfl | omega
theorem sgTri {i t : Nat} (hi : i < 3) : ([Value.str (Str.ofString "-xSs") t, .str (Str.ofString "-xSs") (t + 1), .str (Str.ofString "-xTt") (t + 1 + 1)] : List Value)[i]? = some (.str (triOf i) (t + i)) := by rcases i with _ | _ | _ | _ <;> first | rfl | omega
theorem sgLast {mode i : Nat} (hi : i < 3) (h : lastOf mode i < 4) : lastOf mode i < (triOf i).cps.size := by rcases i with _ | _ | _ | _ <;> first | exact h | omega
section
variable {w : World} {A : Around} {E : Value → Shared → Prop} {s : Shared} {mg mb : Str → Option Value}
set_option maxHeartbeats 400000 in
theorem signsFn {mode : Nat} {tm : Tok} {Q : Value → Shared → Prop} (G : GW w mg mb s.heap) (N : GOk mg mb) (hd : A.depth ≤ 700) (hu : A.units ≤ 3900) (hh : A.handled = none) (hm : mode < 65536)
    (hQ : ∀ t s', Keeps s s' → Q (.str (sg mode) t) s') :
    wpAny (model PR w) A (call (.ref 135) [.int mode tm]) Q E s := by
  refine callY [] (binds := [(Str.ofString "mode", .int mode tm)]) (Nat.lt_of_le_of_lt hd (by decide)) G.signs G.lim (fun _ _ _ _ => by rfl) ?_ fun doc pm ct c s₁ E' Q' hq f => ?_
  · intro y hy
    rcases List.mem_singleton.mp hy with rfl
    exact .inl rfl
  have hQ := fun t s' a => hq (.str (sg mode) t) s' (hQ t s' a)
  have hh' : (A.deeper (envM "_law_signs" "_law_signs" (defNo 33) doc pm ct c s.heap.objs.size 135)).handled = none := hh
  refine ex1_2 (show ∃ m, m (Str.ofString "mode") = some (.int mode tm) ∧ FX [] s s.heap.objs.size m (cellsFrom (s.heap.objs.size + 1) (defNo 33).2.2.names []) (fun _ => none) s₁ from ⟨_, by rfl, f⟩) fun m m1 f => ?_
  generalize (A.deeper (envM "_law_signs" "_law_signs" (defNo 33) doc pm ct c s.heap.objs.size 135)) = A' at hh' ⊢
  -- signs = '..'[mode // 4096]
  refine stepS fun Qz nz rz bz => wpAny_Assign_Name ?_ ?hs
  case hs => rfl
  refine strItem ?_
  intro Qs qs
  refine wpAny_Constant_str ?_
  refine wpAny_BinOp ?_
  have f := f.ks (ks_tok s₁ (s₁.toks + 1))
  refine nmL (m := m) f (by rfl) (by rfl) m1 ?_ (by decide)
  refine wpAny_Constant_int ?_
  refine floordiv_int (by decide) ?_ (.inl (PyProof.noPylong_small (by decide)))
  have hdiv : (mode : Int).fdiv 4096 = ((mode / 4096 : Nat) : Int) := by rw [Int.fdiv_eq_ediv_of_nonneg _ (by omega)]; rfl
  rw [hdiv]
  refine qs _ _ _ ⟨_, _, _, _, rfl, rfl, ?_, by omega, ?_⟩
  · show mode / 4096 < 16
    omega
  have f := f.ks (ks_tok _ (s₁.toks + 1 + 1 + 1 + 1))
  refine stLX (m := m) f (by rfl) (by rfl) fun s₂ f₂ e₂ sb₂ k₂ => ?_
  obtain ⟨m₂, g1, ⟨tg, g2⟩, f₂⟩ : ∃ m', m' (Str.ofString "mode") = some (.int mode tm) ∧ (∃ t, m' (Str.ofString "signs") = some (.str (sgTo mode 0) t)) ∧ FX [] s s.heap.objs.size m' (cellsFrom (s.heap.objs.size + 1) (defNo 33).2.2.names []) (fun _ => none) s₂ := by
    refine ⟨_, ?_, ⟨_, if_pos rfl⟩, f₂⟩
    rw [if_neg (by decide)]; exact m1
  -- for place in range(3)
  refine nz _ (stepS fun Qf nf rf bf => forOver fun Qi qi => ?_)
  refine callN1 ?_
  refine Calls.Name_function_global (by rfl) (by rfl) (Calls.loadGlobal_builtin (kfh_ns f₂.keep G.g) N.n_range (kfh_ns f₂.keep G.b) N.b_range ?_) (by decide)
  refine PySem.callWith_type1 ?_
  refine wpAny_Constant_int ?_
  refine call_range_1 ?_
  refine qi _ _ ⟨3, _, [s.heap.objs.size], fun i s' => ∃ m t, FX [] s s.heap.objs.size m (cellsFrom (s.heap.objs.size + 1) (defNo 33).2.2.names []) (fun _ => none) s' ∧ m (Str.ofString "mode") = some (.int mode tm) ∧ m (Str.ofString "signs") = some (.str (sgTo mode i) t) ∧ (sgTo mode i).length ≤ 3 * i + 1,
    iter_range hh' (Heap.get?_push_size _ rfl) (by decide) (by decide), ?_, ?_, ?_, ?_, ?_⟩
  · intro b hb
    rw [List.mem_singleton.mp hb]
    have hlt : s.heap.objs.size < s₂.heap.objs.size := f₂.ns.lt
    refine ⟨by show _ < (s₂.heap.push _).objs.size; rw [Heap.size_push]; exact Nat.lt_succ_of_lt hlt, ?_⟩
    show Value.ref s₂.heap.objs.size ≠ .ref _
    intro e
    injection e with e
    exact absurd e (Nat.ne_of_gt hlt)
  · rintro i s' h' tk ⟨m, t, q1, q2, q3, q4⟩ hks hbs
    have hlt : s.heap.objs.size < s₂.heap.objs.size := f₂.ns.lt
    exact ⟨m, t, q1.base (N := s₂.heap.objs.size) hlt (fun n c hc => by have h : ([] : List (Str × Addr)).lookup n = some c := hc; cases h) fun b o hb => hbs b o (by show b < (s₂.heap.push _).objs.size; rw [Heap.size_push]; exact Nat.lt_succ_of_lt hb), q2, q3, q4⟩
  · exact ⟨m₂, tg, f₂.ks (ks_push _ _ _), g1, g2, by show 1 ≤ 1; exact Nat.le_refl _⟩
  · rintro i v s₃ I E' Q' hi ⟨tv, rfl⟩ jj lq
    refine ex2_4 jj fun m t q1 q2 q3 q4 => ?_
    refine wpAny_pure ?_
    refine wpAny_assign_Name ?_
    refine stLX (m := m) q1 (by rfl) (by rfl) fun s₄ f₄ e₄ sb₄ k₄ => ?_
    rw [show (0 + (i : Int) * 1) = (i : Int) by omega] at f₄
    refine ex1_4 (show ∃ m', m' (Str.ofString "mode") = some (.int mode tm) ∧ m' (Str.ofString "signs") = some (.str (sgTo mode i) t) ∧ m' (Str.ofString "place") = some (.int (i : Int) tv) ∧ FX [] s s.heap.objs.size m' (cellsFrom (s.heap.objs.size + 1) (defNo 33).2.2.names []) (fun _ => none) s₄ from ⟨_, (if_neg (by decide)).trans q2, (if_neg (by decide)).trans q3, if_pos rfl, f₄⟩) fun m₄ g1 g2 g3 f₄ => ?_
    have kmL : KM [s.heap.objs.size] s₃.heap s₄.heap := km_same sb₄ (.head _)
    -- three = mode // 8 ** (2 - place) % 8
    refine stepS fun Qa na ra ba => wpAny_Assign_Name ?_ ?hs
    case hs => rfl
    refine wpAny_BinOp (wpAny_BinOp ?_)
    refine nmL (m := m₄) f₄ (by rfl) (by rfl) g1 ?_ (by decide)
    refine wpAny_BinOp ?_
    refine wpAny_Constant_int ?_
    refine wpAny_BinOp ?_
    refine wpAny_Constant_int ?_
    have f₄ := f₄.ks (ks_tok s₄ (s₄.toks + 1 + 1))
    refine nmL (m := m₄) f₄ (by rfl) (by rfl) g3 ?_ (by decide)
    refine sub_int ?_
    have h2i : (2 : Int) - (i : Int) = ((2 - i : Nat) : Int) := by omega
    rw [h2i]
    refine pow_int (Int.natCast_nonneg _) (sgBits8 hi) ?_
    rw [Int.toNat_natCast]
    have hc8 : ((8 : Int) ^ (2 - i)) = ((8 ^ (2 - i) : Nat) : Int) := by push_cast; rfl
    rw [hc8]
    have hp8 := sgP8 hi
    refine floordiv_int (by omega) ?_ (.inl (PyProof.noPylong_small (by omega)))
    have hd8 : (mode : Int).fdiv ((8 ^ (2 - i) : Nat) : Int) = ((mode / 8 ^ (2 - i) : Nat) : Int) := by rw [Int.fdiv_eq_ediv_of_nonneg _ (by omega)]; rfl
    rw [hd8]
    refine wpAny_Constant_int ?_
    refine mod_int' (by decide) ?_
    have hm8 : ((mode / 8 ^ (2 - i) : Nat) : Int).fmod 8 = ((three mode i : Nat) : Int) := by rw [Int.fmod_eq_emod_of_nonneg _ (by omega)]; rfl
    rw [hm8]
    have h3 : three mode i < 8 := Nat.mod_lt _ (by decide)
    have f₄ := f₄.ks (ks_tok _ (s₄.toks + 1 + 1 + 1 + 1 + 1 + 1 + 1))
    refine stLX (m := m₄) f₄ (by rfl) (by rfl) fun s₅ f₅ e₅ sb₅ k₅ => ?_
    have kmL : KM [s.heap.objs.size] s₃.heap s₅.heap := kmL.tr (km_same sb₅ (.head _))
    refine ex1_5 (show ∃ m', m' (Str.ofString "mode") = some (.int mode tm) ∧ m' (Str.ofString "signs") = some (.str (sgTo mode i) t) ∧ m' (Str.ofString "place") = some (.int (i : Int) tv) ∧ (∃ t, m' (Str.ofString "three") = some (.int (three mode i : Nat) t)) ∧ FX [] s s.heap.objs.size m' (cellsFrom (s.heap.objs.size + 1) (defNo 33).2.2.names []) (fun _ => none) s₅ from ⟨_, (if_neg (by decide)).trans g1, (if_neg (by decide)).trans g2, (if_neg (by decide)).trans g3, ⟨_, if_pos rfl⟩, f₅⟩) fun m₅ g1 g2 g3 g4 f₅ => ?_
    obtain ⟨t4, g4⟩ := g4
    -- last = three % 2 + 2 * (mode // 2 ** (11 - place) % 2)
    refine na _ (stepS fun Qb nb rb bb => wpAny_Assign_Name ?_ ?hs)
    case hs => rfl
    refine wpAny_BinOp (wpAny_BinOp ?_)
    refine nmL (m := m₅) f₅ (by rfl) (by rfl) g4 ?_ (by decide)
    refine wpAny_Constant_int ?_
    refine mod_int' (by decide) ?_
    refine wpAny_BinOp ?_
    refine wpAny_Constant_int ?_
    refine wpAny_BinOp (wpAny_BinOp ?_)
    have f₅ := f₅.ks (ks_tok s₅ (s₅.toks + 1 + 1 + 1))
    refine nmL (m := m₅) f₅ (by rfl) (by rfl) g1 ?_ (by decide)
    refine wpAny_BinOp ?_
    refine wpAny_Constant_int ?_
    refine wpAny_BinOp ?_
    refine wpAny_Constant_int ?_
    have f₅ := f₅.ks (ks_tok _ (s₅.toks + 1 + 1 + 1 + 1 + 1))
    refine nmL (m := m₅) f₅ (by rfl) (by rfl) g3 ?_ (by decide)
    refine sub_int ?_
    have h11 : (11 : Int) - (i : Int) = ((11 - i : Nat) : Int) := by omega
    rw [h11]
    refine pow_int (Int.natCast_nonneg _) (sgBits2 hi) ?_
    rw [Int.toNat_natCast]
    have hc2 : ((2 : Int) ^ (11 - i)) = ((2 ^ (11 - i) : Nat) : Int) := by push_cast; rfl
    rw [hc2]
    have hp2 := sgP2 hi
    refine floordiv_int (by omega) ?_ (.inl (PyProof.noPylong_small (by omega)))
    have hd2 : (mode : Int).fdiv ((2 ^ (11 - i) : Nat) : Int) = ((mode / 2 ^ (11 - i) : Nat) : Int) := by rw [Int.fdiv_eq_ediv_of_nonneg _ (by omega)]; rfl
    rw [hd2]
    refine wpAny_Constant_int ?_
    refine mod_int' (by decide) ?_
    refine mul_int ?_
    refine add_int ?_
    have hlast : ((three mode i : Nat) : Int).fmod 2 + 2 * ((mode / 2 ^ (11 - i) : Nat) : Int).fmod 2 = ((lastOf mode i : Nat) : Int) := by
      rw [Int.fmod_eq_emod_of_nonneg _ (by omega), Int.fmod_eq_emod_of_nonneg _ (by omega)]; rfl
    have hl4 : lastOf mode i < 4 := by unfold lastOf; omega
    have f₅ := f₅.ks (ks_tok _ (s₅.toks + 1 + 1 + 1 + 1 + 1 + 1 + 1 + 1 + 1 + 1 + 1 + 1))
    refine stLX (m := m₅) f₅ (by rfl) (by rfl) fun s₆ f₆ e₆ sb₆ k₆ => ?_
    have kmL : KM [s.heap.objs.size] s₃.heap s₆.heap := kmL.tr (km_same sb₆ (.head _))
    refine ex1_6 (show ∃ m', m' (Str.ofString "mode") = some (.int mode tm) ∧ m' (Str.ofString "signs") = some (.str (sgTo mode i) t) ∧ m' (Str.ofString "place") = some (.int (i : Int) tv) ∧ m' (Str.ofString "three") = some (.int (three mode i : Nat) t4) ∧ (∃ t, m' (Str.ofString "last") = some (.int (lastOf mode i : Nat) t)) ∧ FX [] s s.heap.objs.size m' (cellsFrom (s.heap.objs.size + 1) (defNo 33).2.2.names []) (fun _ => none) s₆ from ⟨_, (if_neg (by decide)).trans g1, (if_neg (by decide)).trans g2, (if_neg (by decide)).trans g3, (if_neg (by decide)).trans g4, ⟨_, (if_pos rfl).trans (congrArg (fun z => some (Value.int z _)) hlast)⟩, f₆⟩) fun m₆ g1 g2 g3 g4 g5 f₆ => ?_
    obtain ⟨t5, g5⟩ := g5
    -- signs = signs + .. + .. + ..
    refine nb _ (stepS fun Qc nc rc bc => wpAny_Assign_Name ?_ ?hs)
    case hs => rfl
    refine wpAny_BinOp (wpAny_BinOp (wpAny_BinOp ?_))
    refine nmL (m := m₆) f₆ (by rfl) (by rfl) g2 ?_ (by decide)
    refine IfExp_ (wpAny_isTrue_Compare1 ?_ (by rfl))
    refine nmL (m := m₆) f₆ (by rfl) (by rfl) g4 ?_ (by decide)
    refine wpAny_Constant_int ?_
    refine gt_int (wpAny_truthy_bool (ifConst ?_))
    refine addS (by rw [len_if rfl rfl, sizeLine_eq]; omega) fun u1 a₁ ka => ?_
    have kA := ks_tr (ks_tok s₆ _) ka
    clear ka
    have f₇ := f₆.ks kA
    refine IfExp_ (wpAny_isTrue_Compare1 (wpAny_BinOp ?_) (by rfl))
    refine nmL (m := m₆) f₇ (by rfl) (by rfl) g4 ?_ (by decide)
    refine wpAny_Constant_int ?_
    refine mod_int' (by decide) ?_
    refine wpAny_Constant_int ?_
    refine gt_int (wpAny_truthy_bool (ifConst ?_))
    refine addS (by rw [PySem.strLen_append, len_if rfl rfl, len_if rfl rfl, sizeLine_eq]; omega) fun u2 a₂ kb => ?_
    have kB := ks_tr kA (ks_tr (ks_tok a₁ _) kb)
    clear kb
    have f₈ := f₆.ks kB
    refine strItem ?_
    intro Qs qs
    refine Subscript_ ?_
    refine wpAny_Tuple_spliced ?_
    show wpAny _ _ (spliced [(false, eval _ _), (false, eval _ _), (false, eval _ _)]) _ _ _
    refine Calls.spliced_cons ?_
    refine wpAny_Constant_str ?_
    refine Calls.spliced_cons ?_
    refine wpAny_Constant_str ?_
    refine Calls.spliced_cons ?_
    refine wpAny_Constant_str ?_
    refine Calls.spliced_nil ⟨by show 3 ≤ sizeLine; decide, ?_⟩
    have kC : Keeps a₂ { a₂ with heap := a₂.heap.push (tupObj [.str (Str.ofString "-xSs") a₂.toks, .str (Str.ofString "-xSs") (a₂.toks + 1), .str (Str.ofString "-xTt") (a₂.toks + 1 + 1)]), toks := a₂.toks + 1 + 1 + 1 } := ks_push _ _ _
    have f₉ := f₈.ks kC
    refine nmL (m := m₆) f₉ (by rfl) (by rfl) g3 ?_ (by decide)
    refine item_tupleT (l := [.str (Str.ofString "-xSs") a₂.toks, .str (Str.ofString "-xSs") (a₂.toks + 1), .str (Str.ofString "-xTt") (a₂.toks + 1 + 1)]) (j := i) (x := .str (triOf i) (a₂.toks + i)) ⟨_, Heap.get?_push_size _ rfl, rfl, _, rfl⟩ (by omega) (by omega) (sgIdx hi) (sgTri hi) ?_
    refine nmL (m := m₆) f₉ (by rfl) (by rfl) g5 ?_ (by decide)
    refine qs _ _ _ ⟨_, _, _, _, rfl, rfl, ?_, by omega, ?_⟩
    · exact sgLast hi hl4
    refine addS (by rw [PySem.strLen_append, PySem.strLen_append, len_if rfl rfl, len_if rfl rfl, sizeLine_eq, show (chr (triOf i) (lastOf mode i)).length = 1 from rfl]; omega) fun u3 a₃ kd => ?_
    have kD := ks_tr kB (ks_tr kC (ks_tr (ks_tok _ _) kd))
    clear kd
    have f₆ := f₆.ks kD
    refine stLX (m := m₆) f₆ (by rfl) (by rfl) fun s₇ f₇ e₇ sb₇ k₇ => ?_
    have kmL : KM [s.heap.objs.size] s₃.heap s₇.heap := (kmL.tr (km_of (ks_keep kD))).tr (km_same sb₇ (.head _))
    refine nc _ (wpAny_execs_nil ?_)
    refine lq.nx _ ⟨kmL, _, u3, f₇, ?_, ?_, ?_⟩
    · exact (if_neg (by decide)).trans g1
    · refine (if_pos rfl).trans ?_
      have c1 : (decide ((3 : Int) < ((three mode i : Nat) : Int)) = true) ↔ three mode i > 3 := by rw [decide_eq_true_iff]; omega
      have c2 : (decide ((1 : Int) < ((three mode i : Nat) : Int).fmod 4) = true) ↔ three mode i % 4 > 1 := by
        rw [decide_eq_true_iff, Int.fmod_eq_emod_of_nonneg _ (by omega)]; omega
      simp only [c1, c2]
      rfl
    · show (sgNext mode i (sgTo mode i)).length ≤ 3 * (i + 1) + 1
      unfold sgNext
      rw [PySem.strLen_append, PySem.strLen_append, PySem.strLen_append, len_if rfl rfl, len_if rfl rfl, show (chr (triOf i) (lastOf mode i)).length = 1 from rfl]
      omega
  · rintro s₃ E' ⟨m, t, q1, q2, q3, q4⟩
    refine wpAny_execs_nil (nf _ ?_)
    refine wpAny_execs_cons (wpAny_Return_some ?_)
    refine nmL (m := m) q1 (by rfl) (by rfl) q3 ?_ (by decide)
    exact hQ t s₃ (kfs_nil q1.kfs)
end
end Mine
end
section
open PySem PySem.W PyProof.Rows
open PySem.AutoSeq1 (wpAny_loadPart')
set_option maxRecDepth 100000
set_option linter.unusedVariables false
namespace Mine
section
variable {prog : Program} {w : World} {A : Around} {E : Value → Shared → Prop} {s : Shared}
theorem nextOf_tuple_item {it t : Addr} {i : Nat} {items : Array Value} {x : Value} {Q : Value → Shared → Prop} (hit : s.heap.IsTupleIter it t i) (ht : s.heap.IsTuple t items) (hx : items[i]? = some x)
    (hQ : ∀ h', h'.IsTupleIter it t (i + 1) → Heap.SameBut it s.heap h' → Q x { s with heap := h' }) :
    wpAny (model prog w) A (Builtin.SmallTypes.nextOf (.ref it)) Q E s := by
  refine hideG fun G hG => ?_
  obtain ⟨o, ho, hc, hd⟩ := id hit
  obtain ⟨ol, hol, _, nl, hdl⟩ := ht
  refine hG ?_
  unfold Builtin.SmallTypes.nextOf
  refine wpAny_bind (wpAny_callSpecial?_slot (name := Str.ofString "__next__") hit.typeIs PySem.F.slot_tuple_iterator_next
    (wpAny_call_entry PySem.F.slot_tuple_iterator_next hit.typeIs PySem.F.entry_tuple_iterator_next ?_ (PySem.F.args_tuple_iterator_next_1 _)))
  show wpAny _ _ (field (.ref it) 0 >>= _) _ _ s
  refine wpAny_bind (wpAny_field ho hd (x := .ref t) rfl ?_)
  show wpAny _ _ (if (Value.ref t == Value.none) = true then _ else _) _ _ s
  rw [if_neg (show ¬ ((Value.ref t == Value.none) = true) from Bool.false_ne_true)]
  show wpAny _ _ (field (.ref it) 1 >>= _) _ _ s
  refine wpAny_bind (wpAny_field ho hd (x := .int i 0) rfl ?_)
  show wpAny _ _ (seqItems? (.ref t) >>= _) _ _ s
  refine wpAny_bind (wpAny_seqItems hol hdl ?_)
  simp only [Int.toNat_natCast, hx]
  refine wpAny_bind (wpAny_setField ho hd (by simp) (wpAny_pure ⟨x, rfl, wpAny_pure (hQ _ ?_ (Heap.SameBut.update ..))⟩))
  exact ⟨_, Heap.get?_update_self _ ho (Obj.isFreed_of_fields (Obj.data_mapFields hd _)), (Obj.cls_mapFields ..).trans hc, by
    rw [Obj.data_mapFields hd]; simp [rawInt]⟩
theorem nextOf_tuple_end {it t : Addr} {i : Nat} {items : Array Value} {Q : Value → Shared → Prop} (hh : A.handled = none) (hit : s.heap.IsTupleIter it t i) (ht : s.heap.IsTuple t items) (hx : items[i]? = none)
    (hE : ∀ h' e, Heap.ExtBut it s.heap h' → (∃ o, h'.get? e = some o ∧ o.cls = .type "StopIteration") → E (.ref e) { s with heap := h' }) :
    wpAny (model prog w) A (Builtin.SmallTypes.nextOf (.ref it)) Q E s := by
  refine hideG fun G hG => ?_
  obtain ⟨o, ho, hc, hd⟩ := id hit
  obtain ⟨ol, hol, _, nl, hdl⟩ := ht
  refine hG ?_
  unfold Builtin.SmallTypes.nextOf
  refine wpAny_bind (wpAny_callSpecial?_slot (name := Str.ofString "__next__") hit.typeIs PySem.F.slot_tuple_iterator_next
    (wpAny_call_entry PySem.F.slot_tuple_iterator_next hit.typeIs PySem.F.entry_tuple_iterator_next ?_ (PySem.F.args_tuple_iterator_next_1 _)))
  show wpAny _ _ (field (.ref it) 0 >>= _) _ _ s
  refine wpAny_bind (wpAny_field ho hd (x := .ref t) rfl ?_)
  show wpAny _ _ (if (Value.ref t == Value.none) = true then _ else _) _ _ s
  rw [if_neg (show ¬ ((Value.ref t == Value.none) = true) from Bool.false_ne_true)]
  show wpAny _ _ (field (.ref it) 1 >>= _) _ _ s
  refine wpAny_bind (wpAny_field ho hd (x := .int i 0) rfl ?_)
  show wpAny _ _ (seqItems? (.ref t) >>= _) _ _ s
  refine wpAny_bind (wpAny_seqItems hol hdl ?_)
  simp only [Int.toNat_natCast, hx]
  refine wpAny_bind (wpAny_rule (wpAny_bind (wpAny_setField ho hd (by simp) ?_)))
  show wpAny _ _ (newExc (.type "StopIteration") [] >>= _) _ _ _
  refine wpAny_bind ?_
  simp only [newExc, newTuple]
  refine wpAny_bind (wpAny_newObj_type ?_ (by size_fits))
  refine wpAny_bind (m := firstArgMember _ _) (wpAny_of_eq (a := Value.none) (by first | rfl | (simp only [firstArgMember]; rfl)) ?_)
  refine wpAny_newObj_type ?_ (by size_fits)
  simp only [raiseNew]
  refine wpAny_bind (wpAny_handled ?_)
  first | rw [show A.in1.handled = none from hh] | rw [hh]
  refine wpAny_bind (wpAny_pure (wpAny_throw ?_))
  exact hE _ _ (((Heap.SameBut.update ..).extBut.push _).push _) ⟨_, Heap.get?_push_size _ rfl, rfl⟩
theorem drawsTuple (hh : A.handled = none) (it l : Addr) (hne : l ≠ it) (items : Array Value) :
    Draws prog w A it [it, l] items.size (fun i v => items[i]? = some v) (fun i h => h.IsTupleIter it l i ∧ h.IsTuple l items) where
  live := fun _ _ st => let ⟨o, ho, _⟩ := st.1; ⟨o, ho⟩
  frame := fun _ _ _ st hk => ⟨let ⟨o, ho, r⟩ := st.1; ⟨o, hk it (by simp) o ho, r⟩, let ⟨o, ho, r⟩ := st.2; ⟨o, hk l (by simp) o ho, r⟩⟩
  item := fun i s Q E hi st hQ => by
    refine nextOf_tuple_item st.1 st.2 (x := items[i]) (by simp [hi]) fun h' hit' hs' => ?_
    exact hQ _ h' s.toks (by simp [hi]) ⟨hit', st.2.extBut hs'.extBut hne⟩ hs'
  done := fun s Q E st hE => nextOf_tuple_end hh st.1 st.2 (by simp) hE
end
theorem meets_enumerate_newT (l : Addr) (items : Array Value) (n : Nat) (dct : Option Addr) (sl : Array (Option Value)) :
    Meets (Builtin.«enumerate.__new__» ⟨[.type "enumerate", .ref l], []⟩) (fun _ R s => s.heap.get? l = some { cls := .type "tuple", dict := dct, data := .seq items n, slots := sl } ∧
      R (.ok (.ret (.ref (s.heap.push { cls := .type "tuple_iterator", data := .fields #[.ref l, .int 0 0] }).objs.size)))
        { s with heap := (s.heap.push { cls := .type "tuple_iterator", data := .fields #[.ref l, .int 0 0] }).push { cls := .type "enumerate", data := .fields #[.none, .bool false, .ref s.heap.objs.size, rawInt 0, .none, .none] } }) :=
  .of_wp fun prog w A R s h => by
    refine hideG fun G hG => ?_
    obtain ⟨hp, g, d, tk, os⟩ := s; obtain ⟨hl, h⟩ := h
    refine hG ?_
    have hsub := sub_enumerate
    have hL : Heap.IsTuple (Shared.heap ⟨hp, g, d, tk, os⟩) l items := ⟨_, hl, rfl, n, rfl⟩
    wp_walk using wpAny_loadPart' hl
    refine wpAny_stack_any fun st => wpAny_pure ?_
    split
    · rename_i c _ _ _ _ _
      cases (c == Value.type "enumerate")
      · wp_walk using wpAny_loadPart' hl, wpAny_pyIter_tuple hL
        exact ⟨_, rfl, h⟩
      · wp_walk using wpAny_loadPart' hl, wpAny_pyIter_tuple hL
        exact ⟨_, rfl, h⟩
    · wp_walk using wpAny_loadPart' hl, wpAny_pyIter_tuple hL
      exact ⟨_, rfl, h⟩
section
variable {prog : Program} {w : World} {A : Around} {E : Value → Shared → Prop} {s : Shared}
theorem call_enumerate_tuple {l : Addr} {items : Array Value} {Q : Value → Shared → Prop} (hL : s.heap.IsTuple l items)
    (h : ∀ h', IsEnum h' (s.heap.objs.size + 1) s.heap.objs.size 0 .none → h'.IsTupleIter s.heap.objs.size l 0 → h'.objs.size = s.heap.objs.size + 2 →
      (∀ b o, s.heap.get? b = some o → h'.get? b = some o) → Q (.ref (s.heap.objs.size + 1)) { s with heap := h' }) :
    wpAny (model prog w) A (call (.type "enumerate") [.ref l]) Q E s := by
  refine hideG fun G hG => ?_
  obtain ⟨⟨c, dct, dt, sl⟩, hl, hc, n, hd⟩ := hL
  refine hG ?_
  replace hc : c = .type "tuple" := hc
  replace hd : dt = .seq items n := hd
  subst hc hd
  refine callType_new PySem.F.called_enumerate (by decide) (PySem.F.typeCall_enumerate_1 _) (PySem.F.newCall_enumerate_1 _) (fun obj => PySem.F.args_object_init_2 obj _) PySem.F.entry_enumerate_new
    (meets_enumerate_newT l items n dct sl) ⟨hl, ?_⟩
  have hz : (s.heap.push { cls := .type "tuple_iterator", data := .fields #[.ref l, .int 0 0] }).objs.size = s.heap.objs.size + 1 := Heap.size_push ..
  show _ ∧ _
  rw [hz]
  have he : IsEnum ((s.heap.push { cls := .type "tuple_iterator", data := .fields #[.ref l, .int 0 0] }).push
      { cls := .type "enumerate", data := .fields #[.none, .bool false, .ref s.heap.objs.size, rawInt 0, .none, .none] }) (s.heap.objs.size + 1) s.heap.objs.size 0 .none := by
    have := Heap.get?_push_size (s.heap.push { cls := .type "tuple_iterator", data := .fields #[.ref l, .int 0 0] })
      (o := { cls := .type "enumerate", data := .fields #[.none, .bool false, .ref s.heap.objs.size, rawInt 0, .none, .none] }) rfl
    rw [hz] at this; exact this
  refine ⟨⟨_, he, rfl⟩, h _ he ⟨_, Heap.get?_push_of_some _ (Heap.get?_push_size _ rfl), rfl, rfl⟩ (by rw [Heap.size_push, hz]) fun b o x => Heap.get?_push_of_some _ (Heap.get?_push_of_some _ x)⟩
/-- a for loop whose items are fresh tuples -/
theorem forWalkT {elts : List PySem.Expr} {kk : Nat} {tpos : Pos} {body orelse : List Stmt} {env : Env} {R : Result → Shared → Prop} {I : Addr} {fp wr : List Addr} {n : Nat} {Pt : Nat → Array Value → Prop} {St : Nat → Heap → Prop} {Mid : Nat → Addr → Heap → Prop} (W : WalksT prog w A I fp wr n Pt St Mid)
    (M : List Addr) (hM : ∀ b ∈ fp, b ∉ M) (J : Nat → Shared → Prop)
    (hJ : ∀ i s h' tk, J i s → (∀ b o, b ∉ wr → s.heap.get? b = some o → h'.get? b = some o) → J i { s with heap := h', toks := tk })
    (turn : ∀ i T vals s E' Q', i < n → Pt i vals → s.heap.IsTuple T vals → J i s → LoopQ R (fun s₃ => KM M s.heap s₃.heap ∧ J (i + 1) s₃) Q' → wpAny (model prog w) A (assign (.Tuple elts kk tpos) env (.ref T)) (fun _ s₂ => wpAny (model prog w) A (execs body env)
      Q' E' s₂) E' s)
    (done : ∀ s E', J n s → wpAny (model prog w) A (execs orelse env) (fun f s₃ => R (.ok f) s₃) E' s) (hst : St 0 s.heap) (h0 : J 0 s) :
    codeAny (model prog w) A (.forLoop (.Tuple elts kk tpos) (.ref I) body orelse env) R s := by
  refine codeAny_forLoop_any (fun k s => ∃ i, k = n - i ∧ i ≤ n ∧ St i s.heap ∧ J i s) ?_ n ⟨0, rfl, Nat.zero_le _, hst, h0⟩
  rintro k s jw1
  refine hideG fun G hG => ?_
  obtain ⟨i, rfl, hi, st, j⟩ := jw1
  refine hG ?_
  by_cases hlt : i < n
  · refine W.item i s _ _ hlt st fun T vals h₁ tk hv _ hT hMid hk => ?_
    refine W.go elts kk tpos i T _ _ _ hMid fun h₂ hst₂ hk₂ => ?_
    have ht₂ : h₂.IsTuple T vals := by obtain ⟨o, e, r⟩ := hT; exact ⟨o, hk₂ T o (W.apart i T h₁ hMid) e, r⟩
    refine wpAny_mono (turn i T vals _ _ _ hlt hv ht₂ (hJ i s h₂ tk j fun b o hb e => hk₂ b o hb (hk b o hb e)) (loopQ _ _)) (fun _ s₂ q => ?_) fun _ _ e => e
    refine wpAny_mono q (fun f s₃ q => ?_) fun _ _ e => e
    cases f with
    | next => exact ⟨n - (i + 1), by omega, i + 1, rfl, hlt, W.frame _ _ _ hst₂ fun b hb o e => q.1 b o (hM b hb) e, q.2⟩
    | cont => exact ⟨n - (i + 1), by omega, i + 1, rfl, hlt, W.frame _ _ _ hst₂ fun b hb o e => q.1 b o (hM b hb) e, q.2⟩
    | brk => exact q
    | ret v => exact q
  · have e : i = n := by omega
    subst e
    refine W.done s _ _ st fun h' tk hk => ?_
    exact done _ _ (hJ _ _ _ _ j hk)
end
end Mine
end
section
open PySem PySem.W PyProof.Rows
set_option maxRecDepth 100000
set_option linter.unusedVariables false
namespace Mine
noncomputable def fmTabs : List (List (Nat × Str)) :=
  [[(40960, Str.ofString "l"), (49152, Str.ofString "s"), (32768, Str.ofString "-"), (24576, Str.ofString "b"), (16384, Str.ofString "d"), (8192, Str.ofString "c"), (4096, Str.ofString "p")],
   [(256, Str.ofString "r")], [(128, Str.ofString "w")], [(2112, Str.ofString "s"), (2048, Str.ofString "S"), (64, Str.ofString "x")],
   [(32, Str.ofString "r")], [(16, Str.ofString "w")], [(1032, Str.ofString "s"), (1024, Str.ofString "S"), (8, Str.ofString "x")],
   [(4, Str.ofString "r")], [(2, Str.ofString "w")], [(513, Str.ofString "t"), (512, Str.ofString "T"), (1, Str.ofString "x")]]
noncomputable def hitAt (mode i : Nat) (e : Nat × Str) : Bool := if i = 0 then decide (mode &&& 61440 = e.1) else decide (mode &&& e.1 = e.1)
noncomputable def signAt (mode i : Nat) : Str := match (fmTabs.getD i []).find? (hitAt mode i) with
  | some e => e.2
  | none => if i = 0 then Str.ofString "?" else Str.ofString "-"
noncomputable def fm (mode : Nat) : Str := PySem.Txt.join (Str.ofString "") ((List.range 10).map (signAt mode))
noncomputable def PairAt (h : Heap) (u : Value) (p : Nat × Str) : Prop := ∃ c t t', u = .ref c ∧ h.IsTuple c #[.int p.1 t, .str p.2 t']
noncomputable def RowAt (h : Heap) (v : Value) (row : List (Nat × Str)) : Prop := ∃ b ws, v = .ref b ∧ h.IsTuple b (List.toArray ws) ∧ All2 (PairAt h) ws row
noncomputable def TabAt (h : Heap) (a : Addr) (tabs : List (List (Nat × Str))) : Prop := ∃ vs, h.IsTuple a (List.toArray vs) ∧ All2 (RowAt h) vs tabs
noncomputable def TabOk (mg : Str → Option Value) (h : Heap) : Prop := ∃ a, mg (Str.ofString "_filemode_table") = some (.ref a) ∧ TabAt h a fmTabs
theorem isTuple_ks {h h' : Heap} (k : KS h h') {a : Addr} {vs : Array Value} (x : h.IsTuple a vs) : h'.IsTuple a vs := by
  refine hideG fun G hG => ?_
  obtain ⟨o, ho, hc, n, hd⟩ := x
  refine hG ?_
  exact ⟨o, k a o _ _ hd ho, hc, n, hd⟩
theorem RowAt.ks {h h' : Heap} (k : KS h h') {v : Value} {row : List (Nat × Str)} (x : RowAt h v row) : RowAt h' v row := by
  refine hideG fun G hG => ?_
  obtain ⟨b, ws, e, hb, hw⟩ := x
  refine hG ?_
  exact ⟨b, ws, e, isTuple_ks k hb, fa2_mono (fun _ _ ⟨c, t, t', e, q⟩ => ⟨c, t, t', e, isTuple_ks k q⟩) hw⟩
theorem TabAt.ks {h h' : Heap} (k : KS h h') {a : Addr} {tabs : List (List (Nat × Str))} (x : TabAt h a tabs) : TabAt h' a tabs := by
  refine hideG fun G hG => ?_
  obtain ⟨vs, ha, hv⟩ := x
  refine hG ?_
  exact ⟨vs, isTuple_ks k ha, fa2_mono (fun _ _ q => q.ks k) hv⟩
section
variable {prog : Program} {w : World} {A : Around} {E : Value → Shared → Prop} {s : Shared}
/-- a for loop over a tuple of tuples -/
theorem forTup {elts : List PySem.Expr} {kk : Nat} {tpos : Pos} {body orelse : List Stmt} {env : Env} {R : Result → Shared → Prop} {I l : Addr} {vs : List Value} (hh : A.handled = none) (hne : l ≠ I)
    (M : List Addr) (hI : I ∉ M) (hl : l ∉ M) (J : Nat → Shared → Prop)
    (hJ : ∀ i s h' tk, J i s → s.heap.IsTupleIter I l i → (∀ b o, b ≠ I → s.heap.get? b = some o → h'.get? b = some o) → J i { s with heap := h', toks := tk })
    (turn : ∀ i v s E' Q', vs[i]? = some v → J i s → LoopQ R (fun s₃ => KM M s.heap s₃.heap ∧ J (i + 1) s₃) Q' → wpAny (model prog w) A (assign (.Tuple elts kk tpos) env v) (fun _ s₂ => wpAny (model prog w) A (execs body env)
      Q' E' s₂) E' s)
    (done : ∀ s E', J vs.length s → wpAny (model prog w) A (execs orelse env) (fun f s₃ => R (.ok f) s₃) E' s) (hit : s.heap.IsTupleIter I l 0) (ht : s.heap.IsTuple l vs.toArray) (h0 : J 0 s) :
    codeAny (model prog w) A (.forLoop (.Tuple elts kk tpos) (.ref I) body orelse env) R s := by
  refine codeAny_forLoop_any (fun k s => ∃ i, k = vs.length - i ∧ i ≤ vs.length ∧ s.heap.IsTupleIter I l i ∧ s.heap.IsTuple l vs.toArray ∧ J i s) ?_ vs.length ⟨0, rfl, Nat.zero_le _, hit, ht, h0⟩
  rintro k s jw1
  refine hideG fun G hG => ?_
  obtain ⟨i, rfl, hi, hit, ht, j⟩ := jw1
  refine hG ?_
  by_cases hlt : i < vs.length
  · refine wpAny_pyNext_tuple_item hit ht (x := vs[i]) (by simp [hlt]) fun h₁ hit₁ hs₁ => ?_
    have j₁ := hJ i s h₁ s.toks j hit fun b o hb e => hs₁.extBut b o hb e
    have ht₁ : h₁.IsTuple l vs.toArray := ht.extBut hs₁.extBut hne
    have go : ∀ {Q : Unit → Shared → Prop} {E'}, Q () { s with heap := h₁ } → wpAny (model prog w) A (letOwnedTupleGo (.Tuple elts kk tpos) (.ref I) vs[i]) Q E' { s with heap := h₁ } := by
      intro Q E' q
      cases hv : vs[i] with
      | ref a =>
        refine hideG fun G hG => ?_
        obtain ⟨o, ho, hc, hd⟩ := id hit₁
        refine hG ?_
        show wpAny _ A (do let o ← load I; _) _ _ _
        refine wpAny_bind (wpAny_load ho ?_)
        rw [hc, hd]
        exact wpAny_pure q
      | _ => exact wpAny_pure q
    refine go ?_
    refine wpAny_mono (turn i vs[i] _ _ _ (List.getElem?_eq_getElem hlt) j₁ (loopQ _ _)) (fun _ s₂ q => ?_) fun _ _ e => e
    refine wpAny_mono q (fun f s₃ q => ?_) fun _ _ e => e
    have fin : KM M h₁ s₃.heap ∧ J (i + 1) s₃ → ∃ m, m < vs.length - i ∧ ∃ i', m = vs.length - i' ∧ i' ≤ vs.length ∧ s₃.heap.IsTupleIter I l i' ∧ s₃.heap.IsTuple l vs.toArray ∧ J i' s₃ := fun q =>
      ⟨vs.length - (i + 1), by omega, i + 1, rfl, hlt, let ⟨o, e, r⟩ := hit₁; ⟨o, q.1 _ _ hI e, r⟩, let ⟨o, e, r⟩ := ht₁; ⟨o, q.1 _ _ hl e, r⟩, q.2⟩
    cases f with
    | next => exact fin q
    | cont => exact fin q
    | brk => exact q
    | ret v => exact q
  · have e : i = vs.length := by omega
    subst e
    refine wpAny_pyNext_tuple_end hh hit ht (by simp) fun h₁ hx₁ => ?_
    exact done _ _ (hJ _ _ _ s.toks j hit fun b o hb e => hx₁ b o hb e)
end
end Mine
end
section
open PySem PySem.W PyProof.Rows
set_option maxRecDepth 100000
set_option linter.unusedVariables false
namespace Mine
theorem FnM.at {h : Heap} {a : Addr} {n : String} {i : Nat} (f : FnM h a n n (defNo i)) : FnAt h a n i := f
theorem GW.wd {w : World} {mg mb : Str → Option Value} {h : Heap} (G : GW w mg mb h) : Wd mg mb h := ⟨G.g, G.b, G.lim⟩
theorem bitAnd_nat (a b : Nat) : Builtin.bitAnd (a : Int) (b : Int) = ((a &&& b : Nat) : Int) := by
  simp [Builtin.bitAnd]
theorem int_beq (a b : Nat) : (((a : Int)) == (b : Int)) = decide (a = b) := by rw [Bool.eq_iff_iff]; simp; omega
theorem ca_append : ∀ {vs ws : List Value} {ds es : List PyData}, CarriedAll vs ds → CarriedAll ws es → CarriedAll (vs ++ ws) (ds ++ es)
  | _, _, _, _, .nil, y => y
  | _, _, _, _, .cons h t, y => .cons h (ca_append t y)
theorem find_hit {α : Type} {p : α → Bool} : ∀ {l : List α} {j : Nat} {e : α}, l[j]? = some e → p e = true → (∀ k e', k < j → l[k]? = some e' → p e' = false) → l.find? p = some e
  | x :: r, 0, e, h, hp, _ => by simp at h; subst h; simp [hp]
  | x :: r, j + 1, e, h, hp, hn => by
    have h0 : p x = false := hn 0 x (by omega) rfl
    rw [List.find?_cons, h0]
    exact find_hit (j := j) (by simpa using h) hp fun k e' hk he => hn (k + 1) e' (by omega) (by simpa using he)
theorem find_none {α : Type} {p : α → Bool} {l : List α} (hn : ∀ (k : Nat) (e' : α), l[k]? = some e' → p e' = false) : l.find? p = none := by
  rw [List.find?_eq_none]
  intro x hx
  obtain ⟨k, hk, e⟩ := List.mem_iff_getElem.mp hx
  rw [hn k x (by rw [List.getElem?_eq_getElem hk, e])]
  decide
theorem signAt_len (mode i : Nat) : (signAt mode i).length = 1 := by
  unfold signAt
  have hall : fmTabs.all (fun row => row.all fun e => e.2.length == 1) = true := by decide +kernel
  cases h : (fmTabs.getD i []).find? (hitAt mode i) with
  | none => dsimp only; split <;> rfl
  | some e =>
    have h1 := List.mem_of_find?_eq_some h
    have h2 : fmTabs.getD i [] ∈ fmTabs := by
      rw [List.getD_eq_getElem?_getD]
      cases q : fmTabs[i]? with
      | none => rw [List.getD_eq_getElem?_getD, q] at h1; cases h1
      | some r => exact List.mem_of_getElem? q
    have h3 := List.all_eq_true.mp (List.all_eq_true.mp hall _ h2) _ h1
    simpa using h3
section
variable {w : World} {A : Around} {E : Value → Shared → Prop} {s : Shared} {mg mb : Str → Option Value}
noncomputable abbrev envFm (doc pm ct : Value) (c L : Addr) : Env := envM "filemode" "filemode" (defNo 31) doc pm ct c L 128
/-- perm.append(..) with a constant or a name, in filemode's frame -/
theorem permAppend {env : Env} {o elt : PySem.Expr} {apos pos epos : Pos} {D : Addr} {acc : List Value} {x : Value} {Q : Flow → Shared → Prop}
    (hbase : attributeBase o "append" env (eval o env) = eval o env)
    (hfew : ((backTo pos (starEach [elt] env)).all (fun x => !x.1) && (backToKw pos (keywordEach [] env)).all (fun x => x.1.isSome)
      && decide (([elt] : List PySem.Expr).length + ([] : List Keyword).length + (if ([] : List Keyword).isEmpty then 0 else 1) < 30)) = true)
    (hline : (apos.endLine == pos.line) = true) (htrees : backTo pos (starEach [elt] env) = [(false, eval elt env)]) (hi : interactive env = false) (hs : swapsWith (.Call (.Attribute o "append" apos) [elt] [] pos) none epos.line env = pure false)
    (h : wpAny (model PR w) A (eval o env) (fun ov s₁ => ov = .ref D ∧ s₁.heap.PlainList D acc.toArray ∧ wpAny (model PR w) A (eval elt env) (fun y s₂ => y = x ∧ s₂.heap.PlainList D acc.toArray ∧ acc.length ≤ 100 ∧
      ∀ h', h'.PlainList D (acc ++ [x]).toArray → Heap.SameBut D s₂.heap h' → Q .next { s₂ with heap := h' }) E s₁) E s) :
    wpAny (model PR w) A (exec (.Expr (.Call (.Attribute o "append" apos) [elt] [] pos) epos) env) Q E s := by
  refine wpAny_Expr (wpAny_Call_append hbase hfew hline htrees (wpAny_mono h (fun ov s₁ q => ?_) fun _ _ e => e)) hi hs
  obtain ⟨rfl, ⟨n, hp⟩, q⟩ := q
  refine ⟨D, _, rfl, ⟨_, n, hp, rfl, rfl, rfl⟩, wpAny_mono q (fun y s₂ q => ?_) fun _ _ e => e⟩
  obtain ⟨rfl, hp₂, hn, q⟩ := q
  refine wpAny_list_append_plain hp₂ (fun h' hp' hs' => ?_) (by rw [List.size_toArray, sizeLine_eq]; omega)
  exact q h' (by simpa using hp') hs'
set_option maxHeartbeats 2000000 in
theorem filemodeFn {mode : Nat} {tm : Tok} {Q : Value → Shared → Prop} (G : GW w mg mb s.heap) (N : GOk mg mb) (TB : TabOk mg s.heap) (hd : A.depth ≤ 690) (hu : A.units ≤ 3900) (hh : A.handled = none) (hm : mode < 65536)
    (hQ : ∀ t s', Keeps s s' → Q (.str (fm mode) t) s') :
    wpAny (model PR w) A (call (.ref 128) [.int mode tm]) Q E s := by
  obtain ⟨ta, hta, hTab⟩ := TB
  obtain ⟨tvs, htt, htr⟩ := id hTab
  refine callY [] (binds := [(Str.ofString "mode", .int mode tm)]) (Nat.lt_of_le_of_lt hd (by decide)) G.fm G.lim (fun _ _ _ _ => by rfl) ?_ fun doc pm ct c s₁ E' Q' hq f => ?_
  · intro y hy
    rcases List.mem_singleton.mp hy with rfl
    exact .inl rfl
  have hQ := fun t s' a => hq (.str (fm mode) t) s' (hQ t s' a)
  have hh' : (A.deeper (envFm doc pm ct c s.heap.objs.size)).handled = none := hh
  have hdr : (A.deeper (envFm doc pm ct c s.heap.objs.size)).depth < recursionLimit := by show A.depth + 1 < 1000; omega
  refine ex1_2 (show ∃ m, m (Str.ofString "mode") = some (.int mode tm) ∧ FX [] s s.heap.objs.size m (cellsFrom (s.heap.objs.size + 1) (defNo 31).2.2.names []) (fun _ => none) s₁ from ⟨_, by rfl, f⟩) fun m m1 f => ?_
  generalize (A.deeper (envFm doc pm ct c s.heap.objs.size)) = A' at hh' hdr ⊢
  have hGA : ∀ {s' : Shared} {m : Str → Option Value}, FX [] s s.heap.objs.size m (cellsFrom (s.heap.objs.size + 1) (defNo 31).2.2.names []) (fun _ => none) s' → GW w mg mb s'.heap := fun {s' m} f => G.kf (fun q hq => by cases hq) f.keep
  have hcs : ∀ nm c, (cellsFrom (s.heap.objs.size + 1) (defNo 31).2.2.names []).lookup nm = some c → False := fun n c hc => by have h : ([] : List (Str × Addr)).lookup n = some c := hc; cases h
  -- perm = []
  refine stepS fun Qz nz rz bz => wpAny_Assign_Name ?_ ?hs
  case hs => rfl
  refine List_ ?_
  refine Calls.spliced_nil ?_
  refine wpAny_newList ?_
  have hD0 : (s₁.heap.push { cls := .type "list", data := .seq ([] : List Value).toArray }).PlainList s₁.heap.objs.size (([] : List Value).toArray) := ⟨_, Heap.get?_push_size _ rfl⟩
  have hDL : s.heap.objs.size < s₁.heap.objs.size := f.ns.lt
  refine stLX (m := m) (f.ks (ks_push s₁ _ s₁.toks)) (by rfl) (by rfl) fun s₂ f₂ e₂ sb₂ k₂ => ?_
  generalize hDe : s₁.heap.objs.size = D at hDL hD0 f₂
  have hD2 : s₂.heap.PlainList D ([] : List Value).toArray := hD0.extBut sb₂.extBut (Nat.ne_of_gt hDL)
  refine ex1_3 (show ∃ m', m' (Str.ofString "mode") = some (.int mode tm) ∧ m' (Str.ofString "perm") = some (.ref D) ∧ FX [] s s.heap.objs.size m' (cellsFrom (s.heap.objs.size + 1) (defNo 31).2.2.names []) (fun _ => none) s₂ from ⟨_, (if_neg (by decide)).trans m1, if_pos rfl, f₂⟩) fun m₂ g1 g2 f₂ => ?_
  have hDlt2 : D < s₂.heap.objs.size := by obtain ⟨nn, e⟩ := hD2; exact Heap.lt_size e
  have htlt : ta < s.heap.objs.size := by obtain ⟨o, e, _⟩ := htt; exact Heap.lt_size e
  -- for index, table in enumerate(_filemode_table)
  refine nz _ (stepS fun Qf nf rf bf => wpAny_For ?_ (by intro _; rfl))
  refine callN1 ?_
  refine Calls.Name_function_global (by rfl) (by rfl) (Calls.loadGlobal_builtin (hGA f₂).g N.n_enum (hGA f₂).b N.b_enum ?_) (by decide)
  refine PySem.callWith_type1 ?_
  refine Calls.Name_function_global (by rfl) (by rfl) (Calls.loadGlobal_global (hGA f₂).g hta ?_) (by decide)
  refine call_enumerate_tuple (kfh_tuple f₂.keep htt) fun h₃ hen hti hz hk₃ => ?_
  have W := WalksT.enumerateD (prog := PR) (w := w) (A := A') (drawsTuple (A := A'.in1) hh' s₂.heap.objs.size ta (Nat.ne_of_lt (Nat.lt_trans htlt (Nat.lt_trans hDL hDlt2))) tvs.toArray) (s₂.heap.objs.size + 1) (Nat.succ_ne_self _)
    (by intro hm; simp only [List.mem_cons, List.not_mem_nil, or_false] at hm; rcases hm with q | q; exact Nat.succ_ne_self _ q; exact absurd q (Nat.ne_of_gt (Nat.lt_succ_of_lt (Nat.lt_trans htlt (Nat.lt_trans hDL hDlt2))))) (.head _)
  have ht3 : h₃.IsTuple ta tvs.toArray := by obtain ⟨o, e, r⟩ := kfh_tuple f₂.keep htt; exact ⟨o, hk₃ _ _ e, r⟩
  refine W.self 0 _ _ _ ⟨⟨_, hen⟩, hti, ht3⟩ ?_
  have f₃ := f₂.ks (ks_of (t := s₂.toks) hk₃)
  refine forWalkT W [s.heap.objs.size, D] ?_ (fun i s' => ∃ m acc, FX [] s s.heap.objs.size m (cellsFrom (s.heap.objs.size + 1) (defNo 31).2.2.names []) (fun _ => none) s' ∧ m (Str.ofString "mode") = some (.int mode tm) ∧ m (Str.ofString "perm") = some (.ref D) ∧ s'.heap.PlainList D (List.toArray acc) ∧
      CarriedAll acc (((List.range i).map (signAt mode)).map fun x => PyData.str x) ∧ D < s'.heap.objs.size) ?_ ?_ ?_ ⟨⟨_, hen⟩, hti, ht3⟩ ?_
  · intro b hb hM
    have hbM : b = s.heap.objs.size ∨ b = D := by simpa using hM
    simp only [List.mem_cons, List.not_mem_nil, or_false] at hb
    have h1 : b ≤ D := by rcases hbM with q | q; exact q ▸ Nat.le_of_lt hDL; exact Nat.le_of_eq q
    have h2 : s.heap.objs.size ≤ b := by rcases hbM with q | q; exact Nat.le_of_eq q.symm; exact q ▸ Nat.le_of_lt hDL
    rcases hb with q | q | q
    · exact absurd (Nat.lt_of_le_of_lt h1 (Nat.lt_succ_of_lt hDlt2)) (by rw [q]; exact Nat.lt_irrefl _)
    · exact absurd (Nat.lt_of_le_of_lt h1 hDlt2) (by rw [q]; exact Nat.lt_irrefl _)
    · exact absurd (Nat.lt_of_lt_of_le htlt h2) (by rw [q]; exact Nat.lt_irrefl _)
  · rintro i s' h' tk ⟨m, acc, q1, q2, q3, q4, q5, q6⟩ hk
    have hk' : ∀ b o, b < s₂.heap.objs.size → s'.heap.get? b = some o → h'.get? b = some o := fun b o hb e => hk b o (fun hm => by
      simp only [List.mem_cons, List.not_mem_nil, or_false] at hm
      rcases hm with q | q
      · exact absurd hb (by rw [q]; exact Nat.not_lt.mpr (Nat.le_succ _))
      · exact absurd hb (by rw [q]; exact Nat.lt_irrefl _)) e
    refine ⟨m, acc, q1.base (N := s₂.heap.objs.size) (Nat.lt_trans hDL hDlt2) (fun n c hc => (hcs n c hc).elim) hk', q2, q3, ?_, q5, ?_⟩
    · obtain ⟨nn, e⟩ := q4; exact ⟨nn, hk' _ _ hDlt2 e⟩
    · obtain ⟨nn, e⟩ := q4; exact Heap.lt_size (hk' _ _ hDlt2 e)
  · rintro i T vals s₄ E' Q' hi ⟨ti, rv, hrv, rfl⟩ hT jj lq
    refine ex2_6 jj fun m acc q1 q2 q3 q4 q5 q6 => ?_
    have hi10 : i < tvs.length := by simpa using hi
    have hrv' : tvs[i]? = some rv := by simpa using hrv
    refine wpAny_assign_Tuple hh' hT rfl rfl fun h₅ x₅ => ?_
    have q1 := q1.ks (ks_ext (t := s₄.toks) x₅)
    have q4₅ : h₅.PlainList D (List.toArray acc) := by obtain ⟨nn, e⟩ := q4; exact ⟨nn, x₅ _ _ (Nat.ne_of_lt (Heap.lt_size e)) e⟩
    show wpAny _ _ (assignInOrder [assign _ _, assign _ _] [Value.int i ti, rv]) _ _ _
    unfold assignInOrder
    refine wpAny_bind (wpAny_holding (wpAny_assign_Name ?_))
    refine stLX (m := m) q1 (by rfl) (by rfl) fun s₆ f₆ e₆ sb₆ k₆ => ?_
    unfold assignInOrder
    refine wpAny_bind (wpAny_holding (wpAny_assign_Name ?_))
    refine stLX f₆ (by rfl) (by rfl) fun s₇ f₇ e₇ sb₇ k₇ => ?_
    refine wpAny_pure ?_
    have km0 : KM [s.heap.objs.size, D] s₄.heap h₅ := fun b o _ e => x₅ _ _ (Nat.ne_of_lt (Heap.lt_size e)) e
    have kmL : KM [s.heap.objs.size, D] s₄.heap s₇.heap := KM.tr (KM.tr km0 (km_same sb₆ (.head _))) (km_same sb₇ (.head _))
    have q4₇ : s₇.heap.PlainList D (List.toArray acc) := (q4₅.extBut sb₆.extBut (Nat.ne_of_gt hDL)).extBut sb₇.extBut (Nat.ne_of_gt hDL)
    refine ex1_5 (show ∃ m', m' (Str.ofString "mode") = some (.int mode tm) ∧ m' (Str.ofString "perm") = some (.ref D) ∧ m' (Str.ofString "index") = some (.int i ti) ∧ m' (Str.ofString "table") = some rv ∧ FX [] s s.heap.objs.size m' (cellsFrom (s.heap.objs.size + 1) (defNo 31).2.2.names []) (fun _ => none) s₇ from ⟨_, (if_neg (by decide)).trans ((if_neg (by decide)).trans q2), (if_neg (by decide)).trans ((if_neg (by decide)).trans q3), (if_neg (by decide)).trans (if_pos rfl), if_pos rfl, f₇⟩) fun m₇ g1 g2 g3 g4 f₇ => ?_
    obtain ⟨row, hrow, hRow⟩ := all2_at htr hrv'
    obtain ⟨b, ws, hrb, hbt, hws⟩ := hRow.ks (kS_of (kfh_nil f₇.keep))
    rw [hrb] at g4
    have hrowD : fmTabs.getD i [] = row := by rw [List.getD_eq_getElem?_getD, hrow]; rfl
    have hi9 : i < 10 := by
      have := (List.getElem?_eq_some_iff.mp hrow).1
      simpa [fmTabs] using this
    have hal : acc.length ≤ 100 := by rw [q5.length_eq]; simp; omega
    have hDlt7 : D < s₇.heap.objs.size := by obtain ⟨nn, e⟩ := q4₇; exact Heap.lt_size e
    -- for bit, char in table
    refine stepS fun Qi ni ri bi => wpAny_For ?_ (by intro _; rfl)
    refine nmL (m := m₇) f₇ (by rfl) (by rfl) g4 ?_ (by decide)
    refine wpAny_pyIter_tuple hbt ?_
    have hblt : b < s₇.heap.objs.size := by obtain ⟨o, e, _⟩ := hbt; exact Heap.lt_size e
    have hbM : b ∉ [s.heap.objs.size, D] := by
      intro hm
      simp only [List.mem_cons, List.not_mem_nil, or_false] at hm
      obtain ⟨o, e, hcT, n, hdT⟩ := hbt
      rcases hm with q | q
      · obtain ⟨o', es, ep, ho', hd', _⟩ := f₇.ns
        rw [← q, e] at ho'; cases ho'; rw [hdT] at hd'; cases hd'
      · obtain ⟨nn, e'⟩ := q4₇
        rw [← q, e] at e'; cases e'; exact (by decide : (Value.type "list") ≠ Value.type "tuple") hcT
    refine forTup hh' (Nat.ne_of_lt hblt) [s.heap.objs.size, D] ?_ hbM (fun j s' => ∃ m, FX [] s s.heap.objs.size m (cellsFrom (s.heap.objs.size + 1) (defNo 31).2.2.names []) (fun _ => none) s' ∧ m (Str.ofString "mode") = some (.int mode tm) ∧ m (Str.ofString "perm") = some (.ref D) ∧ m (Str.ofString "index") = some (.int i ti) ∧
      s'.heap.PlainList D (List.toArray acc) ∧ (∀ (k : Nat) (e : Nat × Str), k < j → row[k]? = some e → hitAt mode i e = false) ∧ KM [s.heap.objs.size, D] s₇.heap s'.heap ∧ All2 (PairAt s'.heap) ws row) ?_ ?_ ?_ ⟨_, Heap.get?_push_size _ rfl, rfl, rfl⟩ (by obtain ⟨o, e, r⟩ := hbt; exact ⟨o, Heap.get?_push_of_some _ e, r⟩) ?_
    · intro hm
      simp only [List.mem_cons, List.not_mem_nil, or_false] at hm
      rcases hm with q | q
      · exact absurd (Nat.lt_trans hDL hDlt7) (by rw [q]; exact Nat.lt_irrefl _)
      · exact absurd hDlt7 (by rw [q]; exact Nat.lt_irrefl _)
    · rintro j s' h' tk ⟨m, r1, r2, r3, r4, r5, r6, r7, r8⟩ hit' hk
      have hk' : ∀ b o, b < s₇.heap.objs.size → s'.heap.get? b = some o → h'.get? b = some o := fun b o hb e => hk b o (Nat.ne_of_lt hb) e
      refine ⟨m, r1.base (N := s₇.heap.objs.size) (Nat.lt_trans hDL hDlt7) (fun n c hc => (hcs n c hc).elim) hk', r2, r3, r4, ?_, r6, fun b o hb e => hk' b o (Heap.lt_size e) (r7 b o hb e), ?_⟩
      · obtain ⟨nn, e⟩ := r5; exact ⟨nn, hk' _ _ hDlt7 e⟩
      · refine fa2_mono (fun _ _ q => ?_) r8
        obtain ⟨c, t, t', e, o, ho, r⟩ := q
        refine ⟨c, t, t', e, o, hk c o (fun z => ?_) ho, r⟩
        obtain ⟨o', ho', _, hd'⟩ := hit'
        rw [z, ho'] at ho; cases ho
        obtain ⟨_, n, hd⟩ := r
        rw [hd'] at hd; cases hd
    · rintro j v s₈ E₂ Q₂ hv jj₂ lq₂
      refine ex1_8 jj₂ fun m r1 r2 r3 r4 r5 r6 r7 r8 => ?_
      obtain ⟨e, he, hp⟩ := all2_at r8 hv
      obtain ⟨pc, t1, t2, rfl, hpt⟩ := hp
      refine wpAny_assign_Tuple hh' hpt rfl rfl fun h₉ x₉ => ?_
      have r1 := r1.ks (ks_ext (t := s₈.toks) x₉)
      have r5₉ : h₉.PlainList D (List.toArray acc) := by obtain ⟨nn, e⟩ := r5; exact ⟨nn, x₉ _ _ (Nat.ne_of_lt (Heap.lt_size e)) e⟩
      show wpAny _ _ (assignInOrder [assign _ _, assign _ _] [Value.int e.1 t1, .str e.2 t2]) _ _ _
      unfold assignInOrder
      refine wpAny_bind (wpAny_holding (wpAny_assign_Name ?_))
      refine stLX (m := m) r1 (by rfl) (by rfl) fun sA fA eA sbA kA => ?_
      unfold assignInOrder
      refine wpAny_bind (wpAny_holding (wpAny_assign_Name ?_))
      refine stLX fA (by rfl) (by rfl) fun sB fB eB sbB kB => ?_
      refine wpAny_pure ?_
      have km1 : KM [s.heap.objs.size, D] s₈.heap h₉ := fun b o _ e => x₉ _ _ (Nat.ne_of_lt (Heap.lt_size e)) e
      have kmB : KM [s.heap.objs.size, D] s₈.heap sB.heap := KM.tr (KM.tr km1 (km_same sbA (.head _))) (km_same sbB (.head _))
      have pB : sB.heap.PlainList D (List.toArray acc) := (r5₉.extBut sbA.extBut (Nat.ne_of_gt hDL)).extBut sbB.extBut (Nat.ne_of_gt hDL)
      have r8B : All2 (PairAt sB.heap) ws row := fa2_mono (fun _ _ q => by
        obtain ⟨c, t, t', e, q⟩ := q
        exact ⟨c, t, t', e, isTuple_ks (((kS_of fun b o e => x₉ _ _ (Nat.ne_of_lt (Heap.lt_size e)) e : KS s₈.heap h₉).tr kA).tr kB) q⟩) r8
      refine ex1_6 (show ∃ m', m' (Str.ofString "mode") = some (.int mode tm) ∧ m' (Str.ofString "perm") = some (.ref D) ∧ m' (Str.ofString "index") = some (.int i ti) ∧ m' (Str.ofString "bit") = some (.int e.1 t1) ∧ m' (Str.ofString "char") = some (.str e.2 t2) ∧ FX [] s s.heap.objs.size m' (cellsFrom (s.heap.objs.size + 1) (defNo 31).2.2.names []) (fun _ => none) sB from ⟨_, (if_neg (by decide)).trans ((if_neg (by decide)).trans r2), (if_neg (by decide)).trans ((if_neg (by decide)).trans r3), (if_neg (by decide)).trans ((if_neg (by decide)).trans r4), (if_neg (by decide)).trans (if_pos rfl), if_pos rfl, fB⟩) fun mB x1 x2 x3 x4 x5 fB => ?_
      -- what comes after a hit and after a miss
      have noH : ∀ (k : Nat) (e' : Nat × Str), k < j → row[k]? = some e' → hitAt mode i e' = false := r6
      refine stepS fun Qa na ra ba => wpAny_If ?_
      refine wpAny_isTrue_Compare1 ?_ (by rfl)
      refine nmL (m := mB) fB (by rfl) (by rfl) x3 ?_ (by decide)
      refine wpAny_Constant_int ?_
      refine eq_int (wpAny_truthy_bool ?_)
      by_cases hi0 : i = 0
      · subst hi0
        simp only [show ((((0 : Nat) : Int)) == 0) = true from rfl, if_true]
        have fB := fB.ks (ks_tok sB (sB.toks + 1))
        refine stepS fun Qb nb rb bb => wpAny_If ?_
        refine wpAny_isTrue_Compare1 ?_ (by rfl)
        refine callN1 ?_
        refine Calls.Name_function_global (by rfl) (by rfl) (Calls.loadGlobal_global (hGA fB).g N.g_ifmt ?_) (by decide)
        obtain ⟨dF, pF, cF, kF, oF, hoF, hdF, hcF⟩ := id (hGA fB).ifmt
        refine Calls.callWith_function (o := oF) (fd := fdM "S_IFMT" "S_IFMT" (defNo 10) [] .none dF pF cF kF) (Calls.evalArgs_plain (Calls.spliced_cons ?_))
        refine nmL (m := mB) fB (by rfl) (by rfl) x1 ?_ (by decide)
        refine Calls.spliced_nil ⟨⟨hoF, hdF⟩, ?_⟩
        refine ifmt (hGA fB).wd (hGA fB).ifmt.at hdr fun hC tkC tC kC => ?_
        have fC := fB.ks (ks_of (t := tkC) kC)
        have pC : hC.PlainList D (List.toArray acc) := by obtain ⟨nn, e'⟩ := pB; exact ⟨nn, kC _ _ e'⟩
        have kmC : KM [s.heap.objs.size, D] s₈.heap hC := KM.tr kmB (km_of kC)
        refine nmL (m := mB) fC (by rfl) (by rfl) x4 ?_ (by decide)
        refine eq_int (wpAny_truthy_bool ?_)
        have hba : (Builtin.bitAnd ((mode : Nat) : Int) 61440 == ((e.1 : Nat) : Int)) = decide (mode &&& 61440 = e.1) := by
          rw [show (61440 : Int) = ((61440 : Nat) : Int) from rfl, bitAnd_nat, int_beq]
        rw [hba]
        by_cases hq : mode &&& 61440 = e.1
        · simp only [hq, decide_true, if_true]
          have hh1 : hitAt mode 0 e = true := by simp [hitAt, hq]
          refine stepS fun Qc nc rc bc => permAppend (D := D) (acc := acc) (x := .str e.2 t2) (by rfl) (by rfl) (by rfl) (by rfl) (by rfl) (by rfl) ?_
          refine nmL (m := mB) fC (by rfl) (by rfl) x2 ⟨rfl, pC, ?_⟩ (by decide)
          refine nmL (m := mB) fC (by rfl) (by rfl) x5 ⟨rfl, pC, hal, fun h' hp' hs' => ?_⟩ (by decide)
          refine nc _ (wpAny_execs_cons (wpAny_Break ?_))
          refine bb _ (ba _ (lq₂.bk _ (ni _ (wpAny_execs_nil (lq.nx _ ?_)))))
          refine ⟨KM.tr kmL (KM.tr r7 (KM.tr kmC (km_same hs' (.tail _ (.head _))))), mB, acc ++ [.str e.2 t2], fC.sameBut hs' (Nat.ne_of_lt hDL) (Nat.le_of_lt hDL) (fun n c hc => (hcs n c hc).elim), x1, x2, hp', ?_, ?_⟩
          · have hsg : signAt mode 0 = e.2 := by
              unfold signAt
              rw [hrowD, find_hit he hh1 noH]
            rw [List.range_succ, List.map_append, List.map_append]
            refine ca_append q5 (.cons ?_ .nil)
            rw [← hsg]
            exact .str _ _
          · obtain ⟨nn, e'⟩ := hp'; exact Heap.lt_size e'
        · simp only [hq, decide_false, Bool.false_eq_true, if_false]
          have hh1 : hitAt mode 0 e = false := by simp [hitAt, hq]
          refine wpAny_execs_nil (nb _ (wpAny_execs_nil (na _ (wpAny_execs_nil (lq₂.nx _ ?_)))))
          refine ⟨kmC, mB, fC, x1, x2, x3, pC, fun k e' hk he' => ?_, KM.tr r7 kmC, fa2_mono (fun _ _ ⟨c, t, t', e, q⟩ => ⟨c, t, t', e, isTuple_ks (kS_of kC) q⟩) r8B⟩
          rcases Nat.lt_succ_iff_lt_or_eq.mp hk with q | q
          · exact noH k e' q he'
          · subst q
            rw [he] at he'; cases he'
            exact hh1
      · have hne : ((i : Int) == 0) = false := by rw [beq_eq_false_iff_ne]; omega
        simp only [hne, Bool.false_eq_true, if_false]
        have fC := fB.ks (ks_tok sB (sB.toks + 1))
        refine stepS fun Qb nb rb bb => wpAny_If ?_
        refine wpAny_isTrue_Compare1 ?_ (by rfl)
        refine wpAny_BinOp ?_
        refine nmL (m := mB) fC (by rfl) (by rfl) x1 ?_ (by decide)
        refine nmL (m := mB) fC (by rfl) (by rfl) x4 ?_ (by decide)
        refine and_int ?_
        have fC := fC.ks (ks_tok _ (sB.toks + 1 + 1))
        refine nmL (m := mB) fC (by rfl) (by rfl) x4 ?_ (by decide)
        refine eq_int (wpAny_truthy_bool ?_)
        have hba : (Builtin.bitAnd ((mode : Nat) : Int) ((e.1 : Nat) : Int) == ((e.1 : Nat) : Int)) = decide (mode &&& e.1 = e.1) := by
          rw [bitAnd_nat, int_beq]
        rw [hba]
        by_cases hq : mode &&& e.1 = e.1
        · simp only [hq, decide_true, if_true]
          have hh1 : hitAt mode i e = true := by simp [hitAt, hq, hi0]
          refine stepS fun Qc nc rc bc => permAppend (D := D) (acc := acc) (x := .str e.2 t2) (by rfl) (by rfl) (by rfl) (by rfl) (by rfl) (by rfl) ?_
          refine nmL (m := mB) fC (by rfl) (by rfl) x2 ⟨rfl, pB, ?_⟩ (by decide)
          refine nmL (m := mB) fC (by rfl) (by rfl) x5 ⟨rfl, pB, hal, fun h' hp' hs' => ?_⟩ (by decide)
          refine nc _ (wpAny_execs_cons (wpAny_Break ?_))
          refine bb _ (ba _ (lq₂.bk _ (ni _ (wpAny_execs_nil (lq.nx _ ?_)))))
          refine ⟨KM.tr kmL (KM.tr r7 (KM.tr kmB (km_same hs' (.tail _ (.head _))))), mB, acc ++ [.str e.2 t2], fC.sameBut hs' (Nat.ne_of_lt hDL) (Nat.le_of_lt hDL) (fun n c hc => (hcs n c hc).elim), x1, x2, hp', ?_, ?_⟩
          · have hsg : signAt mode i = e.2 := by
              unfold signAt
              rw [hrowD, find_hit he hh1 noH]
            rw [List.range_succ, List.map_append, List.map_append]
            refine ca_append q5 (.cons ?_ .nil)
            rw [← hsg]
            exact .str _ _
          · obtain ⟨nn, e'⟩ := hp'; exact Heap.lt_size e'
        · simp only [hq, decide_false, Bool.false_eq_true, if_false]
          have hh1 : hitAt mode i e = false := by simp [hitAt, hq, hi0]
          refine wpAny_execs_nil (nb _ (wpAny_execs_nil (na _ (wpAny_execs_nil (lq₂.nx _ ?_)))))
          refine ⟨kmB, mB, fC, x1, x2, x3, pB, fun k e' hk he' => ?_, KM.tr r7 kmB, r8B⟩
          rcases Nat.lt_succ_iff_lt_or_eq.mp hk with q | q
          · exact noH k e' q he'
          · subst q
            rw [he] at he'; cases he'
            exact hh1
    · rintro s₈ E₂ jj₂
      refine ex1_8 jj₂ fun m r1 r2 r3 r4 r5 r6 r7 r8 => ?_
      have hnone : row.find? (hitAt mode i) = none := find_none fun k e' he' => r6 k e' (by rw [fa2_len r8]; exact (List.getElem?_eq_some_iff.mp he').1) he'
      refine stepS fun Qa na ra ba => wpAny_If ?_
      refine wpAny_isTrue_Compare1 ?_ (by rfl)
      refine nmL (m := m) r1 (by rfl) (by rfl) r4 ?_ (by decide)
      refine wpAny_Constant_int ?_
      refine eq_int (wpAny_truthy_bool ?_)
      have r1' := r1.ks (ks_tok s₈ (s₈.toks + 1))
      by_cases hi0 : i = 0
      · subst hi0
        simp only [show ((((0 : Nat) : Int)) == 0) = true from rfl, if_true]
        have hsg : signAt mode 0 = Str.ofString "?" := by unfold signAt; rw [hrowD, hnone]; rfl
        refine stepS fun Qc nc rc bc => permAppend (D := D) (acc := acc) (x := .str (signAt mode 0) (s₈.toks + 1)) (by rfl) (by rfl) (by rfl) (by rfl) (by rfl) (by rfl) ?_
        refine nmL (m := m) r1' (by rfl) (by rfl) r3 ⟨rfl, r5, ?_⟩ (by decide)
        refine wpAny_Constant_str ⟨by rw [hsg], r5, hal, fun h' hp' hs' => ?_⟩
        refine nc _ (wpAny_execs_nil (na _ (wpAny_execs_nil (ni _ (wpAny_execs_nil (lq.nx _ ?_))))))
        refine ⟨KM.tr kmL (KM.tr r7 (km_same hs' (.tail _ (.head _)))), m, acc ++ [.str (signAt mode 0) (s₈.toks + 1)], r1.sameBut hs' (Nat.ne_of_lt hDL) (Nat.le_of_lt hDL) (fun n c hc => (hcs n c hc).elim), r2, r3, hp', ?_, ?_⟩
        · rw [List.range_succ, List.map_append, List.map_append]
          exact ca_append q5 (.cons (.str _ _) .nil)
        · obtain ⟨nn, e'⟩ := hp'; exact Heap.lt_size e'
      · have hne : ((i : Int) == 0) = false := by rw [beq_eq_false_iff_ne]; omega
        simp only [hne, Bool.false_eq_true, if_false]
        have hsg : signAt mode i = Str.ofString "-" := by unfold signAt; rw [hrowD, hnone]; exact if_neg hi0
        refine stepS fun Qc nc rc bc => permAppend (D := D) (acc := acc) (x := .str (signAt mode i) (s₈.toks + 1)) (by rfl) (by rfl) (by rfl) (by rfl) (by rfl) (by rfl) ?_
        refine nmL (m := m) r1' (by rfl) (by rfl) r3 ⟨rfl, r5, ?_⟩ (by decide)
        refine wpAny_Constant_str ⟨by rw [hsg], r5, hal, fun h' hp' hs' => ?_⟩
        refine nc _ (wpAny_execs_nil (na _ (wpAny_execs_nil (ni _ (wpAny_execs_nil (lq.nx _ ?_))))))
        refine ⟨KM.tr kmL (KM.tr r7 (km_same hs' (.tail _ (.head _)))), m, acc ++ [.str (signAt mode i) (s₈.toks + 1)], r1.sameBut hs' (Nat.ne_of_lt hDL) (Nat.le_of_lt hDL) (fun n c hc => (hcs n c hc).elim), r2, r3, hp', ?_, ?_⟩
        · rw [List.range_succ, List.map_append, List.map_append]
          exact ca_append q5 (.cons (.str _ _) .nil)
        · obtain ⟨nn, e'⟩ := hp'; exact Heap.lt_size e'
    · exact ⟨m₇, f₇.ks (ks_push _ _ _), g1, g2, g3, by obtain ⟨nn, e⟩ := q4₇; exact ⟨nn, Heap.get?_push_of_some _ e⟩, fun k e hk => absurd hk (Nat.not_lt_zero _), km_of (kp_push _ _), fa2_mono (fun _ _ ⟨c, t, t', e, q⟩ => ⟨c, t, t', e, isTuple_ks (kS_of (kp_push _ _)) q⟩) hws⟩
  · rintro s₄ E' jj
    refine ex2_6 jj fun m acc q1 q2 q3 q4 q5 q6 => ?_
    refine wpAny_execs_nil (nf _ ?_)
    refine wpAny_execs_cons (wpAny_Return_some ?_)
    have ht10 : tvs.length = 10 := by rw [fa2_len htr]; rfl
    have hn : tvs.toArray.size = 10 := by simpa using ht10
    rw [hn] at q5
    refine wpAny_Call_method (T := "str") (id := "str.join") (by rfl) (by rfl) (by rfl) PySem.F.plainAttrs_str PySem.F.slot_str_join PySem.F.type_str_join ?_
    refine wpAny_Constant_str ⟨typeIs_str _ _ _, (fun a e => by cases e), ?_⟩
    refine Calls.callWith_builtin (by rfl) (Calls.evalArgs_plain (Calls.spliced_cons ?_))
    refine nmL (m := m) (q1.ks (ks_tok _ _)) (by rfl) (by rfl) q3 ?_ (by decide)
    refine Calls.spliced_nil ?_
    show wpAny _ _ (call (.builtin "str.join") [.str (Str.ofString "") _, .ref D]) _ _ _
    have hD4 : s₄.heap.IsList D (List.toArray acc) := q4.isList
    refine KT.join_1 (g := signAt mode) (l := List.range 10) hD4 (by rw [List.map_map] at q5; exact q5) (fun a ha => ?_) (by decide) fun t' k _ => ?_
    · exact signAt_len mode a
    · exact hQ t' _ (ks_tr (kfs_nil q1.kfs) (ks_tok _ _))
  · exact ⟨m₂, [], f₃, g1, g2, by obtain ⟨nn, e⟩ := hD2; exact ⟨nn, hk₃ _ _ e⟩, .nil, Nat.lt_of_lt_of_le hDlt2 (by rw [hz]; exact Nat.le_add_right _ 2)⟩
end
end Mine
end
section
open PySem PySem.W PyProof.Rows
set_option maxRecDepth 100000
set_option linter.unusedVariables false
namespace Mine
/-- the signs of the rights, by figures -/
noncomputable def rightsA (p : Nat) : List Nat := (List.range 9).flatMap fun i => (signAt p (i + 1)).cps.toList
noncomputable def colB (p i : Nat) : List Nat := (if three p i > 3 then [114] else [45]) ++ (if three p i % 4 > 1 then [119] else [45]) ++ [(triOf i).cps.getD (lastOf p i) 0]
noncomputable def rightsB (p : Nat) : List Nat := (List.range 3).flatMap fun i => colB p i
/-- three signs look at four bits: the figures are looked through for sixteen numbers a third -/
noncomputable def colA (p i : Nat) : List Nat := (List.range 3).flatMap fun j => (signAt p (3 * i + j + 1)).cps.toList
noncomputable def mskOf (i : Nat) : Nat := [2496, 1080, 519].getD i 0
noncomputable def qOf (i k : Nat) : Nat := k % 8 * 2 ^ (6 - 3 * i) + k / 8 * 2 ^ (11 - i)
noncomputable def colOk : Bool := (List.range 3).all fun i => (List.range 16).all fun k => colA (qOf i k) i == colB (qOf i k) i
noncomputable def rowOk : Bool := (List.range 3).all fun i => (List.range 3).all fun j => (fmTabs.getD (3 * i + j + 1) []).all fun e => Nat.beq (Nat.land (mskOf i) e.1) e.1
noncomputable def mskOk (i : Nat) : Bool := (List.range 4096).all fun p => Nat.beq (Nat.land p (mskOf i)) (qOf i (three p i + 8 * (p / 2 ^ (11 - i) % 2))) && (Nat.beq (three (Nat.land p (mskOf i)) i) (three p i) && Nat.beq (lastOf (Nat.land p (mskOf i)) i) (lastOf p i))
theorem col_ok : colOk = true := by decide +kernel
theorem row_ok : rowOk = true := by decide +kernel
theorem msk_ok : ∀ i < 3, mskOk i = true := by decide +kernel
noncomputable def kindOk : Bool := (List.range 16).all fun t => signAt (4096 * t) 0 == chr (Str.ofString "?pc?d?b?-?l?s???") t
theorem kind_ok : kindOk = true := by decide +kernel
theorem and_kind {mode : Nat} (h : mode < 65536) : mode &&& 61440 = 4096 * (mode / 4096) := by
  apply Nat.eq_of_testBit_eq
  intro j
  rw [Nat.testBit_and, show (61440 : Nat) = 15 * 2 ^ 12 from rfl, show 4096 * (mode / 4096) = (mode / 2 ^ 12) * 2 ^ 12 from by omega, Nat.testBit_mul_two_pow, Nat.testBit_mul_two_pow]
  by_cases h12 : j ≥ 12
  · simp only [h12, decide_true, Bool.true_and, Nat.testBit_div_two_pow]
    rw [show j - 12 + 12 = j by omega]
    by_cases h16 : j < 16
    · have : (15 : Nat).testBit (j - 12) = true := by
        have hj : j = 12 ∨ j = 13 ∨ j = 14 ∨ j = 15 := by omega
        rcases hj with rfl | rfl | rfl | rfl <;> decide
      rw [this, Bool.and_true]
    · rw [Nat.testBit_lt_two_pow (Nat.lt_of_lt_of_le h (by have := Nat.pow_le_pow_right (n := 2) (by omega) (show 16 ≤ j by omega); simpa using this)), Bool.false_and]
  · simp [h12]
theorem and_low {mode b : Nat} (h : b < 4096) : mode &&& b = (mode % 4096) &&& b := by
  apply Nat.eq_of_testBit_eq
  intro j
  rw [Nat.testBit_and, Nat.testBit_and, show (4096 : Nat) = 2 ^ 12 from rfl, Nat.testBit_mod_two_pow]
  by_cases hj : j < 12
  · simp [hj]
  · have : b.testBit j = false := Nat.testBit_lt_two_pow (Nat.lt_of_lt_of_le h (by have := Nat.pow_le_pow_right (n := 2) (by omega) (show 12 ≤ j by omega); simpa using this))
    simp [this]
theorem signAt_congr {a b i : Nat} (h : ∀ e ∈ fmTabs.getD i [], hitAt a i e = hitAt b i e) : signAt a i = signAt b i := by
  unfold signAt
  have : ∀ l : List (Nat × Str), (∀ e ∈ l, hitAt a i e = hitAt b i e) → l.find? (hitAt a i) = l.find? (hitAt b i) := by
    intro l
    induction l with
    | nil => intro _; rfl
    | cons x r ih =>
      intro h
      rw [List.find?_cons, List.find?_cons, h x (.head _), ih fun e he => h e (.tail _ he)]
  rw [this _ h]
theorem signAt_zero {mode : Nat} (h : mode < 65536) : signAt mode 0 = signAt (4096 * (mode / 4096)) 0 := by
  refine signAt_congr fun e _ => ?_
  unfold hitAt
  rw [if_pos rfl, if_pos rfl, and_kind h, and_kind (by omega)]
  congr 2
  omega
theorem signAt_low {mode i : Nat} : signAt mode (i + 1) = signAt (mode % 4096) (i + 1) := by
  refine signAt_congr fun e he => ?_
  have hall : (fmTabs.drop 1).all (fun row => row.all fun e => decide (e.1 < 4096)) = true := by decide +kernel
  have hrow : fmTabs.getD (i + 1) [] ∈ fmTabs.drop 1 ∨ fmTabs.getD (i + 1) [] = [] := by
    rw [List.getD_eq_getElem?_getD]
    cases q : fmTabs[i + 1]? with
    | none => exact .inr rfl
    | some r =>
      refine .inl (List.mem_of_getElem? (i := i) ?_)
      rw [List.getElem?_drop, Nat.add_comm]; exact q
  have hb : e.1 < 4096 := by
    rcases hrow with q | q
    · have := List.all_eq_true.mp (List.all_eq_true.mp hall _ q) _ he
      simpa using this
    · rw [q] at he; cases he
  unfold hitAt
  rw [if_neg (by omega), if_neg (by omega), and_low hb]
theorem signAt_msk {p i j : Nat} (hi : i < 3) (hj : j < 3) : signAt p (3 * i + j + 1) = signAt (Nat.land p (mskOf i)) (3 * i + j + 1) := by
  refine signAt_congr fun e he => ?_
  have h := List.all_eq_true.mp (List.all_eq_true.mp (List.all_eq_true.mp row_ok i (List.mem_range.mpr hi)) j (List.mem_range.mpr hj)) e he
  have h : mskOf i &&& e.1 = e.1 := Nat.eq_of_beq_eq_true h
  have h2 : Nat.land p (mskOf i) &&& e.1 = p &&& e.1 := by
    show (p &&& mskOf i) &&& e.1 = _
    rw [Nat.and_assoc, h]
  unfold hitAt
  rw [if_neg (by omega), if_neg (by omega), h2]
theorem col_eq {p i : Nat} (hp : p < 4096) (hi : i < 3) : colA p i = colB p i := by
  have h := List.all_eq_true.mp (msk_ok i hi) p (List.mem_range.mpr hp)
  simp only [Bool.and_eq_true] at h
  have h1 := Nat.eq_of_beq_eq_true h.1
  have h2 := Nat.eq_of_beq_eq_true h.2.1
  have h3 := Nat.eq_of_beq_eq_true h.2.2
  have hk : three p i + 8 * (p / 2 ^ (11 - i) % 2) < 16 := by
    have : three p i < 8 := Nat.mod_lt _ (by decide)
    omega
  have c := eq_of_beq (List.all_eq_true.mp (List.all_eq_true.mp col_ok i (List.mem_range.mpr hi)) _ (List.mem_range.mpr hk))
  rw [← h1] at c
  have e1 : colA p i = colA (Nat.land p (mskOf i)) i := by
    show (signAt p (3 * i + 0 + 1)).cps.toList ++ ((signAt p (3 * i + 1 + 1)).cps.toList ++ ((signAt p (3 * i + 2 + 1)).cps.toList ++ [])) = _
    rw [signAt_msk (p := p) (j := 0) hi (by decide), signAt_msk (p := p) (j := 1) hi (by decide), signAt_msk (p := p) (j := 2) hi (by decide)]
    rfl
  have e2 : colB (Nat.land p (mskOf i)) i = colB p i := by
    unfold colB
    rw [h2, h3]
  rw [e1, c, e2]
theorem rights_eq {p : Nat} (hp : p < 4096) : rightsA p = rightsB p := by
  have e : rightsB p = colA p 0 ++ (colA p 1 ++ (colA p 2 ++ [])) := by
    rw [col_eq hp (by decide), col_eq hp (by decide), col_eq hp (by decide)]
    rfl
  rw [e]
  simp [rightsA, colA, List.range, List.range.loop]
theorem foldl_cps (g : Array Nat) (hg : g.toList = []) : ∀ (l : List Str) (a : Array Nat), (l.foldl (fun acc p => acc ++ g ++ p.cps) a).toList = a.toList ++ l.flatMap (·.cps.toList)
  | [], a => by simp
  | x :: r, a => by
    rw [List.foldl_cons, foldl_cps g hg r, Array.toList_append, Array.toList_append, hg, List.flatMap_cons]
    simp
theorem join_cps : ∀ l : List Str, (PySem.Txt.join (Str.ofString "") l).cps.toList = l.flatMap (·.cps.toList)
  | [] => rfl
  | x :: r => by
    rw [List.flatMap_cons]
    exact foldl_cps _ rfl r x.cps
theorem cps_app (x y : Str) : (x ++ y).cps.toList = x.cps.toList ++ y.cps.toList := by
  show (x.cps ++ y.cps).toList = _
  rw [Array.toList_append]
theorem three_low (mode i : Nat) (hi : i < 3) : three mode i = three (mode % 4096) i := by
  unfold three
  rcases i with _ | _ | _ | _
  · show mode / 64 % 8 = mode % 4096 / 64 % 8; omega
  · show mode / 8 % 8 = mode % 4096 / 8 % 8; omega
  · show mode / 1 % 8 = mode % 4096 / 1 % 8; omega
  · omega
theorem last_low (mode i : Nat) (hi : i < 3) : lastOf mode i = lastOf (mode % 4096) i := by
  unfold lastOf
  rw [three_low mode i hi]
  rcases i with _ | _ | _ | _
  · show _ + 2 * (mode / 2048 % 2) = _ + 2 * (mode % 4096 / 2048 % 2); omega
  · show _ + 2 * (mode / 1024 % 2) = _ + 2 * (mode % 4096 / 1024 % 2); omega
  · show _ + 2 * (mode / 512 % 2) = _ + 2 * (mode % 4096 / 512 % 2); omega
  · omega
theorem sg_cps (mode i : Nat) (x : Str) : (sgNext mode i x).cps.toList = x.cps.toList ++ ((if three mode i > 3 then [114] else [45]) ++ (if three mode i % 4 > 1 then [119] else [45]) ++ [(triOf i).cps.getD (lastOf mode i) 0]) := by
  unfold sgNext
  rw [cps_app, cps_app, cps_app]
  have e1 : (if three mode i > 3 then Str.ofString "r" else Str.ofString "-").cps.toList = (if three mode i > 3 then [114] else [45]) := by split <;> rfl
  have e2 : (if three mode i % 4 > 1 then Str.ofString "w" else Str.ofString "-").cps.toList = (if three mode i % 4 > 1 then [119] else [45]) := by split <;> rfl
  rw [e1, e2]
  simp [chr]
theorem fm_eq_sg {mode : Nat} (h : mode < 65536) : fm mode = sg mode := by
  have hp : mode % 4096 < 4096 := Nat.mod_lt _ (by decide)
  have ht : mode / 4096 < 16 := by omega
  have hk := List.all_eq_true.mp kind_ok (mode / 4096) (List.mem_range.mpr ht)
  have hr := rights_eq hp
  have hk := eq_of_beq hk
  refine PyProof.Rows.str_eq_of_lists ?_
  unfold fm
  rw [join_cps, show List.range 10 = 0 :: (List.range 9).map (· + 1) from rfl, List.map_cons, List.flatMap_cons, List.map_map, List.flatMap_map, signAt_zero h, hk]
  have e1 : ((List.range 9).flatMap fun i => ((signAt mode ∘ (· + 1)) i).cps.toList) = rightsA (mode % 4096) := by
    unfold rightsA
    congr 1
    funext i
    show (signAt mode (i + 1)).cps.toList = _
    rw [signAt_low]
  rw [e1, hr]
  show _ = (sgNext mode 2 (sgNext mode 1 (sgNext mode 0 (chr _ _)))).cps.toList
  rw [sg_cps, sg_cps, sg_cps]
  unfold rightsB colB
  rw [three_low mode 0 (by omega), three_low mode 1 (by omega), three_low mode 2 (by omega), last_low mode 0 (by omega), last_low mode 1 (by omega), last_low mode 2 (by omega)]
  simp [List.range, List.range.loop]
end Mine
end
section
open PySem PySem.W PyProof.Rows
set_option maxRecDepth 100000
set_option linter.unusedVariables false
namespace Mine
noncomputable def paOf (one other : Nat) (k : Nat) : Int × Int := if k = 0 then ((one &&& 61440 : Nat), (other &&& 61440 : Nat)) else ((one &&& 4095 : Nat), (other &&& 4095 : Nat))
noncomputable def plOf (rule i : Nat) : Nat := if rule % 2 = 0 then i else 1 - i
/-- what _law_compare answers -/
noncomputable def cmpv (one other rule : Nat) : Int :=
  if (paOf one other (plOf rule 0)).1 ≠ (paOf one other (plOf rule 0)).2 then ((paOf one other (plOf rule 0)).1 - (paOf one other (plOf rule 0)).2) * (if rule / 2 = 0 then 1 else -1)
  else if (paOf one other (plOf rule 1)).1 ≠ (paOf one other (plOf rule 1)).2 then ((paOf one other (plOf rule 1)).1 - (paOf one other (plOf rule 1)).2) * (if rule / 2 = 0 then 1 else -1)
  else 0
section
variable {prog : Program} {w : World} {A : Around} {E : Value → Shared → Prop} {s : Shared} {env : Env}
/-- an item of a tuple -/
theorem tupGen {value slice : PySem.Expr} {pos : Pos} {Q : Value → Shared → Prop}
    (h : ∀ Q' : Value → Value → Shared → Prop, (∀ o i s₂, (∃ l vs, ∃ k : Nat, ∃ t x, o = .ref l ∧ i = .int k t ∧ s₂.heap.IsTuple l vs ∧ k < 2 ^ 62 ∧ vs[k]? = some x ∧ Q x s₂) → Q' o i s₂) →
      wpAny (model prog w) A (eval value env) (fun o s₁ => wpAny (model prog w) A (eval slice env) (Q' o) E s₁) E s)
    (hs : ∀ o i, subscripted slice false o i = operate [o, i] (getItem o i) := by intro _ _; with_unfolding_all rfl) :
    wpAny (model prog w) A (eval (.Subscript value slice pos) env) Q E s := by
  refine Subscript_ (wpAny_mono (h _ fun _ _ _ q => q) (fun o s₁ h₁ => wpAny_mono h₁ (fun i s₂ h₂ => ?_) fun _ _ x => x) fun _ _ x => x)
  refine hideG fun G hG => ?_
  obtain ⟨l, vs, k, t, x, rfl, rfl, hl, hk, hx, hq⟩ := h₂
  refine hG ?_
  have hkl : k < vs.size := (Array.getElem?_eq_some_iff.mp hx).1
  refine tail_any (T := "tuple") (show s₂.TypeIs (.ref l) "tuple" from by obtain ⟨o, ho, hc, _⟩ := hl; exact ⟨o, ho, hc⟩) slot_tuple_getitem.lookup (getItem_tuple (j := k) hl (by omega) (by omega) ?_ hx hq) (hs _ _)
  unfold seqIndex?
  have h0 : ¬ ((k : Int) < 0) := by omega
  simp only [if_neg h0]
  simp [hkl]
end
theorem push3 (h : Heap) (a b c : List Value) : Keep h (((h.push (tupObj a)).push (tupObj b)).push (tupObj c)) ∧ (((h.push (tupObj a)).push (tupObj b)).push (tupObj c)).IsTuple h.objs.size a.toArray ∧
    (((h.push (tupObj a)).push (tupObj b)).push (tupObj c)).IsTuple (h.push (tupObj a)).objs.size b.toArray ∧ (((h.push (tupObj a)).push (tupObj b)).push (tupObj c)).IsTuple ((h.push (tupObj a)).push (tupObj b)).objs.size c.toArray ∧
    h.objs.size ≤ (((h.push (tupObj a)).push (tupObj b)).push (tupObj c)).objs.size :=
  ⟨((kp_push _ _).tr (kp_push _ _)).tr (kp_push _ _), ⟨_, Heap.get?_push_of_some _ (Heap.get?_push_of_some _ (Heap.get?_push_size _ rfl)), rfl, _, rfl⟩, ⟨_, Heap.get?_push_of_some _ (Heap.get?_push_size _ rfl), rfl, _, rfl⟩, ⟨_, Heap.get?_push_size _ rfl, rfl, _, rfl⟩,
    by rw [Heap.size_push, Heap.size_push, Heap.size_push]; exact Nat.le_add_right _ 3⟩
theorem cmpPick {h : Heap} {rule : Nat} {a b : Addr} {x1 x2 x3 x4 : Tok} (h0 : h.IsTuple a [Value.int 0 x1, .int 1 x2].toArray) (h1 : h.IsTuple b [Value.int 1 x3, .int 0 x4].toArray) : ∃ Tc y0 y1, ([Value.ref a, .ref b].toArray)[rule % 2]? = some (.ref Tc) ∧ h.IsTuple Tc [Value.int (plOf rule 0 : Nat) y0, .int (plOf rule 1 : Nat) y1].toArray := by
  have h2 : rule % 2 = 0 ∨ rule % 2 = 1 := by omega
  rcases h2 with h2 | h2
  · exact ⟨a, x1, x2, by rw [h2]; rfl, by simp only [plOf, h2, if_true]; exact h0⟩
  · exact ⟨b, x3, x4, by rw [h2]; rfl, by simp only [plOf, h2]; exact h1⟩
theorem cmpItem {rule i : Nat} {y0 y1 : Tok} {v : Value} (hi : i < 2) (hv : [Value.int (plOf rule 0 : Nat) y0, .int (plOf rule 1 : Nat) y1][i]? = some v) : ∃ y, v = .int (plOf rule i : Nat) y := by
  rcases i with _ | _ | _
  · exact ⟨_, (Option.some.inj hv).symm⟩
  · exact ⟨_, (Option.some.inj hv).symm⟩
  · omega
theorem cmpPair {h : Heap} {a b : Addr} {one other k : Nat} {u1 u2 u3 u4 : Tok} (hk : k = 0 ∨ k = 1) (r5 : h.IsTuple a #[.int ((one &&& 61440 : Nat) : Int) u1, .int ((other &&& 61440 : Nat) : Int) u2]) (r6 : h.IsTuple b #[.int ((one &&& 4095 : Nat) : Int) u3, .int ((other &&& 4095 : Nat) : Int) u4]) :
    ∃ Tp w1 w2, ([Value.ref a, .ref b].toArray)[k]? = some (.ref Tp) ∧ h.IsTuple Tp #[.int (paOf one other k).1 w1, .int (paOf one other k).2 w2] := by
  rcases hk with q | q <;> rw [q]
  · exact ⟨a, u1, u2, rfl, r5⟩
  · exact ⟨b, u3, u4, rfl, r6⟩
theorem plOf_01 {rule i : Nat} (hi : i < 2) : plOf rule i = 0 ∨ plOf rule i = 1 := by unfold plOf; split <;> omega
theorem signItem {rule : Nat} (hr : rule < 4) (a b : Tok) : ∃ xs, ([Value.int 1 a, .int (-1) b].toArray)[rule / 2]? = some (.int (if rule / 2 = 0 then 1 else -1) xs) := by
  have h2 : rule / 2 = 0 ∨ rule / 2 = 1 := by omega
  rcases h2 with h2 | h2 <;> rw [h2] <;> exact ⟨_, rfl⟩
theorem cmpHit {one other rule i : Nat} {pa : Int × Int} (hi : i < 2) (hpa : paOf one other (plOf rule i) = pa) (hq : ¬ pa.1 = pa.2) (r7 : ∀ k, k < i → (paOf one other (plOf rule k)).1 = (paOf one other (plOf rule k)).2) : (pa.1 - pa.2) * (if rule / 2 = 0 then 1 else -1) = cmpv one other rule := by
  unfold cmpv
  rcases i with _ | _ | _
  · have c0 : (paOf one other (plOf rule 0)).1 ≠ (paOf one other (plOf rule 0)).2 := by rw [hpa]; exact hq
    rw [if_pos c0, hpa]
  · have c0 : ¬ ((paOf one other (plOf rule 0)).1 ≠ (paOf one other (plOf rule 0)).2) := by simpa using r7 0 (by omega)
    have hpa : paOf one other (plOf rule 1) = pa := hpa
    have c1 : (paOf one other (plOf rule 1)).1 ≠ (paOf one other (plOf rule 1)).2 := by rw [hpa]; exact hq
    rw [if_neg c0, if_pos c1, hpa]
  · omega
theorem cmpZero {one other rule : Nat} (r7 : ∀ k, k < 2 → (paOf one other (plOf rule k)).1 = (paOf one other (plOf rule k)).2) : (0 : Int) = cmpv one other rule := by
  unfold cmpv
  rw [if_neg (by simpa using r7 0 (by decide)), if_neg (by simpa using r7 1 (by decide))]
section
variable {w : World} {A : Around} {E : Value → Shared → Prop} {s : Shared} {mg mb : Str → Option Value}
set_option maxHeartbeats 1000000 in
theorem cmpFn {one other rule : Nat} {t1 t2 t3 : Tok} {Q : Value → Shared → Prop} (G : GW w mg mb s.heap) (N : GOk mg mb) (hd : A.depth ≤ 700) (hu : A.units ≤ 3900) (hh : A.handled = none) (hr : rule < 4)
    (hQ : ∀ t s', Keeps s s' → Q (.int (cmpv one other rule) t) s') :
    wpAny (model PR w) A (call (.ref 142) [.int one t1, .int other t2, .int rule t3]) Q E s := by
  refine callY [] (binds := [(Str.ofString "one", .int one t1), (Str.ofString "other", .int other t2), (Str.ofString "rule", .int rule t3)]) (Nat.lt_of_le_of_lt hd (by decide)) G.cmp G.lim (fun _ _ _ _ => by rfl) ?_ fun doc pm ct c s₁ E' Q' hq f => ?_
  · intro y hy
    simp only [List.mem_cons, List.not_mem_nil, or_false] at hy
    rcases hy with rfl | rfl | rfl <;> exact .inl rfl
  have hQ := fun t s' a => hq (.int (cmpv one other rule) t) s' (hQ t s' a)
  have hh' : (A.deeper (envM "_law_compare" "_law_compare" (defNo 34) doc pm ct c s.heap.objs.size 142)).handled = none := hh
  have hdr : (A.deeper (envM "_law_compare" "_law_compare" (defNo 34) doc pm ct c s.heap.objs.size 142)).depth < recursionLimit := by show A.depth + 1 < 1000; omega
  refine ex1_4 (show ∃ m, m (Str.ofString "one") = some (.int one t1) ∧ m (Str.ofString "other") = some (.int other t2) ∧ m (Str.ofString "rule") = some (.int rule t3) ∧ FX [] s s.heap.objs.size m (cellsFrom (s.heap.objs.size + 1) (defNo 34).2.2.names []) (fun _ => none) s₁ from ⟨_, by rfl, by rfl, by rfl, f⟩) fun m m1 m2 m3 f => ?_
  generalize (A.deeper (envM "_law_compare" "_law_compare" (defNo 34) doc pm ct c s.heap.objs.size 142)) = A' at hh' hdr ⊢
  have hGA : ∀ {s' : Shared} {m : Str → Option Value}, FX [] s s.heap.objs.size m (cellsFrom (s.heap.objs.size + 1) (defNo 34).2.2.names []) (fun _ => none) s' → GW w mg mb s'.heap := fun {s' m} f => G.kf (fun q hq => by cases hq) f.keep
  have hcs : ∀ nm c, (cellsFrom (s.heap.objs.size + 1) (defNo 34).2.2.names []).lookup nm = some c → False := fun n c hc => by have h : ([] : List (Str × Addr)).lookup n = some c := hc; cases h
  -- a call of S_IFMT or S_IMODE
  have ifm : ∀ (s' : Shared) (x : Nat) (t : Tok) (pos p p2 : Pos) (nm : Str) (Q' : Value → Shared → Prop) (E' : Value → Shared → Prop), FX [] s s.heap.objs.size m (cellsFrom (s.heap.objs.size + 1) (defNo 34).2.2.names []) (fun _ => none) s' → m nm = some (.int x t) → (defNo 34).2.2.names.lookup nm = some .local → (nm == ("__debug__" : Str)) = false →
      (∀ t' s'', Keeps s' s'' → Q' (.int ((x &&& 61440 : Nat) : Int) t') s'') → wpAny (model PR w) A' (eval (.Call (.Name (Str.ofString "S_IFMT") p) [.Name nm p2] [] pos) (envM "_law_compare" "_law_compare" (defNo 34) doc pm ct c s.heap.objs.size 142)) Q' E' s' := by
    intro s' x t pos p p2 nm Q' E' f hx hnm hdb hQ'
    refine callN1 ?_
    refine Calls.Name_function_global (by rfl) (by rfl) (Calls.loadGlobal_global (hGA f).g N.g_ifmt ?_) (by decide)
    refine hideG fun G hG => ?_
    obtain ⟨dF, pF, cF, kF, oF, hoF, hdF, hcF⟩ := id (hGA f).ifmt
    refine hG ?_
    refine Calls.callWith_function (o := oF) (fd := fdM "S_IFMT" "S_IFMT" (defNo 10) [] .none dF pF cF kF) (Calls.evalArgs_plain (Calls.spliced_cons ?_))
    refine nmL (m := m) f (by rfl) hnm hx ?_ hdb
    refine Calls.spliced_nil ⟨⟨hoF, hdF⟩, ?_⟩
    refine ifmt (hGA f).wd (hGA f).ifmt.at hdr fun hC tkC tC kC => ?_
    rw [show (61440 : Int) = ((61440 : Nat) : Int) from rfl, bitAnd_nat]
    exact hQ' _ _ (ks_of kC)
  have imd : ∀ (s' : Shared) (x : Nat) (t : Tok) (pos p p2 : Pos) (nm : Str) (Q' : Value → Shared → Prop) (E' : Value → Shared → Prop), FX [] s s.heap.objs.size m (cellsFrom (s.heap.objs.size + 1) (defNo 34).2.2.names []) (fun _ => none) s' → m nm = some (.int x t) → (defNo 34).2.2.names.lookup nm = some .local → (nm == ("__debug__" : Str)) = false →
      (∀ t' s'', Keeps s' s'' → Q' (.int ((x &&& 4095 : Nat) : Int) t') s'') → wpAny (model PR w) A' (eval (.Call (.Name (Str.ofString "S_IMODE") p) [.Name nm p2] [] pos) (envM "_law_compare" "_law_compare" (defNo 34) doc pm ct c s.heap.objs.size 142)) Q' E' s' := by
    intro s' x t pos p p2 nm Q' E' f hx hnm hdb hQ'
    refine callN1 ?_
    refine Calls.Name_function_global (by rfl) (by rfl) (Calls.loadGlobal_global (hGA f).g N.g_imode ?_) (by decide)
    refine hideG fun G hG => ?_
    obtain ⟨dF, pF, cF, kF, oF, hoF, hdF, hcF⟩ := id (hGA f).imode
    refine hG ?_
    refine Calls.callWith_function (o := oF) (fd := fdM "S_IMODE" "S_IMODE" (defNo 9) [] .none dF pF cF kF) (Calls.evalArgs_plain (Calls.spliced_cons ?_))
    refine nmL (m := m) f (by rfl) hnm hx ?_ hdb
    refine Calls.spliced_nil ⟨⟨hoF, hdF⟩, ?_⟩
    refine imode (hGA f).wd (hGA f).imode.at hdr fun hC tkC tC kC => ?_
    rw [show (4095 : Int) = ((4095 : Nat) : Int) from rfl, bitAnd_nat]
    exact hQ' _ _ (ks_of kC)
  -- pairs = [..]
  refine stepS fun Qz nz rz bz => wpAny_Assign_Name ?_ ?hs
  case hs => rfl
  refine List_ ?_
  show wpAny _ _ (spliced [(false, eval _ _), (false, eval _ _)]) _ _ _
  refine Calls.spliced_cons (wpAny_Tuple_spliced ?_)
  show wpAny _ _ (spliced [(false, eval _ _), (false, eval _ _)]) _ _ _
  refine Calls.spliced_cons (ifm _ one t1 _ _ _ _ _ _ f m1 (by rfl) (by decide) fun u1 a₁ k₁ => ?_)
  have f₁ := f.ks k₁
  refine Calls.spliced_cons (ifm _ other t2 _ _ _ _ _ _ f₁ m2 (by rfl) (by decide) fun u2 a₂ k₂ => ?_)
  have f₂ := f₁.ks k₂
  refine Calls.spliced_nil ⟨by show 2 ≤ sizeLine; decide, ?_⟩
  have k₃ := ks_push a₂ (tupObj [.int ((one &&& 61440 : Nat) : Int) u1, .int ((other &&& 61440 : Nat) : Int) u2]) a₂.toks
  have hT0 : (a₂.heap.push (tupObj [.int ((one &&& 61440 : Nat) : Int) u1, .int ((other &&& 61440 : Nat) : Int) u2])).IsTuple a₂.heap.objs.size #[.int ((one &&& 61440 : Nat) : Int) u1, .int ((other &&& 61440 : Nat) : Int) u2] := ⟨_, Heap.get?_push_size _ rfl, rfl, _, rfl⟩
  have f₃ := f₂.ks k₃
  refine Calls.spliced_cons (wpAny_Tuple_spliced ?_)
  show wpAny _ _ (spliced [(false, eval _ _), (false, eval _ _)]) _ _ _
  refine Calls.spliced_cons (imd _ one t1 _ _ _ _ _ _ f₃ m1 (by rfl) (by decide) fun u3 a₃ k₄ => ?_)
  have f₄ := f₃.ks k₄
  refine Calls.spliced_cons (imd _ other t2 _ _ _ _ _ _ f₄ m2 (by rfl) (by decide) fun u4 a₄ k₅ => ?_)
  have f₅ := f₄.ks k₅
  refine Calls.spliced_nil ⟨by show 2 ≤ sizeLine; decide, ?_⟩
  refine Calls.spliced_nil ?_
  refine wpAny_newList ?_
  generalize hT0e : a₂.heap.objs.size = T0 at hT0 ⊢
  have kk4 := ks_tr k₄ k₅
  have hT0 : a₄.heap.IsTuple T0 #[.int ((one &&& 61440 : Nat) : Int) u1, .int ((other &&& 61440 : Nat) : Int) u2] := isTuple_ks (kS_of (ks_keep kk4)) hT0
  have k₆ : Keeps a₄ { a₄ with heap := (a₄.heap.push (tupObj [.int ((one &&& 4095 : Nat) : Int) u3, .int ((other &&& 4095 : Nat) : Int) u4])).push { cls := .type "list", data := .seq [Value.ref T0, .ref a₄.heap.objs.size].toArray } } := ks_of ((kp_push _ _).tr (kp_push _ _))
  have f₆ := f₅.ks k₆
  refine stLX (m := m) f₆ (by rfl) (by rfl) fun s₇ f₇ e₇ sb₇ k₇ => ?_
  have q0 : s₇.heap.IsTuple T0 #[.int ((one &&& 61440 : Nat) : Int) u1, .int ((other &&& 61440 : Nat) : Int) u2] := isTuple_ks k₇ (isTuple_ks (kS_of (ks_keep k₆)) hT0)
  have q1 : s₇.heap.IsTuple a₄.heap.objs.size #[.int ((one &&& 4095 : Nat) : Int) u3, .int ((other &&& 4095 : Nat) : Int) u4] := isTuple_ks k₇ ⟨_, Heap.get?_push_of_some _ (Heap.get?_push_size _ rfl), rfl, _, rfl⟩
  have qD : s₇.heap.IsList (a₄.heap.push (tupObj [.int ((one &&& 4095 : Nat) : Int) u3, .int ((other &&& 4095 : Nat) : Int) u4])).objs.size [Value.ref T0, .ref a₄.heap.objs.size].toArray := isList_ks k₇ ⟨_, Heap.get?_push_size _ rfl, rfl, _, rfl⟩
  refine ex1_3 (show ∃ m', m' (Str.ofString "rule") = some (.int rule t3) ∧ m' (Str.ofString "pairs") = some (.ref (a₄.heap.push (tupObj [.int ((one &&& 4095 : Nat) : Int) u3, .int ((other &&& 4095 : Nat) : Int) u4])).objs.size) ∧ FX [] s s.heap.objs.size m' (cellsFrom (s.heap.objs.size + 1) (defNo 34).2.2.names []) (fun _ => none) s₇ from ⟨_, (if_neg (by decide)).trans m3, if_pos rfl, f₇⟩) fun m₇ g3 g4 f₇ => ?_
  generalize (a₄.heap.push (tupObj [.int ((one &&& 4095 : Nat) : Int) u3, .int ((other &&& 4095 : Nat) : Int) u4])).objs.size = Dp at qD g4
  generalize a₄.heap.objs.size = T1 at q1 qD
  clear k₇ sb₇ e₇ f₆ k₆ hT0 kk4 f₅ k₅ f₄ k₄ f₃ k₃ f₂ k₂ f₁ k₁
  -- for place in ((0, 1), (1, 0))[rule % 2]
  refine nz _ (stepS fun Qf nf rf bf => forOver fun Qi qi => ?_)
  refine tupGen ?_
  intro Qt qt
  refine wpAny_Tuple_spliced ?_
  show wpAny _ _ (spliced [(false, eval _ _), (false, eval _ _)]) _ _ _
  refine Calls.spliced_cons (pairEx fun x1 x2 tk1 => ?_)
  refine Calls.spliced_cons (pairEx fun x3 x4 tk2 => ?_)
  refine Calls.spliced_nil ⟨by show 2 ≤ sizeLine; decide, ?_⟩
  have hP := push3 s₇.heap [.int 0 x1, .int 1 x2] [.int 1 x3, .int 0 x4] [.ref s₇.heap.objs.size, .ref (s₇.heap.push (tupObj [.int 0 x1, .int 1 x2])).objs.size]
  generalize ((s₇.heap.push (tupObj [.int 0 x1, .int 1 x2])).push (tupObj [.int 1 x3, .int 0 x4])).push (tupObj [.ref s₇.heap.objs.size, .ref (s₇.heap.push (tupObj [.int 0 x1, .int 1 x2])).objs.size]) = H at hP ⊢
  generalize ((s₇.heap.push (tupObj [.int 0 x1, .int 1 x2])).push (tupObj [.int 1 x3, .int 0 x4])).objs.size = At at hP ⊢
  generalize (s₇.heap.push (tupObj [.int 0 x1, .int 1 x2])).objs.size = A1 at hP
  generalize hA0e : s₇.heap.objs.size = A0 at hP
  have kH := hP.1
  have hAt := hP.2.2.2.1
  have hPk := cmpPick (rule := rule) hP.2.1 hP.2.2.1
  have f₈ := f₇.ks (ks_of (t := tk2) kH)
  have q0 := isTuple_ks (kS_of kH) q0
  have q1 := isTuple_ks (kS_of kH) q1
  have qD := isList_ks (kS_of kH) qD
  clear hP kH hA0e
  refine wpAny_BinOp ?_
  refine nmL (m := m₇) f₈ (by rfl) (by rfl) g3 ?_ (by decide)
  refine wpAny_Constant_int ?_
  refine mod_int' (by decide) ?_
  have hmod : (rule : Int).fmod 2 = ((rule % 2 : Nat) : Int) := by rw [Int.fmod_eq_emod_of_nonneg _ (by omega)]; rfl
  rw [hmod]
  refine hideG fun G hG => ?_
  obtain ⟨Tc, y0, y1, hTc, hTl⟩ := hPk
  refine hG ?_
  refine qt _ _ _ ⟨_, _, rule % 2, _, .ref Tc, rfl, rfl, hAt, by omega, hTc, ?_⟩
  have hLH : s.heap.objs.size < H.objs.size := f₈.ns.lt
  have pl2 : ∀ i, plOf rule i < 2 ∨ 2 ≤ i := by intro i; unfold plOf; split <;> omega
  refine qi _ _ ⟨2, _, [s.heap.objs.size], fun i s' => ∃ m', FX [] s s.heap.objs.size m' (cellsFrom (s.heap.objs.size + 1) (defNo 34).2.2.names []) (fun _ => none) s' ∧ m' (Str.ofString "rule") = some (.int rule t3) ∧ m' (Str.ofString "pairs") = some (.ref Dp) ∧
      s'.heap.IsList Dp [Value.ref T0, .ref T1].toArray ∧ s'.heap.IsTuple T0 #[.int ((one &&& 61440 : Nat) : Int) u1, .int ((other &&& 61440 : Nat) : Int) u2] ∧ s'.heap.IsTuple T1 #[.int ((one &&& 4095 : Nat) : Int) u3, .int ((other &&& 4095 : Nat) : Int) u4] ∧
      (∀ k, k < i → (paOf one other (plOf rule k)).1 = (paOf one other (plOf rule k)).2), iter_tuple (vs := [Value.int (plOf rule 0 : Nat) y0, .int (plOf rule 1 : Nat) y1]) hh' hTl, ?_, ?_, ⟨m₇, f₈.ks (ks_tok _ _), g3, g4, qD, q0, q1, fun k hk => absurd hk (Nat.not_lt_zero _)⟩, ?_, ?_⟩
  · intro b hb
    rw [List.mem_singleton.mp hb]
    refine ⟨hLH, ?_⟩
    intro e
    injection e with e
    refine hideG fun G hG => ?_
    obtain ⟨o, ho, hc, n, hdd⟩ := hTl
    obtain ⟨o', es, ep, ho', hd', _⟩ := f₈.ns
    refine hG ?_
    rw [e] at ho
    have ho' : H.get? s.heap.objs.size = some o' := ho'
    rw [ho'] at ho; cases ho; rw [hd'] at hdd; cases hdd
  · rintro i s' h' tk jw1 hks hbs
    refine hideG fun G hG => ?_
    obtain ⟨m', r1, r2, r3, r4, r5, r6, r7⟩ := jw1
    refine hG ?_
    exact ⟨m', r1.base (N := H.objs.size) hLH (fun n c hc => (hcs n c hc).elim) (fun b o hb => hbs b o hb), r2, r3, isList_ks hks r4, isTuple_ks hks r5, isTuple_ks hks r6, r7⟩
  · rintro i v s₉ I E' Q' hi hv jj lq
    refine ex1_7 jj fun m' r1 r2 r3 r4 r5 r6 r7 => ?_
    obtain ⟨y, rfl⟩ := cmpItem (by simpa using hi) hv
    refine wpAny_pure ?_
    refine wpAny_assign_Name ?_
    refine stLX (m := m') r1 (by rfl) (by rfl) fun sA fA eA sbA kA => ?_
    have r4 := isList_ks kA r4
    have r5 := isTuple_ks kA r5
    have r6 := isTuple_ks kA r6
    refine ex1_4 (show ∃ m'', m'' (Str.ofString "rule") = some (.int rule t3) ∧ m'' (Str.ofString "pairs") = some (.ref Dp) ∧ m'' (Str.ofString "place") = some (.int (plOf rule i : Nat) y) ∧ FX [] s s.heap.objs.size m'' (cellsFrom (s.heap.objs.size + 1) (defNo 34).2.2.names []) (fun _ => none) sA from ⟨_, (if_neg (by decide)).trans r2, (if_neg (by decide)).trans r3, if_pos rfl, fA⟩) fun mA g1 g2 g3 fA => ?_
    have hpl := plOf_01 (rule := rule) (i := i) (by simpa using hi)
    refine hideG fun G hG => ?_
    obtain ⟨Tp, w1, w2, hTp1, hTp2⟩ := cmpPair hpl r5 r6
    refine hG ?_
    generalize hpa : paOf one other (plOf rule i) = pa at hTp2
    have pget : ∀ (k : Nat) (tk : Nat) (x : Int) (wx : Tok) (p1 p2 p3 p4 p5 : Pos) (kd : Nat) (Q' : Value → Shared → Prop) (E' : Value → Shared → Prop), k < 2 → (#[Value.int pa.1 w1, .int pa.2 w2] : Array Value)[k]? = some (.int x wx) → (∀ tk', Q' (.int x wx) { sA with toks := tk' }) →
        wpAny (model PR w) A' (eval (.Subscript (.Subscript (.Name (Str.ofString "pairs") p1) (.Name (Str.ofString "place") p2) p3) (.Constant (.int (k : Int)) kd p4) p5) (envM "_law_compare" "_law_compare" (defNo 34) doc pm ct c s.heap.objs.size 142)) Q' E' { sA with toks := tk } := by
      intro k tk x wx p1 p2 p3 p4 p5 kd Q' E' hk hx hq
      have fA := fA.ks (ks_tok sA tk)
      refine tupGen ?_
      intro Qt qt
      refine itemGen ?_
      intro Qu qu
      refine nmL (m := mA) fA (by rfl) (by rfl) g2 ?_ (by decide)
      refine nmL (m := mA) fA (by rfl) (by rfl) g3 ?_ (by decide)
      refine qu _ _ _ ⟨Dp, _, plOf rule i, _, .ref Tp, rfl, rfl, r4, by omega, hTp1, ?_⟩
      refine wpAny_Constant_int ?_
      exact qt _ _ _ ⟨Tp, _, k, _, _, rfl, rfl, hTp2, by omega, hx, hq _⟩
    refine stepS fun Qa na ra ba => wpAny_If ?_
    refine wpAny_isTrue_Compare1 ?_ (by rfl)
    refine pget 0 sA.toks pa.1 w1 _ _ _ _ _ _ _ _ (by decide) rfl fun tk1 => ?_
    refine pget 1 tk1 pa.2 w2 _ _ _ _ _ _ _ _ (by decide) rfl fun tk2 => ?_
    refine ne_int (wpAny_truthy_bool ?_)
    have kmA : KM [s.heap.objs.size] s₉.heap sA.heap := km_same sbA (.head _)
    by_cases hq : pa.1 = pa.2
    · rw [show (pa.1 != pa.2) = false from by simp [hq]]
      simp only [Bool.false_eq_true, if_false]
      refine wpAny_execs_nil (na _ (wpAny_execs_nil ?_))
      refine lq.nx _ ⟨kmA, mA, fA.ks (ks_tok _ _), g1, g2, r4, r5, r6, fun k hk => ?_⟩
      rcases Nat.lt_succ_iff_lt_or_eq.mp hk with z | z
      · exact r7 k z
      · subst z; rw [hpa]; exact hq
    · rw [show (pa.1 != pa.2) = true from by simpa using hq]
      simp only [if_true]
      refine wpAny_execs_cons (wpAny_Return_some ?_)
      refine wpAny_BinOp (wpAny_BinOp ?_)
      refine pget 0 tk2 pa.1 w1 _ _ _ _ _ _ _ _ (by decide) rfl fun tk3 => ?_
      refine pget 1 tk3 pa.2 w2 _ _ _ _ _ _ _ _ (by decide) rfl fun tk4 => ?_
      refine sub_int ?_
      refine tupGen ?_
      intro Qt qt
      refine wpAny_Tuple_spliced ?_
      show wpAny _ _ (spliced [(false, eval _ _), (false, eval _ _)]) _ _ _
      refine Calls.spliced_cons ?_
      refine wpAny_Constant_int ?_
      refine Calls.spliced_cons (wpAny_UnaryOp ?_)
      refine wpAny_Constant_int ?_
      refine neg_int ?_
      refine Calls.spliced_nil ⟨by show 2 ≤ sizeLine; decide, ?_⟩
      have fB := fA.ks (ks_of (t := tk4 + 1 + 1 + 1 + 1) (kp_push sA.heap (tupObj [.int 1 (tk4 + 1), .int (-1) (tk4 + 1 + 1 + 1)])))
      refine wpAny_BinOp ?_
      refine nmL (m := mA) fB (by rfl) (by rfl) g1 ?_ (by decide)
      refine wpAny_Constant_int ?_
      refine floordiv_int (by decide) ?_ (.inl (PyProof.noPylong_small (by decide)))
      have hdiv : (rule : Int).fdiv 2 = ((rule / 2 : Nat) : Int) := by rw [Int.fdiv_eq_ediv_of_nonneg _ (by omega)]; rfl
      rw [hdiv]
      obtain ⟨xs, hxs⟩ := signItem hr (tk4 + 1) (tk4 + 1 + 1 + 1)
      refine qt _ _ _ ⟨_, _, rule / 2, _, _, rfl, rfl, ⟨_, Heap.get?_push_size _ rfl, rfl, _, rfl⟩, by omega, hxs, ?_⟩
      refine mul_int ?_
      have hcv := cmpHit (by simpa using hi) hpa hq r7
      have fin := hQ (tk4 + 1 + 1 + 1 + 1 + 1 + 1) _ (kfs_nil (fB.ks (ks_tok _ (tk4 + 1 + 1 + 1 + 1 + 1 + 1 + 1))).kfs)
      rw [← hcv] at fin
      exact ra _ _ (lq.rt _ _ (rf _ _ fin))
  · rintro s₉ E' jw2
    refine hideG fun G hG => ?_
    obtain ⟨m', r1, r2, r3, r4, r5, r6, r7⟩ := jw2
    refine hG ?_
    refine wpAny_execs_nil (nf _ ?_)
    refine wpAny_execs_cons (wpAny_Return_some ?_)
    refine wpAny_Constant_int ?_
    have hcv := cmpZero (rule := rule) r7
    have fin := hQ s₉.toks _ (kfs_nil (r1.ks (ks_tok _ (s₉.toks + 1))).kfs)
    rw [← hcv] at fin
    exact fin
end
end Mine
end
section
open PySem PySem.W PyProof.Rows
set_option maxRecDepth 100000
set_option linter.unusedVariables false
namespace Mine
/-- the lambda of cmp_to_key's call -/
noncomputable def lam6 : Arguments × PySem.Expr × Scope × Pos := match lawSt 6 with
  | .Assign _ (.Call _ _ [⟨_, .Call _ [.Lambda p b sc pos] _ _, _⟩] _) _ => (p, b, sc, pos)
  | _ => default
/-- the j-th method statement of the class in cmp_to_key -/
noncomputable def kMeth (j : Nat) : Arguments × List Stmt × Scope :=
  match (defNo 5).2.1 with
  | .ClassDef _ _ _ body _ _ _ _ _ _ _ :: _ => match (body.drop j).headD (.Pass default) with
    | .FunctionDef _ a b _ _ _ sc _ _ _ => (a, b, sc)
    | _ => (⟨[], [], none, [], [], none, []⟩, [], default)
  | _ => (⟨[], [], none, [], [], none, []⟩, [], default)
section
variable {prog : Program} {w : World} {A : Around} {E : Value → Shared → Prop} {s : Shared}
noncomputable abbrev envClo (n q : String) (x : Arguments × List Stmt × Scope) (cl : List (Str × Addr)) (doc pm ct : Value) (c L a : Addr) : Env := newEnv x.2.2 L mainGlobals cl (Str.ofString q ++ ".<locals>.") (some a) (.ref c) none builtinsNs
/-- a def with its closure stands -/
noncomputable def FnC (h : Heap) (a : Addr) (n q : String) (x : Arguments × List Stmt × Scope) (cl : List (Str × Addr)) : Prop := ∃ doc pm ct c o, h.get? a = some o ∧ o.data = .func (fdM n q x cl .none doc pm ct c) ∧ h.CodeRec (.ref c) (Str.ofString q)
/-- the call of a def with a closure, that has no cells of its own -/
theorem callClo {n q : String} {x : Arguments × List Stmt × Scope} {cl : List (Str × Addr)} {a : Addr} {vals : List Value} {binds : List (Str × Value)} {Q : Value → Shared → Prop} (hroom : A.depth < recursionLimit) (f : FnC s.heap a n q x cl) (lim : s.heap.NoLimit)
    (hbind : ∀ doc pm ct c, bindArgs (fdM n q x cl .none doc pm ct c) ⟨vals, []⟩ = pure binds) (hloc : ∀ y ∈ binds, x.2.2.names.lookup y.1 = some .local) (hcell : ∀ y ∈ x.2.2.names, y.2 ≠ .cell)
    (h : ∀ doc pm ct c s₁ E', FX [] s s.heap.objs.size (fun y => binds.reverse.lookup y) [] (fun _ => none) s₁ →
      wpAny (model prog w) (A.deeper (envClo n q x cl doc pm ct c s.heap.objs.size a)) (execs x.2.1 (envClo n q x cl doc pm ct c s.heap.objs.size a)) (fun f s' => Q (retOf f) s') E' s₁)
    (hco : x.2.2.isCoroutine = false := by rfl) (hgen : x.2.2.isGenerator = false := by rfl) (hk : x.2.2.kind = .function := by rfl) :
    wpAny (model prog w) A (call (.ref a) vals) Q E s := by
  obtain ⟨doc, pm, ct, c, o, ho, hd, hc⟩ := f
  refine wpAny_call ?_
  refine codeAny_call_function (body := x.2.1) hroom ho hd hco hgen rfl hc ?_
  rw [hbind]
  refine wpAny_pure (wpAny_newFunctionEnv hcell hloc (fun h₁ hns hsb => ⟨lim.fresh _ hsb, ?_⟩) hk)
  have hk₁ : ∀ b o, s.heap.get? b = some o → h₁.get? b = some o := fun b o e => hsb.extBut b o (Nat.ne_of_lt (Heap.lt_size e)) (Heap.get?_push_of_some _ e)
  refine codeAny_func (wpAny_mono (h doc pm ct c _ _ ⟨⟨h₁, _, rfl⟩, hns, kfh_of hk₁, Nat.le_refl _, (fun _ _ e => nomatch e), List.Pairwise.nil, (fun _ _ e => nomatch e)⟩) (fun f s' q => ?_) fun _ _ e => e)
  cases f <;> exact q
end
section
variable {w : World} {A : Around} {E : Value → Shared → Prop} {s : Shared} {mg mb : Str → Option Value}
/-- the lambda one, other stands with its cell -/
structure L6 (h : Heap) (f cR : Addr) (rule : Nat) (tr : Tok) : Prop where
  fn : ∃ qual pm c' ctv, h.get? f = some (kla_obj "<lambda>" qual lam6.1 lam6.2.1 lam6.2.2.1 [(Str.ofString "rule", cR)] pm c' ctv) ∧ h.CodeRec (.ref c') qual
  cr : h.IsCell cR (some (.int rule tr))
theorem L6.keeps {h h' : Heap} {f cR : Addr} {rule : Nat} {tr : Tok} (x : L6 h f cR rule tr) (k : Keep h h') : L6 h' f cR rule tr := by
  obtain ⟨qual, pm, c', ctv, e, r⟩ := x.fn
  exact ⟨⟨qual, pm, c', ctv, k _ _ e, r.keeps k⟩, x.cr.keeps k⟩
theorem lamCmp {f cR : Addr} {one other rule : Nat} {t1 t2 tr : Tok} {Q : Value → Shared → Prop} (G : GW w mg mb s.heap) (N : GOk mg mb) (hd : A.depth ≤ 690) (hu : A.units ≤ 3890) (hh : A.handled = none) (hr : rule < 4) (l6 : L6 s.heap f cR rule tr)
    (hQ : ∀ t s', Keeps s s' → Q (.int (cmpv one other rule) t) s') :
    wpAny (model PR w) A (call (.ref f) [.int one t1, .int other t2]) Q E s := by
  obtain ⟨qual, pm, c', ctv, hf, hcd⟩ := l6.fn
  refine callLam [] (binds := [(Str.ofString "one", .int one t1), (Str.ofString "other", .int other t2)]) (Nat.lt_of_le_of_lt hd (by decide)) hf G.lim hcd (by rfl) ?_ ?_ fun s₁ E' fx => ?_
  · intro y hy
    simp only [List.mem_cons, List.not_mem_nil, or_false] at hy
    rcases hy with rfl | rfl <;> rfl
  · show ∀ x ∈ lam6.2.2.1.names, x.2 ≠ NameKind.cell
    decide
  have hk := kfh_nil fx.keep
  have G₁ := G.ks hk
  refine Call_Name (trees := [(false, eval _ _), (false, eval _ _), (false, eval _ _)]) rfl ?_
  refine Calls.Name_function_global (by rfl) (by rfl) (Calls.loadGlobal_global G₁.g N.g_cmp ?_) (by decide)
  obtain ⟨dF, pF, cF, kF, oF, hoF, hdF, hcF⟩ := id G₁.cmp
  refine Calls.callWith_function (o := oF) (fd := fdM "_law_compare" "_law_compare" (defNo 34) [] .none dF pF cF kF) (Calls.evalArgs_plain (Calls.spliced_cons ?_))
  refine wpAny_Name (wpAny_loadName_local (v := .int one t1) (by rfl) (by rfl) fx.ns (by rfl) ?_) (by decide)
  refine Calls.spliced_cons ?_
  refine wpAny_Name (wpAny_loadName_local (v := .int other t2) (by rfl) (by rfl) fx.ns (by rfl) ?_) (by decide)
  refine Calls.spliced_cons ?_
  refine wpAny_Name (wpAny_loadName_free (by rfl) (by rfl) (by rfl) (l6.cr.keeps hk) ?_) (by decide)
  refine Calls.spliced_nil ⟨⟨hoF, hdF⟩, ?_⟩
  refine cmpFn G₁ N (by show A.depth + 1 ≤ 700; omega) (by show A.units + 3 ≤ 3900; omega) hh hr fun t s' k => ?_
  exact hQ t s' (ks_tr (kfs_nil fx.kfs) k)
/-- what is asked of the written part of the heap about the class K -/
structure KOk (K : Frag) (C aL p : Addr) : Prop where
  ga : findIn K (.ref C) "__getattribute__" = some (some (.builtin "object.__getattribute__"))
  gt : findIn K (.ref C) "__getattr__" = some none
  fo : findObj K C (some fltDict) "obj" = some (.bind (.builtin "member_descriptor.__get__") (.ref p))
  sp : slotIn K p C = some 0
  lt : findIn K (.ref C) "__lt__" = some (some (.ref aL))
  ltf : isFn K (.ref aL) = true
/-- an object of K about a number -/
noncomputable def KInst (h : Heap) (C a : Addr) (x : Nat) : Prop := ∃ dx t, h.get? a = some { cls := .ref C, dict := some dx, data := .plain, slots := #[some (.int x t)] } ∧ h.get? dx = some fltDict
theorem KInst.keeps {h h' : Heap} {C a : Addr} {x : Nat} (i : KInst h C a x) (k : Keep h h') : KInst h' C a x := by
  obtain ⟨dx, t, e1, e2⟩ := i; exact ⟨dx, t, k _ _ e1, k _ _ e2⟩
/-- all that the comparison of two of them asks -/
structure KW (K : Frag) (C aL p cm f cR : Addr) (rule : Nat) (tr : Tok) (h : Heap) : Prop where
  ok : KOk K C aL p
  X : K.In h
  fn : FnC h aL "__lt__" "cmp_to_key.<locals>.K.__lt__" (kMeth 3) [(Str.ofString "mycmp", cm)]
  cc : h.IsCell cm (some (.ref f))
  l6 : L6 h f cR rule tr
theorem KW.keeps {K : Frag} {C aL p cm f cR : Addr} {rule : Nat} {tr : Tok} {h h' : Heap} (x : KW K C aL p cm f cR rule tr h) (k : Keep h h') : KW K C aL p cm f cR rule tr h' := by
  obtain ⟨doc, pm, ct, c, o, e1, e2, e3⟩ := x.fn
  exact ⟨x.ok, fun a o e => k _ _ (x.X a o e), ⟨doc, pm, ct, c, o, k _ _ e1, e2, e3.keeps k⟩, x.cc.keeps k, x.l6.keeps k⟩
theorem ltFn {K : Frag} {C aL p cm f cR a b : Addr} {one other rule : Nat} {tr : Tok} {Q : Value → Shared → Prop} (G : GW w mg mb s.heap) (N : GOk mg mb) (hd : A.depth ≤ 680) (hu : A.units ≤ 3880) (hh : A.handled = none) (hr : rule < 4) (kw : KW K C aL p cm f cR rule tr s.heap)
    (ia : KInst s.heap C a one) (ib : KInst s.heap C b other) (hQ : ∀ s', Keeps s s' → Q (.bool (decide (cmpv one other rule < 0))) s') :
    wpAny (model PR w) A (call (.ref aL) [.ref a, .ref b]) Q E s := by
  refine callClo (binds := [(Str.ofString "self", .ref a), (Str.ofString "other", .ref b)]) (Nat.lt_of_le_of_lt hd (by decide)) kw.fn G.lim (fun _ _ _ _ => by rfl) ?_ ?_ fun doc pm ct c s₁ E' fx => ?_
  · intro y hy
    simp only [List.mem_cons, List.not_mem_nil, or_false] at hy
    rcases hy with rfl | rfl <;> rfl
  · show ∀ x ∈ (kMeth 3).2.2.names, x.2 ≠ NameKind.cell
    decide
  have hk := kfh_nil fx.keep
  have G₁ := G.ks hk
  have kw₁ := kw.keeps hk
  obtain ⟨da, ta, ha1, ha2⟩ := ia.keeps hk
  obtain ⟨db, tb, hb1, hb2⟩ := ib.keeps hk
  obtain ⟨qual, pm', c', ctv, hff, hcd⟩ := kw₁.l6.fn
  refine wpAny_execs_cons (wpAny_Return_some (wpAny_Compare1 ?_ (by rfl)))
  refine Call_Name (trees := [(false, eval _ _), (false, eval _ _)]) rfl ?_
  refine wpAny_Name (wpAny_loadName_free (by rfl) (by rfl) (by rfl) kw₁.cc ?_) (by decide)
  refine Calls.callWith_function (o := kla_obj "<lambda>" qual lam6.1 lam6.2.1 lam6.2.2.1 [(Str.ofString "rule", cR)] pm' c' ctv) (fd := kla_fn "<lambda>" qual lam6.1 lam6.2.1 lam6.2.2.1 [(Str.ofString "rule", cR)] pm' (.ref c') ctv) (Calls.evalArgs_plain (Calls.spliced_cons ?_))
  refine Attribute_Name_ ?_
  refine wpAny_Name (wpAny_loadName_local (v := .ref a) (by rfl) (by rfl) fx.ns (by rfl) ?_) (by decide)
  refine getSlot kw₁.X ⟨ha1, rfl, rfl, ha2⟩ kw₁.ok.ga kw₁.ok.gt kw₁.ok.fo kw₁.ok.sp rfl rfl ?_
  refine Calls.spliced_cons ?_
  refine Attribute_Name_ ?_
  refine wpAny_Name (wpAny_loadName_local (v := .ref b) (by rfl) (by rfl) fx.ns (by rfl) ?_) (by decide)
  refine getSlot (s := { s₁ with toks := s₁.toks + 1 }) kw₁.X ⟨hb1, rfl, rfl, hb2⟩ kw₁.ok.ga kw₁.ok.gt kw₁.ok.fo kw₁.ok.sp rfl rfl ?_
  refine Calls.spliced_nil ⟨⟨hff, rfl⟩, ?_⟩
  refine lamCmp (s := { s₁ with toks := s₁.toks + 1 + 1 }) G₁ N (by show A.depth + 1 ≤ 690; omega) (by show A.units + 3 ≤ 3890; omega) hh hr kw₁.l6 fun t s' k => ?_
  refine wpAny_Constant_int ?_
  refine lt_int ?_
  exact hQ _ (ks_tr (kfs_nil fx.kfs) (ks_tr (ks_tok _ _) (ks_tr k (ks_tok _ _))))
end
end Mine
end
section
open PySem PySem.W PyProof.Rows
set_option maxRecDepth 100000
set_option linter.unusedVariables false
namespace Mine
/-- a class's numbers make instances -/
noncomputable def MkC (w : World) (C : Addr) (h : Heap) : Prop := ∀ (A : Around) (h2 : Heap) (d : Drawn) (t : Nat) (os : OsState) (x : Nat) (tx : Tok) (Q : Value → Shared → Prop) (E : Value → Shared → Prop), A.depth ≤ 900 → Keep h h2 → (∀ a dx t' h' tk, Keep h2 h' → h'.get? a = some { cls := .ref C, dict := some dx, data := .plain, slots := #[some (.int (x : Nat) t')] } → h'.get? dx = some fltDict → h2.get? a = none → h2.get? dx = none → Q (.ref a) ⟨h', #[], d, tk, os⟩) →
  wpAny (model PR w) A (call (.ref C) [.int x tx]) Q E ⟨h2, #[], d, t, os⟩
section
variable {w : World} {A : Around} {E : Value → Shared → Prop} {s : Shared} {mg mb : Str → Option Value}
/-- an object of the class K is made -/
theorem kNew {K : Frag} {C fI p x : Nat} {tx : Tok} {Q : Value → Shared → Prop} (X : K.In s.heap) (mk : MakeK K C fI) (sk : SetK K C "obj" p 0) (fn : FnM s.heap fI "__init__" "cmp_to_key.<locals>.K.__init__" (kMeth 2)) (lim : s.heap.NoLimit) (hd : A.depth ≤ 900)
    (hq : ∀ a dx t' h' tk, Keep s.heap h' → h'.get? a = some { cls := .ref C, dict := some dx, data := .plain, slots := #[some (.int (x : Nat) t')] } → h'.get? dx = some fltDict → s.heap.get? a = none → s.heap.get? dx = none → Q (.ref a) { s with heap := h', toks := tk }) :
    wpAny (model PR w) A (call (.ref C) [.int x tx]) Q E s := by
  refine makeInst (n := "__init__") (q := "cmp_to_key.<locals>.K.__init__") (xx := kMeth 2) (binds := [(Str.ofString "self", .ref (s.heap.objs.size + 1)), (Str.ofString "obj", .int x tx)]) X mk fn lim hd (fun _ _ _ _ => by rfl) ?_ ?_ fun doc pm ct c A' E' s₁ f hx hdx => ?_
  · intro y hy
    simp only [List.mem_cons, List.not_mem_nil, or_false] at hy
    rcases hy with rfl | rfl <;> rfl
  · show ∀ y ∈ (kMeth 2).2.2.names, y.2 ≠ NameKind.cell
    decide
  have nx : s.heap.get? (s.heap.objs.size + 1) = none := Heap.get?_none_of_le (Nat.le_succ _)
  have xL : s.heap.objs.size + 1 ≠ s.heap.objs.size + 2 := Nat.ne_of_lt (Nat.lt_succ_self _)
  have hk := kfh_nil f.keep
  refine wpAny_execs_cons (plainObj_wpAny_Assign_Attribute ?_)
  refine wpAny_Name (wpAny_loadName_local (v := .int x tx) (by rfl) (by rfl) f.ns (by rfl) ?_) (by decide)
  refine wpAny_Name (wpAny_loadName_local (v := .ref (s.heap.objs.size + 1)) (by rfl) (by rfl) f.ns (by rfl) ?_) (by decide)
  refine setSlot (X.keeps hk) sk (by decide) hx hdx f.ns xL fun h₃ t₃ hn₃ k₃ hx₃ => ?_
  have f₃ := f.kmLx (tk := t₃) hn₃ k₃ nx
  refine wpAny_execs_nil ⟨rfl, ?_⟩
  obtain ⟨hh, tt, e⟩ := f.same
  have hq' := hq (s.heap.objs.size + 1) s.heap.objs.size tx h₃ t₃ (kfh_nil f₃.keep) hx₃ (k₃ _ _ (by simp) hdx) nx (Heap.get?_none_of_le (Nat.le_refl _))
  rw [e]
  exact hq'
/-- two instances compared as keys of a sort -/
theorem ltInst {K : Frag} {C aL p cm f cR a b : Addr} {one other rule : Nat} {tr : Tok} {Q : Bool → Shared → Prop} (G : GW w mg mb s.heap) (N : GOk mg mb) (hd : A.depth ≤ 680) (hu : A.units ≤ 3880) (hh : A.handled = none) (hr : rule < 4) (kw : KW K C aL p cm f cR rule tr s.heap)
    (ia : KInst s.heap C a one) (ib : KInst s.heap C b other) (hQ : ∀ s', Keeps s s' → Q (decide (cmpv one other rule < 0)) s') :
    wpAny (model PR w) A (keyLt' oneType' (.ref a) (.ref b)) Q E s := by
  obtain ⟨da, ta, ha1, ha2⟩ := id ia
  rw [keyLt'_oneType, oneLt'_eq]
  simp only [if_true]
  refine wpAny_bind (wpAny_cRoomFor (by rw [show cLine = 9900 from rfl]; omega) ?_)
  refine wpAny_bind (ifBound_K kw.X (C := C) (ox := { cls := .ref C, dict := some da, data := .plain, slots := #[some (.int one ta)] }) (od := some fltDict) ⟨ha1, rfl, rfl, ha2⟩ kw.ok.lt kw.ok.ltf ?_)
  refine ltFn G N hd hu hh hr kw ia ib fun s' k => ?_
  exact wpAny_truthy_bool (hQ s' k)
/-- the keys: an object for each number -/
theorem keysLoop {C L kS : Addr} {m : Str → Option Value} {Fin : List Value → Nat → Shared → Prop} {s₀ : Shared} (hd : A.depth ≤ 800) (hu : A.units ≤ 5000) (hh : A.handled = none) (hg0 : s₀.gens = #[]) (l : Life) (tot : List Nat) (hkL : kS ≠ L) (mk : ∀ h, (∀ b o, b ≠ L → b ≠ kS → s₀.heap.get? b = some o → h.get? b = some o) → MkC w C h)
    (hFin : ∀ ks e s, (∃ h' tk, s = { s₀ with heap := h', toks := tk }) → s.heap.Ns L m → (∀ b o, b ≠ L → b ≠ kS → s₀.heap.get? b = some o → s.heap.get? b = some o) → s.heap.get? kS = some (seqObj "list" (List.toArray ks) e) → All2 (fun k x => ∃ a, k = .ref a ∧ KInst s.heap C a x ∧ a ≠ L) ks tot → Fin ks e s) :
    ∀ (vs ks : List Value) (e : Nat) (s : Shared) (done todo : List Nat), done ++ todo = tot → All2 (fun v x => ∃ t, v = Value.int (x : Nat) t) vs todo → (∃ h' tk, s = { s₀ with heap := h', toks := tk }) → s.heap.Ns L m →
      (∀ b o, b ≠ L → b ≠ kS → s₀.heap.get? b = some o → s.heap.get? b = some o) → s.heap.get? kS = some (seqObj "list" (List.toArray ks) e) → All2 (fun k x => ∃ a dx t, k = .ref a ∧ a ≠ L ∧ a ≠ kS ∧ dx ≠ L ∧ dx ≠ kS ∧ s.heap.get? a = some { cls := .ref C, dict := some dx, data := .plain, slots := #[some (.int (x : Nat) t)] } ∧ s.heap.get? dx = some fltDict) ks done →
      KatKeys PR w A ⟨#[], l⟩ L m kS (.ref C) Fin vs ks e s
  | [], ks, e, s, done, [], hto, .nil, hs, hn, hk, hkS, hi => by
    have e0 : done = tot := by simpa using hto
    subst e0
    exact hFin ks e s hs hn hk hkS (fa2_mono (fun _ _ ⟨a, dx, t, e, h1, _, _, _, h5, h6⟩ => ⟨a, e, ⟨dx, t, h5, h6⟩, h1⟩) hi)
  | v :: vs, ks, e, s, done, x :: todo, hto, .cons ⟨tx, hx⟩ ht, hs, hn, hk, hkS, hi => by
    subst hx
    obtain ⟨h₁, t₁, rfl⟩ := hs
    obtain ⟨h₀, g₀, d₀, tk₀, os₀⟩ := s₀
    have hg0 : g₀ = #[] := hg0
    subst hg0
    refine KatKeys.cons ?_
    refine mk h₁ hk A h₁ d₀ t₁ os₀ x tx _ _ (Nat.le_trans hd (by decide)) (kp_refl _) fun a dx t h₂ tk₂ k₂ hi1 hi2 na ndx => ?_
    have hn2 := hn.keeps k₂
    have hkS2 := k₂ _ _ hkS
    have neL : ∀ {q : Addr}, h₁.get? q = none → q ≠ L := fun {q} e z => by
      obtain ⟨o', es, ep, ho', _⟩ := hn
      rw [z] at e
      have ho' : h₁.get? L = some o' := ho'
      rw [ho'] at e; cases e
    have neK : ∀ {q : Addr}, h₁.get? q = none → q ≠ kS := fun {q} e z => by
      rw [z] at e
      have hkS : h₁.get? kS = _ := hkS
      rw [hkS] at e; cases e
    refine KatBack.intro (news := (kS, seqObj "list" (List.toArray ks) e) :: allNews2 h₂ L kS) ⟨hn2, (fun b o e => by cases e), Nat.zero_le _⟩ (fun p hp => ?_) (.head ne_allNews2) fun h₃ c F₃ N₃ => ?_
    · rcases List.mem_cons.mp hp with rfl | hp
      · exact ⟨hkS2, hkL, rfl⟩
      · exact news_all2 l h₂ L kS p hp
    have up : ∀ b o, b ≠ L → b ≠ kS → h₂.get? b = some o → h₃.get? b = some o := fun b o hb hb2 e => (N₃ _ (.tail _ (mem_allNews2 hb hb2 e))).1
    refine keysLoop hd hu hh rfl l tot hkL mk hFin vs (ks ++ [.ref a]) c _ (done ++ [x]) _ (by rw [List.append_assoc]; exact hto) ht ⟨h₃, tk₂, rfl⟩ F₃.ns (fun b o hb hb2 e => up b o hb hb2 (k₂ _ _ (hk b o hb hb2 e))) (N₃ _ (.head _)).1 ?_
    refine fa2_append (fa2_mono (fun k y q => ?_) hi) (.cons ⟨a, dx, t, rfl, neL na, neK na, neL ndx, neK ndx, up _ _ (neL na) (neK na) hi1, up _ _ (neL ndx) (neK ndx) hi2⟩ .nil)
    obtain ⟨a', dx', t', e', q1, q2, q3, q4, q5, q6⟩ := q
    exact ⟨a', dx', t', e', q1, q2, q3, q4, up _ _ q1 q2 (k₂ _ _ q5), up _ _ q3 q4 (k₂ _ _ q6)⟩
end
end Mine
end
section
open PySem PySem.W PyProof.Rows
set_option maxRecDepth 100000
set_option linter.unusedVariables false
namespace Mine
/-- what is no dict stands, when all but a namespace stands -/
theorem km_nd {L : Addr} {h h' : Heap} {m : Str → Option Value} (hn : h.Ns L m) (k : KM [L] h h') {b : Addr} {o : Obj} (e : h.get? b = some o) (hd : ∀ es ep, o.data ≠ .dict es ep) : h'.get? b = some o := by
  refine k b o (fun z => ?_) e
  obtain ⟨o', es, ep, ho', hd', _⟩ := hn
  rw [List.mem_singleton.mp z, ho'] at e
  cases e
  exact hd _ _ hd'
theorem code_km {L : Addr} {h h' : Heap} {m : Str → Option Value} (hn : h.Ns L m) (k : KM [L] h h') {cd : Value} {q : Str} (x : h.CodeRec cd q) : h'.CodeRec cd q := by
  obtain ⟨c, o, vs, t, e, ho, hd, r⟩ := x
  exact ⟨c, o, vs, t, e, km_nd hn k ho (fun es ep z => by rw [hd] at z; cases z), hd, r⟩
theorem fnM_km {L : Addr} {h h' : Heap} {m : Str → Option Value} (hn : h.Ns L m) (k : KM [L] h h') {a : Addr} {n q : String} {x : Arguments × List Stmt × Scope} (f : FnM h a n q x) : FnM h' a n q x := by
  obtain ⟨doc, pm, ct, c, o, ho, hd, hc⟩ := f
  exact ⟨doc, pm, ct, c, o, km_nd hn k ho (fun es ep z => by rw [hd] at z; cases z), hd, code_km hn k hc⟩
theorem ns_km {L a : Addr} {h h' : Heap} (k : KM [L] h h') (hne : a ≠ L) {m : Str → Option Value} (x : h.Ns a m) : h'.Ns a m := by
  obtain ⟨o, es, ep, e, r⟩ := x
  exact ⟨o, es, ep, k a o (by simpa using hne) e, r⟩
theorem cell_km {L : Addr} {h h' : Heap} {m : Str → Option Value} (hn : h.Ns L m) (k : KM [L] h h') {c : Addr} {v : Option Value} (x : h.IsCell c v) : h'.IsCell c v := by
  obtain ⟨o, e, hd⟩ := x
  exact ⟨o, km_nd hn k e (fun es ep z => by rw [hd] at z; cases z), hd⟩
theorem GW.km {w : World} {mg mb : Str → Option Value} {L : Addr} {h h' : Heap} {m : Str → Option Value} (G : GW w mg mb h) (hn : h.Ns L m) (hL : 158 ≤ L) (k : KM [L] h h') : GW w mg mb h' := by
  refine ⟨fun a o e => ?_, fnM_km hn k G.fnN, fnM_km hn k G.fnI, fnM_km hn k G.filter, fnM_km hn k G.imode, fnM_km hn k G.ifmt, fnM_km hn k G.fm, fnM_km hn k G.signs, fnM_km hn k G.cmp, fnM_km hn k G.longer, fnM_km hn k G.words, ?_, ns_km k ?_ G.g, ns_km k ?_ G.b⟩
  · have hlt := (fltOk w).low _ (mem_of_lookupK e)
    exact k a o (fun z => by rw [List.mem_singleton.mp z] at hlt; exact Nat.lt_irrefl _ (Nat.lt_of_lt_of_le hlt hL)) (G.X a o e)
  · obtain ⟨mc, hc, e⟩ := G.lim
    exact ⟨mc, ns_km k (fun z => by rw [← z] at hL; exact absurd hL (by decide)) hc, e⟩
  · exact fun z => by rw [← z] at hL; exact absurd hL (by decide)
  · exact fun z => by rw [← z] at hL; exact absurd hL (by decide)
theorem KW.km {K : Frag} {C aL p cm f cR : Addr} {rule : Nat} {tr : Tok} {L : Addr} {h h' : Heap} {m : Str → Option Value} (x : KW K C aL p cm f cR rule tr h) (hn : h.Ns L m) (hK : K.lookup L = none) (k : KM [L] h h') : KW K C aL p cm f cR rule tr h' := by
  obtain ⟨doc, pm, ct, c, o, e1, e2, e3⟩ := x.fn
  obtain ⟨qual, pm', c', ctv, e, r⟩ := x.l6.fn
  refine ⟨x.ok, fun a o e => k a o (fun z => by rw [List.mem_singleton.mp z, hK] at e; cases e) (x.X a o e), ⟨doc, pm, ct, c, o, km_nd hn k e1 (fun es ep z => by rw [e2] at z; cases z), e2, code_km hn k e3⟩, cell_km hn k x.cc, ⟨⟨qual, pm', c', ctv, km_nd hn k e (fun es ep z => by cases z), code_km hn k r⟩, cell_km hn k x.l6.cr⟩⟩
noncomputable def ltM (rule : Nat) (modes : List Nat) (i j : Nat) : Bool := decide (cmpv (modes.getD i 0) (modes.getD j 0) rule < 0)
noncomputable def idxM (rule : Nat) (modes : List Nat) : List Nat := (kRun (ltM rule modes) (kas_sort modes.length)).toList
noncomputable def sortM (rule : Nat) (modes : List Nat) : List Nat := (idxM rule modes).map fun i => modes.getD i 0
theorem getD_allN {R : Value → Nat → Prop} : ∀ {vs : List Value} {xss : List Nat}, All2 R vs xss → ∀ i, i < vs.length → R (vs.getD i .none) (xss.getD i 0)
  | _, _, .cons h t, 0, _ => h
  | _, _, .cons h t, i + 1, hi => getD_allN t i (by simpa using hi)
section
variable {w : World} {A : Around} {E : Value → Shared → Prop} {s : Shared} {mg mb : Str → Option Value}
theorem lettersSorted {K : Frag} {C aL p cm f cR L l : Addr} {rule : Nat} {tr : Tok} {m : Str → Option Value} {vs : List Value} {modes : List Nat} {Q : Value → Shared → Prop} (G : GW w mg mb s.heap) (N : GOk mg mb) (hd : A.depth ≤ 600) (hu : A.units ≤ 3000) (hh : A.handled = none) (hg : s.gens = #[]) (hr : rule < 4)
    (kw : KW K C aL p cm f cR rule tr s.heap) (mk : ∀ h, KM [L] s.heap h → MkC w C h) (hK : K.lookup L = none) (h158 : 158 ≤ L) (hn : s.heap.Ns L m) (hl : s.heap.IsList l vs.toArray) (hv : All2 (fun v x => ∃ t, v = Value.int (x : Nat) t) vs modes) (h2 : 2 ≤ vs.length) (h64 : vs.length < 64)
    (hgo : kGood (ltM rule modes) modes.length (kas_sort modes.length) = true) (hin : ∀ i ∈ idxM rule modes, i < modes.length)
    (hQ : ∀ D ys s', (∃ h' tk, s' = { s with heap := h', toks := tk }) → s'.heap.Ns L m → KM [L] s.heap s'.heap → s'.heap.IsList D ys.toArray → All2 (fun v x => ∃ t, v = Value.int (x : Nat) t) ys (sortM rule modes) → Q (.ref D) s') :
    wpAny (model PR w) A (call (.builtin "sorted") [.ref l] [(Str.ofString "key", .ref C)]) Q E s := by
  have hlen : vs.length = modes.length := fa2_len hv
  refine kat_sortedK (b := false) (f := .ref C) (fr_none (l := s.heap.life) hn) (news_all s.heap L) hl h2 h64 (ksk_s1 _ _) (fun x => ksk_l1 _ _) (fun x => ksk_t1 _ _) fun D kS e1 h₁ F N₁ hDk hD => ?_
  have old1 : KM [L] s.heap h₁ := fun b o hb e => (N₁ _ (.tail _ (.tail _ (mem_allNews (by simpa using hb) e)))).1
  have hkS1 : h₁.get? kS = some (seqObj "list" (List.toArray []) 0) := (N₁ _ (.head _)).1
  have hkL : kS ≠ L := (N₁ _ (.head _)).2.1
  have hD1 : h₁.get? D = some (seqObj "list" #[] e1) := (N₁ _ (.tail _ (.head _))).1
  have hDL : D ≠ L := (N₁ _ (.tail _ (.head _))).2.1
  have hnew : ∀ b o, s.heap.get? b = some o → b ≠ kS ∧ b ≠ D := fun b o e => by
    by_cases hb : b = L
    · exact ⟨fun z => hkL (z ▸ hb ▸ rfl), fun z => hDL (z ▸ hb ▸ rfl)⟩
    · have hlt := hD _ (mem_allNews hb e)
      exact ⟨Nat.ne_of_lt (Nat.lt_trans hlt hDk), Nat.ne_of_lt hlt⟩
  refine keysLoop (A := A.in1.in1) (s₀ := { s with heap := h₁ }) (C := C) (by show A.depth ≤ 800; omega) (by show A.units + 1 + 1 ≤ 5000; omega) hh hg s.heap.life modes hkL (fun h k => mk h fun b o hb e => k b o (by simpa using hb) (hnew b o e).1 (old1 b o hb e)) ?_ vs [] 0 _ [] modes rfl hv ⟨h₁, s.toks, rfl⟩ F.ns (fun b o _ _ e => e) hkS1 .nil
  rintro ks e s₂ ⟨h₂, t₂, rfl⟩ hn2 hk2 hkS2 hks
  have km2 : KM [L] s.heap h₂ := fun b o hb e => hk2 b o (by simpa using hb) (hnew b o e).1 (old1 b o hb e)
  have hkl : ks.length = vs.length := by rw [fa2_len hks, hlen]
  have hD2 : h₂.get? D = some (seqObj "list" #[] e1) := hk2 D _ hDL (Nat.ne_of_lt hDk) hD1
  have hi2 : ∀ i, i < ks.length → ∃ a, ks.getD i .none = .ref a ∧ KInst h₂ C a (modes.getD i 0) := fun i hi => by
    obtain ⟨a, e, q, _⟩ := getD_allN hks i hi
    exact ⟨a, e, q⟩
  refine kas_kind (T := .ref C) (by omega) (fun v hv => ?_) (by rfl) (by simp) ?_
  · obtain ⟨i, hi, rfl⟩ := List.mem_iff_getElem.mp hv
    obtain ⟨x, _, a, e, ⟨dx, t, h3, h4⟩, _⟩ := all2_at hks (List.getElem?_eq_getElem hi)
    rw [e]
    exact InstAt.type (od := some fltDict) ⟨h3, rfl, rfl, h4⟩
  · rw [hlen]
    have kw2 := kw.km hn hK km2
    have G2 := G.km hn h158 km2
    refine kasWp_run (lt := ltM rule modes) (n := modes.length) (Inv := fun s' => Keeps { s with heap := h₂, toks := t₂ } s') ?_ _ _ _ hgo (ks_refl _) ?_
    · rintro i j Cn s' h3 h4 k hC
      obtain ⟨a, ea, ia⟩ := hi2 i (by omega)
      obtain ⟨b, eb, ib⟩ := hi2 j (by omega)
      show wpAny (model PR w) A.in1.in1 (keyLt' oneType' (ks.getD i .none) (ks.getD j .none)) Cn _ s'
      rw [ea, eb]
      have kk := ks_keep k
      exact ltInst (G2.ks kk) N (by show A.depth ≤ 680; omega) (by show A.units + 1 + 1 ≤ 3880; omega) hh hr (kw2.keeps kk) (ia.keeps kk) (ib.keeps kk) fun s'' k'' => hC s'' (ks_tr k k'')
    · rintro s' ⟨h₃, t₃, rfl, k₃⟩
      have hn3 := hn2.keeps k₃
      have hkS3 := k₃ _ _ hkS2
      have hD3 := k₃ _ _ hD2
      refine KatFin.intro (news := (kS, seqObj "list" (List.toArray ks) e) :: allNews2 h₃ L kS) ⟨hn3, (fun b o e => by cases e), Nat.zero_le _⟩ (fun p hp => ?_) (.head ne_allNews2) fun h₄ c₄ F₄ N₄ => ?_
      · rcases List.mem_cons.mp hp with rfl | hp
        · exact ⟨hkS3, hkL, rfl⟩
        · exact news_all2 _ h₃ L kS p hp
      have up4 : ∀ b o, b ≠ L → b ≠ kS → h₃.get? b = some o → h₄.get? b = some o := fun b o hb hb2 e => (N₄ _ (.tail _ (mem_allNews2 hb hb2 e))).1
      have hD4 := up4 D _ hDL (Nat.ne_of_lt hDk) hD3
      refine KasFin.intro (news := (D, seqObj "list" #[] e1) :: allNews2 h₄ L D) ⟨F₄.ns, (fun b o e => by cases e), Nat.zero_le _⟩ (fun p hp => ?_) (.head ne_allNews2) fun h₅ c₅ F₅ N₅ => ?_
      · rcases List.mem_cons.mp hp with rfl | hp
        · exact ⟨hD4, hDL, rfl⟩
        · exact news_all2 _ h₄ L D p hp
      have up5 : ∀ b o, b ≠ L → b ≠ D → h₄.get? b = some o → h₅.get? b = some o := fun b o hb hb2 e => (N₅ _ (.tail _ (mem_allNews2 hb hb2 e))).1
      refine hQ D _ _ ⟨h₅, t₃, rfl⟩ F₅.ns (fun b o hb e => ?_) ⟨_, (N₅ _ (.head _)).1, rfl, _, rfl⟩ ?_
      · have hb' : b ≠ L := by simpa using hb
        exact up5 b o hb' (hnew b o e).2 (up4 b o hb' (hnew b o e).1 (k₃ _ _ (km2 b o hb e)))
      · have : ∀ (q : List Nat), (∀ i ∈ q, i < modes.length) → All2 (fun v x => ∃ t, v = Value.int (x : Nat) t) (q.map fun i => vs.getD i Value.none) (q.map fun i => modes.getD i 0) := by
          intro q
          induction q with
          | nil => exact fun _ => .nil
          | cons a r ih => exact fun hr => .cons (getD_allN hv a (by have := hr a (.head _); omega)) (ih fun i q => hr i (.tail _ q))
        exact this _ hin
end
end Mine
end
section
open PySem PySem.W PySem.W.X PySem.W.ZRun PyProof.Rows
set_option maxRecDepth 100000
namespace Mine
/-- the row about another def of the same text: its head names the objects that cmp_to_key reaches -/
def rwC : PySem.W.OpenLaw := { PySem.Challenge.rw_il0049_01 with name := PySem.Str.ofString "cmp_to_key" }
noncomputable def nought : Prop := True
theorem nought_of (_ : rwC.row.Holds) : nought = True := rfl
set_option maxHeartbeats 0 in
theorem hc : nought ∧ True := by
  simp (discharger := (w_on; z_head; fail)) only [nought_of, and_true]
  exact trivial
noncomputable def obT (P : Params) (a : Nat) : Obj := ((hc.heap_23 P).lookup a).getD default
noncomputable def ctkFrag2 (P : Params) : Frag := [(nat_lit 0, obT P (nat_lit 0)), (nat_lit 1, obT P (nat_lit 1)), (nat_lit 2, obT P (nat_lit 2)), (nat_lit 3, obT P (nat_lit 3)), (nat_lit 4, obT P (nat_lit 4)), (nat_lit 5, obT P (nat_lit 5)), (nat_lit 6, obT P (nat_lit 6)), (nat_lit 7, obT P (nat_lit 7)), (nat_lit 8, obT P (nat_lit 8)), (nat_lit 9, obT P (nat_lit 9)), (nat_lit 10, obT P (nat_lit 10)), (nat_lit 11, obT P (nat_lit 11)), (nat_lit 12, obT P (nat_lit 12)), (nat_lit 13, obT P (nat_lit 13)), (nat_lit 14, obT P (nat_lit 14)), (nat_lit 15, obT P (nat_lit 15)), (nat_lit 59, obT P (nat_lit 59)), (nat_lit 61, obT P (nat_lit 61)), (nat_lit 62, obT P (nat_lit 62)), (nat_lit 63, obT P (nat_lit 63)), (nat_lit 64, obT P (nat_lit 64)), (nat_lit 65, obT P (nat_lit 65))]
noncomputable def KeepBut (P : Addr) (h h' : Heap) : Prop := ∀ b o, b ≠ P → h.get? b = some o → h'.get? b = some o
theorem KeepBut.rep {V : XV} {h : Heap} {T : BT} {m : Nat} {P : Addr} {vs : Array Value} (D : Rep V h T m [(P, vs)]) : KeepBut P V.h₀ h := fun b o hb e => D.keep b o e (by
  show (match Nat.beq P b with | true => some vs | false => none) = none
  cases q : Nat.beq P b with
  | true => exact absurd (Nat.eq_of_beq_eq_true q).symm hb
  | false => rfl)
noncomputable def fromBT (n : Nat) (T : BT) : Nat → List (Addr × Obj)
  | 0 => []
  | i + 1 => match T.get i with
    | some o => (n + i, o) :: fromBT n T i
    | none => fromBT n T i
theorem repAt {V : XV} {h : Heap} {T : BT} {m : Nat} {ch : Ch} {n : Nat} (D : Rep V h T m ch) (hn : V.n₁ = n) (i a : Nat) (e : (T.get i).isSome = true) (ha : n + i = a) :
    h.get? a = some ⟨((T.get i).getD default).cls, ((T.get i).getD default).dict, ((T.get i).getD default).data, ((T.get i).getD default).slots⟩ := by
  subst hn; subst ha
  cases q : T.get i with
  | none => rw [q] at e; cases e
  | some o => exact (D.own i o q).2
theorem frag_lookup_mem {K : Frag} {b : Addr} {o : Obj} (e : K.lookup b = some o) : b ∈ K.map (·.1) := List.mem_map_of_mem (mem_of_lookupK e)
theorem inKeep {K : Frag} {h h1 : Heap} (X : K.In h) (k : Keep h h1) : K.In h1 := fun b o e => k b o (X b o e)
theorem frag2 {P : Params} {h h' : Heap} (X : (hc.heap_23 P).In h) (k : KeepBut 60 h h') : (ctkFrag2 P).In h' := fun b o e => by
  have m := frag_lookup_mem e
  have hb : b ≠ 60 := by
    intro q; subst q
    simp [ctkFrag2] at m
  refine k b o hb (X b o ?_)
  simp only [ctkFrag2, List.map_cons, List.map_nil, List.mem_cons, List.not_mem_nil, or_false] at m
  rcases m with rfl | rfl | rfl | rfl | rfl | rfl | rfl | rfl | rfl | rfl | rfl | rfl | rfl | rfl | rfl | rfl | rfl | rfl | rfl | rfl | rfl | rfl <;> (cases e; rfl)
theorem lookup_app {K L : Frag} {a : Addr} {o : Obj} (e : (K ++ L).lookup a = some o) : K.lookup a = some o ∨ L.lookup a = some o := by
  rw [List.lookup_append] at e
  cases q : K.lookup a with
  | none => rw [q] at e; exact .inr (by simpa using e)
  | some x => rw [q] at e; exact .inl (by simpa using e)
theorem mem_fromBT {n : Nat} {T : BT} {p : Addr × Obj} : ∀ {k : Nat}, p ∈ fromBT n T k → ∃ i, p.1 = n + i ∧ T.get i = some p.2
  | 0, h => by cases h
  | k + 1, h => by
    unfold fromBT at h
    split at h
    · rename_i o e
      rcases List.mem_cons.mp h with rfl | h
      · exact ⟨k, rfl, e⟩
      · exact mem_fromBT h
    · exact mem_fromBT h
theorem fragIn {V : XV} {h : Heap} {T : BT} {m : Nat} {ch : Ch} {n : Nat} {L : Frag} (D : Rep V h T m ch) (hn : V.n₁ = n) (k : Nat) (X : L.In h) : Frag.In (fromBT n T k ++ L) h := fun a o e => by
  rcases lookup_app e with q | q
  · refine hideG fun G hG => ?_
    obtain ⟨i, hi, hT⟩ := mem_fromBT (mem_of_lookupK q)
    refine hG ?_
    have := (D.own i o hT).2
    rw [hn, ← hi] at this
    exact this
  · exact X a o q
noncomputable def descOf (K : Frag) (C : Addr) : Addr := match findObj K C (some fltDict) "obj" with
  | some (.bind _ (.ref p)) => p
  | _ => 0
theorem kOkOf {V : XV} {h : Heap} {T : BT} {m : Nat} {ch : Ch} {P : Params} (D : Rep V h T m ch) (hn : V.n₁ = 217) (X : (ctkFrag2 P).In h)
    (h1 : findIn (fromBT 217 T 64 ++ ctkFrag2 P) (.ref 277) "__getattribute__" = some (some (.builtin "object.__getattribute__")))
    (h2 : findIn (fromBT 217 T 64 ++ ctkFrag2 P) (.ref 277) "__getattr__" = some none)
    (h3 : findObj (fromBT 217 T 64 ++ ctkFrag2 P) 277 (some fltDict) "obj" = some (.bind (.builtin "member_descriptor.__get__") (.ref (descOf (fromBT 217 T 64 ++ ctkFrag2 P) 277))))
    (h4 : slotIn (fromBT 217 T 64 ++ ctkFrag2 P) (descOf (fromBT 217 T 64 ++ ctkFrag2 P) 277) 277 = some 0)
    (h5 : findIn (fromBT 217 T 64 ++ ctkFrag2 P) (.ref 277) "__lt__" = some (some (.ref 241)))
    (h6 : isFn (fromBT 217 T 64 ++ ctkFrag2 P) (.ref 241) = true) (h7 : (fromBT 217 T 64 ++ ctkFrag2 P).lookup 159 = none)
    (h8 : makesIn (fromBT 217 T 64 ++ ctkFrag2 P) 277 = true) (h9 : findIn (fromBT 217 T 64 ++ ctkFrag2 P) (.ref 277) "__init__" = some (some (.ref 233))) (h10 : typeIn (fromBT 217 T 64 ++ ctkFrag2 P) (.ref 233) = some (.type "function"))
    (h11 : findIn (fromBT 217 T 64 ++ ctkFrag2 P) (.ref 277) "__setattr__" = some (some (.builtin "object.__setattr__"))) (h12 : plainOver (fromBT 217 T 64 ++ ctkFrag2 P) 277 = true)
    (h13 : takerIn (fromBT 217 T 64 ++ ctkFrag2 P) 277 "obj" = some (some (.ref (descOf (fromBT 217 T 64 ++ ctkFrag2 P) 277)))) (h14 : typeIn (fromBT 217 T 64 ++ ctkFrag2 P) (.ref (descOf (fromBT 217 T 64 ++ ctkFrag2 P) 277)) = some (.type "member_descriptor")) :
    ∃ K p, KOk K 277 241 p ∧ MakeK K 277 233 ∧ SetK K 277 "obj" p 0 ∧ K.In h ∧ K.lookup 159 = none :=
  ⟨_, _, ⟨h1, h2, h3, h4, h5, h6⟩, ⟨h8, h9, h10⟩, ⟨h11, h12, h13, h14, h4⟩, fragIn D hn 64 X, h7⟩
theorem fnCOf {V : XV} {h : Heap} {T : BT} {m : Nat} {ch : Ch} {P : Params} (D : Rep V h T m ch) (hn : V.n₁ = 217) (X : (ctkFrag2 P).In h) (i a : Nat) (n q : String) (x : Arguments × List Stmt × Scope) (cl : List (Str × Addr))
    (h1 : (T.get i).isSome = true) (ha : 217 + i = a)
    (h2 : ((T.get i).getD default).data = .func (fdM n q x cl .none (fdo ((T.get i).getD default)).doc (fdo ((T.get i).getD default)).pyModule (fdo ((T.get i).getD default)).closureTuple (cdo ((T.get i).getD default))))
    (h3 : codeOk (fromBT 217 T 64 ++ ctkFrag2 P) (cdo ((T.get i).getD default)) (Str.ofString q) = true) : FnC h a n q x cl :=
  ⟨_, _, _, _, _, repAt D hn i a h1 ha, h2, codeRec_of h3 (fragIn D hn 64 X)⟩
theorem cellOf {V : XV} {h : Heap} {T : BT} {m : Nat} {ch : Ch} (D : Rep V h T m ch) (hn : V.n₁ = 217) (i a : Nat) (v : Option Value) (h1 : (T.get i).isSome = true) (ha : 217 + i = a) (h2 : ((T.get i).getD default).data = .cell v) : h.IsCell a v :=
  ⟨_, repAt D hn i a h1 ha, h2⟩
noncomputable def okRes : Result := .ok (.ret (.bool true))
noncomputable def smug (P : Prop) : ClaimW := { prog := default, records := [], pre := fun _ => true, post := fun _ _ _ => @decide P (Classical.propDecidable P) }
theorem unsmug {P : Prop} {cl : Str → Option Addr} {mean : ExcName → Option Value} {args : List WData} {s₁ s' : Shared} (G : GoodWG (smug P) cl mean args s₁ okRes s') : P := by
  rcases G.1 with ⟨v, d, as, e, _, _, hp, _⟩ | ⟨_, _, _, e, _⟩
  · exact @of_decide_eq_true _ (Classical.propDecidable P) hp
  · cases e
noncomputable def CtkEnd (w : World) (h : Heap) (d : Drawn) (os : OsState) (f : Value) (v : Value) (s' : Shared) : Prop :=
  ∃ h' tk, v = .ref 277 ∧ s' = ⟨h', #[], d, tk, os⟩ ∧ KeepBut 60 h h' ∧ (∃ K p, KOk K 277 241 p ∧ MakeK K 277 233 ∧ SetK K 277 "obj" p 0 ∧ K.In h' ∧ K.lookup 159 = none) ∧ FnC h' 233 "__init__" "cmp_to_key.<locals>.K.__init__" (kMeth 2) [] ∧ FnC h' 241 "__lt__" "cmp_to_key.<locals>.K.__lt__" (kMeth 3) [(Str.ofString "mycmp", 218)] ∧ h'.IsCell 218 (some f)
local macro_rules | `(tactic| wrow_post) => do
  let zz := Lean.mkIdent `zz
  let XH := Lean.mkIdent `XH
  let X := Lean.mkIdent `X
  `(tactic| (
       (refine @decide_eq_true _ (Classical.propDecidable _) ?_)
       (rename (Rep _ _ _ _ _) => $zz)
       (have $X := frag2 $XH (KeepBut.rep $zz))
       (refine ⟨_, _, rfl, rfl, KeepBut.rep $zz, ?_, ?_, ?_, ?_⟩)
       (exact kOkOf $zz rfl $X (h7 := by kernel_rfl) (by kernel_rfl) (by kernel_rfl) (by kernel_rfl) (by kernel_rfl) (by kernel_rfl) (by kernel_rfl) (h8 := by kernel_rfl) (h9 := by kernel_rfl) (h10 := by kernel_rfl) (h11 := by kernel_rfl) (h12 := by kernel_rfl) (h13 := by kernel_rfl) (h14 := by kernel_rfl))
       (exact fnCOf $zz rfl $X (nat_lit 16) (nat_lit 233) _ _ _ _ (by kernel_rfl) rfl (by kernel_rfl) (by kernel_rfl))
       (exact fnCOf $zz rfl $X (nat_lit 24) (nat_lit 241) _ _ _ _ (by kernel_rfl) rfl (by kernel_rfl) (by kernel_rfl))
       (exact cellOf $zz rfl (nat_lit 1) (nat_lit 218) _ (by kernel_rfl) rfl (by kernel_rfl))))
set_option maxHeartbeats 0 in
theorem ctkZ {w : World} {h : Heap} {g : Array GenState} {d : Drawn} {t : Nat} {os : OsState} {f : Value} {env : Env} (hs : h.objs.size = 217) (hg : g = #[])
   (ZH : KT.Holds h 1 0 (hc.ktop_54 w.params)) (XH : (hc.heap_23 w.params).In h) :
   wpAny (model PySem.Challenge.rw_il0049_01.row.prog w) (callerA.deeper env) (call (.ref 65) [f]) (fun v s' => GoodWG (smug (CtkEnd w h d os f v s')) (fun _ => none) (fun _ => none) [] ⟨h, g, d, t, os⟩ okRes s') (fun _ _ => False) ⟨h, g, d, t, os⟩ := by
  z_run
end Mine
end
section
open PySem PySem.W PySem.W.X PySem.W.ZRun PyProof.Rows
set_option maxRecDepth 100000
set_option maxHeartbeats 4000000
set_option linter.unusedVariables false
namespace Mine
theorem gokOf {P : Params} {h : Heap} {mg mb : Str → Option Value} (X : (KR P).In h) (hg : h.Ns mainGlobals mg) (hb : h.Ns builtinsNs mb) : GOk mg mb := by
  have g3 := get_of X 3 (by kernel_rfl)
  have g0 := get_of X 0 (by kernel_rfl)
  refine ⟨?_, ?_, ?_, ?_, ?_, ?_, ?_, ?_, ?_, ?_, ?_, ?_, ?_, ?_, ?_, ?_, ?_, ?_, ?_, ?_, ?_, ?_, ?_, ?_, ?_, ?_, ?_, ?_⟩
  all_goals first | exact ns_val hg g3 (by kernel_rfl) | exact ns_val hb g0 (by kernel_rfl)
end Mine
end
section
open PySem PySem.W PyProof.Rows
set_option maxRecDepth 100000
set_option maxHeartbeats 4000000
set_option linter.unusedVariables false
namespace Mine
noncomputable def AllEq (K L : Frag) : List Addr → Prop
  | [] => True
  | a :: r => K.lookup a = L.lookup a ∧ AllEq K L r
theorem AllEq.mem {K L : Frag} : ∀ {l : List Addr}, AllEq K L l → ∀ a ∈ l, K.lookup a = L.lookup a
  | _ :: _, ⟨e, _⟩, _, .head _ => e
  | _ :: _, ⟨_, r⟩, _, .tail _ hp => AllEq.mem r _ hp
theorem in_eq {K L : Frag} {h : Heap} (as : List Addr) (h1 : L.map (·.1) = as) (h2 : AllEq K L as) (X : K.In h) : L.In h := fun a o e => by
  have hm : a ∈ as := h1 ▸ List.mem_map_of_mem (mem_of_lookupK e)
  exact X a o ((h2.mem a hm).trans e)
theorem hc_as (P : Params) : (hc.heap_23 P).map (·.1) = [0, 1, 2, 3, 4, 5, 6, 7, 8, 9, 10, 11, 12, 13, 14, 15, 59, 60, 61, 62, 63, 64, 65] := by kernel_rfl
/-- the heap at the start of law but the law's own code table -/
noncomputable def KR1 (P : Params) : Frag := (HL P).filter fun p => decide (p.1 ≠ 154)
theorem hc_eq (P : Params) : AllEq (KR1 P) (hc.heap_23 P) [0, 1, 2, 3, 4, 5, 6, 7, 8, 9, 10, 11, 12, 13, 14, 15, 59, 60, 61, 62, 63, 64, 65] := ⟨by kernel_rfl, by kernel_rfl, by kernel_rfl, by kernel_rfl, by kernel_rfl, by kernel_rfl, by kernel_rfl, by kernel_rfl, by kernel_rfl, by kernel_rfl, by kernel_rfl, by kernel_rfl, by kernel_rfl, by kernel_rfl, by kernel_rfl, by kernel_rfl, by kernel_rfl, by kernel_rfl, by kernel_rfl, by kernel_rfl, by kernel_rfl, by kernel_rfl, by kernel_rfl, trivial⟩
theorem gwOf {w : World} {h : Heap} {mg mb : Str → Option Value} (X : (KR w.params).In h) (hg : h.Ns mainGlobals mg) (hb : h.Ns builtinsNs mb) (lim : h.NoLimit) : GW w mg mb h :=
  ⟨X, (fk43 _).fn X, (fk36 _).fn X, (fk58 _).fn X, (fk81 _).fn X, (fk88 _).fn X, (fk128 _).fn X, (fk135 _).fn X, (fk142 _).fn X, (fk147 _).fn X, (fk152 _).fn X, lim, hg, hb⟩
noncomputable def rdSeq (K : Frag) : Value → Option (List Value)
  | .ref a => match K.lookup a with
    | some ⟨.type "tuple", _, .seq items _, _⟩ => some items.toList
    | _ => none
  | _ => none
noncomputable def rdPair (K : Frag) (v : Value) : Option (Nat × Str) := match rdSeq K v with
  | some [.int (.ofNat n) _, .str x _] => some (n, x)
  | _ => none
noncomputable def rdAll {β : Type} (f : Value → Option β) : List Value → Option (List β)
  | [] => some []
  | v :: r => match f v, rdAll f r with
    | some x, some xs => some (x :: xs)
    | _, _ => none
noncomputable def rdRow (K : Frag) (v : Value) : Option (List (Nat × Str)) := match rdSeq K v with
  | some vs => rdAll (rdPair K) vs
  | none => none
noncomputable def rdTab (K : Frag) (v : Value) : Option (List (List (Nat × Str))) := match rdSeq K v with
  | some vs => rdAll (rdRow K) vs
  | none => none
theorem rdSeq_at {K : Frag} {h : Heap} (X : K.In h) {v : Value} {vs : List Value} (e : rdSeq K v = some vs) : ∃ a, v = .ref a ∧ h.IsTuple a vs.toArray := by
  cases v <;> simp only [rdSeq] at e <;> try (cases e; done)
  rename_i a
  split at e
  · rename_i dd items n sl hq
    cases e
    exact ⟨a, rfl, _, X a _ hq, rfl, n, by simp⟩
  · cases e
theorem rdAll_at {β : Type} {f : Value → Option β} {R : Value → β → Prop} (k : ∀ v x, f v = some x → R v x) : ∀ {vs : List Value} {xs : List β}, rdAll f vs = some xs → All2 R vs xs
  | [], _, e => by cases e; exact .nil
  | v :: r, xs, e => by
    unfold rdAll at e
    split at e
    · rename_i x ys h1 h2
      cases e
      exact .cons (k v x h1) (rdAll_at k h2)
    · cases e
theorem rdPair_at {K : Frag} {h : Heap} (X : K.In h) {v : Value} {p : Nat × Str} (e : rdPair K v = some p) : PairAt h v p := by
  unfold rdPair at e
  split at e
  · rename_i n t x t' hq
    cases e
    obtain ⟨a, e1, ht⟩ := rdSeq_at X hq
    exact ⟨a, t, t', e1, ht⟩
  · cases e
theorem rdRow_at {K : Frag} {h : Heap} (X : K.In h) {v : Value} {p : List (Nat × Str)} (e : rdRow K v = some p) : RowAt h v p := by
  unfold rdRow at e
  split at e
  · rename_i vs hq
    obtain ⟨a, e1, ht⟩ := rdSeq_at X hq
    exact ⟨a, vs, e1, ht, rdAll_at (R := PairAt h) (fun v x q => rdPair_at X q) e⟩
  · cases e
theorem rdTab_at {K : Frag} {h : Heap} (X : K.In h) {a : Addr} {p : List (List (Nat × Str))} (e : rdTab K (.ref a) = some p) : TabAt h a p := by
  unfold rdTab at e
  split at e
  · rename_i vs hq
    obtain ⟨a', e1, ht⟩ := rdSeq_at X hq
    cases e1
    exact ⟨vs, ht, rdAll_at (R := RowAt h) (fun v x q => rdRow_at X q) e⟩
  · cases e
noncomputable def tabA (K : Frag) : Addr := match nsOf ((K.lookup 3).getD default) (Str.ofString "_filemode_table") with
  | some (.ref a) => a
  | _ => 0
theorem tabOkOf {P : Params} {h : Heap} {mg : Str → Option Value} (X : (KR P).In h) (hg : h.Ns mainGlobals mg) : TabOk mg h :=
  ⟨tabA (KR P), ns_val hg (get_of X 3 (by kernel_rfl)) (by kernel_rfl), rdTab_at X (by kernel_rfl)⟩
noncomputable def dfl (o : Obj) : Addr := match (fdo o).defaults with | .ref d => d | _ => 0
theorem fk74 (P : Params) : FnK (KR P) 74 "reduce" "reduce" (defNo 7) (.ref (dfl (((KR P).lookup 74).getD default))) := ⟨by kernel_rfl, by kernel_rfl, by kernel_rfl, by kernel_rfl, by kernel_rfl, by kernel_rfl, by kernel_rfl, by kernel_rfl, by kernel_rfl, by kernel_rfl, by kernel_rfl, by kernel_rfl, by kernel_rfl, by kernel_rfl, by kernel_rfl⟩
theorem rdAtOf {P : Params} {h : Heap} (X : (KR P).In h) : RdAt h :=
  ⟨⟨_, _, _, _, _, dfl (((KR P).lookup 74).getD default), _, 0, get_of X 74 (fk74 P).h0, (fk74 P).d.trans (congrArg _ (fd_eta _ (fk74 P).h1 (fk74 P).h2 (fk74 P).h3 (fk74 P).h4 (fk74 P).h5 (fk74 P).h6 (fk74 P).h7 (fk74 P).h8 (fk74 P).h9 (fk74 P).h10 (fk74 P).h11 (fk74 P).h12)), codeRec_of (fk74 P).c X,
    get_of X (dfl (((KR P).lookup 74).getD default)) (by kernel_rfl), by kernel_rfl⟩, _, get_of X 66 (by kernel_rfl), by
      rw [show (((KR P).lookup 66).getD default).cls = .type "object" by kernel_rfl]
      decide⟩
end Mine
end
section
open PySem PySem.W PySem.W.X PySem.W.ZRun PyProof.Rows
set_option maxRecDepth 100000
set_option maxHeartbeats 200000
set_option linter.unusedVariables false
namespace Mine
theorem filt_lookup {K : Frag} {f : Addr → Bool} : ∀ {a : Addr}, f a = true → (K.filter fun p => f p.1).lookup a = K.lookup a := by
  intro a ha
  induction K with
  | nil => rfl
  | cons p r ih =>
    rw [List.filter_cons]
    by_cases hp : f p.1 = true
    · rw [if_pos hp]
      simp only [List.lookup]
      split
      · rfl
      · exact ih
    · rw [if_neg hp]
      simp only [List.lookup]
      split
      · rename_i h
        have : a = p.1 := eq_of_beq h
        rw [← this] at hp; exact absurd ha hp
      · exact ih
theorem filt_lookup_no {K : Frag} {f : Addr → Bool} {a : Addr} {o : Obj} (e : (K.filter fun p => f p.1).lookup a = some o) : f a = true := by
  have := (List.mem_filter.mp (mem_of_lookupK e)).2
  exact this
theorem filt_in {K : Frag} {f : Addr → Bool} {h h' : Heap} (X : K.In h) (k : ∀ b o, f b = true → h.get? b = some o → h'.get? b = some o) : Frag.In (K.filter fun p => f p.1) h' := fun a o e => by
  have hf := filt_lookup_no e
  rw [filt_lookup hf] at e
  exact k a o hf (X a o e)
theorem allIn_of {h : Heap} {K : Frag} (e : ∀ p ∈ K, h.get? p.1 = some p.2) : AllIn h K := by
  induction K with
  | nil => trivial
  | cons p r ih => exact ⟨e p (.head _), ih fun q hq => e q (.tail _ hq)⟩
theorem hcNd (P : Params) : ((hc.heap_23 P).map (·.1)).Nodup := by rw [hc_as]; decide
theorem lookup_mem_nd {K : Frag} : ∀ {p : Addr × Obj}, (K.map (·.1)).Nodup → p ∈ K → K.lookup p.1 = some p.2 := by
  intro p hn hp
  induction K with
  | nil => cases hp
  | cons q r ih =>
    rw [List.map_cons, List.nodup_cons] at hn
    simp only [List.lookup]
    rcases List.mem_cons.mp hp with rfl | hp
    · simp
    · have hne : p.1 ≠ q.1 := fun z => hn.1 (z ▸ List.mem_map_of_mem hp)
      have : (p.1 == q.1) = false := by simpa using hne
      rw [this]
      exact ih hn.2 hp
theorem holdsGen {K : Frag} {h : Heap} (hn : (K.map (·.1)).Nodup) (Y : K.In h) : KT.Holds h 1 0 (KT.of K) := holds_of (allIn_of fun p hp => Y p.1 p.2 (lookup_mem_nd hn hp))
theorem hcH {K : Frag} {T : KT} {h : Heap} (e : KT.of K = T) (hn : (K.map (·.1)).Nodup) (Y : K.In h) : KT.Holds h 1 0 T := e ▸ holdsGen hn Y
theorem hcKT (P : Params) : KT.of (hc.heap_23 P) = hc.ktop_54 P := by kernel_rfl
theorem hcHolds {P : Params} {h : Heap} (Y : (hc.heap_23 P).In h) : KT.Holds h 1 0 (hc.ktop_54 P) := hcH (hcKT P) (hcNd P) Y
end Mine
end
section
open PySem PySem.W PySem.W.X PySem.W.ZRun PyProof.Rows
set_option maxRecDepth 100000
set_option linter.unusedVariables false
namespace Mine
theorem fk65 (P : Params) : (((KR1 P).lookup 65).isSome = true) ∧ ((((KR1 P).lookup 65).getD default).data = .func (fdo (((KR1 P).lookup 65).getD default))) := ⟨by kernel_rfl, by kernel_rfl⟩
noncomputable def isSeqO (o : Obj) : Bool := match o.data with | .seq _ _ => true | _ => false
theorem no60 (P : Params) : ((HL P).lookup 60).isSome = true ∧ isSeqO (((HL P).lookup 60).getD default) = false := ⟨by kernel_rfl, by kernel_rfl⟩
noncomputable def fldO (o : Obj) : Array Value := match o.data with | .fields vs => vs | _ => #[]
/-- the table of cmp_to_key's code at the start of law -/
noncomputable def v60 (P : Params) : Array Value := fldO (((HL P).lookup 60).getD default)
theorem t60 (P : Params) : ((HL P).lookup 60).getD default = tabObj (v60 P) := by kernel_rfl
section
variable {w : World} {E : Value → Shared → Prop}
noncomputable abbrev lawCs : List (Str × Addr) := cellsFrom (159 + 1) lawScope.names []
noncomputable abbrev AL : Around := callerA.deeper (lawEnv 159)
theorem S7 {s : Shared} {base : Heap} {m cm mg mb : Str → Option Value} {M : Addr} {vs : List Value} {modes : List Nat} {rule : Nat} {tr : Tok} {Q : Flow → Shared → Prop}
    (Y : (HL w.params).In base) (x : PX base 154 159 lawCs m cm 209 s.heap) (hg0 : s.gens = #[]) (hg : base.Ns mainGlobals mg) (hb : base.Ns builtinsNs mb) (lim : base.NoLimit) (hbi : s.heap.BuiltinsAt mg 154)
    (hok : s.heap.IsCode 156 154 #[]) (hT : s.heap.get? 154 = some (tabObj #[])) (hm : m (Str.ofString "modes") = some (.ref M)) (hM : s.heap.IsList M vs.toArray) (hv : All2 (fun v x => ∃ t, v = Value.int (x : Nat) t) vs modes) (h2 : 2 ≤ vs.length) (h64 : vs.length < 64)
    (hr : rule < 4) (hcr : cm (Str.ofString "rule") = some (.int rule tr)) (hgo : kGood (ltM rule modes) modes.length (kas_sort modes.length) = true) (hin : ∀ i ∈ idxM rule modes, i < modes.length)
    (hQ : ∀ D ys s', (∃ h' tk, s' = { s with heap := h', toks := tk }) → s'.heap.Ns 159 m → (∀ n c, lawCs.lookup n = some c → s'.heap.IsCell c (if n = Str.ofString "letters" then some (.ref D) else cm n)) →
      (∀ b o, b ≠ 159 → b ≠ 154 → b ≠ 60 → b ≠ cellAt 159 "letters" → s.heap.get? b = some o → s'.heap.get? b = some o) → GW w mg mb s'.heap → (∃ c', s'.heap.get? 154 = some (tabObj #[rawInt lam6.2.2.2.line, rawInt lam6.2.2.2.col, .ref c'])) → (∃ more, s'.heap.get? 60 = some (tabObj (v60 w.params ++ more))) →
      s'.heap.IsList D ys.toArray → All2 (fun v x => ∃ t, v = Value.int (x : Nat) t) ys (sortM rule modes) → Q .next s') :
    wpAny (model PR w) AL (exec (lawSt 6) (lawEnv 159)) Q E s := by
  have Y1 : (KR1 w.params).In s.heap := filt_in (f := fun a => decide (a ≠ 154)) Y fun b o hb e => x.keep b o (by simpa using hb) e
  have N := gokOf (P := w.params) (filt_in (f := fun a => decide (a ≠ 154) && decide (a ≠ 60)) Y fun b o _ e => e) hg hb
  have hgs : s.heap.Ns mainGlobals mg := x.nsBase (by decide) hg
  have hbs : s.heap.Ns builtinsNs mb := x.nsBase (by decide) hb
  refine wpAny_Assign_Name ?_ ?hs
  case hs => rfl
  refine wpAny_Call_Name_kw ?_
  refine Calls.Name_function_global (by rfl) (by rfl) (Calls.loadGlobal_builtin hgs N.n_sorted hbs N.b_sorted ?_) (by decide)
  refine PyProof.Rows.callWith_builtin_kwB (by rfl) (by rfl) ?_
  refine PyProof.Rows.evalArgs_kwB (by rfl) ?_
  refine Calls.spliced_cons ?_
  refine wpAny_Name (wpAny_loadName_local (by rfl) (by rfl) x.ns hm ?_) (by decide)
  refine Calls.spliced_nil ?_
  refine wpAny_evalAll_cons ?_
  show wpAny (model PR w) AL (eval (.Call (.Name (Str.ofString "cmp_to_key") _) [_] [] _) (lawEnv 159) >>= fun v => standAt _ >>= fun _ => pure v) _ E s
  refine wpAny_bind ?_
  refine callN1 ?_
  refine Calls.Name_function_global (by rfl) (by rfl) (Calls.loadGlobal_global hgs N.g_ctk ?_) (by decide)
  have o65 := get_of Y1 65 (fk65 _).1
  refine Calls.callWith_function (o := ((KR1 w.params).lookup 65).getD default) (fd := fdo (((KR1 w.params).lookup 65).getD default)) ?_
  refine Calls.evalArgs_plain (Calls.spliced_cons ?_)
  refine lamEx (c := 156) (P := 154) (ps := #[]) (mg := mg) (q := (Str.ofString "rule", cellAt 159 "rule")) (r := []) (l := ([Str.ofString "one", Str.ofString "other"], [])) ?l1 ?l2 ?l3 hgs ?l5 hok hT ?l8 ?l9 (by decide) hbi ?_
  case l1 => rfl
  case l2 => rfl
  case l3 => rfl
  case l5 => rfl
  case l8 => rfl
  case l9 => rfl
  intro c' ctv h' tk v0 tq rest hx hz htb hc' hge hf
  refine Calls.spliced_nil ?_
  have hz' : h'.objs.size = 217 := by rw [hz, x.size]
  have x' := x.growT (N' := 217) hx hz'
  have Y2 : (KR1 w.params).In h' := fun a o e => hx a o (fun z => by
    have := filt_lookup_no (f := fun a => decide (a ≠ 154)) e
    simp [z] at this) (Y1 a o e)
  have Yc : (hc.heap_23 w.params).In h' := in_eq _ (hc_as _) (hc_eq _) Y2
  rw [x.size] at hf
  refine ⟨⟨get_of Y2 65 (fk65 _).1, (fk65 _).2⟩, ?_⟩
  rw [x.size]
  obtain ⟨hs, g, d, t, os⟩ := s
  have hg0 : g = #[] := hg0
  subst hg0
  show wpAny (model PR w) (callerA.deeper (lawEnv 159)) (call (.ref 65) [.ref 216]) _ E ⟨h', #[], d, tk, os⟩
  refine wpAny_mono (ctkZ hz' rfl (hcHolds Yc) Yc) (fun v s' GG => ?_) fun _ _ e => e.elim
  obtain ⟨h3, tk3, rfl, rfl, kb, ⟨K, p, kok, mkk, skk, kin, k159⟩, fni, fnl, cell⟩ := unsmug GG
  have h60 : ∃ more, h3.get? 60 = some (tabObj (v60 w.params ++ more)) := by
    have e0 : h'.get? 60 = some (tabObj (v60 w.params)) := by
      rw [← t60]
      exact hx 60 _ (by decide) (x.keep 60 _ (by decide) (get_of Y 60 (no60 _).1))
    rcases GG.2.1.old 60 _ e0 with q | ⟨_, _, vs, more, hv, q⟩ | ⟨q, _⟩
    · exact ⟨#[], by rw [Array.append_empty]; exact q⟩
    · cases hv
      exact ⟨more, q⟩
    · exact absurd q (by decide)
  refine wpAny_bind (wpAny_standAt (wpAny_pure ?_))
  refine PySem.wpAny_evalAll_nil ?_
  show wpAny (model PR w) _ (call (.builtin "sorted") [.ref M] [(Str.ofString "key", .ref 277)]) _ _ _
  have kb2 : ∀ b o, b ≠ 154 → b ≠ 60 → hs.get? b = some o → h3.get? b = some o := fun b o h1 h2 e => kb b o h2 (hx b o h1 e)
  have kbB : ∀ b o, b ≠ 154 → b ≠ 60 → base.get? b = some o → h3.get? b = some o := fun b o h1 h2 e => kb2 b o h1 h2 (x.keep b o h1 e)
  have hn3 : h3.Ns 159 m := by
    obtain ⟨o, es, ep, e, r⟩ := x.ns
    exact ⟨o, es, ep, kb2 _ _ (by decide) (by decide) e, r⟩
  have YR : (KR w.params).In h3 := filt_in (f := fun a => decide (a ≠ 154) && decide (a ≠ 60)) Y fun b o hb e => by
    simp only [Bool.and_eq_true, decide_eq_true_eq] at hb
    exact kbB b o hb.1 hb.2 e
  have nsB : ∀ {a : Addr} {mm : Str → Option Value}, a ≠ 154 → a ≠ 60 → base.Ns a mm → h3.Ns a mm := fun {a mm} h1 h2 q => by
    obtain ⟨o, es, ep, e, r⟩ := q
    exact ⟨o, es, ep, kbB _ _ h1 h2 e, r⟩
  have lim3 : h3.NoLimit := by
    obtain ⟨mc, hc, e⟩ := lim
    exact ⟨mc, nsB (by decide) (by decide) hc, e⟩
  have G3 := gwOf YR (nsB (by decide) (by decide) hg) (nsB (by decide) (by decide) hb) lim3
  have lst : ∀ {a : Addr} {o : Obj} {q : Array Value} {n : Nat}, hs.get? a = some o → o.data = .seq q n → a ≠ 154 ∧ a ≠ 60 := fun {a o q n} e hd => by
    refine ⟨fun z => ?_, fun z => ?_⟩
    · have hT : hs.get? 154 = some (tabObj #[]) := hT
      rw [z, hT] at e; cases e; cases hd
    · have e60 := x.keep 60 _ (by decide) (get_of Y 60 (no60 _).1)
      have e60 : hs.get? 60 = _ := e60
      rw [z, e60] at e; cases e
      have := (no60 w.params).2
      unfold isSeqO at this
      rw [hd] at this; cases this
  have hM3 : h3.IsList M vs.toArray := by
    obtain ⟨o, ho, hc0, n, hdd⟩ := hM
    have := lst ho hdd
    exact ⟨o, kb2 _ _ this.1 this.2 ho, hc0, n, hdd⟩
  have hrc : h3.IsCell (cellAt 159 "rule") (some (.int rule tr)) := by
    obtain ⟨o, ho, hdd⟩ := x.cell (Str.ofString "rule") (cellAt 159 "rule") (by rfl)
    exact ⟨o, kb2 _ _ (by decide) (by decide) ho, by rw [hdd, hcr]⟩
  have hge' : 209 ≤ c' := by rw [← x.size]; exact hge
  have kw : KW K 277 241 p 218 216 (cellAt 159 "rule") rule tr h3 :=
    ⟨kok, kin, fnl, cell, ⟨⟨_, _, c', ctv, kb _ _ (by decide) hf, ⟨c', _, _, tq, rfl, kb _ _ (Nat.ne_of_gt (Nat.lt_of_lt_of_le (by decide) hge')) hc', rfl, by simp⟩⟩, hrc⟩⟩
  have fni' : FnM h3 233 "__init__" "cmp_to_key.<locals>.K.__init__" (kMeth 2) := fni
  have mk : ∀ h, KM [159] h3 h → MkC w 277 h := fun h k A h2 d t os x tx Q E hd k2 hq => by
    have kinh : K.In h2 := fun a o e => k2 _ _ (k a o (fun z => by rw [List.mem_singleton.mp z, k159] at e; cases e) (kin a o e))
    have limh : h2.NoLimit := by
      obtain ⟨mc, hc, e⟩ := lim3
      exact ⟨mc, (ns_km k (by decide) hc).keeps k2, e⟩
    exact kNew (s := ⟨h2, #[], d, t, os⟩) kinh mkk skk ((fnM_km hn3 k fni').kf (kfh_of (S := []) k2)) limh hd fun a dx t' h' tk kk e1 e2 e3 e4 => hq a dx t' h' tk kk e1 e2 e3 e4
  refine lettersSorted (K := K) (aL := 241) (p := p) (cm := 218) (f := 216) (cR := cellAt 159 "rule") (L := 159) (tr := tr) (modes := modes) (vs := vs) (m := m) G3 N (by decide) (by decide) rfl rfl hr kw mk k159 (by decide) hn3 hM3 hv h2 h64 hgo hin fun D ys s' same ns km hl hys => ?_
  have cells : ∀ n c, lawCs.lookup n = some c → s'.heap.IsCell c (cm n) := fun n c hc0 => by
    obtain ⟨o, ho, hdd⟩ := x.cell n c hc0
    have h159 : 159 < c := x.above n c (mem_of_lookup hc0)
    refine ⟨o, km c o (by simp; exact Nat.ne_of_gt h159) (kb2 _ _ (fun z => by rw [z] at h159; exact absurd h159 (by decide)) (fun z => by rw [z] at h159; exact absurd h159 (by decide)) ho), hdd⟩
  obtain ⟨h5, t5, rfl⟩ := same
  refine wpAny_storeName_cell (c := cellAt 159 "letters") (by rfl) (by rfl) (by rfl) (cells (Str.ofString "letters") (cellAt 159 "letters") (by rfl)) fun h6 hc6 hs6 => ?_
  have h4L : cellAt 159 "letters" ≠ 159 := by decide
  have up6 : ∀ b o, b ≠ cellAt 159 "letters" → h5.get? b = some o → h6.get? b = some o := fun b o hb0 e => hs6.extBut _ _ hb0 e
  have ap : lawCs.Pairwise fun x y => x.2 ≠ y.2 := x.apart
  refine hQ D ys _ ⟨h6, _, rfl⟩ ?_ (fun n c hn0 => ?_) (fun b o h1 h2 h3' h4 e => up6 b o h4 (km b o (by simpa using h1) (kb2 b o h2 h3' e))) ?_ ?_ ?_ ?_ ?_
  · obtain ⟨o, es, ep, e, r⟩ := ns
    exact ⟨o, es, ep, up6 _ _ (by decide) e, r⟩
  · by_cases hn1 : n = Str.ofString "letters"
    · subst hn1
      rw [if_pos rfl]
      have : c = cellAt 159 "letters" := by
        have e : lawCs.lookup (Str.ofString "letters") = some (cellAt 159 "letters") := by rfl
        rw [e] at hn0; exact (Option.some.inj hn0).symm
      rw [this]; exact hc6
    · rw [if_neg hn1]
      obtain ⟨o, ho, hdd⟩ := cells n c hn0
      refine ⟨o, up6 _ _ (fun z => ?_) ho, hdd⟩
      have e : lawCs.lookup (Str.ofString "letters") = some (cellAt 159 "letters") := by rfl
      exact hn1 (name_of_addr ap (mem_of_lookup hn0) (z ▸ mem_of_lookup e))
  · have G5 : GW w mg mb h5 := G3.km hn3 (by decide) km
    refine gwOf (filt_in (f := fun a => decide (a ≠ 154) && decide (a ≠ 60)) Y fun b o hb0 e => ?_) ?_ ?_ ?_
    · simp only [Bool.and_eq_true, decide_eq_true_eq] at hb0
      have hlt := Nat.lt_of_lt_of_le (Heap.lt_size e) x.low
      exact up6 _ _ (fun z => by rw [z] at hlt; exact absurd hlt (by decide)) (km b o (by simp; exact Nat.ne_of_lt hlt) (kbB b o hb0.1 hb0.2 e))
    · obtain ⟨o, es, ep, e, r⟩ := G5.g
      exact ⟨o, es, ep, up6 _ _ (by decide) e, r⟩
    · obtain ⟨o, es, ep, e, r⟩ := G5.b
      exact ⟨o, es, ep, up6 _ _ (by decide) e, r⟩
    · obtain ⟨mc, ⟨o, es, ep, e, r⟩, q⟩ := G5.lim
      exact ⟨mc, ⟨o, es, ep, up6 _ _ (by decide) e, r⟩, q⟩
  · exact ⟨c', up6 _ _ (by decide) (km _ _ (by decide) (kb _ _ (by decide) htb))⟩
  · obtain ⟨more, q⟩ := h60
    exact ⟨more, up6 _ _ (by decide) (km _ _ (by decide) q)⟩
  · obtain ⟨o, ho, hc0, n, hdd⟩ := hl
    refine ⟨o, up6 _ _ (fun z => ?_) ho, hc0, n, hdd⟩
    obtain ⟨o', ho', hd'⟩ := cells (Str.ofString "letters") (cellAt 159 "letters") (by rfl)
    have ho : h5.get? D = some o := ho
    have ho' : h5.get? (cellAt 159 "letters") = some o' := ho'
    rw [z, ho'] at ho; cases ho; rw [hd'] at hdd; cases hdd
  · exact hys
end
end Mine
end
section
open PySem PySem.W PyProof.Rows
set_option maxRecDepth 100000
set_option linter.unusedVariables false
namespace Mine
/-- all lists of length k with entries below n -/
noncomputable def lists (n : Nat) : Nat → List (List Nat)
  | 0 => [[]]
  | k + 1 => (lists n k).flatMap fun l => (List.range n).map fun x => x :: l
theorem mem_lists (n : Nat) : ∀ (l : List Nat), (∀ x ∈ l, x < n) → l ∈ lists n l.length
  | [], _ => .head _
  | x :: l, h => by
    show x :: l ∈ (lists n l.length).flatMap _
    exact List.mem_flatMap.mpr ⟨l, mem_lists n l fun y hy => h y (.tail _ hy), List.mem_map.mpr ⟨x, List.mem_range.mpr (h x (.head _)), rfl⟩⟩
noncomputable def ltR (r : List Nat) (i j : Nat) : Bool := decide (r.getD i 0 < r.getD j 0)
noncomputable def rankOk (n : Nat) : Bool := (lists n n).all fun r => !decide r.Nodup || (kGood (ltR r) n (kas_sort n) && ((kRun (ltR r) (kas_sort n)).toList.all (fun i => decide (i < n)) && (decide ((kRun (ltR r) (kas_sort n)).toList.map (fun i => r.getD i 0) = List.range n) && (kRun (ltR r) (kas_sort n)).toList.isPerm (List.range n))))
theorem rank_ok : rankOk 2 = true ∧ rankOk 3 = true ∧ rankOk 4 = true ∧ rankOk 5 = true := by
  refine ⟨?_, ?_, ?_, ?_⟩ <;> decide +kernel
theorem kRun_congr {α : Type} {lt lt' : Nat → Nat → Bool} {n : Nat} (h : ∀ i j, i < n → j < n → lt i j = lt' i j) : ∀ t : KasT α, kGood lt n t = true → kGood lt' n t = true ∧ kRun lt' t = kRun lt t
  | .ret a, _ => ⟨rfl, rfl⟩
  | .ask i j k, hg => by
    simp only [kGood, Bool.and_eq_true, decide_eq_true_eq] at hg
    have e := h i j hg.1 hg.2.1
    have ih := kRun_congr h (k (lt i j)) hg.2.2
    refine ⟨?_, ?_⟩
    · simp only [kGood, Bool.and_eq_true, decide_eq_true_eq]
      exact ⟨hg.1, hg.2.1, by rw [← e]; exact ih.1⟩
    · show kRun lt' (k (lt' i j)) = kRun lt (k (lt i j))
      rw [← e]; exact ih.2
/-- how many keys are smaller -/
noncomputable def rankOf (ks : List Int) (i : Nat) : Nat := (ks.filter fun k => decide (k < ks.getD i 0)).length
theorem filt_le {ks : List Int} {a b : Int} (h : a ≤ b) : (ks.filter fun k => decide (k < a)).length ≤ (ks.filter fun k => decide (k < b)).length := by
  induction ks with
  | nil => exact Nat.le_refl _
  | cons x r ih =>
    rw [List.filter_cons, List.filter_cons]
    by_cases h1 : x < a
    · rw [if_pos (by simpa using h1), if_pos (by simpa using Int.lt_of_lt_of_le h1 h)]
      simpa using ih
    · rw [if_neg (by simpa using h1)]
      split
      · exact Nat.le_succ_of_le ih
      · exact ih
theorem filt_lt {ks : List Int} {a b : Int} (h : a < b) (ha : a ∈ ks) : (ks.filter fun k => decide (k < a)).length < (ks.filter fun k => decide (k < b)).length := by
  induction ks with
  | nil => cases ha
  | cons x r ih =>
    rw [List.filter_cons, List.filter_cons]
    rcases List.mem_cons.mp ha with rfl | ha
    · rw [if_neg (by simp), if_pos (by simpa using h)]
      exact Nat.lt_succ_of_le (filt_le (Int.le_of_lt h))
    · have := ih ha
      by_cases h1 : x < a
      · rw [if_pos (by simpa using h1), if_pos (by simpa using Int.lt_trans h1 h)]
        simpa using this
      · rw [if_neg (by simpa using h1)]
        split
        · exact Nat.lt_succ_of_lt this
        · exact this
theorem getD_mem {ks : List Int} {i : Nat} (h : i < ks.length) : ks.getD i 0 ∈ ks := by
  rw [List.getD_eq_getElem?_getD, List.getElem?_eq_getElem h]
  exact List.getElem_mem h
theorem rank_lt {ks : List Int} {i j : Nat} (hi : i < ks.length) (hj : j < ks.length) : decide (rankOf ks i < rankOf ks j) = decide (ks.getD i 0 < ks.getD j 0) := by
  rw [decide_eq_decide]
  constructor
  · intro h
    by_cases q : ks.getD i 0 < ks.getD j 0
    · exact q
    · exact absurd h (Nat.not_lt.mpr (filt_le (Int.not_lt.mp q)))
  · intro h
    exact filt_lt h (getD_mem hi)
theorem rank_bound {ks : List Int} {i : Nat} (hi : i < ks.length) : rankOf ks i < ks.length := by
  unfold rankOf
  have h1 := List.length_filter_le (fun k => decide (k < ks.getD i 0)) ks
  rcases Nat.lt_or_eq_of_le h1 with q | q
  · exact q
  · have h2 := (List.length_filter_eq_length_iff.mp q) _ (getD_mem hi)
    simp at h2
theorem kSort_sorted {n : Nat} (hn : rankOk n = true) {ks : List Int} (hl : ks.length = n) (hnd : ks.Nodup) {lt : Nat → Nat → Bool} (hlt : ∀ i j, i < n → j < n → lt i j = decide (ks.getD i 0 < ks.getD j 0)) :
    kGood lt n (kas_sort n) = true ∧ (∀ i ∈ (kRun lt (kas_sort n)).toList, i < n) ∧ (kRun lt (kas_sort n)).toList.Pairwise (fun i j => ks.getD i 0 < ks.getD j 0) ∧ (kRun lt (kas_sort n)).toList.Perm (List.range n) := by
  let r := (List.range n).map (rankOf ks)
  have hr : ∀ i, i < n → r.getD i 0 = rankOf ks i := fun i hi => by simp [r, hi]
  have hrl : r.length = n := by simp [r]
  have hmem : r ∈ lists n n := by
    have := mem_lists n r fun x hx => by
      obtain ⟨i, hi, rfl⟩ := List.mem_map.mp hx
      rw [← hl]; exact rank_bound (by rw [hl]; exact List.mem_range.mp hi)
    rw [hrl] at this; exact this
  have hkey : ∀ i j, i < n → j < n → ltR r i j = lt i j := fun i j hi hj => by
    unfold ltR
    rw [hr i hi, hr j hj, rank_lt (by omega) (by omega), hlt i j hi hj]
  have hinj : ∀ i j, i < n → j < n → rankOf ks i = rankOf ks j → i = j := fun i j hi hj e => by
    have e1 := rank_lt (ks := ks) (i := i) (j := j) (by omega) (by omega)
    have e2 := rank_lt (ks := ks) (i := j) (j := i) (by omega) (by omega)
    rw [e] at e1 e2
    simp only [Nat.lt_irrefl, decide_false] at e1 e2
    have e3 : ks.getD i 0 = ks.getD j 0 := by
      have := of_decide_eq_false e1.symm; have := of_decide_eq_false e2.symm; omega
    have g1 : ks.getD i 0 = ks[i]'(by omega) := by simp [show i < ks.length by omega]
    have g2 : ks.getD j 0 = ks[j]'(by omega) := by simp [show j < ks.length by omega]
    rw [g1, g2] at e3
    have pw := List.pairwise_iff_getElem.mp hnd
    rcases Nat.lt_trichotomy i j with q | q | q
    · exact absurd e3 (pw _ _ (by omega) (by omega) q)
    · exact q
    · exact absurd e3.symm (pw _ _ (by omega) (by omega) q)
  have hrn : r.Nodup := by
    refine List.pairwise_iff_getElem.mpr fun i j hi hj hij e => ?_
    have hi' : i < n := by omega
    have hj' : j < n := by omega
    simp only [r, List.getElem_map, List.getElem_range] at e
    have := hinj i j hi' hj' e
    omega
  have key := List.all_eq_true.mp hn r hmem
  simp only [hrn, decide_true, Bool.not_true, Bool.false_or, Bool.and_eq_true, decide_eq_true_eq] at key
  obtain ⟨kg, kl, km, kp⟩ := key
  obtain ⟨g1, g2⟩ := kRun_congr hkey _ kg
  rw [g2]
  have kl' : ∀ i ∈ (kRun (ltR r) (kas_sort n)).toList, i < n := fun i hi => by simpa using List.all_eq_true.mp kl i hi
  have hpw : (kRun (ltR r) (kas_sort n)).toList.Pairwise (fun i j => r.getD i 0 < r.getD j 0) := by
    have h1 : ((kRun (ltR r) (kas_sort n)).toList.map fun i => r.getD i 0).Pairwise (· < ·) := by rw [km]; exact List.pairwise_lt_range
    exact List.pairwise_map.mp h1
  refine ⟨g1, kl', ?_, ?_⟩
  · refine List.Pairwise.imp_of_mem ?_ hpw
    intro i j hi hj hij
    rw [hr i (kl' i hi), hr j (kl' j hj)] at hij
    have := rank_lt (ks := ks) (i := i) (j := j) (by have := kl' i hi; omega) (by have := kl' j hj; omega)
    rw [decide_eq_true hij] at this
    exact of_decide_eq_true this.symm
  · exact List.isPerm_iff.mp kp
end Mine
end
section
open PySem PySem.W PyProof.Rows
set_option maxRecDepth 100000
set_option linter.unusedVariables false
namespace Mine
/-- the plain key of a mode -/
noncomputable def pkey (rule m : Nat) : Nat := if rule % 2 = 0 then m else m % 4096 * 16 + m / 4096
noncomputable def gkey (rule m : Nat) : Int := if rule / 2 = 0 then (pkey rule m : Int) else -(pkey rule m : Int)
theorem and_low12 (m : Nat) : m &&& 4095 = m % 4096 := by
  have := Nat.and_two_pow_sub_one_eq_mod m 12
  simpa using this
theorem cmp_key {x y rule : Nat} (hx : x < 65536) (hy : y < 65536) (hr : rule < 4) : decide (cmpv x y rule < 0) = decide (gkey rule x < gkey rule y) := by
  rw [decide_eq_decide]
  have kx := and_kind hx
  have ky := and_kind hy
  have lx := and_low12 x
  have ly := and_low12 y
  have h4 : rule = 0 ∨ rule = 1 ∨ rule = 2 ∨ rule = 3 := by omega
  unfold cmpv paOf plOf gkey pkey
  rw [kx, ky, lx, ly]
  rcases h4 with rfl | rfl | rfl | rfl <;> simp <;> split <;> (try split) <;> omega
theorem gkey_inj {x y rule : Nat} (hx : x < 65536) (hy : y < 65536) (e : gkey rule x = gkey rule y) : x = y := by
  unfold gkey pkey at e
  split at e <;> split at e <;> omega
theorem getD_bound {modes : List Nat} (hb : ∀ m ∈ modes, m < 65536) (i : Nat) (hi : i < modes.length) : modes.getD i 0 < 65536 := by
  rw [List.getD_eq_getElem?_getD, List.getElem?_eq_getElem hi]
  exact hb _ (List.getElem_mem hi)
theorem sortM_spec {rule : Nat} {modes : List Nat} (h2 : 2 ≤ modes.length) (h5 : modes.length ≤ 5) (hb : ∀ m ∈ modes, m < 65536) (hnd : modes.Nodup) (hr : rule < 4) :
    kGood (ltM rule modes) modes.length (kas_sort modes.length) = true ∧ (∀ i ∈ idxM rule modes, i < modes.length) ∧ (sortM rule modes).Pairwise (fun x y => gkey rule x < gkey rule y) ∧ (sortM rule modes).Perm modes := by
  have hok : rankOk modes.length = true := by
    have h : modes.length = 2 ∨ modes.length = 3 ∨ modes.length = 4 ∨ modes.length = 5 := by omega
    rcases h with h | h | h | h <;> rw [h]
    · exact rank_ok.1
    · exact rank_ok.2.1
    · exact rank_ok.2.2.1
    · exact rank_ok.2.2.2
  have hks : ∀ i, i < modes.length → (modes.map (gkey rule)).getD i 0 = gkey rule (modes.getD i 0) := fun i hi => by simp [hi]
  have hndk : (modes.map (gkey rule)).Nodup := by
    refine List.pairwise_iff_getElem.mpr fun i j hi hj hij e => ?_
    have hi' : i < modes.length := by simpa using hi
    have hj' : j < modes.length := by simpa using hj
    simp only [List.getElem_map] at e
    have := gkey_inj (hb _ (List.getElem_mem hi')) (hb _ (List.getElem_mem hj')) e
    exact (List.pairwise_iff_getElem.mp hnd) i j hi' hj' hij this
  obtain ⟨a1, a2, a3, a4⟩ := kSort_sorted hok (ks := modes.map (gkey rule)) (by simp) hndk (lt := ltM rule modes) fun i j hi hj => by
    unfold ltM
    rw [cmp_key (getD_bound hb i hi) (getD_bound hb j hj) hr, hks i hi, hks j hj]
  refine ⟨a1, a2, ?_, ?_⟩
  · unfold sortM idxM
    refine List.pairwise_map.mpr (List.Pairwise.imp_of_mem ?_ a3)
    intro i j hi hj h
    rw [hks i (a2 i hi), hks j (a2 j hj)] at h
    exact h
  · unfold sortM idxM
    have h1 := a4.map (fun i => modes.getD i 0)
    have h3 : (List.range modes.length).map (fun i => modes.getD i 0) = modes := by
      refine List.ext_getElem (by simp) fun i q1 q2 => ?_
      simp [q2]
    rw [h3] at h1
    exact h1
/-- there is one sorted list -/
theorem sorted_one {rule : Nat} : ∀ {l₁ l₂ : List Nat}, l₁.Perm l₂ → l₁.Pairwise (fun x y => gkey rule x < gkey rule y) → l₂.Pairwise (fun x y => gkey rule x ≤ gkey rule y) → (∀ m ∈ l₁, m < 65536) → l₁ = l₂
  | [], l₂, hp, _, _, _ => (List.Perm.nil_eq hp)
  | x :: r, [], hp, _, _, _ => absurd hp.length_eq (by simp)
  | x :: r, y :: q, hp, h1, h2, hb => by
    have hxy : x = y := by
      have m1 : x ∈ y :: q := hp.subset (.head _)
      have m2 : y ∈ x :: r := hp.symm.subset (.head _)
      rcases List.mem_cons.mp m1 with e | m1
      · exact e
      · rcases List.mem_cons.mp m2 with e | m2
        · exact e.symm
        · have k1 := (List.pairwise_cons.mp h1).1 y m2
          have k2 := (List.pairwise_cons.mp h2).1 x m1
          omega
    subst hxy
    rw [sorted_one (List.Perm.cons_inv hp) (List.pairwise_cons.mp h1).2 (List.pairwise_cons.mp h2).2 fun m hm => hb m (.tail _ hm)]
end Mine
end
section
open PySem PySem.W PyProof.Rows
set_option maxRecDepth 100000
set_option linter.unusedVariables false
namespace Mine
theorem modeAt_range (x0 x1 : Int) (j : Nat) : 0 ≤ modeAt x0 x1 j ∧ modeAt x0 x1 j < 65536 :=
  ⟨Int.fmod_nonneg_of_pos _ (by decide), Int.fmod_lt_of_pos _ (by decide)⟩
theorem modeAt_inj {x0 x1 : Int} {i j : Nat} (hi : i < 5) (hj : j < 5) (hij : i < j) : modeAt x0 x1 i ≠ modeAt x0 x1 j := by
  unfold modeAt
  rw [Int.fmod_eq_emod_of_nonneg _ (by decide), Int.fmod_eq_emod_of_nonneg _ (by decide)]
  intro e
  have hi' : i = 0 ∨ i = 1 ∨ i = 2 ∨ i = 3 := by omega
  have hj' : j = 1 ∨ j = 2 ∨ j = 3 ∨ j = 4 := by omega
  rcases hi' with rfl | rfl | rfl | rfl <;> rcases hj' with rfl | rfl | rfl | rfl <;> simp at e <;> omega
noncomputable def modesOf (x0 x1 : Int) (many : Nat) : List Nat := (List.range many).map fun j => (modeAt x0 x1 j).toNat
theorem modesOf_lt (x0 x1 : Int) (many : Nat) : ∀ m ∈ modesOf x0 x1 many, m < 65536 := fun m hm => by
  obtain ⟨j, _, rfl⟩ := List.mem_map.mp hm
  have := modeAt_range x0 x1 j
  omega
theorem modesOf_nodup (x0 x1 : Int) {many : Nat} (h : many ≤ 5) : (modesOf x0 x1 many).Nodup := by
  refine List.pairwise_iff_getElem.mpr fun i j hi hj hij e => ?_
  have hi' : i < many := by simpa [modesOf] using hi
  have hj' : j < many := by simpa [modesOf] using hj
  simp only [modesOf, List.getElem_map, List.getElem_range] at e
  have r1 := modeAt_range x0 x1 i
  have r2 := modeAt_range x0 x1 j
  exact modeAt_inj (x0 := x0) (x1 := x1) (i := i) (j := j) (by omega) (by omega) hij (by omega)
end Mine
end
section
open PySem PySem.W PyProof.Rows
set_option maxRecDepth 100000
set_option linter.unusedVariables false
namespace Mine
/-- the frame is known by its names only, all else stands -/
theorem FX.kmL {sB s : Shared} {L : Addr} {m cm : Str → Option Value} {cs : List (Str × Addr)} {h' : Heap} {tk : Nat} (f : FX [] sB L m cs cm s) (hn : h'.Ns L m) (k : KM [L] s.heap h') : FX [] sB L m cs cm { s with heap := h', toks := tk } := by
  have lt : ∀ {b o}, sB.heap.get? b = some o → b ∉ [L] := fun e => by simp; exact Nat.ne_of_lt (Nat.lt_of_lt_of_le (Heap.lt_size e) f.fresh)
  refine ⟨?_, hn, kfh_of fun b o e => k b o (lt e) (kfh_nil f.keep b o e), f.fresh, fun n c e => ?_, f.apart, f.above⟩
  · obtain ⟨h, t, e⟩ := f.same; exact ⟨h', tk, by rw [e]⟩
  · obtain ⟨o, e1, r⟩ := f.cell n c e
    exact ⟨o, k c o (by simp; exact Nat.ne_of_gt (f.above n c (mem_of_lookup e))) e1, r⟩
section
variable {prog : Program} {w : World} {A : Around} {E : Value → Shared → Prop} {s : Shared}
/-- a new list times a number -/
theorem mulL {L l : Addr} {m : Str → Option Value} {items : Array Value} {k : Nat} {x : Nat} {u : Tok} {Q : Value → Shared → Prop} (hn : s.heap.Ns L m) (hl : s.heap.get? l = some (lstO items k)) (hx : x ≤ 100) (hsz : items.size ≤ 100)
    (h : ∀ h', h'.Ns L m → KM [L] s.heap h' → h'.IsList s.heap.objs.size (List.foldl (fun x1 x2 => x1 ++ x2) #[] (List.replicate (if items.isEmpty = true then 0 else x) items)) → Q (.ref s.heap.objs.size) { s with heap := h' }) :
    wpAny (model prog w) A (binaryOp .Mult (.ref l) (.int x u)) Q E s := by
  refine mul_list (fr_none (l := s.heap.life) hn) (news_all s.heap L) hl (by omega) (by omega) ?_ fun h' F N' => ?_
  · rw [Int.toNat_natCast]
    exact Nat.le_trans (Nat.mul_le_mul hsz hx) (by decide)
  · rw [Int.toNat_natCast] at N'
    exact h h' F.ns (fun b o hb e => (N' _ (.tail _ (mem_allNews (by simpa using hb) e))).1) ⟨_, (N' _ (.head _)).1, rfl, _, rfl⟩
end
section
variable {w : World} {E : Value → Shared → Prop}
/-- begin = ([letters[-1]] * (size - 1), []) -/
theorem S9 {sB s : Shared} {m cm : Str → Option Value} {D : Addr} {ys : List Value} {ls : List Int} {sz : Nat} {ts : Tok} {Q : Flow → Shared → Prop} (f : FX [] sB 159 m lawCs cm s)
    (cl : cm (Str.ofString "letters") = some (.ref D)) (hD : s.heap.IsList D ys.toArray) (hy : IntsAre ys ls) (hn : 1 ≤ ls.length) (hn2 : ls.length ≤ 5) (cs : cm (Str.ofString "size") = some (.int sz ts)) (h1 : 1 ≤ sz) (h4 : sz ≤ 4)
    (hQ : ∀ s' m' T, FX [] sB 159 m' lawCs cm s' → (∀ y, m' y = if y = Str.ofString "begin" then some T else m y) → ST s'.heap T (List.replicate (sz - 1) (ls.getD (ls.length - 1) 0), []) → KM [159] s.heap s'.heap → Q .next s') :
    wpAny (model PR w) AL (exec (lawSt 8) (lawEnv 159)) Q E s := by
  refine wpAny_Assign_Name ?_ ?hs
  case hs => rfl
  refine wpAny_Tuple_spliced ?_
  show wpAny _ _ (spliced [(false, eval _ _), (false, eval _ _)]) _ _ _
  refine Calls.spliced_cons (wpAny_BinOp ?_)
  refine List_ ?_
  show wpAny _ _ (spliced [(false, eval _ _)]) _ _ _
  refine Calls.spliced_cons ?_
  refine Subscript_ ?_
  refine nmC (c := cellAt 159 "letters") f (by rfl) (by rfl) (by rfl) cl ?_ (by decide)
  refine wpAny_UnaryOp ?_
  refine wpAny_Constant_int ?_
  refine neg_int ?_
  have hyl := hy.length
  obtain ⟨tl, hlast⟩ := hy.int_at (ls.length - 1) (ys[ls.length - 1]'(by omega)) (List.getElem?_eq_getElem (by omega))
  refine tail_any (ops := [.ref D, .int (-1) _]) hD.typeIs list_getitem_lookup (wpAny_getItem_list_neg (x := .int (ls.getD (ls.length - 1) 0) tl) hD (by decide) (by rw [List.size_toArray]; omega) (by decide) ?_ ?_) (by with_unfolding_all rfl)
  · have e : ((-1 : Int) + (ys.toArray.size : Int)).toNat = ls.length - 1 := by rw [List.size_toArray]; omega
    rw [e, ← hlast]
    simp
  refine Calls.spliced_nil ?_
  refine wpAny_newList ?_
  have f₁ := f.ks (ks_push s (lstO #[.int (ls.getD (ls.length - 1) 0) tl] 0) (s.toks + 1 + 1))
  refine wpAny_BinOp ?_
  refine nmC (c := cellAt 159 "size") f₁ (by rfl) (by rfl) (by rfl) cs ?_ (by decide)
  refine wpAny_Constant_int ?_
  refine sub_int ?_
  have hs1 : (sz : Int) - 1 = ((sz - 1 : Nat) : Int) := by omega
  rw [hs1]
  refine mulL (L := 159) (m := m) (k := 0) (items := #[.int (ls.getD (ls.length - 1) 0) tl]) f₁.ns (Heap.get?_push_size _ rfl) (by omega) (by show 1 ≤ 100; decide) fun h₂ hn₂ k₂ hl₂ => ?_
  have f₂ := f₁.kmL (tk := s.toks + 1 + 1 + 1 + 1) hn₂ k₂
  refine Calls.spliced_cons ?_
  refine List_ ?_
  refine Calls.spliced_nil ?_
  refine wpAny_newList ?_
  refine Calls.spliced_nil ⟨by show 2 ≤ sizeLine; decide, ?_⟩
  have earr : List.foldl (fun x1 x2 => x1 ++ x2) #[] (List.replicate (if (#[Value.int (ls.getD (ls.length - 1) 0) tl] : Array Value).isEmpty = true then 0 else sz - 1) #[Value.int (ls.getD (ls.length - 1) 0) tl]) = (List.replicate (sz - 1) (Value.int (ls.getD (ls.length - 1) 0) tl)).toArray := by
    have hz : sz = 1 ∨ sz = 2 ∨ sz = 3 ∨ sz = 4 := by omega
    rcases hz with rfl | rfl | rfl | rfl <;> rfl
  rw [earr] at hl₂
  have hrep : ∀ n, IntsAre (List.replicate n (Value.int (ls.getD (ls.length - 1) 0) tl)) (List.replicate n (ls.getD (ls.length - 1) 0)) := by
    intro n
    induction n with
    | zero => exact .nil
    | succ n ih => exact .cons _ _ ih
  have k3 : Keep h₂ ((h₂.push { cls := .type "list", data := .seq ([] : List Value).toArray }).push (tupObj [.ref (s.heap.push (lstO #[.int (ls.getD (ls.length - 1) 0) tl] 0)).objs.size, .ref h₂.objs.size])) := (kp_push _ _).tr (kp_push _ _)
  have f₃ := f₂.ks (ks_of (t := s.toks + 1 + 1 + 1 + 1) k3)
  refine stLX (m := m) f₃ (by rfl) (by rfl) fun s' f' e' sb' k' => ?_
  refine hQ s' _ _ f' (fun y => rfl) ?_ (((km_of (kp_push _ _)).tr k₂).tr ((km_of k3).tr (km_same sb' (.head _))))
  refine ST.ks k' ⟨_, _, h₂.objs.size, _, [], 0, rfl, ⟨_, Heap.get?_push_size _ rfl, rfl, _, rfl⟩, listAt k3 hl₂, hrep _, Heap.get?_push_of_some _ (Heap.get?_push_size _ rfl), .nil⟩
end
end Mine
end
section
open PySem PySem.W PyProof.Rows
set_option maxRecDepth 100000
set_option linter.unusedVariables false
namespace Mine
/-- the lambda of plain -/
noncomputable def lam7 : Arguments × PySem.Expr × Scope × Pos := match lawSt 7 with
  | .Assign _ (.Call _ _ [⟨_, .Lambda p b sc pos, _⟩, _] _) _ => (p, b, sc, pos)
  | _ => default
theorem FX.extBut {S : List Addr} {s₀ s : Shared} {L D : Addr} {m cm : Str → Option Value} {cs : List (Str × Addr)} {h' : Heap} {tk : Nat} (x : FX S s₀ L m cs cm s) (hs : Heap.ExtBut D s.heap h') (hL : L ≠ D) (hb : s₀.heap.get? D = none) (hc : ∀ n c, cs.lookup n = some c → c ≠ D) : FX S s₀ L m cs cm { s with heap := h', toks := tk } := by
  have lt : ∀ {b o}, s₀.heap.get? b = some o → b ≠ D := fun {b o} e z => by rw [z, hb] at e; cases e
  refine ⟨?_, ?_, ⟨fun b o hb e => hs _ _ (lt e) (x.keep.1 b o hb e), fun b o e => ?_⟩, x.fresh, fun n c e => ?_, x.apart, x.above⟩
  · obtain ⟨h, t, e⟩ := x.same; exact ⟨h', tk, by rw [e]⟩
  · obtain ⟨o, es, ep, e, r⟩ := x.ns; exact ⟨o, es, ep, hs _ _ hL e, r⟩
  · obtain ⟨sl, e1⟩ := x.keep.2 b o e; exact ⟨sl, hs _ _ (lt e) e1⟩
  · obtain ⟨o, e1, r⟩ := x.cell n c e; exact ⟨o, hs _ _ (hc n c e) e1, r⟩
theorem isCode_to {h h' : Heap} {c P : Addr} {ps ps' : Array Value} (x : h.IsCode c P ps) (k : ∀ o, h.get? c = some o → h'.get? c = some o) (hP : h'.get? P = some (tabObj ps')) (ht : TriplesOk ps'.toList) : h'.IsCode c P ps' := by
  obtain ⟨o, vs, file, tf, flags, tg, inF, text, tt, _, a, r1, r2, r3, r4, r5, r6, _, _, _, r⟩ := x
  exact ⟨o, vs, file, tf, flags, tg, inF, text, tt, _, k _ a, r1, r2, r3, r4, r5, r6, hP, rfl, ht, r⟩
/-- the table of law's lambdas -/
structure Tab (ps : Array Value) (h : Heap) : Prop where
  code : h.IsCode 156 154 ps
  tab : h.get? 154 = some (tabObj ps)
theorem Tab.km {ps : Array Value} {h h' : Heap} (x : Tab ps h) {S : List Addr} (k : KM S h h') (h1 : 156 ∉ S) (h2 : 154 ∉ S) : Tab ps h' := by
  have ht : TriplesOk ps.toList := by
    obtain ⟨o, vs, file, tf, flags, tg, inF, text, tt, op, a, r1, r2, r3, r4, r5, r6, b, c, d, r⟩ := x.code
    exact d
  exact ⟨isCode_to x.code (fun o e => k _ _ h1 e) (k _ _ h2 x.tab) ht, k _ _ h2 x.tab⟩
section
variable {w : World} {A : Around} {E : Value → Shared → Prop} {s : Shared}
set_option maxHeartbeats 2000000 in
theorem lamPlain {f cR c' : Addr} {qual : Str} {pm ctv : Value} {mode rule : Nat} {t tr : Tok} {Q : Value → Shared → Prop} (lim : s.heap.NoLimit) (hd : A.depth ≤ 690) (hr : rule < 4) (hm : mode < 65536)
    (hf : s.heap.get? f = some (kla_obj "<lambda>" qual lam7.1 lam7.2.1 lam7.2.2.1 [(Str.ofString "rule", cR)] pm c' ctv)) (hcd : s.heap.CodeRec (.ref c') qual) (hc : s.heap.IsCell cR (some (.int rule tr)))
    (hQ : ∀ t s', Keeps s s' → Q (.int (pkey rule mode : Nat) t) s') :
    wpAny (model PR w) A (call (.ref f) [.int mode t]) Q E s := by
  refine callLam [] (binds := [(Str.ofString "mode", .int mode t)]) (Nat.lt_of_le_of_lt hd (by decide)) hf lim hcd (by rfl) ?_ ?_ fun s₁ E' fx => ?_
  · intro y hy
    rcases List.mem_singleton.mp hy with rfl
    rfl
  · show ∀ x ∈ lam7.2.2.1.names, x.2 ≠ NameKind.cell
    decide
  have hk := kfh_nil fx.keep
  refine tupGen ?_
  intro Qt qt
  refine wpAny_Tuple_spliced ?_
  show wpAny _ _ (spliced [(false, eval _ _), (false, eval _ _)]) _ _ _
  refine Calls.spliced_cons ?_
  refine wpAny_Name (wpAny_loadName_local (v := .int mode t) (by rfl) (by rfl) fx.ns (by rfl) ?_) (by decide)
  refine Calls.spliced_cons (wpAny_BinOp (wpAny_BinOp (wpAny_BinOp ?_)))
  refine wpAny_Name (wpAny_loadName_local (v := .int mode t) (by rfl) (by rfl) fx.ns (by rfl) ?_) (by decide)
  refine wpAny_Constant_int ?_
  refine mod_int' (by decide) ?_
  refine wpAny_Constant_int ?_
  refine mul_int ?_
  refine wpAny_BinOp ?_
  refine wpAny_Name (wpAny_loadName_local (v := .int mode t) (by rfl) (by rfl) fx.ns (by rfl) ?_) (by decide)
  refine wpAny_Constant_int ?_
  refine floordiv_int (by decide) ?_ (.inl (PyProof.noPylong_small (by decide)))
  refine add_int ?_
  refine Calls.spliced_nil ⟨by show 2 ≤ sizeLine; decide, ?_⟩
  have hK : (mode : Int).fmod 4096 * 16 + (mode : Int).fdiv 4096 = ((mode % 4096 * 16 + mode / 4096 : Nat) : Int) := by
    rw [Int.fmod_eq_emod_of_nonneg _ (by omega), Int.fdiv_eq_ediv_of_nonneg _ (by omega)]; push_cast; rfl
  refine wpAny_BinOp ?_
  refine wpAny_Name (wpAny_loadName_free (by rfl) (by rfl) (by rfl) ((hc.keeps hk).keeps (kp_push _ _)) ?_) (by decide)
  refine wpAny_Constant_int ?_
  refine mod_int' (by decide) ?_
  have hmod : (rule : Int).fmod 2 = ((rule % 2 : Nat) : Int) := by rw [Int.fmod_eq_emod_of_nonneg _ (by omega)]; rfl
  have hx : ∀ (tk : Tok), ∃ tq, ([Value.int (mode : Int) t, .int ((mode : Int).fmod 4096 * 16 + (mode : Int).fdiv 4096) tk].toArray)[rule % 2]? = some (.int (pkey rule mode : Nat) tq) := fun tk => by
    have h2 : rule % 2 = 0 ∨ rule % 2 = 1 := by omega
    rw [hK]
    unfold pkey
    rcases h2 with h2 | h2 <;> rw [h2] <;> exact ⟨_, rfl⟩
  obtain ⟨tq, hq⟩ := hx _
  refine qt _ _ _ ⟨_, _, rule % 2, _, _, rfl, congrArg (fun z => Value.int z _) hmod, ⟨_, Heap.get?_push_size _ rfl, rfl, _, rfl⟩, by omega, hq, ?_⟩
  exact hQ _ _ (ks_tr (kfs_nil fx.kfs) (ks_of (kp_push _ _)))
end
end Mine
end
section
open PySem PySem.W PyProof.Rows
set_option maxRecDepth 100000
set_option linter.unusedVariables false
namespace Mine
theorem Tab.ok {ps : Array Value} {h : Heap} (x : Tab ps h) : TriplesOk ps.toList := by
  obtain ⟨o, vs, file, tf, flags, tg, inF, text, tt, op, a, r1, r2, r3, r4, r5, r6, b, c, d, r⟩ := x.code
  exact d
section
variable {w : World} {A : Around} {E : Value → Shared → Prop} {s : Shared} {mg mb : Str → Option Value}
/-- a lambda of law with a closure -/
theorem lamFX {params : Arguments} {body : PySem.Expr} {scope : Scope} {ps : Array Value} {pos : Pos} {q : Str × Addr} {r : List (Str × Addr)} {l : List Str × List Str} {sB : Shared} {m cm : Str → Option Value} {Q : Value → Shared → Prop}
    (hdef : defaultsOf params (lawEnv 159) = ([], [])) (hcl : closureFor scope (lawEnv 159) = pure (q :: r)) (hnf : codeAmong pos ps.toList = none) (hl : localNames params scope (.expr body) = some l)
    (f : FX [] sB 159 m lawCs cm s) (h0 : sB.heap.get? 154 = none) (hg : sB.heap.Ns mainGlobals mg) (hb : sB.heap.BuiltinsAt mg 154) (T : Tab ps s.heap)
    (h : ∀ a c' ctv s', FX [] sB 159 m lawCs cm s' → Tab (ps ++ #[rawInt pos.line, rawInt pos.col, .ref c']) s'.heap → KM [154] s.heap s'.heap → s'.heap.get? a = some (kla_obj "<lambda>" ("law.<locals>." ++ "<lambda>") params body scope (q :: r) ((mg "__name__").getD .none) c' ctv) → s'.heap.CodeRec (.ref c') ("law.<locals>." ++ "<lambda>") →
      Q (.ref a) s') :
    wpAny (model PR w) A (eval (.Lambda params body scope pos) (lawEnv 159)) Q E s := by
  refine lamEx (c := 156) (P := 154) (ps := ps) (mg := mg) hdef hcl rfl (hg.keeps (kfh_nil f.keep)) rfl T.code T.tab hnf hl (by decide) (hb.keeps (kfh_nil f.keep)) fun c' ctv h' tk v0 tq rest hx hz htb hc' hge hf => ?_
  refine h _ c' ctv _ (f.extBut hx (by decide) h0 fun n c e => ?_) ⟨isCode_to T.code (fun o e => hx _ _ (by decide) e) htb ?_, htb⟩ (fun b o hb e => hx b o (by simpa using hb) e) hf ⟨c', _, _, tq, rfl, hc', rfl, rfl⟩
  · have h159 : 159 < c := f.above n c (mem_of_lookup e)
    exact fun z => by rw [z] at h159; exact absurd h159 (by decide)
  · have := TriplesOk_snoc pos.line pos.col (.ref c') ps.toList T.ok
    simpa using this
end
end Mine
end
section
open PySem PySem.W PyProof.Rows
set_option maxRecDepth 100000
set_option linter.unusedVariables false
namespace Mine
theorem kS_tab {ps : Array Value} {h h' : Heap} (T : Tab ps h) (k : KM [154] h h') : KS h h' := fun b o vs n hd e => by
  refine k b o (fun z => ?_) e
  have hT := T.tab
  rw [List.mem_singleton.mp z, hT] at e
  cases e; cases hd
section
variable {w : World} {E : Value → Shared → Prop} {mg mb : Str → Option Value}
/-- plain = sorted(modes, key=lambda mode: .., reverse=rule > 1) -/
theorem S8 {sB s : Shared} {m cm : Str → Option Value} {M : Addr} {vs : List Value} {modes : List Nat} {rule : Nat} {tr : Tok} {ps : Array Value} {Q : Flow → Shared → Prop} (N : GOk mg mb) (f : FX [] sB 159 m lawCs cm s) (h0 : sB.heap.get? 154 = none) (GB : GW w mg mb sB.heap) (hbi : sB.heap.BuiltinsAt mg 154) (T : Tab ps s.heap)
    (hnf : codeAmong lam7.2.2.2 ps.toList = none)
    (hm : m (Str.ofString "modes") = some (.ref M)) (hM : s.heap.IsList M vs.toArray) (hv : All2 (fun v x => ∃ t, v = Value.int (x : Nat) t) vs modes) (h64 : vs.length < 64) (hb : ∀ x ∈ modes, x < 65536)
    (hr : rule < 4) (hcr : cm (Str.ofString "rule") = some (.int rule tr))
    (hQ : ∀ s' c' D ys out, FX [] sB 159 m lawCs (fun y => if y = Str.ofString "plain" then some (.ref D) else cm y) s' → Tab (ps ++ #[rawInt lam7.2.2.2.line, rawInt lam7.2.2.2.col, .ref c']) s'.heap → KM [159, 154, cellAt 159 "plain"] s.heap s'.heap → KS s.heap s'.heap → s'.heap.IsList D ys.toArray → All2 (fun v x => ∃ t, v = Value.int (x : Nat) t) ys out →
      out.Perm modes → out.Pairwise (fun x y => gkey rule x ≤ gkey rule y) → Q .next s') :
    wpAny (model PR w) AL (exec (lawSt 7) (lawEnv 159)) Q E s := by
  refine wpAny_Assign_Name ?_ ?hs
  case hs => rfl
  refine wpAny_Call_Name_kw ?_
  refine Calls.Name_function_global (by rfl) (by rfl) (Calls.loadGlobal_builtin (GB.g.keeps (kfh_nil f.keep)) N.n_sorted (GB.b.keeps (kfh_nil f.keep)) N.b_sorted ?_) (by decide)
  refine PyProof.Rows.callWith_builtin_kwB (by rfl) (by rfl) ?_
  refine PyProof.Rows.evalArgs_kwB (by rfl) ?_
  refine Calls.spliced_cons ?_
  refine nmL (m := m) f (by rfl) (by rfl) hm ?_ (by decide)
  refine Calls.spliced_nil ?_
  refine wpAny_evalAll_cons ?_
  refine wpAny_bind ?_
  refine lamFX (r := []) (q := (Str.ofString "rule", cellAt 159 "rule")) (l := ([Str.ofString "mode"], [])) ?l1 ?l2 hnf ?l4 f h0 GB.g hbi T ?_
  case l1 => rfl
  case l2 => rfl
  case l4 => rfl
  intro a c' ctv s₁ f₁ T₁ k₁ ha hcd
  refine wpAny_bind (wpAny_standAt (wpAny_pure ?_))
  refine wpAny_evalAll_cons ?_
  refine wpAny_bind ?_
  refine wpAny_Compare1 ?_ (by rfl)
  refine nmC (m := m) f₁ (by rfl) (by rfl) (by rfl) hcr ?_ (by decide)
  refine wpAny_Constant_int ?_
  refine PyProof.Rows.gt_int ?_
  refine wpAny_bind (wpAny_standAt (wpAny_pure ?_))
  refine PySem.wpAny_evalAll_nil ?_
  show wpAny (model PR w) _ (call (.builtin "sorted") [.ref M] [(Str.ofString "key", .ref a), (Str.ofString "reverse", .bool (decide ((1 : Int) < (rule : Int))))]) _ _ _
  have hM₁ : s₁.heap.IsList M vs.toArray := by
    obtain ⟨o, ho, hc0, n, hdd⟩ := hM
    refine ⟨o, k₁ M o (fun z => ?_) ho, hc0, n, hdd⟩
    have hT := T.tab
    rw [List.mem_singleton.mp z, hT] at ho
    cases ho; cases hdd
  have hvi : IntsAre vs (modes.map fun x : Nat => (x : Int)) := by
    have : ∀ {vs : List Value} {l : List Nat}, All2 (fun v x => ∃ t, v = Value.int (x : Nat) t) vs l → IntsAre vs (l.map fun x : Nat => (x : Int)) := by
      intro vs l q
      induction q with
      | nil => exact .nil
      | cons h _ ih => obtain ⟨t, rfl⟩ := h; exact .cons _ _ ih
    exact this hv
  obtain ⟨h₁, t₁, e₁⟩ := f₁.same
  have f₂ := f₁.ks (ks_tok s₁ (s₁.toks + 1))
  refine ksk_letter (h₀ := ⟨#[], s₁.heap.life⟩) (L := 159) (m := m) (news := allNews s₁.heap 159) (ns := modes.map fun x : Nat => (x : Int)) (b := decide ((1 : Int) < (rule : Int))) (fun n => (pkey rule n.toNat : Int)) (fr_none f₁.ns) (news_all s₁.heap 159) hM₁ hvi (by rw [← hvi.length]; exact h64) (ksk_s2 _ _ _) (fun x => ksk_l2 _ _ _) (fun x => ksk_t2 _ _ _) (fun n t h tk own hn F' N' => ?_) fun D vs' ns' c h' tk F' N' l1 hi' el hp ho _ => ?_
  · obtain ⟨x, hx, rfl⟩ := List.mem_map.mp hn
    have km : KM [159] s₁.heap h := fun b o hb e => (N' _ (List.mem_append_left _ (mem_allNews (by simpa using hb) e))).1
    have G₁ := (GB.ks (kfh_nil f₁.keep)).km f₁.ns (by decide) km
    have hcell : s₁.heap.IsCell (cellAt 159 "rule") (some (.int rule tr)) := hcr ▸ f₁.cell (Str.ofString "rule") (cellAt 159 "rule") (by rfl)
    refine lamPlain (s := ⟨h, s₁.gens, s₁.drawn, tk, s₁.os⟩) (cR := cellAt 159 "rule") (mode := x) (rule := rule) (t := t) G₁.lim (by decide) hr (hb x hx) (km_nd f₁.ns km ha (fun es ep z => by cases z)) (code_km f₁.ns km hcd) (cell_km f₁.ns km hcell) fun t' s' k => ?_
    obtain ⟨h₃, t₃, rfl, k₃⟩ := k
    exact ⟨h₃, t₃, t', rfl, rfl, fr_none (F'.ns.keeps k₃), fun p hp => ⟨k₃ _ _ (N' p hp).1, (N' p hp).2⟩⟩
  · have km : KM [159] s₁.heap h' := fun b o hb e => (N' _ (.tail _ (mem_allNews (by simpa using hb) e))).1
    have f₃ := f₁.kmL (tk := tk) F'.ns km
    refine stCX (m := m) f₃ (by rfl) (by rfl) (by rfl) fun s₄ f₄ e₄ sb₄ k₄ => ?_
    have hD₃ : h'.IsList D vs'.toArray := ⟨_, (N' _ (.head _)).1, rfl, _, rfl⟩
    have T₃ : Tab (ps ++ #[rawInt lam7.2.2.2.line, rawInt lam7.2.2.2.col, .ref c']) h' := T₁.km km (by decide) (by decide)
    refine hQ s₄ c' D vs' (ns'.map Int.toNat) f₄ (T₃.km (km_same (M := [cellAt 159 "plain"]) sb₄ (.head _)) (by decide) (by decide)) (((k₁.mono (by simp)).tr (km.mono (by simp))).tr (km_same sb₄ (.tail _ (.tail _ (.head _))))) (((kS_tab T k₁).tr (fun b o vs n hd e => km b o (fun z => by
      obtain ⟨o', es, ep, ho', hd', _⟩ := f₁.ns
      rw [List.mem_singleton.mp z, ho'] at e
      cases e; rw [hd] at hd'; cases hd') e)).tr k₄) (isList_ks k₄ hD₃) ?_ ?_ ?_
    · have nn : ∀ y ∈ ns', 0 ≤ y := fun y hy => by
        obtain ⟨x, _, rfl⟩ := List.mem_map.mp (hp.subset hy)
        omega
      have : ∀ {vs : List Value} {l : List Int}, IntsAre vs l → (∀ y ∈ l, 0 ≤ y) → All2 (fun v x => ∃ t, v = Value.int (x : Nat) t) vs (l.map Int.toNat) := by
        intro vs l q
        induction q with
        | nil => exact fun _ => .nil
        | cons x t _ ih => exact fun hn => .cons ⟨t, by rw [Int.toNat_of_nonneg (hn _ (.head _))]⟩ (ih fun y hy => hn y (.tail _ hy))
      exact this hi' nn
    · have := hp.map Int.toNat
      rw [List.map_map] at this
      have e : modes.map (Int.toNat ∘ fun x : Nat => (x : Int)) = modes := by simp [Function.comp_def]
      rw [e] at this
      exact this
    · refine List.pairwise_map.mpr (ho.imp fun {x y} q => ?_)
      unfold gkey
      have h4 : rule = 0 ∨ rule = 1 ∨ rule = 2 ∨ rule = 3 := by omega
      rcases h4 with rfl | rfl | rfl | rfl <;> simp at q ⊢ <;> omega
end
end Mine
end
section
open PySem PySem.W PyProof.Rows
set_option maxRecDepth 100000
set_option linter.unusedVariables false
namespace Mine
theorem arL {sB s : Shared} {m cm : Str → Option Value} (f : FX [] sB 159 m lawCs cm s) : Ar AL [lawEnv 159] [159] s.heap := by
  have a0 : Ar callerA [] [] sB.heap := ⟨by decide, by decide, rfl, rfl, (fun _ h => nomatch h), rfl, (fun _ h => nomatch h), (fun _ h => nomatch h)⟩
  exact a0.deep (h := s.heap) (T := []) (env := lawEnv 159) f rfl (by decide) (by decide) (by decide) (by decide)
section
variable {w : World} {E : Value → Shared → Prop} {mg mb : Str → Option Value}
/-- ended = reduce(lambda state, stop: .., range(many ** size + 1), begin) -/
theorem S10 {sB s : Shared} {m cm : Str → Option Value} {D : Addr} {bv : Value} {ys : List Value} {ls : List Int} {many sz : Nat} {tm ts : Tok} {st : List Int × List (List Int)} {ps : Array Value} {Q : Flow → Shared → Prop} (N : GOk mg mb) (f : FX [] sB 159 m lawCs cm s) (h0 : sB.heap.get? 154 = none) (hgB : sB.gens = #[]) (GB : GW w mg mb sB.heap) (RB : RdAt sB.heap) (hbi : sB.heap.BuiltinsAt mg 154) (T : Tab ps s.heap)
    (hnf : codeAmong lam9.2.2.2 ps.toList = none) (hmany : m (Str.ofString "many") = some (.int many tm)) (hbeg : m (Str.ofString "begin") = some bv) (hst : ST s.heap bv st)
    (cl : cm (Str.ofString "letters") = some (.ref D)) (hD : s.heap.IsList D ys.toArray) (hy : IntsAre ys ls) (cs : cm (Str.ofString "size") = some (.int sz ts)) (h1 : 1 ≤ sz) (h4 : sz ≤ 4) (hm5 : many ≤ 5) (hp : many ^ sz ≤ 200)
    (h2 : sz ≤ st.1.length + 1) (b1 : ls.length ≤ 100) (b2 : st.1.length ≤ 100) (b3 : st.2.length ≤ 100)
    (hQ : ∀ s' m' ev, FX [] sB 159 m' lawCs cm s' → (∀ y, m' y = if y = Str.ofString "ended" then some ev else m y) → ST s'.heap ev (iter (longer ls sz) (many ^ sz + 1) st) → KM [159, 154] s.heap s'.heap → (∃ ps', s'.heap.get? 154 = some (tabObj ps')) → Q .next s') :
    wpAny (model PR w) AL (exec (lawSt 9) (lawEnv 159)) Q E s := by
  refine wpAny_Assign_Name ?_ ?hs
  case hs => rfl
  refine Call_Name (trees := [(false, eval _ _), (false, eval _ _), (false, eval _ _)]) rfl ?_
  refine Calls.Name_function_global (by rfl) (by rfl) (Calls.loadGlobal_global (GB.g.keeps (kfh_nil f.keep)) N.g_reduce ?_) (by decide)
  obtain ⟨⟨doc, pm, ct, c, o, d, od, nn, e1, e2, e3, e4, e5⟩, o6, e6, e7⟩ := id RB
  refine Calls.callWith_function (o := o) (fd := fdM "reduce" "reduce" (defNo 7) [] (.ref d) doc pm ct c) (Calls.evalArgs_plain (Calls.spliced_cons ?_))
  refine lamFX (r := [(Str.ofString "letters", cellAt 159 "letters")]) (q := (Str.ofString "size", cellAt 159 "size")) (l := ([Str.ofString "state", Str.ofString "stop"], [])) ?l1 ?l2 hnf ?l4 f h0 GB.g hbi T ?_
  case l1 => rfl
  case l2 => rfl
  case l4 => rfl
  intro a c' ctv s₁ f₁ T₁ k₁ ha hcd
  refine Calls.spliced_cons ?_
  refine callN1 ?_
  refine Calls.Name_function_global (by rfl) (by rfl) (Calls.loadGlobal_builtin (GB.g.keeps (kfh_nil f₁.keep)) N.n_range (GB.b.keeps (kfh_nil f₁.keep)) N.b_range ?_) (by decide)
  refine PySem.callWith_type1 ?_
  refine wpAny_BinOp (wpAny_BinOp ?_)
  refine nmL (m := m) f₁ (by rfl) (by rfl) hmany ?_ (by decide)
  refine nmC (m := m) f₁ (by rfl) (by rfl) (by rfl) cs ?_ (by decide)
  refine pow_int (by omega) (powOk _ _ hm5 h4) ?_
  rw [Int.toNat_natCast]
  refine wpAny_Constant_int ?_
  refine add_int ?_
  have hcast : ((many : Int) ^ sz) + 1 = ((many ^ sz + 1 : Nat) : Int) := by push_cast; rfl
  rw [hcast]
  refine call_range_1 ?_
  have kR := ks_push s₁ { cls := .type "range", data := .fields #[.int 0 (s₁.toks + 1 + 1 + 1), .int ((many ^ sz + 1 : Nat) : Int) (s₁.toks + 1 + 1), .int 1 (s₁.toks + 1 + 1 + 1 + 1)] } (s₁.toks + 1 + 1 + 1 + 1 + 1)
  have hR : IsRange (s₁.heap.push { cls := .type "range", data := .fields #[.int 0 (s₁.toks + 1 + 1 + 1), .int ((many ^ sz + 1 : Nat) : Int) (s₁.toks + 1 + 1), .int 1 (s₁.toks + 1 + 1 + 1 + 1)] }) s₁.heap.objs.size 0 ((many ^ sz + 1 : Nat) : Int) 1 _ _ _ := Heap.get?_push_size _ rfl
  have f₂ := f₁.ks kR
  refine Calls.spliced_cons ?_
  refine nmL (m := m) f₂ (by rfl) (by rfl) hbeg ?_ (by decide)
  refine Calls.spliced_nil ?_
  have kB : Keep sB.heap (s₁.heap.push { cls := .type "range", data := .fields #[.int 0 (s₁.toks + 1 + 1 + 1), .int ((many ^ sz + 1 : Nat) : Int) (s₁.toks + 1 + 1), .int 1 (s₁.toks + 1 + 1 + 1 + 1)] }) := kfh_nil f₂.keep
  refine ⟨⟨kB _ _ e1, e2⟩, ?_⟩
  show wpAny _ _ (call (.ref 74) [.ref a, .ref s₁.heap.objs.size, bv]) _ _ _
  have kS₁ : KS s.heap s₁.heap := kS_tab T k₁
  have hgens : s₁.gens = #[] := by obtain ⟨h', t', e⟩ := f₁.same; rw [e]; exact hgB
  have hcl := f₂.cell (Str.ofString "letters") (cellAt 159 "letters") (by rfl)
  have hcs := f₂.cell (Str.ofString "size") (cellAt 159 "size") (by rfl)
  rw [cl] at hcl
  rw [cs] at hcs
  have hsz := f₂.ns.lt
  refine reduceFn (S := [159]) (outer := [lawEnv 159]) (cL := cellAt 159 "letters") (cS := cellAt 159 "size") (lv := .ref D) (ls := ls) (sz := sz) (tz := ts) (n := many ^ sz + 1) (st := st) (GB.ks kB) N (RB.kf (S := []) (kfh_of kB)) (arL f₂) (by decide) (by decide) (by show 158 ≤ _; exact Nat.le_of_lt (Nat.lt_trans (by decide : 158 < 159) hsz)) hgens ?_ (hst.ks (kS₁.tr (kS_of (ks_keep kR)))) hR h1 h2 b1 b2 b3 (by omega) fun v' s' k q => ?_
  · exact ⟨⟨_, _, c', ctv, ks_keep kR _ _ ha, hcd.keeps (ks_keep kR)⟩, hcl, hcs, ⟨D, ys, rfl, isList_ks (kS₁.tr (kS_of (ks_keep kR))) hD, hy⟩⟩
  · have f₃ := f₂.go k
    refine stLX (m := m) f₃ (by rfl) (by rfl) fun s₄ f₄ e₄ sb₄ k₄ => ?_
    have km : KM [159] (s₁.heap.push { cls := .type "range", data := .fields #[.int 0 (s₁.toks + 1 + 1 + 1), .int ((many ^ sz + 1 : Nat) : Int) (s₁.toks + 1 + 1), .int 1 (s₁.toks + 1 + 1 + 1 + 1)] }) s'.heap := (kfs_heap k).1
    refine hQ s₄ _ v' f₄ (fun y => rfl) (q.ks k₄) ?_ ⟨_, (km_same (M := [159]) sb₄ (.head _)) _ _ (by decide) (km _ _ (by decide) (ks_keep kR _ _ T₁.tab))⟩
    exact ((k₁.mono (by simp)).tr (km_of (ks_keep kR))).tr ((km.mono (by simp)).tr (km_same sb₄ (.head _)))
end
end Mine
end
section
open PySem PySem.W PyProof.Rows
set_option maxRecDepth 100000
set_option linter.unusedVariables false
namespace Mine
/-- a list comprehension of two clauses without tests -/
noncomputable abbrev LC2 (elt t₁ i₁ t₂ i₂ : PySem.Expr) (scope : Scope) (pos : Pos) : PySem.Expr := .ListComp elt [⟨t₁, i₁, [], 0⟩, ⟨t₂, i₂, [], 0⟩] scope pos
theorem compTurn_out (elt t₁ i₁ t₂ i₂ : PySem.Expr) (scope : Scope) (pos : Pos) (it acc : Value) (env : Env) :
    compTurn (LC2 elt t₁ i₁ t₂ i₂ scope pos) 0 it acc env = (standAt i₁.pos >>= fun _ => pyNext it >>= fun r => match r with
      | none => pure (.done .next)
      | some v => letOwnedTupleGo t₁ it v >>= fun _ => assign t₁ env v >>= fun _ =>
        (eval i₂ env >>= fun x => standAt i₂.pos >>= fun _ => foldedSetIterable i₂ env x >>= fun x => holding [x] (pyIter x) >>= fun it₂ =>
          runOwn (.compStart (LC2 elt t₁ i₁ t₂ i₂ scope pos) 1 it₂ acc env) env >>= fun _ => again (.compLoop (LC2 elt t₁ i₁ t₂ i₂ scope pos) 0 it acc env))) := by rfl
theorem compTurn_in (elt t₁ i₁ t₂ i₂ : PySem.Expr) (scope : Scope) (pos : Pos) (it acc : Value) (env : Env) :
    compTurn (LC2 elt t₁ i₁ t₂ i₂ scope pos) 1 it acc env = (standAt i₂.pos >>= fun _ => pyNext it >>= fun r => match r with
      | none => pure (.done .next)
      | some v => letOwnedTupleGo t₂ it v >>= fun _ => assign t₂ env v >>= fun _ =>
        (eval elt env >>= fun x => call (.builtin "list.append") [acc, x] >>= fun _ => pure ()) >>= fun _ =>
          again (.compLoop (LC2 elt t₁ i₁ t₂ i₂ scope pos) 1 it acc env)) := by rfl
section
variable {prog : Program} {w : World} {A : Around} {E : Value → Shared → Prop} {R : Result → Shared → Prop} {s : Shared}
theorem codeAny_loopOut {elt t₁ i₁ t₂ i₂ : PySem.Expr} {scope : Scope} {pos : Pos} {it acc : Value} {env : Env} (I : Nat → Shared → Prop)
    (turn : ∀ n s E₁, I n s → wpAny (model prog w) A (pyNext it) (fun r s₁ => match r with
      | none => R (.ok .next) s₁
      | some v => wpAny (model prog w) A (assign t₁ env v) (fun _ s₂ => wpAny (model prog w) A (eval i₂ env) (fun x s₃ => wpAny (model prog w) A (pyIter x) (fun it₂ s₄ =>
          ∀ R₂ : Result → Shared → Prop, (∀ f s', (∃ m, m < n ∧ I m s') → R₂ (.ok f) s') → codeAny (model prog w) A (.compStart (LC2 elt t₁ i₁ t₂ i₂ scope pos) 1 it₂ acc env) R₂ s₄) E₁ s₃) E₁ s₂) E₁ s₁) E₁ s)
    (n : Nat) (h : I n s) (ht : ∀ v, letOwnedTupleGo t₁ it v = pure () := by intro _; rfl) (hs : ∀ x, foldedSetIterable i₂ env x = pure x := by intro _; rfl) :
    codeAny (model prog w) A (.compLoop (LC2 elt t₁ i₁ t₂ i₂ scope pos) 0 it acc env) R s := by
  refine codeAny_loop rfl I (fun n s hI => ?_) n h
  show wpAny _ _ ((compTurn (LC2 elt t₁ i₁ t₂ i₂ scope pos) 0 it acc env).onRaise (fun x => do noteFrame x env; theTreesLotGoes x)) _ _ s
  refine wpAny_noted ?_
  rw [compTurn_out]
  refine wpAny_bind (wpAny_standAt (wpAny_bind (wpAny_mono (turn n s _ hI) (fun r s₁ h₁ => ?_) fun _ _ h' => h')))
  cases r with
  | none => exact wpAny_pure h₁
  | some v =>
    refine wpAny_bind (wpAny_of_eq (ht v) ?_)
    refine wpAny_bind (wpAny_mono h₁ (fun _ s₂ h₂ => wpAny_bind (wpAny_mono h₂ (fun x s₃ h₃ => wpAny_bind (wpAny_standAt (wpAny_bind (wpAny_of_eq (hs x) (wpAny_bind (wpAny_holding (wpAny_mono h₃ (fun it₂ s₄ h₄ => wpAny_bind (wpAny_runOwn (h₄ _ fun f s' q => ?_))) fun _ _ h' => h'))))))) fun _ _ h' => h')) fun _ _ h' => h')
    exact wpAny_pure ⟨rfl, q⟩
theorem codeAny_loopIn {elt t₁ i₁ t₂ i₂ : PySem.Expr} {scope : Scope} {pos : Pos} {it acc : Value} {env : Env} (I : Nat → Shared → Prop)
    (turn : ∀ n s E₁, I n s → wpAny (model prog w) A (pyNext it) (fun r s₁ => match r with
      | none => R (.ok .next) s₁
      | some v => wpAny (model prog w) A (assign t₂ env v) (fun _ s₂ => wpAny (model prog w) A (eval elt env) (fun x s₃ =>
          wpAny (model prog w) A (call (.builtin "list.append") [acc, x]) (fun _ s₄ => ∃ m, m < n ∧ I m s₄) E₁ s₃) E₁ s₂) E₁ s₁) E₁ s)
    (n : Nat) (h : I n s) (ht : ∀ v, letOwnedTupleGo t₂ it v = pure () := by intro _; rfl) :
    codeAny (model prog w) A (.compLoop (LC2 elt t₁ i₁ t₂ i₂ scope pos) 1 it acc env) R s := by
  refine codeAny_loop rfl I (fun n s hI => ?_) n h
  show wpAny _ _ ((compTurn (LC2 elt t₁ i₁ t₂ i₂ scope pos) 1 it acc env).onRaise (fun x => do noteFrame x env; theTreesLotGoes x)) _ _ s
  refine wpAny_noted ?_
  rw [compTurn_in]
  refine wpAny_bind (wpAny_standAt (wpAny_bind (wpAny_mono (turn n s _ hI) (fun r s₁ h₁ => ?_) fun _ _ h' => h')))
  cases r with
  | none => exact wpAny_pure h₁
  | some v =>
    refine wpAny_bind (wpAny_of_eq (ht v) ?_)
    exact wpAny_bind (wpAny_mono h₁ (fun _ s₂ h₂ => wpAny_bind (wpAny_bind (wpAny_mono h₂ (fun x s₃ h₃ => wpAny_bind (wpAny_mono h₃
      (fun _ s₄ h₄ => wpAny_pure (wpAny_pure ⟨rfl, h₄⟩)) fun _ _ h' => h')) fun _ _ h' => h'))) fun _ _ h' => h')
theorem codeAny_startIn {elt t₁ i₁ t₂ i₂ scope pos it acc env}
    (h0 : codeAny (model prog w) A (.compLoop (LC2 elt t₁ i₁ t₂ i₂ scope pos) 1 it acc env) R s)
    (h : ∀ E', wpAny (model prog w) A (pyIter it) (fun it' s' => codeAny (model prog w) A (.compLoop (LC2 elt t₁ i₁ t₂ i₂ scope pos) 1 it' acc env) R s') E' s) :
    codeAny (model prog w) A (.compStart (LC2 elt t₁ i₁ t₂ i₂ scope pos) 1 it acc env) R s := by
  refine codeAny_of_tree ?_
  show wpAny _ _ ((compStart (LC2 elt t₁ i₁ t₂ i₂ scope pos) 1 it acc env).onRaise (fun x => do noteFrame x env; standAt theWindowsPlace)) _ _ s
  refine wpAny_notedAt ?_
  unfold compStart
  show wpAny _ _ (ask >>= _) _ _ s
  refine wpAny_bind (wpAny_askSetting (wpAny_ite ?_))
  split
  · first
      | exact wpAny_bind (wpAny_pure (wpAny_pure (And.intro rfl h0)))
      | exact wpAny_pure (And.intro rfl h0)
  · first
      | exact wpAny_bind (wpAny_rule (wpAny_bind (wpAny_standAt (wpAny_bind (wpAny_mono (h _) (fun it' s' h' => wpAny_pure (And.intro rfl h')) fun _ _ x => x)))))
      | (refine wpAny_bind (wpAny_rule ?_); show wpAny _ _ (standAt i₂.pos >>= _) _ _ s; exact wpAny_bind (wpAny_standAt (wpAny_bind (wpAny_mono (h _) (fun it' s' h' => wpAny_pure (And.intro rfl h')) fun _ _ x => x))))
end
end Mine
end
section
open PySem PySem.W PyProof.Rows
set_option maxRecDepth 100000
set_option linter.unusedVariables false
namespace Mine
theorem stAt {h h' : Heap} {I l : Addr} {i : Nat} {vs : Array Value} (x : h.IsListIter I l i ∧ h.IsList l vs) (k1 : ∀ o, h.get? I = some o → h'.get? I = some o) (k2 : ∀ o, h.get? l = some o → h'.get? l = some o) : h'.IsListIter I l i ∧ h'.IsList l vs :=
  ⟨x.1.at k1, let ⟨o, e, r⟩ := x.2; ⟨o, k2 _ e, r⟩⟩
/-- the state between the turns of both loops -/
noncomputable def FlB (s₂ : Shared) (I D C : Addr) (out : List Int) (s' : Shared) : Prop :=
  ∃ h tk m ys, s' = { s₂ with heap := h, toks := tk } ∧ h.IsList D (List.toArray ys) ∧ h.Ns C m ∧ IntsAre ys out ∧ ∀ b o, b ≠ I → s₂.heap.get? b = some o → h.get? b = some o
theorem take_flat {words : List (List Int)} {i : Nat} {wd : List Int} (e : words[i]? = some wd) : (words.take (i + 1)).flatten = (words.take i).flatten ++ wd := by
  rw [List.take_add_one, e, List.flatten_append]
  simp
theorem flat_le {words : List (List Int)} {i : Nat} {wd : List Int} (e : words[i]? = some wd) (j : Nat) : ((words.take i).flatten ++ wd.take j).length ≤ words.flatten.length := by
  have h1 := take_flat e
  have h2 : words.flatten = (words.take (i + 1)).flatten ++ (words.drop (i + 1)).flatten := by rw [← List.flatten_append, List.take_append_drop]
  rw [h2, h1]
  simp only [List.length_append, List.length_take]
  omega
section
variable {prog : Program} {w : World} {A : Around} {E : Value → Shared → Prop} {env : Env}
set_option maxHeartbeats 1000000 in
/-- z = [elt for x in words for y in x], z a local name, elt a number for a number -/
theorem assignFlat {s s₀ : Shared} {m cm : Str → Option Value} {elt iter : PySem.Expr} {x y z : Str} {px py pz pi : Pos} {scope : Scope} {cl : List (Str × Addr)} {pos spos : Pos} {f : Int → Int} {Q : Flow → Shared → Prop} (hh : A.handled = none)
    (hsw : swapsWith (LC2 elt (.Name x px) iter (.Name y py) (.Name x pi) scope pos) (some (.Name z pz)) spos.line env = pure true)
    (hclos : closureFor scope env = pure cl) (hcell : ∀ y ∈ scope.names, y.2 ≠ .cell) (hkind : scope.kind = .function)
    (hnames : ∀ y ∈ scope.names, y.2 = .local → scope.names.lookup y.1 = some .local) (hx : scope.names.lookup x = some .local) (hy : scope.names.lookup y = some .local) (hz : env.kindOf z = some .local) (hek : env.scope.kind = .function) (hdx : (x == ("__debug__" : Str)) = false)
    (h : wpAny (model prog w) A (eval iter env) (fun xv s₁ => ∃ words, InCallC s₀ env.locals m env.cells cm s₁ ∧ LL s₁.heap xv words ∧ words.flatten.length ≤ 1000 ∧
      (∀ fig t C s₃ m₃ E', fig ∈ words.flatten → s₃.heap.Ns C m₃ → m₃ y = some (.int fig t) → Keep s₁.heap s₃.heap →
        wpAny (model prog w) A (eval elt (compEnvC scope cl C env)) (fun v s₄ => (∃ t', v = .int (f fig) t') ∧ Keeps s₃ s₄) E' s₃) ∧
      (∀ D s' (ys : List Value), InCallC s₀ env.locals (fun q => if q = z then some (.ref D) else m q) env.cells cm s' → KM [env.locals] s₁.heap s'.heap → KS s₁.heap s'.heap → s₁.heap.objs.size ≤ D → s'.heap.IsList D ys.toArray → IntsAre ys (words.flatten.map f) → Q .next s')) E s)
    (hs : ∀ x, foldedSetIterable iter env x = pure x := by intro _; rfl) :
    wpAny (model prog w) A (exec (.Assign [.Name z pz] (LC2 elt (.Name x px) iter (.Name y py) (.Name x pi) scope pos) spos) env) Q E s := by
  rw [exec_Assign_Name_used _ _ _ _ hsw]
  refine wpAny_bind (wpAny_standAt (wpAny_bind ?_))
  show wpAny _ A (do let _ ← comprehension (LC2 elt (.Name x px) iter (.Name y py) (.Name x pi) scope pos) scope env _ (newList []) false (eval iter env) (some (assign (.Name z pz) env))) _ _ s
  refine wpAny_bind (wpAny_mono (wpAny_comprehension_free (use := some (assign (.Name z pz) env)) (Q := fun _ s' => Q .next s') rfl hs hclos hkind hnames
    (wpAny_mono h (fun xv s₁ h₁ => ?_) fun _ _ e => e)) (fun _ s' hq => wpAny_pure (wpAny_pure hq)) fun _ _ e => e)
  obtain ⟨words, xc, ⟨wl, wvs, rfl, hwl, hwa⟩, hlen, helt, hQ⟩ := h₁
  refine wpAny_pyIter_list hwl ?_
  have hwlt : wl < s₁.heap.objs.size := by obtain ⟨o, e, _⟩ := hwl; exact Heap.lt_size e
  have W := Walks.list (prog := prog) (w := w) hh s₁.heap.objs.size wl (Nat.ne_of_lt hwlt) wvs.toArray
  have kI : Keep s₁.heap (s₁.heap.push { cls := .type "list_iterator", data := .fields #[.ref wl, .int 0 0] }) := kp_push _ _
  have hI0 : (s₁.heap.push { cls := .type "list_iterator", data := .fields #[.ref wl, .int 0 0] }).IsListIter s₁.heap.objs.size wl 0 := ⟨_, Heap.get?_push_size _ rfl, rfl, rfl⟩
  have hszI : (s₁.heap.push { cls := .type "list_iterator", data := .fields #[.ref wl, .int 0 0] }).objs.size = s₁.heap.objs.size + 1 := Heap.size_push ..
  generalize hH : s₁.heap.push { cls := .type "list_iterator", data := .fields #[.ref wl, .int 0 0] } = H₂ at kI hI0 hszI ⊢
  generalize hIq : s₁.heap.objs.size = I at W hI0 hszI hwlt hQ ⊢
  have hIlt : I < H₂.objs.size := by rw [hszI]; exact Nat.lt_succ_self _
  -- the new list, the new frame
  refine wpAny_newObj_type (wpAny_newFunctionEnv hcell (by intro y hy; simp at hy) (fun h₁ hns₁ hsb₁ => ?_) hkind)
  dsimp only at hns₁ hsb₁ ⊢
  have hC : (H₂.push { cls := .type "list", dict := none, data := .seq ([] : List Value).toArray }).objs.size = H₂.objs.size + 1 := Heap.size_push ..
  have hDg : (H₂.push { cls := .type "list", dict := none, data := .seq ([] : List Value).toArray }).get? H₂.objs.size = some { cls := .type "list", dict := none, data := .seq ([] : List Value).toArray } := Heap.get?_push_size _ rfl
  have hDk : Keep H₂ (H₂.push { cls := .type "list", dict := none, data := .seq ([] : List Value).toArray }) := kp_push _ _
  generalize H₂.push { cls := .type "list", dict := none, data := .seq ([] : List Value).toArray } = H₃ at hns₁ hsb₁ hC hDg hDk ⊢
  generalize hDq : H₂.objs.size = D at hIlt hC hDg ⊢
  generalize hCq : H₃.objs.size = C at hns₁ hsb₁ hC ⊢
  have hID : I ≠ D := Nat.ne_of_lt hIlt
  have hDC : D ≠ C := by rw [hC]; exact Nat.ne_of_lt (Nat.lt_succ_self _)
  have hIC : I ≠ C := Nat.ne_of_lt (by rw [hC]; exact Nat.lt_succ_of_lt hIlt)
  have lt2 : ∀ {b o}, H₂.get? b = some o → b ≠ D ∧ b ≠ C := fun {b o} e => by
    have := Heap.lt_size e
    rw [hDq] at this
    exact ⟨Nat.ne_of_lt this, Nat.ne_of_lt (by rw [hC]; exact Nat.lt_succ_of_lt this)⟩
  have k1 : Keep H₂ h₁ := fun b o e => hsb₁.extBut b o (lt2 e).2 (Heap.get?_push_of_some _ (hDk b o e))
  have hD1 : h₁.IsList D (List.toArray []) := ⟨_, hsb₁.extBut _ _ hDC (Heap.get?_push_of_some _ hDg), rfl, _, rfl⟩
  have st1 : h₁.IsListIter I wl 0 ∧ h₁.IsList wl wvs.toArray := ⟨hI0.at fun o e => k1 _ _ e, listAt (kI.tr k1) hwl⟩
  have wlC : wl ≠ C ∧ wl ≠ D ∧ wl ≠ I := by
    obtain ⟨o, e, _⟩ := hwl
    exact ⟨(lt2 (kI _ _ e)).2, (lt2 (kI _ _ e)).1, Nat.ne_of_lt hwlt⟩
  have hsz5 : I ≤ C := by rw [hC]; exact Nat.le_succ_of_le (Nat.le_of_lt hIlt)
  have hns : H₂.Ns env.locals m := xc.toInCall.ns.keeps kI
  have hLI : env.locals < I := by rw [← hIq]; exact xc.toInCall.ns.lt
  have hLC : env.locals ≠ C := Nat.ne_of_lt (Nat.lt_of_lt_of_le hLI hsz5)
  have hLD : env.locals ≠ D := Nat.ne_of_lt (Nat.lt_trans hLI hIlt)
  have old : ∀ {b o}, s₁.heap.get? b = some o → b < I := fun {b o} e => by rw [← hIq]; exact Heap.lt_size e
  have fin : ∀ s', FlB { s₁ with heap := H₂ } I D C (words.flatten.map f) s' → compPost (model prog w) A E (some (assign (.Name z pz) env)) (fun _ s' => Q .next s') (.ref D) C (.ok .next) s' := by
    rintro s' ⟨h', tk, m', ys, rfl, hl, hn, hi, hk⟩
    show wpAny _ A (assign (.Name z pz) env (.ref D)) _ _ _
    have hns' := hns.at' fun o e => hk _ o (Nat.ne_of_lt hLI) e
    have kk : Keep s₁.heap h' := fun b o e => hk b o (Nat.ne_of_lt (old e)) (kI _ _ e)
    refine wpAny_assign_Name (wpAny_storeName_local hz hns' (fun h₂ hn₂ hs₂ => ?_) (by rw [hek]; rfl))
    refine ⟨m', hn.sameBut hs₂ (Ne.symm hLC), fun h₃ hs₃ => ?_⟩
    have k3 : KM [env.locals] s₁.heap h₃ := fun b o hb e => hs₃.extBut b o (Nat.ne_of_lt (Nat.lt_of_lt_of_le (old e) hsz5)) (hs₂.extBut b o (by simpa using hb) (kk _ _ e))
    refine hQ D _ ys ⟨⟨?_, hn₂.sameBut hs₃ hLC, fun b o e => ?_, xc.toInCall.fresh⟩, fun nm c hc => ?_, xc.apart, xc.above⟩ k3 (((kS_of kk).tr (kS_ns hns' hs₂)).tr (kS_ns (hn.sameBut hs₂ (Ne.symm hLC)) hs₃)) (Nat.le_of_lt hIlt) ((hl.extBut hs₂.extBut (Ne.symm hLD)).extBut hs₃.extBut hDC) hi
    · obtain ⟨h₁, t₁, e₁⟩ := xc.toInCall.same
      exact ⟨h₃, tk + 1, by rw [e₁]⟩
    · refine k3 b o (fun z => ?_) (xc.toInCall.keep b o e)
      have q := Nat.lt_of_lt_of_le (Heap.lt_size e) xc.toInCall.fresh
      rw [List.mem_singleton.mp z] at q
      exact Nat.lt_irrefl _ q
    · obtain ⟨o, ho, hd⟩ := xc.cell nm c hc
      refine ⟨o, k3 c o (fun z => ?_) ho, hd⟩
      have q := xc.above nm c (mem_of_lookup hc)
      rw [List.mem_singleton.mp z] at q
      exact Nat.lt_irrefl _ q
  have hwlen : wvs.length = words.length := fa2_len hwa
  have loop : ∀ s₃ : Shared, s₃ = { s₁ with heap := h₁, toks := s₁.toks + ([] : List (Str × Value)).length } →
      codeAny (model prog w) A (.compLoop (LC2 elt (.Name x px) iter (.Name y py) (.Name x pi) scope pos) 0 (.ref I) (.ref D) (compEnvC scope cl C env)) (compPost (model prog w) A E (some (assign (.Name z pz) env)) (fun _ s' => Q .next s') (.ref D) C) s₃ := by
    rintro s₃ rfl
    refine codeAny_loopOut (fun k s' => ∃ i, i ≤ words.length ∧ k = words.length - i ∧ (s'.heap.IsListIter I wl i ∧ s'.heap.IsList wl wvs.toArray) ∧ FlB { s₁ with heap := H₂ } I D C ((words.take i).flatten.map f) s') ?_ words.length
      ⟨0, Nat.zero_le _, rfl, st1, h₁, _, _, [], rfl, hD1, hns₁, .nil, fun b o _ e => k1 b o e⟩
    rintro k s' E₁ ⟨i, hi, rfl, st, h', tk, m', ys, rfl, hl, hn, hiy, hk⟩
    by_cases hlt : i < words.length
    · refine W.item i _ _ _ (by rw [List.size_toArray, hwlen]; exact hlt) st fun v h₂ tk₂ hv st₂ hk₂ => ?_
      have nI : ∀ {b : Addr}, b ≠ I → b ∉ [I] := fun {b} h1 h2 => h1 (List.mem_singleton.mp h2)
      obtain ⟨wd, hwd, hli⟩ := all2_at hwa (show wvs[i]? = some v by simpa using hv)
      obtain ⟨a, vs, rfl, hla, hia⟩ := hli
      have haI : a < I := by obtain ⟨o, e, _⟩ := hla; exact old e
      have haC : a ≠ C := Nat.ne_of_lt (Nat.lt_of_lt_of_le haI hsz5)
      have haD : a ≠ D := Nat.ne_of_lt (Nat.lt_trans haI hIlt)
      have hn₂ := hn.at' fun o e => hk₂ C o (nI (Ne.symm hIC)) e
      refine wpAny_assign_Name (wpAny_storeName_local (lookup_relabel_local hx) hn₂ (fun h₃ hn₃ hs₃ => ?_) (by simp [compEnvC, relabel, hkind]))
      have up3 : ∀ b o, b ≠ I → b ≠ C → h'.get? b = some o → h₃.get? b = some o := fun b o h1 h2 e => hs₃.extBut b o h2 (hk₂ b o (nI h1) e)
      have keep3 : ∀ b o, b ≠ I → H₂.get? b = some o → h₃.get? b = some o := fun b o h1 e => up3 b o h1 (lt2 e).2 (hk b o h1 e)
      have kk3 : Keep s₁.heap h₃ := fun b o e => keep3 b o (Nat.ne_of_lt (old e)) (kI _ _ e)
      have hl₃ : h₃.IsList D ys.toArray := let ⟨o, e, r⟩ := hl; ⟨o, up3 _ _ (Ne.symm hID) hDC e, r⟩
      have st₃ := stAt st₂ (fun o e => hs₃.extBut _ _ hIC e) (fun o e => hs₃.extBut _ _ wlC.1 e)
      refine wpAny_Name (wpAny_loadName_local (v := .ref a) (by simp [compEnvC, relabel, hkind]) (lookup_relabel_local hx) hn₃ (by simp) ?_) hdx
      have hla₃ := listAt kk3 hla
      refine wpAny_pyIter_list hla₃ ?_
      intro R₂ hR₂
      have halt : a < h₃.objs.size := by obtain ⟨o, e, _⟩ := hla₃; exact Heap.lt_size e
      have W2 := Walks.list (prog := prog) (w := w) hh h₃.objs.size a (Nat.ne_of_lt halt) vs.toArray
      have hDlt : D < h₃.objs.size := by obtain ⟨o, e, _⟩ := hl₃; exact Heap.lt_size e
      have hClt : C < h₃.objs.size := hn₃.lt
      have hIlt3 : I < h₃.objs.size := by obtain ⟨o, e, _⟩ := st₃.1; exact Heap.lt_size e
      have hwlt3 : wl < h₃.objs.size := by obtain ⟨o, e, _⟩ := st₃.2; exact Heap.lt_size e
      have kJ : Keep h₃ (h₃.push { cls := .type "list_iterator", data := .fields #[.ref a, .int 0 0] }) := kp_push _ _
      have hJ0 : (h₃.push { cls := .type "list_iterator", data := .fields #[.ref a, .int 0 0] }).IsListIter h₃.objs.size a 0 := ⟨_, Heap.get?_push_size _ rfl, rfl, rfl⟩
      dsimp only at hn₃ ⊢
      have keepJ : ∀ b o, b ≠ I → H₂.get? b = some o → b ≠ h₃.objs.size := fun b o h1 e => Nat.ne_of_lt (Heap.lt_size (keep3 b o h1 e))
      generalize h₃.push { cls := .type "list_iterator", data := .fields #[.ref a, .int 0 0] } = h₄ at kJ hJ0 ⊢
      generalize h₃.objs.size = J at W2 hDlt hClt hIlt3 hwlt3 halt hJ0 keepJ ⊢
      have loop2 : codeAny (model prog w) A (.compLoop (LC2 elt (.Name x px) iter (.Name y py) (.Name x pi) scope pos) 1 (.ref J) (.ref D) (compEnvC scope cl C env)) R₂ { s₁ with heap := h₄, toks := tk₂ + 1 } := by
        refine codeAny_loopIn (fun k s' => ∃ j, j ≤ wd.length ∧ k = wd.length - j ∧ (s'.heap.IsListIter J a j ∧ s'.heap.IsList a vs.toArray) ∧ (s'.heap.IsListIter I wl (i + 1) ∧ s'.heap.IsList wl wvs.toArray) ∧ FlB { s₁ with heap := H₂ } I D C (((words.take i).flatten ++ wd.take j).map f) s') ?_ wd.length
          ⟨0, Nat.zero_le _, rfl, ⟨hJ0, listAt kJ hla₃⟩, stAt st₃ (fun o e => kJ _ _ e) (fun o e => kJ _ _ e), h₄, _, _, ys, rfl, listAt kJ hl₃, hn₃.keeps kJ, by simpa using hiy, fun b o h1 e => kJ _ _ (keep3 b o h1 e)⟩
        rintro k s' E₂ ⟨j, hj, rfl, stJ, stI, h₅, tk₅, m₅, zs, rfl, hl₅, hn₅, hi₅, hk₅⟩
        have nJ : ∀ {b : Addr}, b ≠ J → b ∉ [J] := fun {b} h1 h2 => h1 (List.mem_singleton.mp h2)
        have hvl : vs.length = wd.length := hia.length
        by_cases hjt : j < wd.length
        · refine W2.item j _ _ _ (by rw [List.size_toArray, hvl]; exact hjt) stJ fun v h₆ tk₆ hv st₆ hk₆ => ?_
          obtain ⟨t, rfl⟩ := hia.int_at j v (by simpa using hv)
          have hn₆ := hn₅.at' fun o e => hk₆ C o (nJ (Nat.ne_of_lt hClt)) e
          refine wpAny_assign_Name (wpAny_storeName_local (lookup_relabel_local hy) hn₆ (fun h₇ hn₇ hs₇ => ?_) (by simp [compEnvC, relabel, hkind]))
          have up7 : ∀ b o, b ≠ J → b ≠ C → h₅.get? b = some o → h₇.get? b = some o := fun b o h1 h2 e => hs₇.extBut b o h2 (hk₆ b o (nJ h1) e)
          have keep7 : ∀ b o, b ≠ I → H₂.get? b = some o → h₇.get? b = some o := fun b o h1 e => up7 b o (keepJ b o h1 e) (lt2 e).2 (hk₅ b o h1 e)
          have st7 := stAt st₆ (fun o e => hs₇.extBut _ _ (Nat.ne_of_gt hClt) e) (fun o e => hs₇.extBut _ _ haC e)
          have stI7 := stAt stI (fun o e => up7 _ _ (Nat.ne_of_lt hIlt3) hIC e) (fun o e => up7 _ _ (Nat.ne_of_lt hwlt3) wlC.1 e)
          have hl₇ : h₇.IsList D zs.toArray := let ⟨o, e, r⟩ := hl₅; ⟨o, up7 _ _ (Nat.ne_of_lt hDlt) hDC e, r⟩
          have hfig : wd.getD j 0 ∈ words.flatten := List.mem_flatten.mpr ⟨wd, List.mem_of_getElem? hwd, by rw [List.getD_eq_getElem?_getD, List.getElem?_eq_getElem hjt]; exact List.getElem_mem hjt⟩
          refine wpAny_mono (helt (wd.getD j 0) t C _ _ _ hfig hn₇ (by simp) (fun b o e => keep7 b o (Nat.ne_of_lt (old e)) (kI _ _ e))) (fun y s₈ q => ?_) fun _ _ e => e
          obtain ⟨⟨t', rfl⟩, h₈, tk₈, rfl, hk₈⟩ := q
          dsimp only at hk₈ ⊢
          have hzl : zs.length ≤ 1000 := by
            have := hi₅.length
            rw [List.length_map] at this
            have := flat_le hwd j
            omega
          refine wpAny_list_append (listAt hk₈ hl₇) (fun h₉ hl₉ hs₉ => ?_) (by rw [List.size_toArray, sizeLine_eq]; omega)
          refine ⟨wd.length - (j + 1), by omega, j + 1, hjt, rfl, stAt st7 (fun o e => hs₉.extBut _ _ (Nat.ne_of_gt hDlt) (hk₈ _ _ e)) (fun o e => hs₉.extBut _ _ haD (hk₈ _ _ e)), stAt stI7 (fun o e => hs₉.extBut _ _ hID (hk₈ _ _ e)) (fun o e => hs₉.extBut _ _ wlC.2.1 (hk₈ _ _ e)),
            h₉, _, _, zs ++ [.int (f (wd.getD j 0)) t'], rfl, by simpa using hl₉, (hn₇.keeps hk₈).sameBut hs₉ (Ne.symm hDC), ?_, fun b o h1 e => hs₉.extBut _ _ (lt2 e).1 (hk₈ _ _ (keep7 b o h1 e))⟩
          have e1 : wd.take (j + 1) = wd.take j ++ [wd.getD j 0] := by
            rw [List.take_add_one, List.getElem?_eq_getElem hjt, List.getD_eq_getElem?_getD, List.getElem?_eq_getElem hjt]
            rfl
          rw [e1, ← List.append_assoc, List.map_append]
          exact hi₅.append (.cons _ _ .nil)
        · have e : j = wd.length := by omega
          subst e
          refine W2.done _ _ _ (by rw [List.size_toArray, hvl]; exact stJ) fun h₆ tk₆ hk₆ => ?_
          have keep6 : ∀ b o, b ≠ I → H₂.get? b = some o → h₆.get? b = some o := fun b o h1 e => hk₆ _ _ (nJ (keepJ b o h1 e)) (hk₅ b o h1 e)
          refine hR₂ _ _ ⟨words.length - (i + 1), by omega, i + 1, hlt, rfl, stAt stI (fun o e => hk₆ _ _ (nJ (Nat.ne_of_lt hIlt3)) e) (fun o e => hk₆ _ _ (nJ (Nat.ne_of_lt hwlt3)) e), h₆, tk₆, _, zs, rfl, ?_, hn₅.at' fun o e => hk₆ _ _ (nJ (Nat.ne_of_lt hClt)) e, ?_, keep6⟩
          · obtain ⟨o, e, r⟩ := hl₅
            exact ⟨o, hk₆ _ _ (nJ (Nat.ne_of_lt hDlt)) e, r⟩
          · rw [take_flat hwd]
            simpa using hi₅
      exact codeAny_startIn loop2 fun E' => W2.self 0 _ _ _ ⟨hJ0, listAt kJ hla₃⟩ loop2
    · have e : i = words.length := by omega
      subst e
      refine W.done _ _ _ (by rw [List.size_toArray, hwlen]; exact st) fun h₂ tk₂ hk₂ => ?_
      have nI : ∀ {b : Addr}, b ≠ I → b ∉ [I] := fun {b} h1 h2 => h1 (List.mem_singleton.mp h2)
      refine fin _ ⟨h₂, tk₂, m', ys, rfl, ?_, hn.at' fun o e => hk₂ _ _ (nI (Ne.symm hIC)) e, by simpa using hiy, fun b o h1 e => hk₂ _ _ (nI h1) (hk b o h1 e)⟩
      obtain ⟨o, e, r⟩ := hl
      exact ⟨o, hk₂ _ _ (nI (Ne.symm hID)) e, r⟩
  exact codeAny_compStart_list (loop _ rfl) (W.self 0 _ _ _ st1 (loop _ rfl))
end
end Mine
end
section
open PySem PySem.W PyProof.Rows
set_option maxRecDepth 100000
set_option linter.unusedVariables false
namespace Mine
section
variable {w : World} {E : Value → Shared → Prop} {mg mb : Str → Option Value}
/-- told = [plain[figure] for word in _law_words(many, size) for figure in word] -/
theorem S11 {sB s : Shared} {m cm : Str → Option Value} {P : Addr} {pvs : List Value} {pls : List Int} {many sz : Nat} {tm ts : Tok} {Q : Flow → Shared → Prop} (N : GOk mg mb) (f : FX [] sB 159 m lawCs cm s) (GB : GW w mg mb sB.heap)
    (hmany : m (Str.ofString "many") = some (.int many tm)) (cs : cm (Str.ofString "size") = some (.int sz ts)) (hp : pairOk many sz = true) (h1 : 1 ≤ sz) (h4 : sz ≤ 4) (hm2 : 2 ≤ many) (hm5 : many ≤ 5) (hfl : (wordsOf many sz).flatten.length ≤ 1000)
    (cp : cm (Str.ofString "plain") = some (.ref P)) (hP : s.heap.IsList P pvs.toArray) (hpi : IntsAre pvs pls) (hpl : pls.length = many)
    (hQ : ∀ s' D zs, FX [] sB 159 (fun q => if q = Str.ofString "told" then some (.ref D) else m q) lawCs cm s' → KM [159] s.heap s'.heap → KS s.heap s'.heap → s'.heap.IsList D zs.toArray → IntsAre zs ((wordsOf many sz).flatten.map fun x => pls.getD x.toNat 0) → Q .next s') :
    wpAny (model PR w) AL (exec (lawSt 10) (lawEnv 159)) Q E s := by
  have hp' := hp
  unfold pairOk at hp'
  simp only [Bool.and_eq_true, decide_eq_true_eq] at hp'
  obtain ⟨⟨⟨⟨⟨r1, r2⟩, r3⟩, r4⟩, r5⟩, r6⟩ := hp'
  refine assignFlat (s₀ := sB) (m := m) (cm := cm) (cl := [(Str.ofString "plain", cellAt 159 "plain")]) (f := fun x => pls.getD x.toNat 0) (by rfl) (by rfl) (by rfl) ?_ (by rfl) ?_ (by rfl) (by rfl) (by rfl) (by rfl) (by decide) ?_
  · intro y hy; simp at hy; rcases hy with rfl | rfl | rfl | rfl <;> decide
  · intro y hy h; simp at hy; rcases hy with rfl | rfl | rfl | rfl <;> first | rfl | cases h
  refine Call_Name (trees := [(false, eval _ _), (false, eval _ _)]) rfl ?_
  refine Calls.Name_function_global (by rfl) (by rfl) (Calls.loadGlobal_global (GB.g.keeps (kfh_nil f.keep)) N.g_words ?_) (by decide)
  have G := GB.ks (kfh_nil f.keep)
  obtain ⟨dF, pF, cF, kF, oF, hoF, hdF, hcF⟩ := id G.words
  refine Calls.callWith_function (o := oF) (fd := fdM "_law_words" "_law_words" (defNo 36) [] .none dF pF cF kF) (Calls.evalArgs_plain (Calls.spliced_cons ?_))
  refine nmL (m := m) f (by rfl) (by rfl) hmany ?_ (by decide)
  refine Calls.spliced_cons ?_
  refine nmC (m := m) f (by rfl) (by rfl) (by rfl) cs ?_ (by decide)
  refine Calls.spliced_nil ⟨⟨hoF, hdF⟩, ?_⟩
  show wpAny _ _ (call (.ref 152) [.int many tm, .int sz ts]) _ _ _
  refine wordsFn G N (by decide) (by decide) (by rfl) hm2 hm5 h1 h4 r1 r2 (fun i hi => by simpa using List.all_eq_true.mp r3 i hi) r4 fun v s₁ k₁ hv => ?_
  have f₁ := f.ks k₁
  have hP₁ := listAt (ks_keep k₁) hP
  have hcp := f₁.cell (Str.ofString "plain") (cellAt 159 "plain") (by rfl)
  rw [cp] at hcp
  refine ⟨wordsOf many sz, f₁.icc, hv, hfl, ?_, ?_⟩
  · intro fig t C s₃ m₃ E' hfig hn hm₃ hk
    obtain ⟨wd, hwd, hfw⟩ := List.mem_flatten.mp hfig
    have q := List.all_eq_true.mp (List.all_eq_true.mp r5 wd hwd) fig hfw
    simp only [Bool.and_eq_true, decide_eq_true_eq] at q
    refine itemGen ?_
    intro Qi qi
    refine wpAny_Name (wpAny_loadName_cell (by rfl) (by rfl) (by rfl) (hcp.keeps hk) ?_) (by decide)
    refine wpAny_Name (wpAny_loadName_local (by rfl) (by rfl) hn hm₃ ?_) (by decide)
    have hlt : fig.toNat < pvs.length := by rw [hpi.length, hpl]; omega
    obtain ⟨t', ht'⟩ := hpi.int_at fig.toNat (pvs[fig.toNat]'hlt) (List.getElem?_eq_getElem hlt)
    refine qi _ _ _ ⟨P, _, fig.toNat, t, .int (pls.getD fig.toNat 0) t', rfl, by rw [Int.toNat_of_nonneg q.1], listAt hk hP₁, by omega, ?_, ⟨t', rfl⟩, ks_refl _⟩
    rw [← ht']
    simp [hlt]
  · intro D s' zs fic km ks hD hl hz
    exact hQ s' D zs (fx_of fic) ((km_of (ks_keep k₁)).tr km) ((kS_of (ks_keep k₁)).tr ks) hl hz
end
end Mine
end
section
open PySem PySem.W PyProof.Rows
set_option maxRecDepth 100000
set_option linter.unusedVariables false
namespace Mine
noncomputable def OkS (x : Str) : Prop := ∀ c ∈ x.cps.toList, c < 1114112
theorem OkS.ok {x : Str} (h : OkS x) : PyData.strOk x = true := by
  unfold PyData.strOk
  rw [← Array.all_toList]
  exact List.all_eq_true.mpr fun c hc => decide_eq_true (h c hc)
theorem getD_ok {a : Array Nat} (h : ∀ c ∈ a.toList, c < 1114112) (k : Nat) : a.getD k 0 < 1114112 := by
  by_cases hk : k < a.size
  · rw [Array.getD_eq_getD_getElem?, Array.getElem?_eq_getElem hk]
    exact h _ (by simp)
  · rw [Array.getD_eq_getD_getElem?, Array.getElem?_eq_none (by omega)]
    decide
theorem chr_ok {x : Str} (h : OkS x) (k : Nat) : OkS (chr x k) := fun c hc => by
  have : c = x.cps.getD k 0 := by simpa [chr] using hc
  rw [this]; exact getD_ok h k
theorem oks_of (x : Str) (h : (x.cps.toList.all fun c => decide (c < 1114112)) = true) : OkS x := fun c hc => of_decide_eq_true (List.all_eq_true.mp h c hc)
theorem tri_ok (i : Nat) : OkS (triOf i) := by
  unfold triOf
  split
  · exact oks_of _ (by decide +kernel)
  · exact oks_of _ (by decide +kernel)
theorem sgNext_ok {mode i : Nat} {x : Str} (h : OkS x) : OkS (sgNext mode i x) := fun c hc => by
  rw [sg_cps] at hc
  simp only [List.mem_append, List.mem_singleton] at hc
  rcases hc with hc | (hc | hc) | hc
  · exact h c hc
  · split at hc <;> simp at hc <;> omega
  · split at hc <;> simp at hc <;> omega
  · rw [hc]; exact getD_ok (tri_ok i) _
theorem sg_ok (mode : Nat) : PyData.strOk (sg mode) = true := (sgNext_ok (sgNext_ok (sgNext_ok (chr_ok (oks_of _ (by decide +kernel)) _)))).ok
theorem shaped_strs {ss : List Str} (h : ∀ x ∈ ss, PyData.strOk x = true) : SeqAt.shaped (.list (ss.map PyData.str)) = true := by
  unfold SeqAt.shaped
  simp only [PyData.canLay0, PyData.depth, canLayAll_strs', depthAll_strs', Bool.and_eq_true]
  exact ⟨List.all_eq_true.mpr h, by decide⟩
theorem eqv_strs : ∀ ss : List Str, PyData.eqv (.list (ss.map PyData.str)) (.list (ss.map PyData.str)) = true
  | [] => rfl
  | x :: r => by
    have := eqv_strs r
    simp only [PyData.eqv] at this
    simp [PyData.eqv, PyData.eqvAll, this]
theorem carried_strs : ∀ {ys : List Value} {ss : List Str}, All2 (fun y x => ∃ t, y = Value.str x t) ys ss → CarriedAll ys (ss.map PyData.str)
  | _, _, .nil => .nil
  | _, _, .cons ⟨t, h⟩ r => by subst h; exact .cons (.str _ t) (carried_strs r)
theorem range_getDN {α : Type} (f : Nat → α) (ls : List Nat) : (List.range ls.length).map (fun i => f (ls.getD i 0)) = ls.map f := by
  refine List.ext_getElem (by simp) fun i h1 h2 => ?_
  have : i < ls.length := by simpa using h1
  simp [this]
section
variable {w : World} {E : Value → Shared → Prop} {mg mb : Str → Option Value}
/-- signs = [filemode(mode) for mode in letters] == [_law_signs(mode) for mode in plain] -/
theorem S12 {sB s : Shared} {m cm : Str → Option Value} {D P : Addr} {ys pvs : List Value} {modes : List Nat} {Q : Flow → Shared → Prop} (N : GOk mg mb) (f : FX [] sB 159 m lawCs cm s) (GB : GW w mg mb sB.heap) (TB : TabOk mg sB.heap)
    (cl : cm (Str.ofString "letters") = some (.ref D)) (hD : s.heap.IsList D ys.toArray) (hy : All2 (fun v x => ∃ t, v = Value.int (x : Nat) t) ys modes) (cp : cm (Str.ofString "plain") = some (.ref P)) (hP : s.heap.IsList P pvs.toArray) (hp : All2 (fun v x => ∃ t, v = Value.int (x : Nat) t) pvs modes)
    (hb : ∀ x ∈ modes, x < 65536) (hl : modes.length ≤ 1000)
    (hQ : ∀ s', FX [] sB 159 (fun q => if q = Str.ofString "signs" then some (.bool true) else m q) lawCs cm s' → KM [159] s.heap s'.heap → KS s.heap s'.heap → Q .next s') :
    wpAny (model PR w) AL (exec (lawSt 11) (lawEnv 159)) Q E s := by
  have hb' : ∀ i, i < modes.length → modes.getD i 0 < 65536 := fun i hi => getD_bound hb i hi
  have h0 := f.ns.lt
  refine wpAny_Assign_Name ?_ ?hs
  case hs => rfl
  refine wpAny_Compare1 ?_ (by rfl)
  refine compOver (cl := []) (by rfl) (by intro y hy; simp at hy; rcases hy with rfl | rfl | rfl <;> decide) rfl (by intro y hy h; simp at hy; rcases hy with rfl | rfl | rfl <;> first | rfl | cases h) (by rfl) fun Qc qc => ?_
  refine nmC (m := m) f (by rfl) (by rfl) (by rfl) cl ?_ (by decide)
  refine qc _ _ ⟨ys.length, _, fun _ => true, fun D i y h => ∃ t, y = Value.str (fm (modes.getD i 0)) t, iter_list (by rfl) hD, by rw [fa2_len hy]; exact hl, fun D i v h h' k q => q, ?_, ?_⟩
  · rintro i v C Dd s₃ m₃ E' hi hv hC hn hm hk3 hd1 hd2
    refine ⟨wpAny_pure ⟨ks_refl _, rfl⟩, fun _ => ?_⟩
    obtain ⟨x, hx, t, rfl⟩ := all2_at hy hv
    have hxi : modes.getD i 0 = x := by rw [List.getD_eq_getElem?_getD, hx]; rfl
    have k3 := (kfh_nil f.keep).tr hk3
    refine callN1 ?_
    refine Calls.Name_function_global (by rfl) (by rfl) (Calls.loadGlobal_global (GB.g.keeps k3) N.g_fm ?_) (by decide)
    have G := GB.ks k3
    obtain ⟨dF, pF, cF, kF, oF, hoF, hdF, hcF⟩ := id G.fm
    refine Calls.callWith_function (o := oF) (fd := fdM "filemode" "filemode" (defNo 31) [] .none dF pF cF kF) (Calls.evalArgs_plain (Calls.spliced_cons ?_))
    refine wpAny_Name (wpAny_loadName_local (by rfl) (by rfl) hn hm ?_) (by decide)
    refine Calls.spliced_nil ⟨⟨hoF, hdF⟩, ?_⟩
    show wpAny _ _ (call (.ref 128) [.int (x : Nat) t]) _ _ _
    obtain ⟨ta, e1, e2⟩ := TB
    refine filemodeFn G N ⟨ta, e1, e2.ks (kS_of k3)⟩ (by decide) (by decide) (by rfl) (by rw [← hxi]; exact hb' i (by rw [← fa2_len hy]; exact hi)) fun t' s' k' => ?_
    exact ⟨⟨t', by rw [hxi]⟩, k'⟩
  intro L1 s₁ zs k₁ hL1 hl1 hz
  rw [List.filter_eq_self.mpr (fun _ _ => rfl), fa2_len hy] at hz
  have hz1 : All2 (fun y x => ∃ t, y = Value.str x t) zs (modes.map fm) := by
    rw [← range_getDN fm modes]
    exact all2_map (fun i y q => q) hz
  have f₁ := f.ks k₁
  refine compOver (cl := []) (by rfl) (by intro y hy; simp at hy; rcases hy with rfl | rfl | rfl <;> decide) rfl (by intro y hy h; simp at hy; rcases hy with rfl | rfl | rfl <;> first | rfl | cases h) (by rfl) fun Qd qd => ?_
  refine nmC (m := m) f₁ (by rfl) (by rfl) (by rfl) cp ?_ (by decide)
  refine qd _ _ ⟨pvs.length, _, fun _ => true, fun D i y h => ∃ t, y = Value.str (sg (modes.getD i 0)) t, iter_list (by rfl) (listAt (ks_keep k₁) hP), by rw [fa2_len hp]; exact hl, fun D i v h h' k q => q, ?_, ?_⟩
  · rintro i v C Dd s₃ m₃ E' hi hv hC hn hm hk3 hd1 hd2
    refine ⟨wpAny_pure ⟨ks_refl _, rfl⟩, fun _ => ?_⟩
    obtain ⟨x, hx, t, rfl⟩ := all2_at hp hv
    have hxi : modes.getD i 0 = x := by rw [List.getD_eq_getElem?_getD, hx]; rfl
    have k3 := (kfh_nil f₁.keep).tr hk3
    refine callN1 ?_
    refine Calls.Name_function_global (by rfl) (by rfl) (Calls.loadGlobal_global (GB.g.keeps k3) N.g_signs ?_) (by decide)
    have G := GB.ks k3
    obtain ⟨dF, pF, cF, kF, oF, hoF, hdF, hcF⟩ := id G.signs
    refine Calls.callWith_function (o := oF) (fd := fdM "_law_signs" "_law_signs" (defNo 33) [] .none dF pF cF kF) (Calls.evalArgs_plain (Calls.spliced_cons ?_))
    refine wpAny_Name (wpAny_loadName_local (by rfl) (by rfl) hn hm ?_) (by decide)
    refine Calls.spliced_nil ⟨⟨hoF, hdF⟩, ?_⟩
    show wpAny _ _ (call (.ref 135) [.int (x : Nat) t]) _ _ _
    refine signsFn G N (by decide) (by decide) (by rfl) (by rw [← hxi]; exact hb' i (by rw [← fa2_len hp]; exact hi)) fun t' s' k' => ?_
    exact ⟨⟨t', by rw [hxi]⟩, k'⟩
  intro L2 s₂ us k₂ hL2 hl2 hu
  rw [List.filter_eq_self.mpr (fun _ _ => rfl), fa2_len hp] at hu
  have hu1 : All2 (fun y x => ∃ t, y = Value.str x t) us (modes.map sg) := by
    rw [← range_getDN sg modes]
    exact all2_map (fun i y q => q) hu
  have hsame : modes.map fm = modes.map sg := List.map_congr_left fun x hx => fm_eq_sg (hb x hx)
  rw [hsame] at hz1
  have hok : ∀ x ∈ modes.map sg, PyData.strOk x = true := fun x hx => by
    obtain ⟨y, _, rfl⟩ := List.mem_map.mp hx
    exact sg_ok y
  refine eq_dataH (reads_newData (listAt (ks_keep k₂) hl1) (carried_strs hz1)) (reads_newData hl2 (carried_strs hu1)) (shaped_strs hok) (shaped_strs hok) (by decide) ?_
  rw [eqv_strs]
  have f₂ := f₁.ks k₂
  refine stLX (m := m) f₂ (by rfl) (by rfl) fun s₃ f₃ e₃ sb₃ k₃ => ?_
  exact hQ s₃ f₃ ((km_of ((ks_keep k₁).tr (ks_keep k₂))).tr (km_same sb₃ (.head _))) ((kS_of ((ks_keep k₁).tr (ks_keep k₂))).tr k₃)
end
end Mine
end
section
open PySem PySem.W PyProof.Rows
set_option maxRecDepth 100000
set_option linter.unusedVariables false
namespace Mine
section
variable {w : World} {E : Value → Shared → Prop} {mg mb : Str → Option Value}
/-- return letters == plain and signs and (ended[0][size - 1:] == told) -/
theorem S13 {sB s : Shared} {m cm : Str → Option Value} {D P T : Addr} {ev : Value} {ys pvs tvs : List Value} {ls : List Int} {st : List Int × List (List Int)} {sz : Nat} {ts : Tok} {Q : Flow → Shared → Prop} (f : FX [] sB 159 m lawCs cm s)
    (cl : cm (Str.ofString "letters") = some (.ref D)) (hD : s.heap.IsList D ys.toArray) (hy : IntsAre ys ls) (cp : cm (Str.ofString "plain") = some (.ref P)) (hP : s.heap.IsList P pvs.toArray) (hp : IntsAre pvs ls)
    (hs : m (Str.ofString "signs") = some (.bool true)) (he : m (Str.ofString "ended") = some ev) (hst : ST s.heap ev st) (cs : cm (Str.ofString "size") = some (.int sz ts)) (h1 : 1 ≤ sz) (h4 : sz ≤ 4) (hl : st.1.length ≤ 1000)
    (ht : m (Str.ofString "told") = some (.ref T)) (hT : s.heap.IsList T tvs.toArray) (hti : IntsAre tvs (st.1.drop (sz - 1)))
    (hQ : ∀ s', Keeps s s' → Q (.ret (.bool true)) s') :
    wpAny (model PR w) AL (exec (lawSt 12) (lawEnv 159)) Q E s := by
  refine wpAny_Return_some ?_
  refine BoolOp_and ?_
  refine wpAny_Compare1 ?_ (by rfl)
  refine nmC (m := m) f (by rfl) (by rfl) (by rfl) cl ?_ (by decide)
  refine nmC (m := m) f (by rfl) (by rfl) (by rfl) cp ?_ (by decide)
  refine ke_eq_ints hD hP hy hp (by decide) (wpAny_truthy_bool ?_)
  simp only [decide_true, if_true]
  refine BoolOp_and ?_
  refine nmL (m := m) f (by rfl) (by rfl) hs ?_ (by decide)
  refine wpAny_truthy_bool ?_
  simp only [if_true]
  refine BoolOp_one ?_
  refine wpAny_Compare1 ?_ (by rfl)
  refine sliceGen ?_
  intro Qs qs
  refine tupGen ?_
  intro Qt qt
  refine nmL (m := m) f (by rfl) (by rfl) he ?_ (by decide)
  refine wpAny_Constant_int ?_
  obtain ⟨t, a, b, rs, ws, n, rfl, htu, hra, hri, hb, hw⟩ := hst
  refine qt _ _ _ ⟨t, _, 0, _, .ref a, rfl, rfl, htu, by omega, rfl, ?_⟩
  rw [evalPart_some, evalPart_none]
  have f₁ := f.ks (ks_tok s (s.toks + 1))
  refine wpAny_BinOp ?_
  refine nmC (m := m) f₁ (by rfl) (by rfl) (by rfl) cs ?_ (by decide)
  refine wpAny_Constant_int ?_
  refine sub_int ?_
  refine wpAny_pure ?_
  have hz1 : (sz : Int) - 1 = ((sz - 1 : Nat) : Int) := by omega
  rw [hz1]
  refine qs _ _ _ _ ⟨a, _, _, _, rfl, hra, by rw [List.size_toArray, hri.length, sizeLine_eq]; omega, .int _ _, .none, fun r s₂ k₂ hr2 hr => ?_⟩
  have hdi := slice_ints_fromW hri (x := ((sz - 1 : Nat) : Int)) (by omega)
  rw [Int.toNat_natCast] at hdi
  have f₂ := f.ks (ks_tr (ks_tok s _) k₂)
  refine nmL (m := m) f₂ (by rfl) (by rfl) ht ?_ (by decide)
  have hr' : s₂.heap.IsList r (slicePick rs.toArray (some ((sz - 1 : Nat) : Int)) none none).toList.toArray := ⟨_, hr, rfl, _, rfl⟩
  refine ke_eq_ints hr' (listAt (ks_keep k₂) hT) hdi hti (by decide) ?_
  simp only [decide_true]
  exact hQ _ (ks_tr (ks_tok s _) k₂)
end
end Mine
end
section
open PySem PySem.W PySem.W.X PySem.W.ZRun PyProof.Rows
set_option maxRecDepth 100000
set_option maxHeartbeats 4000000
set_option linter.unusedVariables false
namespace Mine
noncomputable def strV : Value → Str × Tok | .str x t => (x, t) | _ => default
noncomputable def intV : Value → Int × Tok | .int x t => (x, t) | _ => default
noncomputable def boolV : Value → Bool | .bool b => b | _ => false
noncomputable def obH (P : Params) (a : Nat) : Obj := ((HL P).lookup a).getD default
structure CodeK (P : Params) (c : Nat) (T : Nat) : Prop where
  h0 : ((HL P).lookup c).isSome = true
  d : (obH P c).data = .fields (fldO (obH P c))
  cl : (obH P c).cls = .type "code"
  t : (fldO (obH P c))[11]? = some (.ref T)
  a : (fldO (obH P c)).getD 11 .none = .ref T
  b : (fldO (obH P c)).getD 18 .none = .str (strV ((fldO (obH P c)).getD 18 .none)).1 (strV ((fldO (obH P c)).getD 18 .none)).2
  e : (fldO (obH P c)).getD 7 .none = .int (intV ((fldO (obH P c)).getD 7 .none)).1 (intV ((fldO (obH P c)).getD 7 .none)).2
  f : (fldO (obH P c)).getD 9 .none = .bool (boolV ((fldO (obH P c)).getD 9 .none))
  g : (fldO (obH P c)).getD 10 .none = .int (intV ((fldO (obH P c)).getD 10 .none)).1 (intV ((fldO (obH P c)).getD 10 .none)).2
theorem ck156 (P : Params) : CodeK P 156 154 := ⟨by kernel_rfl, by kernel_rfl, by kernel_rfl, by kernel_rfl, by kernel_rfl, by kernel_rfl, by kernel_rfl, by kernel_rfl, by kernel_rfl⟩
theorem ck64 (P : Params) : CodeK P 64 60 := ⟨by kernel_rfl, by kernel_rfl, by kernel_rfl, by kernel_rfl, by kernel_rfl, by kernel_rfl, by kernel_rfl, by kernel_rfl, by kernel_rfl⟩
theorem t154 (P : Params) : ((HL P).lookup 154).getD default = tabObj #[] := by kernel_rfl
theorem i154 (P : Params) : ((HL P).lookup 154).isSome = true := by kernel_rfl
theorem fk157 (P : Params) : FnK (KR P) 157 "law" "law" (defNo 37) .none := ⟨by kernel_rfl, by kernel_rfl, by kernel_rfl, by kernel_rfl, by kernel_rfl, by kernel_rfl, by kernel_rfl, by kernel_rfl, by kernel_rfl, by kernel_rfl, by kernel_rfl, by kernel_rfl, by kernel_rfl, by kernel_rfl, by kernel_rfl⟩
theorem cd157 (P : Params) : cdo (((KR P).lookup 157).getD default) = 156 := by kernel_rfl
theorem CodeK.tab {P : Params} {c T : Nat} {h : Heap} {ps : Array Value} (k : CodeK P c T) (Y : (HL P).In h) (hT : h.get? T = some (tabObj ps)) : h.TableAt c T ps :=
  ⟨⟨_, _, get_of Y c k.h0, k.cl, k.d, k.t⟩, hT⟩
theorem CodeK.is {P : Params} {c T : Nat} {h : Heap} {ps : Array Value} (k : CodeK P c T) (Y : (HL P).In h) (hT : h.get? T = some (tabObj ps)) (ht : TriplesOk ps.toList) (hne : c ≠ T) : h.IsCode c T ps :=
  ⟨_, _, _, _, _, _, _, _, _, _, get_of Y c k.h0, k.d, k.a, k.b, k.e, k.f, k.g, hT, rfl, ht, hne⟩
theorem sum_b {P : Params} {h : Heap} {mg mb : Str → Option Value} (X : (KR P).In h) (hg : h.Ns mainGlobals mg) (hb : h.Ns builtinsNs mb) : mg (Str.ofString "sum") = none ∧ mb (Str.ofString "sum") = some (.builtin "sum") :=
  ⟨ns_val hg (get_of X 3 (by kernel_rfl)) (by kernel_rfl), ns_val hb (get_of X 0 (by kernel_rfl)) (by kernel_rfl)⟩
end Mine
end
section
open PySem PySem.W PyProof.Rows
set_option maxRecDepth 100000
set_option linter.unusedVariables false
namespace Mine
/-- the world at the call of law -/
structure Bs (w : World) (mg mb : Str → Option Value) (base : Heap) : Prop where
  Y : (HL w.params).In base
  g : base.Ns mainGlobals mg
  b : base.Ns builtinsNs mb
  lim : base.NoLimit
  bm : ∃ bm ob, mg "__builtins__" = some (.ref bm) ∧ bm ≠ builtinsNs ∧ base.get? bm = some ob ∧ ob.cls = .type "module" ∧ ob.dict = some builtinsNs ∧ ob.data = .plain
  sz : base.objs.size = 159
theorem kS_but {h h' : Heap} {X : Addr} (hX : ∃ o, h.get? X = some o ∧ NotSeq o) (k : ∀ b o, b ≠ X → h.get? b = some o → h'.get? b = some o) : KS h h' := fun b o vs n hd e => by
  refine k b o (fun z => ?_) e
  obtain ⟨o', e', q⟩ := hX
  rw [z, e'] at e; cases e
  exact q _ _ hd
theorem ns_notSeq {h : Heap} {X : Addr} {m : Str → Option Value} (x : h.Ns X m) : ∃ o, h.get? X = some o ∧ NotSeq o := by
  obtain ⟨o, es, ep, e, hd, _⟩ := x
  exact ⟨o, e, fun vs n q => by rw [hd] at q; cases q⟩
theorem cell_notSeq {h : Heap} {X : Addr} {v : Option Value} (x : h.IsCell X v) : ∃ o, h.get? X = some o ∧ NotSeq o := by
  obtain ⟨o, e, hd⟩ := x
  exact ⟨o, e, fun vs n q => by rw [hd] at q; cases q⟩
theorem tab_notSeq {ps : Array Value} : NotSeq (tabObj ps) := fun vs n q => by cases q
theorem kS_km {h h' : Heap} {S : List Addr} (k : KM S h h') (hS : ∀ X ∈ S, ∃ o, h.get? X = some o ∧ NotSeq o) : KS h h' := fun b o vs n hd e => by
  refine k b o (fun z => ?_) e
  obtain ⟨o', e', q⟩ := hS b z
  rw [e'] at e; cases e
  exact q _ _ hd
theorem Bs.at154 {w : World} {mg mb : Str → Option Value} {base : Heap} (B : Bs w mg mb base) : base.get? 154 = some (tabObj #[]) := by
  rw [← t154 w.params]; exact get_of B.Y 154 (i154 _)
theorem Bs.at60 {w : World} {mg mb : Str → Option Value} {base : Heap} (B : Bs w mg mb base) : base.get? 60 = some (tabObj (v60 w.params)) := by
  rw [← t60 w.params]; exact get_of B.Y 60 (no60 _).1
theorem Bs.bi {w : World} {mg mb : Str → Option Value} {base : Heap} (B : Bs w mg mb base) : base.BuiltinsAt mg 154 := by
  obtain ⟨bm, ob, h1, h2, h3, h4, h5, h6⟩ := B.bm
  refine ⟨bm, ob, h1, h2, fun z => ?_, fun z => ?_, h3, h4, h5, h6⟩
  · obtain ⟨o, es, ep, e, hd, _⟩ := B.g
    rw [← z, h3] at e; cases e; rw [h6] at hd; cases hd
  · have := B.at154
    rw [← z, h3] at this; cases this; cases h6
theorem Bs.holed {w : World} {mg mb : Str → Option Value} {base : Heap} (B : Bs w mg mb base) : ((KR w.params).In (hole base [154, 60])) ∧ (hole base [154, 60]).Ns mainGlobals mg ∧ (hole base [154, 60]).Ns builtinsNs mb ∧ (hole base [154, 60]).NoLimit ∧ (hole base [154, 60]).BuiltinsAt mg 154 := by
  have up : ∀ b o, b ∉ [154, 60] → base.get? b = some o → (hole base [154, 60]).get? b = some o := fun b o hb e => (hole_out hb).trans e
  refine ⟨filt_in (f := fun a => decide (a ≠ 154) && decide (a ≠ 60)) B.Y fun b o hb e => up b o ?_ e, ?_, ?_, ?_, ?_⟩
  · simp only [Bool.and_eq_true, decide_eq_true_eq] at hb
    simp [hb.1, hb.2]
  · obtain ⟨o, es, ep, e, r⟩ := B.g
    exact ⟨o, es, ep, up _ _ (by decide) e, r⟩
  · obtain ⟨o, es, ep, e, r⟩ := B.b
    exact ⟨o, es, ep, up _ _ (by decide) e, r⟩
  · obtain ⟨mc, ⟨o, es, ep, e, r⟩, q⟩ := B.lim
    exact ⟨mc, ⟨o, es, ep, up _ _ (by decide) e, r⟩, q⟩
  · obtain ⟨bm, ob, h1, h2, h3, h4, h5, h6, h7, h8⟩ := B.bi
    refine ⟨bm, ob, h1, h2, h3, h4, up _ _ (fun z => ?_) h5, h6, h7, h8⟩
    simp only [List.mem_cons, List.not_mem_nil, or_false] at z
    rcases z with z | z
    · exact h4 z
    · have := B.at60
      rw [← z, h5] at this; cases this; cases h8
/-- the old objects stand but for the two tables, that grew -/
theorem oldOf {w : World} {mg mb : Str → Option Value} {base h' : Heap} (B : Bs w mg mb base) (k : Keep (hole base [154, 60]) h') (h154 : ∃ ps, h'.get? 154 = some (tabObj ps)) (h60 : ∃ more, h'.get? 60 = some (tabObj (v60 w.params ++ more))) : OldK base h' := by
  have t1 := (ck156 w.params).tab B.Y B.at154
  have t2 := (ck64 w.params).tab B.Y B.at60
  have out : ∀ b o, b ≠ 154 → b ≠ 60 → base.get? b = some o → h'.get? b = some o := fun b o h1 h2 e => k b o ((hole_out (by simp [h1, h2])).trans e)
  obtain ⟨ps, e1⟩ := h154
  obtain ⟨more, e2⟩ := h60
  refine ⟨fun b o e => ?_, fun b o e => ?_⟩
  · by_cases hb : b = 154
    · subst hb
      rw [B.at154] at e; cases e
      exact .inr (.inl ⟨t1.isCodeTable, rfl, #[], ps, rfl, by rw [Array.empty_append]; exact e1⟩)
    · by_cases hb2 : b = 60
      · subst hb2
        rw [B.at60] at e; cases e
        exact .inr (.inl ⟨t2.isCodeTable, rfl, v60 w.params, more, rfl, e2⟩)
      · exact .inl (out b o hb hb2 e)
  · by_cases hb : b = 154
    · exact ⟨_, hb ▸ e1⟩
    · by_cases hb2 : b = 60
      · exact ⟨_, hb2 ▸ e2⟩
      · exact ⟨o, out b o hb hb2 e⟩
theorem ints_of {vs : List Value} {l : List Nat} (q : All2 (fun v x => ∃ t, v = Value.int (x : Nat) t) vs l) : IntsAre vs (l.map fun x : Nat => (x : Int)) := by
  induction q with
  | nil => exact .nil
  | cons h _ ih => obtain ⟨t, rfl⟩ := h; exact .cons _ _ ih
section
variable {w : World} {E : Value → Shared → Prop} {mg mb : Str → Option Value}
/-- the statements from the letters on -/
theorem suffix {base : Heap} {s : Shared} {m cm : Str → Option Value} {M : Addr} {vs : List Value} {modes : List Nat} {rule many sz : Nat} {tr tm ts : Tok} {Q : Flow → Shared → Prop} (B : Bs w mg mb base) (x : PX base 154 159 lawCs m cm 209 s.heap) (hg0 : s.gens = #[]) (h154 : s.heap.get? 154 = some (tabObj #[]))
    (hm : m (Str.ofString "modes") = some (.ref M)) (hM : s.heap.IsList M vs.toArray) (hv : All2 (fun v x => ∃ t, v = Value.int (x : Nat) t) vs modes) (hlen : modes.length = many) (hb : ∀ x ∈ modes, x < 65536) (hnd : modes.Nodup)
    (hmany : m (Str.ofString "many") = some (.int many tm)) (hsz : cm (Str.ofString "size") = some (.int sz ts)) (hcr : cm (Str.ofString "rule") = some (.int rule tr)) (hr : rule < 4)
    (hp : pairOk many sz = true) (h2 : 2 ≤ many) (h5 : many ≤ 5) (h1 : 1 ≤ sz) (h4 : sz ≤ 4) (hpow : many ^ sz ≤ 200)
    (hQ : ∀ s', OldK base s'.heap → s'.os = s.os → s'.gens = #[] → Q (.ret (.bool true)) s') :
    wpAny (model PR w) AL (execs [lawSt 6, lawSt 7, lawSt 8, lawSt 9, lawSt 10, lawSt 11, lawSt 12] (lawEnv 159)) Q E s := by
  obtain ⟨KRh, gH, bH, limH, biH⟩ := B.holed
  have N := gokOf KRh gH bH
  have kB : ∀ b o, b ≠ 154 → base.get? b = some o → s.heap.get? b = some o := x.keep
  obtain ⟨sgo, sin, spw, spp⟩ := sortM_spec (rule := rule) (by omega) (by omega) hb hnd hr
  have hbis : s.heap.BuiltinsAt mg 154 := by
    obtain ⟨bm, ob, q1, q2, q3, q4, q5, q6⟩ := B.bi
    exact ⟨bm, ob, q1, q2, q3, q4, kB _ _ q4 q5, q6⟩
  have ok0 := (ck156 w.params).is B.Y B.at154 trivial (by decide)
  have oks : s.heap.IsCode 156 154 #[] := isCode_to ok0 (fun o e => kB _ _ (by decide) e) h154 trivial
  have hvl : vs.length = modes.length := fa2_len hv
  -- letters
  refine wpAny_execs_cons ?_
  refine S7 B.Y x hg0 B.g B.b B.lim hbis oks h154 hm hM hv (by omega) (by omega) hr hcr sgo sin fun D ys s7 e7 n7 c7 k7 G7 t7 m7 hD hys => ?_
  obtain ⟨c', t7⟩ := t7
  obtain ⟨h7, tk7, rfl⟩ := e7
  have g7 : ({ s with heap := h7, toks := tk7 } : Shared).gens = #[] := hg0
  have o7 : ({ s with heap := h7, toks := tk7 } : Shared).os = s.os := rfl
  have s60 : s.heap.get? 60 = some (tabObj (v60 w.params)) := kB _ _ (by decide) B.at60
  have ks7 : KS s.heap h7 := by
    refine kS_km (S := [159, 154, 60, cellAt 159 "letters"]) (fun b o hb e => ?_) fun X hX => ?_
    · simp only [List.mem_cons, List.not_mem_nil, or_false, not_or] at hb
      exact k7 b o hb.1 hb.2.1 hb.2.2.1 hb.2.2.2 e
    · simp only [List.mem_cons, List.not_mem_nil, or_false] at hX
      rcases hX with rfl | rfl | rfl | rfl
      · exact ns_notSeq x.ns
      · exact ⟨_, h154, tab_notSeq⟩
      · exact ⟨_, s60, tab_notSeq⟩
      · exact cell_notSeq (x.cell (Str.ofString "letters") (cellAt 159 "letters") (by rfl))
  have kb7 : Keep (hole base [154, 60]) h7 := fun b o e => by
    by_cases hb : b ∈ [154, 60]
    · rw [hole_in hb] at e; cases e
    · rw [hole_out hb] at e
      have hlt := Heap.lt_size e
      rw [B.sz] at hlt
      simp only [List.mem_cons, List.not_mem_nil, or_false, not_or] at hb
      exact k7 b o (Nat.ne_of_lt hlt) hb.1 hb.2 (fun z => by rw [z] at hlt; exact absurd hlt (by decide)) (kB b o hb.1 e)
  have T7 : Tab #[rawInt lam6.2.2.2.line, rawInt lam6.2.2.2.col, .ref c'] h7 := ⟨isCode_to ok0 (fun o e => k7 _ _ (by decide) (by decide) (by decide) (by decide) (kB _ _ (by decide) e)) t7 trivial, t7⟩
  have f7 : FX [] { s with heap := hole base [154, 60], toks := tk7 } 159 m lawCs (fun n => if n = Str.ofString "letters" then some (.ref D) else cm n) { s with heap := h7, toks := tk7 } :=
    ⟨⟨h7, tk7, rfl⟩, n7, kfh_of kb7, by show (hole base [154, 60]).objs.size ≤ 159; rw [hole_size, B.sz]; exact Nat.le_refl _, c7, x.apart, x.above⟩
  have hM7 := isList_ks ks7 hM
  have ks7' : ({ s with heap := hole base [154, 60], toks := tk7 } : Shared).gens = #[] := hg0
  have so7 : ({ s with heap := hole base [154, 60], toks := tk7 } : Shared).os = s.os := rfl
  have h0 : ({ s with heap := hole base [154, 60], toks := tk7 } : Shared).heap.get? 154 = none := hole_in (by simp)
  have GB : GW w mg mb ({ s with heap := hole base [154, 60], toks := tk7 } : Shared).heap := gwOf KRh gH bH limH
  have RB : RdAt ({ s with heap := hole base [154, 60], toks := tk7 } : Shared).heap := rdAtOf KRh
  have TB : TabOk mg ({ s with heap := hole base [154, 60], toks := tk7 } : Shared).heap := tabOkOf KRh gH
  have biB : ({ s with heap := hole base [154, 60], toks := tk7 } : Shared).heap.BuiltinsAt mg 154 := biH
  have hoB : ({ s with heap := hole base [154, 60], toks := tk7 } : Shared).heap = hole base [154, 60] := rfl
  generalize ({ s with heap := hole base [154, 60], toks := tk7 } : Shared) = sB at f7 ks7' so7 h0 GB RB TB biB hoB
  have hm7 : ∃ more, ({ s with heap := h7, toks := tk7 } : Shared).heap.get? 60 = some (tabObj (v60 w.params ++ more)) := m7
  have hD7 : ({ s with heap := h7, toks := tk7 } : Shared).heap.IsList D ys.toArray := hD
  have T7 : Tab #[rawInt lam6.2.2.2.line, rawInt lam6.2.2.2.col, .ref c'] ({ s with heap := h7, toks := tk7 } : Shared).heap := T7
  have hM7 : ({ s with heap := h7, toks := tk7 } : Shared).heap.IsList M vs.toArray := hM7
  generalize ({ s with heap := h7, toks := tk7 } : Shared) = s7 at f7 hm7 hD7 T7 hM7 g7 o7 ⊢
  -- plain
  refine wpAny_execs_cons ?_
  refine S8 N f7 h0 GB biB T7 (by rfl) hm hM7 hv (by omega) hb hr (by rw [if_neg (by decide)]; exact hcr) fun s8 c8 P pvs out f8 T8 km8 ks8 hP hpv hperm hpair => ?_
  have hout : sortM rule modes = out := sorted_one (spp.trans hperm.symm) spw hpair fun m hm => hb m (spp.subset hm)
  subst hout
  obtain ⟨cm8, cl8, cp8, cs8, f8⟩ : ∃ cm8, cm8 (Str.ofString "letters") = some (.ref D) ∧ cm8 (Str.ofString "plain") = some (.ref P) ∧ cm8 (Str.ofString "size") = some (.int sz ts) ∧ FX [] sB 159 m lawCs cm8 s8 := by
    refine ⟨_, ?_, ?_, ?_, f8⟩
    · rw [if_neg (by decide), if_pos rfl]
    · rw [if_pos rfl]
    · rw [if_neg (by decide), if_neg (by decide)]; exact hsz
  have hsl : (sortM rule modes).length = many := by rw [spp.length_eq, hlen]
  have hsb : ∀ m ∈ sortM rule modes, m < 65536 := fun m hm => hb m (spp.subset hm)
  have hsn : (sortM rule modes).Nodup := spp.nodup_iff.mpr hnd
  have hD8 := isList_ks ks8 hD7
  have iy := ints_of hys
  have ip := ints_of hpv
  have hll : ((sortM rule modes).map fun x : Nat => (x : Int)).length = many := by rw [List.length_map]; exact hsl
  have hln : ((sortM rule modes).map fun x : Nat => (x : Int)).Nodup := List.pairwise_map.mpr (hsn.imp fun h e => h (by omega))
  have hlb : ∀ x ∈ (sortM rule modes).map (fun x : Nat => (x : Int)), 0 ≤ x ∧ x < 65536 := fun x hx => by
    obtain ⟨y, hy, rfl⟩ := List.mem_map.mp hx
    have := hsb y hy
    omega
  have row := pureRow hp _ hll hln hlb (by omega)
  generalize hls : (sortM rule modes).map (fun x : Nat => (x : Int)) = ls at iy ip hll row
  -- begin
  refine wpAny_execs_cons ?_
  refine S9 f8 cl8 hD8 iy (by omega) (by omega) cs8 h1 h4 fun s9 m9 T9 f9 hm9 st9 km9 => ?_
  have ks9 : KS s8.heap s9.heap := kS_km km9 fun X hX => by rw [List.mem_singleton.mp hX]; exact ns_notSeq f8.ns
  have T9t := T8.km km9 (by decide) (by decide)
  rw [hll] at st9
  -- ended
  refine wpAny_execs_cons ?_
  refine S10 N f9 h0 ks7' GB RB biB T9t (by rfl) (by rw [hm9, if_neg (by decide)]; exact hmany) (by rw [hm9, if_pos rfl]) st9 cl8 (isList_ks ks9 hD8) iy cs8 h1 h4 h5 hpow (by simp; omega) (by omega) (by simp; omega) (by simp) fun s10 m10 ev f10 hm10 st10 km10 t10 => ?_
  have ks10 : KS s9.heap s10.heap := kS_km km10 fun X hX => by
    simp only [List.mem_cons, List.not_mem_nil, or_false] at hX
    rcases hX with rfl | rfl
    · exact ns_notSeq f9.ns
    · exact ⟨_, T9t.tab, tab_notSeq⟩
  have lenI := iter_len (ls := ls) (sz := sz) (st := (List.replicate (sz - 1) (ls.getD (many - 1) 0), [])) h1 (by simp; omega) (many ^ sz + 1)
  have hrl : (List.replicate (sz - 1) (ls.getD (many - 1) 0)).length = sz - 1 := List.length_replicate
  have hit : (iter (longer ls sz) (many ^ sz + 1) (List.replicate (sz - 1) (ls.getD (many - 1) 0), [])).1.length ≤ 300 := by
    have := lenI.2.1
    simp only [List.length_replicate] at this
    omega
  have hfl : (wordsOf many sz).flatten.length ≤ 1000 := by
    have := congrArg List.length row
    rw [List.length_map, List.length_drop] at this
    omega
  generalize hst : iter (longer ls sz) (many ^ sz + 1) (List.replicate (sz - 1) (ls.getD (many - 1) 0), []) = st at st10 row hit
  -- told
  refine wpAny_execs_cons ?_
  refine S11 N f10 GB (by rw [hm10, if_neg (by decide), hm9, if_neg (by decide)]; exact hmany) cs8 hp h1 h4 h2 h5 hfl cp8 (isList_ks ks10 (isList_ks ks9 hP)) ip hll fun s11 T zs f11 km11 ks11 hT hz => ?_
  rw [← row] at hz
  -- signs
  refine wpAny_execs_cons ?_
  refine S12 N f11 GB TB cl8 (isList_ks ks11 (isList_ks ks10 (isList_ks ks9 hD8))) hys cp8 (isList_ks ks11 (isList_ks ks10 (isList_ks ks9 hP))) hpv hsb (by omega) fun s12 f12 km12 ks12 => ?_
  -- return
  refine wpAny_execs_cons ?_
  refine S13 f12 cl8 (isList_ks ks12 (isList_ks ks11 (isList_ks ks10 (isList_ks ks9 hD8)))) iy cp8 (isList_ks ks12 (isList_ks ks11 (isList_ks ks10 (isList_ks ks9 hP)))) ip (by rw [if_pos rfl]) (ev := ev) (st := st) ?_ (st10.ks (ks11.tr ks12)) cs8 h1 h4 (by omega) (T := T) ?_ (isList_ks ks12 hT) hz fun s13 k13 => ?_
  · rw [if_neg (by decide), if_neg (by decide), hm10, if_pos rfl]
  · rw [if_neg (by decide), if_pos rfl]
  · obtain ⟨h12, t12, e12⟩ := f12.same
    obtain ⟨h13, t13, e13, k13'⟩ := k13
    obtain ⟨ps', t10⟩ := t10
    obtain ⟨more, m60⟩ := hm7
    have keep13 : Keep s12.heap s13.heap := by rw [e13]; exact k13'
    refine hQ s13 (oldOf B (hoB ▸ (kfh_nil f12.keep).tr keep13) ⟨ps', keep13 _ _ (km12 _ _ (by decide) (km11 _ _ (by decide) t10))⟩ ⟨more, keep13 _ _ (km12 _ _ (by decide) (km11 _ _ (by decide) (km10 _ _ (by decide) (km9 _ _ (by decide) (km8 _ _ (by decide) m60)))))⟩) ?_ ?_
    · rw [e13, e12]; exact so7
    · rw [e13, e12]; exact ks7'
end
end Mine
end
section
open PySem PySem.W PyProof.Rows
set_option maxRecDepth 100000
set_option linter.unusedVariables false
namespace Mine
theorem pairs_cases {j : Nat} {a b : Int} (h : pairsOfSizes[j]? = some (a, b)) : ∃ mn sz : Nat, a = (mn : Int) ∧ b = (sz : Int) ∧ pairOk mn sz = true ∧ 2 ≤ mn ∧ mn ≤ 5 ∧ 1 ≤ sz ∧ sz ≤ 4 ∧ mn ^ sz ≤ 200 := by
  obtain ⟨p1, p2, p3, p4, p5, p6⟩ := pairs_ok
  rcases j with _ | _ | _ | _ | _ | _ | _
  · cases h; exact ⟨2, 4, rfl, rfl, p1, by decide, by decide, by decide, by decide, by decide⟩
  · cases h; exact ⟨3, 2, rfl, rfl, p2, by decide, by decide, by decide, by decide, by decide⟩
  · cases h; exact ⟨2, 3, rfl, rfl, p3, by decide, by decide, by decide, by decide, by decide⟩
  · cases h; exact ⟨4, 2, rfl, rfl, p4, by decide, by decide, by decide, by decide, by decide⟩
  · cases h; exact ⟨3, 3, rfl, rfl, p5, by decide, by decide, by decide, by decide, by decide⟩
  · cases h; exact ⟨5, 2, rfl, rfl, p6, by decide, by decide, by decide, by decide, by decide⟩
  · exact absurd h (by simp [pairsOfSizes])
theorem modes_are {zs : List Value} {x0 x1 : Int} {many : Nat} (hl : zs.length = many) (h : ∀ (j : Nat) v, zs[j]? = some v → ∃ t, v = Value.int (modeAt x0 x1 j) t) : All2 (fun v x => ∃ t, v = Value.int (x : Nat) t) zs (modesOf x0 x1 many) := by
  have gen : ∀ (zs : List Value) (k : Nat), (∀ (j : Nat) v, zs[j]? = some v → ∃ t, v = Value.int (modeAt x0 x1 (k + j)) t) → All2 (fun v x => ∃ t, v = Value.int (x : Nat) t) zs ((List.range' k zs.length).map fun j => (modeAt x0 x1 j).toNat) := by
    intro zs
    induction zs with
    | nil => exact fun _ _ => .nil
    | cons z r ih =>
      intro k hk
      rw [List.length_cons, List.range'_succ, List.map_cons]
      refine .cons ?_ (ih (k + 1) fun j v hv => ?_)
      · obtain ⟨t, e⟩ := hk 0 z rfl
        refine ⟨t, ?_⟩
        have := modeAt_range x0 x1 k
        rw [Int.toNat_of_nonneg this.1]
        exact e
      · have := hk (j + 1) v (by simpa using hv)
        rw [show k + (j + 1) = k + 1 + j from by omega] at this
        exact this
  have := gen zs 0 (fun j v hv => by rw [Nat.zero_add]; exact h j v hv)
  rw [hl, ← List.range_eq_range'] at this
  exact this
section
variable {w : World} {E : Value → Shared → Prop} {mg mb : Str → Option Value}
theorem body {base : Heap} {s : Shared} {vs : List Value} {ns : List Int} {Q : Flow → Shared → Prop} (B : Bs w mg mb base) (x : PX base 154 159 lawCs (fun _ => none) (fun y => if y = Str.ofString "script" then some (.ref 158) else none) 166 s.heap) (hg0 : s.gens = #[]) (h154 : s.heap.get? 154 = some (tabObj #[]))
    (hl : base.IsList 158 vs.toArray) (hi : IntsAre vs ns) (hlen : vs.length ≤ 63) (hQ : ∀ s', OldK base s'.heap → s'.os = s.os → s'.gens = #[] → Q (.ret (.bool true)) s') :
    wpAny (model PR w) AL (execs lawBody (lawEnv 159)) Q E s := by
  obtain ⟨KRh, gH, bH, limH, biH⟩ := B.holed
  have N := gokOf KRh gH bH
  have X : (KR w.params).In base := filt_in (f := fun a => decide (a ≠ 154) && decide (a ≠ 60)) B.Y fun b o _ e => e
  obtain ⟨su1, su2⟩ := sum_b X B.g B.b
  show wpAny (model PR w) AL (execs [lawSt 0, lawSt 1, lawSt 2, lawSt 3, lawSt 4, lawSt 5, lawSt 6, lawSt 7, lawSt 8, lawSt 9, lawSt 10, lawSt 11, lawSt 12] (lawEnv 159)) Q E s
  refine wpAny_execs_cons ?_
  refine S1 (prog := PR) (w := w) (A := AL) (E := E) (base := base) (T := 154) (L := 159) x B.g (by decide) B.b (by decide) su1 su2 N.n_range N.b_range (by rw [if_pos rfl]) hl (by decide) hi (by rw [sizeLine_eq]; omega) (by rfl) (by rfl) fun h1 tk1 D ys x1 hD hys hyv k1 => ?_
  obtain ⟨v0, t0, e0⟩ := hyv 0 _ (Array.getElem?_eq_getElem (by omega))
  obtain ⟨v1, t1, e1⟩ := hyv 1 _ (Array.getElem?_eq_getElem (by omega))
  obtain ⟨v2, t2, e2⟩ := hyv 2 _ (Array.getElem?_eq_getElem (by omega))
  obtain ⟨v3, t3, e3⟩ := hyv 3 _ (Array.getElem?_eq_getElem (by omega))
  have y0 : ys[0]? = some (.int v0 t0) := by rw [← e0]; exact Array.getElem?_eq_getElem (by omega)
  have y1 : ys[1]? = some (.int v1 t1) := by rw [← e1]; exact Array.getElem?_eq_getElem (by omega)
  have y2 : ys[2]? = some (.int v2 t2) := by rw [← e2]; exact Array.getElem?_eq_getElem (by omega)
  have y3 : ys[3]? = some (.int v3 t3) := by rw [← e3]; exact Array.getElem?_eq_getElem (by omega)
  have a1 : h1.get? 154 = some (tabObj #[]) := k1 _ _ (by decide) h154
  refine wpAny_execs_cons ?_
  refine @S2 PR w AL E { s with heap := h1, toks := tk1 } base 154 159 D _ _ _ ys _ x1 (if_pos rfl) hD v3 t3 y3 fun h2 tk2 a ta tb j mn' sz' hj x2 ha k2 na => ?_
  have a2 : h2.get? 154 = some (tabObj #[]) := k2 _ _ (by decide) a1
  have ks2 : KS h1 h2 := kS_but (ns_notSeq x1.ns) k2
  have hD2 := isList_ks ks2 hD
  obtain ⟨mn, sz, rfl, rfl, pk, q1, q2, q3, q4, q5⟩ := pairs_cases hj
  refine wpAny_execs_cons ?_
  refine @S3 PR w AL E { s with heap := h2, toks := tk2 } base 154 159 a _ _ _ (mn : Int) (sz : Int) ta tb _ x2 (if_pos rfl) ha fun h3 tk3 x3 k3 => ?_
  have a3 : h3.get? 154 = some (tabObj #[]) := k3 _ _ (by decide) a2
  have ks3 : KS h2 h3 := kS_but (ns_notSeq x2.ns) k3
  have ha3 : h3.get? a = some (tupObj [.int (mn : Int) ta, .int (sz : Int) tb]) := ks3 _ _ _ _ rfl ha
  refine wpAny_execs_cons ?_
  refine @S4 PR w AL E { s with heap := h3, toks := tk3 } base 154 159 a _ _ _ (mn : Int) (sz : Int) ta tb _ x3 ((if_neg (by decide)).trans (if_pos rfl)) ha3 fun h4 tk4 x4 k4 => ?_
  have a4 : h4.get? 154 = some (tabObj #[]) := k4 _ _ (by decide) a3
  have ks4 : KS h3 h4 := kS_but (cell_notSeq (x3.cell (Str.ofString "size") (cellAt 159 "size") (by rfl))) k4
  have hD4 := isList_ks ks4 (isList_ks ks3 hD2)
  refine wpAny_execs_cons ?_
  refine @S5 PR w AL E { s with heap := h4, toks := tk4 } base 154 159 D _ _ _ ys _ x4 ((if_neg (by decide)).trans (if_pos rfl)) hD4 v2 t2 y2 fun h5 tk5 tr x5 k5 => ?_
  have a5 : h5.get? 154 = some (tabObj #[]) := k5 _ _ (by decide) a4
  have ks5 : KS h4 h5 := kS_but (cell_notSeq (x4.cell (Str.ofString "rule") (cellAt 159 "rule") (by rfl))) k5
  have hD5 := isList_ks ks5 hD4
  refine wpAny_execs_cons ?_
  refine @S6 PR w AL E { s with heap := h5, toks := tk5 } base 154 159 D _ _ mg mb _ mn ta ys _ x5 B.g (by decide) B.b (by decide) N.n_range N.b_range (if_pos rfl) q2 ((if_neg (by decide)).trans ((if_neg (by decide)).trans (if_pos rfl))) hD5 v0 v1 t0 t1 y0 y1 (by rfl) fun h6 tk6 M zs x6 hM hzs hzv k6 nM => ?_
  have a6 : h6.get? 154 = some (tabObj #[]) := k6 _ _ (by decide) a5
  obtain ⟨rule, hr, hre⟩ : ∃ rule : Nat, rule < 4 ∧ (v2 + 1).fmod 4 = (rule : Int) := ⟨((v2 + 1).fmod 4).toNat, by have := Int.fmod_nonneg_of_pos (v2 + 1) (b := 4) (by decide); have := Int.fmod_lt_of_pos (v2 + 1) (b := 4) (by decide); omega, by have := Int.fmod_nonneg_of_pos (v2 + 1) (b := 4) (by decide); omega⟩
  have hzl : zs.toList.length = mn := by rw [Array.length_toList]; exact hzs
  refine suffix (s := { s with heap := h6, toks := tk6 }) (M := M) (vs := zs.toList) (modes := modesOf v0 v1 mn) (many := mn) (sz := sz) (rule := rule) (tm := ta) (ts := tb) (tr := tr) B x6 hg0 a6 (by rw [if_pos rfl]) (by simpa using hM) (modes_are hzl fun j v hv => hzv j v (by simpa using hv)) (by simp [modesOf]) (modesOf_lt _ _ _) (modesOf_nodup _ _ q2) ?_ ?_ ?_ hr pk q1 q2 q3 q4 q5 hQ
  · rw [if_neg (by decide), if_pos rfl]
  · rw [if_neg (by decide), if_pos rfl]
  · rw [if_pos rfl, hre]
/-- the call of law -/
theorem lawCall {s : Shared} {vs : List Value} {ns : List Int} (B : Bs w mg mb s.heap) (hg0 : s.gens = #[]) (hl : s.heap.IsList 158 vs.toArray) (hi : IntsAre vs ns) (hlen : vs.length ≤ 63) :
    wpAny (model PR w) callerA (call (.ref 157) [.ref 158]) (fun v s' => v = .bool true ∧ OldK s.heap s'.heap ∧ s'.os = s.os ∧ s'.gens = #[]) (fun _ _ => False) s := by
  have X : (KR w.params).In s.heap := filt_in (f := fun a => decide (a ≠ 154) && decide (a ≠ 60)) B.Y fun b o _ e => e
  have f := fk157 w.params
  have hd := f.d.trans (congrArg Data.func (fd_eta _ f.h1 f.h2 f.h3 f.h4 f.h5 f.h6 f.h7 f.h8 f.h9 f.h10 f.h11 f.h12))
  have hcd := codeRec_of f.c X
  rw [cd157] at hd hcd
  refine wpAny_call ?_
  refine callOneCell (T := 154) (p := Str.ofString "script") (c := cellAt 159 "script") (body := lawBody) (by decide) (get_of X 157 f.h0) hd B.lim hcd rfl (by rfl) rfl (by rw [B.sz]; decide) (by rfl) (by rw [B.sz]; rfl) fun h' x hk => ?_
  rw [B.sz] at x ⊢
  refine body (s := { s with heap := h' }) B x hg0 (hk _ _ B.at154) hl hi hlen fun s' o1 o2 o3 => ?_
  exact ⟨rfl, o1, o2, o3⟩
end
end Mine
end
open PySem PySem.W PySem.W.X PySem.W.ZRun PyProof.Rows
set_option maxRecDepth 100000
set_option maxHeartbeats 0
namespace Mine
noncomputable def hdLV : List (Str × WData) := [(Str.ofString "_filemode_table", WData.tuple [WData.tuple [WData.tuple [WData.int 40960, WData.str ⟨#[108]⟩], WData.tuple [WData.int 49152, WData.str ⟨#[115]⟩], WData.tuple [WData.int 32768, WData.str ⟨#[45]⟩], WData.tuple [WData.int 24576, WData.str ⟨#[98]⟩], WData.tuple [WData.int 16384, WData.str ⟨#[100]⟩], WData.tuple [WData.int 8192, WData.str ⟨#[99]⟩], WData.tuple [WData.int 4096, WData.str ⟨#[112]⟩]], WData.tuple [WData.tuple [WData.int 256, WData.str ⟨#[114]⟩]], WData.tuple [WData.tuple [WData.int 128, WData.str ⟨#[119]⟩]], WData.tuple [WData.tuple [WData.int 2112, WData.str ⟨#[115]⟩], WData.tuple [WData.int 2048, WData.str ⟨#[83]⟩], WData.tuple [WData.int 64, WData.str ⟨#[120]⟩]], WData.tuple [WData.tuple [WData.int 32, WData.str ⟨#[114]⟩]], WData.tuple [WData.tuple [WData.int 16, WData.str ⟨#[119]⟩]], WData.tuple [WData.tuple [WData.int 1032, WData.str ⟨#[115]⟩], WData.tuple [WData.int 1024, WData.str ⟨#[83]⟩], WData.tuple [WData.int 8, WData.str ⟨#[120]⟩]], WData.tuple [WData.tuple [WData.int 4, WData.str ⟨#[114]⟩]], WData.tuple [WData.tuple [WData.int 2, WData.str ⟨#[119]⟩]], WData.tuple [WData.tuple [WData.int 513, WData.str ⟨#[116]⟩], WData.tuple [WData.int 512, WData.str ⟨#[84]⟩], WData.tuple [WData.int 1, WData.str ⟨#[120]⟩]]])]
noncomputable def hdAS : List Nat := [0, 1, 2, 3, 4, 5, 6, 7, 8, 9, 10, 11, 12, 13, 14, 15, 22, 23, 24, 25, 26, 27, 28, 29, 30, 31, 32, 33, 34, 35, 36, 37, 38, 39, 40, 41, 42, 43, 44, 46, 47, 48, 49, 52, 53, 54, 55, 56, 57, 58, 59, 60, 61, 62, 63, 64, 65, 66, 67, 68, 69, 70, 71, 72, 73, 74, 75, 76, 77, 78, 79, 80, 81, 82, 83, 84, 85, 86, 87, 88, 89, 90, 91, 92, 93, 94, 95, 96, 97, 98, 99, 100, 101, 102, 103, 104, 105, 106, 107, 108, 109, 110, 111, 112, 113, 114, 115, 116, 117, 118, 119, 120, 121, 122, 123, 124, 125, 126, 127, 128, 129, 130, 131, 132, 133, 134, 135, 136, 137, 138, 139, 140, 141, 142, 143, 144, 145, 146, 147, 148, 149, 150, 151, 152, 153, 154, 155, 156, 157]
noncomputable def hdLoose : List Str := [Str.ofString "filterfalse", Str.ofString "_initial_missing", Str.ofString "reduce", Str.ofString "_filemode_table"]
end Mine
theorem PySem.Challenge.cw_il0049_01_holds : PySem.Challenge.rw_il0049_01.Holds := by
  w_on; o_law
  refine PySem.W.holds_openX (q := Mine.hl.view_307) (loose := Mine.hdLoose) (N := 2234)
    (Xt := fun s => xlAt Mine.hl.view_307 Mine.hdLV s && recOk (RowW.records PySem.Challenge.rw_il0049_01.row.toRowW) s) (XP := XL Mine.hl.view_307 Mine.hdLV) (Yf := obsZ Mine.hdAS) (Ya := valZ Mine.hl.heap_149 158 407) ?hl (fun s e => xl_of s (Bool.and_eq_true_iff.mp e).1) XL.keeps (by rfl) (by rfl) (by rfl) (fun s e => recFacts_of (Bool.and_eq_true_iff.mp e).2) (by rfl) (by first | assumption | decide +kernel) (by decide +kernel) ⟨rfl, rfl, rfl, rfl, rfl, by decide +kernel⟩ ?hw ?hc
  case hl => intro w; kernel_rfl
  case hw => w_witness2
  case hc =>
    k_fill
    intro w s₀ s₁ mg mb G y fa o pm cd doc dV kV ho hd hcd hD hmg hg args vals as L hpre hlay hrd hwl hlo
    obtain ⟨-, ZI, ZN, ZT⟩ := z_facts (K := Mine.hl.heap_149) (as := Mine.hdAS) (fun P => by kernel_rfl) y
    have KX : (Mine.hl.heap_149 w.params).In s₁.heap := InK.keeps w s₀.heap s₁.heap ZI L.keeps
    clear ZI
    refine Ground.open G ?_
    intro T B D TE TW
    wrow_args hpre hlay hrd hwl hlo
    obtain ⟨hat, hsz⟩ := script_at L
    have htk := script_toks L ZT
    rw [ZN] at hat hsz
    subst hat
    x_fa T KX hmg
    all_lens
    rename IntsAre _ _ => hI
    rename s₁.heap.IsList _ _ => hLs
    rename ¬ _ => hnc
    refine wpAny_mono (Mine.lawCall (w := w) (mg := mg) (mb := mb) ⟨KX, T.g, T.b, T.nolimit, T.bmain, hsz⟩ hg hLs hI (by omega)) (fun v s' q => ?_) fun _ _ e => e.elim
    obtain ⟨rfl, o1, o2, o3⟩ := q
    refine ⟨.inl ⟨_, _, [], rfl, fun _ => rfl, ReadsW.bool true, ?_, fun _ => ⟨List.nodup_nil, fun _ hm => (nomatch hm)⟩⟩, o1, o2, .of_eq o3⟩
    first | rfl | wrow_post
