import PyProof.Rows.All
import Wide.All
import OpenK.AllK
import Wide.FinOn
import PySem.Challenge.RW_pg0285_01
set_option Elab.async false
set_option linter.all false
set_option genInjectivity false
set_option genSizeOf false

/- part Hd -/
section
open PySem PySem.W PyProof.Rows
namespace Mine
-- the run of a module's top, its machine and its table put in the library's quick forms
noncomputable def topQ : { f : Program → World → Nat → Shared → Option Shared // ∀ p w N s, topFrom treeTable p w N s = f p w N s } :=
  ⟨_, fun p w N s => by
    unfold topFrom
    rw [PySem.W.Fast.te14082659384304107361, PySem.W.Fast.te14364793385576792824]⟩
-- what is looked at behind the top
noncomputable def behindQ {α : Type} (p q : Program) (loose : List Str) (Xt : Shared → Bool) (g0 : Bool) (Yf : Shared → α) (s : Shared) := (openSeen q loose (importedModules p.main.body) Xt g0 s, Yf s)
-- both ways of one of the world's rows, as one list
theorem of_both {p q : Program} {loose : List Str} {Xt : Shared → Bool} {α : Type} {Yf : Shared → α} {Ya : World → α} {N : Nat} {g0 : Bool} (row : String)
    (h : ∀ w : World, (fencedOpening treeTable p w N).map (fun s => [false, true].map fun b => (topQ.1 p (w.withFollow row b) N s).map (behindQ p q loose Xt g0 Yf)) =
      some ([false, true].map fun b => some (openGood q loose, Ya (w.withFollow row b)))) : LeftO p q loose Xt Yf Ya N g0 := by
  refine LeftO.of_split row fun w => ?_
  obtain ⟨s, a, b⟩ := Option.map_eq_some_iff.mp (h w)
  rw [a, Option.map_some, topQ.2, topQ.2]
  injection b with b1 b2
  injection b2 with b2
  exact congrArg some (Prod.ext b1 b2)
section
local macro_rules
  | `(($e : $_)) => if (e.raw.find? fun x => x.isIdent && x.getId.eraseMacroScopes == `frame).isSome then Lean.Macro.throwError "the run at once" else Lean.Macro.throwUnsupported
  | `($f:ident $r:str) => if f.getId.eraseMacroScopes == `LeftO.of_split then `(Mine.of_both $r) else Lean.Macro.throwUnsupported
set_option maxRecDepth 100000 in
theorem law_in (h : PySem.Challenge.rw_pg0285_01.row.wellSaid = true → PySem.Challenge.rw_pg0285_01.row.Holds) : PySem.Challenge.rw_pg0285_01.Holds :=
  holds_law ((congrFun PySem.W.Fast.te9446332074065402090 _).trans (by kernel_rfl)) h
local macro_rules
  | `(tactic| o_law) => `(tactic| (apply law_in; intro said))
set_option maxRecDepth 100000 in
set_option maxHeartbeats 8000000 in
open_top hd for PySem.Challenge.rw_pg0285_01
end
end Mine
end
local macro_rules | `(tactic| walk_at $s:str) => `(tactic| k_extra $s)

/- part SetA -/
section
open PySem PySem.W PyProof.Rows PySem.Calls PySem.Spec
set_option maxRecDepth 100000
namespace Mine
/- what a set of strs holds, its first-met order, and the marks of its table -/
noncomputable def SetData (prog : Program) (w : World) (ss : List Str) (es : Array (Int × Value)) (t : SetTable) : Prop :=
  ElemsOf (PySem.strKind prog w) es.toList ∧ (es.toList.map fun e => strOf e.2).Perm ss ∧ t.fits es.size = true ∧ t.led = !(w.params.followText "set-order") ∧ (ss ≠ [] → t.plain = false)
noncomputable def StrSet (prog : Program) (w : World) (h : Heap) (a : Addr) (ss : List Str) : Prop :=
  ∃ o es ep t, h.get? a = some o ∧ o.ExactSet ∧ o.data = .set es ep t ∧ SetData prog w ss es t
noncomputable def insS (ss : List Str) (x : Str) : List Str := if x ∈ ss then ss else ss ++ [x]
theorem layNew_led (t : SetTable) (es : Array (Int × Value)) (h : Int) (x : Value) : (layNew t es h x).2.1.led = t.led := by
  unfold layNew
  split
  · rename_i slot d _
    cases hp : t.put slot with
    | mk t' p =>
      have e : t'.led = t.led := by unfold SetTable.put at hp; cases hp; rfl
      dsimp only
      unfold SetTable.orStandIn
      split
      · exact e
      · exact e
  · rfl
theorem relayAll_led (t : SetTable) (es : Array (Int × Value)) (n : Nat) : (relayAll t es n).2.1.led = t.led := by
  unfold relayAll
  split
  · rename_i t' o e
    unfold SetTable.relaid SetTable.laid at e
    cases hl : SetTable.layClean (SetTable.sizeAbove n - 1) (es.map (·.1)) with
    | none => rw [hl] at e; cases e
    | some ow =>
      rw [hl] at e
      cases e
      dsimp only
      split <;> rfl
  · rfl
theorem relayAll_plain {t : SetTable} (es : Array (Int × Value)) (n : Nat) (h : t.plain = false) : (relayAll t es n).2.1.plain = false := by
  unfold relayAll
  split
  · rename_i t' o e
    unfold SetTable.relaid SetTable.laid at e
    cases hl : SetTable.layClean (SetTable.sizeAbove n - 1) (es.map (·.1)) with
    | none => rw [hl] at e; cases e
    | some ow =>
      rw [hl] at e
      cases e
      dsimp only
      split
      · exact h
      · rfl
  · rfl
theorem strIs {prog : Program} {w : World} {x y : Str} {v : Value} (h : (PySem.strKind prog w).is x v = true) : strOf v = x := by
  cases v <;> first | (simp [PySem.strKind, Value.isStrOf] at h; done) | skip
  all_goals (simp [PySem.strKind, Value.isStrOf] at h)
  exact h
section
variable {prog : Program} {w : World} {A : Around} {E : Value → Shared → Prop} {s : Shared} {ss : List Str} {es : Array (Int × Value)} {t : SetTable}
theorem SetData.size (S : SetData prog w ss es t) : es.size = ss.length := by
  have := S.2.1.length_eq
  rw [List.length_map, Array.length_toList] at this
  exact this
theorem SetData.mem (S : SetData prog w ss es t) (x : Str) : x ∈ ss ↔ ∃ e ∈ es.toList, (PySem.strKind prog w).is x e.2 = true := by
  rw [← S.2.1.mem_iff, List.mem_map]
  constructor
  · rintro ⟨e, he, rfl⟩
    obtain ⟨⟨k, hk, _⟩, _⟩ := S.1 e he
    refine ⟨e, he, ?_⟩
    rw [strIs (y := k) hk]; exact hk
  · rintro ⟨e, he, hk⟩
    exact ⟨e, he, strIs (y := x) hk⟩
theorem set_store {a : Addr} {o : Obj} {ep : Nat} {es' : Array (Int × Value)} {t' : SetTable} {h : Heap} (ho : h.get? a = some o) (hex : o.ExactSet) (hd : o.data = .set es ep t) (S : SetData prog w ss es' t') : StrSet prog w (h.update a (Obj.putSet es' t')) a ss := by
  have e := Heap.get?_update_self (Obj.putSet es' t') ho (by rw [putSet_of es' t' hd]; rfl)
  rw [putSet_of es' t' hd] at e
  exact ⟨_, es', ep + 1, t', e, hex, rfl, S⟩
theorem SetData.push {x : Str} {tx : Tok} {es1 : Array (Int × Value)} {t1 : SetTable} (S : SetData prog w ss es t) (hx : x ∉ ss) (hp : List.Perm es1.toList (es.toList ++ [((PySem.strKind prog w).hash x, .str x tx)])) (hf : t1.fits es1.size = true) (hl : t1.led = t.led) (hpl : t1.plain = false) : SetData prog w (insS ss x) es1 t1 := by
  refine ⟨(S.1.push (strKind_is _ _ _ _) rfl).perm hp, ?_, hf, hl.trans S.2.2.2.1, fun _ => hpl⟩
  unfold insS
  rw [if_neg hx]
  refine (hp.map _).trans ?_
  rw [List.map_append]
  exact S.2.1.append (.refl _)
theorem SetData.relay {es1 : Array (Int × Value)} {t1 : SetTable} {n : Nat} (S : SetData prog w ss es1 t1) (hpl : t1.plain = false) : SetData prog w ss (relayAll t1 es1 n).1 (relayAll t1 es1 n).2.1 :=
  ⟨S.1.perm (relayAll_perm _ _ _), ((relayAll_perm _ _ _).map _).trans S.2.1, relayAll_fits _ _ _, (relayAll_led _ _ _).trans S.2.2.2.1, fun _ => relayAll_plain _ _ hpl⟩
end
end Mine
end

/- part SetB -/
section
open PySem PySem.W PyProof.Rows PySem.Calls PySem.Spec
set_option maxRecDepth 100000
namespace Mine
section
variable {prog : Program} {w : World} {A : Around} {E : Value → Shared → Prop} {s : Shared} {ss : List Str}
/- one str into a set of strs -/
theorem ss_add {a : Addr} {x : Str} {tx : Tok} {Q : Bool → Shared → Prop} (hS : StrSet prog w s.heap a ss) (hb : ss.length + 1 < scanBound)
    (h : ∀ b h', Heap.SameBut a s.heap h' → StrSet prog w h' a (insS ss x) → Q b { s with heap := h' }) :
    wpAny (model prog w) A (setAddHashed a (.str x tx) ((PySem.strKind prog w).hash x)) Q E s := by
  obtain ⟨o, es, ep, t, ho, hex, hd, S⟩ := id hS
  have hkey : (PySem.strKind prog w).is x (.str x tx) = true := strKind_is _ _ _ _
  have hz := S.size
  unfold setAddHashed setAddHashedIn
  refine wpAny_holding (wpAny_bind (wpAny_setState_of ho hd S.2.2.1 ?_))
  dsimp only
  rw [byScan_of (knd := PySem.strKind prog w) rfl (by lia) S.1, if_pos rfl]
  unfold setAddByScan
  refine wpAny_bind (wpAny_bind (wpAny_rule ?_))
  refine wpAny_bind (wpAny_setScan_of hkey ho hd S.2.2.1 S.1 ?_)
  cases hr : List.findIdx? (fun e => (PySem.strKind prog w).is x e.2) es.toList with
  | some j =>
    dsimp only
    obtain ⟨hj, hpj, _⟩ := List.findIdx?_eq_some_iff_getElem.mp hr
    have hin : x ∈ ss := (S.mem x).mpr ⟨es.toList[j], List.getElem_mem hj, hpj⟩
    have e9 : insS ss x = ss := if_pos hin
    refine wpAny_pure (wpAny_pure ?_)
    have := h false s.heap (Heap.SameBut.refl a s.heap) (e9.symm ▸ hS)
    exact this
  | none =>
    dsimp only
    have hnin : x ∉ ss := fun hin => by
      obtain ⟨e, he, hp⟩ := (S.mem x).mp hin
      have := List.findIdx?_eq_none_iff.mp hr e he
      rw [hp] at this; cases this
    have hperm := layNew_perm t es ((PySem.strKind prog w).hash x) (.str x tx)
    have hfits := layNew_fits t es ((PySem.strKind prog w).hash x) (.str x tx)
    have hled := layNew_led t es ((PySem.strKind prog w).hash x) (.str x tx)
    generalize layNew t es ((PySem.strKind prog w).hash x) (.str x tx) = Ln at hperm hfits hled ⊢
    obtain ⟨es1, t1, wd, gv⟩ := Ln
    dsimp only at hperm hfits hled ⊢
    rw [Array.toList_push] at hperm
    have hsz1 : es1.size = es.size + 1 := by rw [← Array.length_toList, hperm.length_eq, List.length_append, Array.length_toList]; rfl
    -- the table's last mark: not plain any more
    have key : ∀ t2 : SetTable, t2.fits es1.size = true → t2.led = t.led → t2.plain = false → wpAny (model prog w) A (do
        storeSet a es1 t2
        if (!wd && t2.tooFull) = true then do
            (match (relayAll t2 es1 (SetTable.grown es1.size)).2.2 with | true => rule "set.scan.the-table-gave-way" | false => pure ())
            storeSet a (relayAll t2 es1 (SetTable.grown es1.size)).1 (relayAll t2 es1 (SetTable.grown es1.size)).2.1
            pure (some true)
          else pure (some true)) (fun r s₁ => ∃ b, r = some b ∧ Q b s₁) E s := by
      intro t2 hf2 hl2 hp2
      have S2 : SetData prog w (insS ss x) es1 t2 := S.push hnin hperm hf2 hl2 hp2
      refine wpAny_bind (wpAny_storeSet_of ho hd ?_ (fits_of_scanBound (by lia)))
      have n1 := set_store ho hex hd S2
      have sb1 := Heap.SameBut.update s.heap a (Obj.putSet es1 t2)
      split
      · have S3 := S2.relay (n := SetTable.grown es1.size) hp2
        have hz3 := S3.size
        have hz2 := S2.size
        generalize relayAll t2 es1 (SetTable.grown es1.size) = Rl at S3 hz3 ⊢
        obtain ⟨es2, t3, g3⟩ := Rl
        dsimp only at S3 hz3 ⊢
        have go : wpAny (model prog w) A (do
            storeSet a es2 t3
            pure (some true)) (fun r s₁ => ∃ b, r = some b ∧ Q b s₁) E { s with heap := s.heap.update a (Obj.putSet es1 t2) } := by
          obtain ⟨o1, e1, p1, t1', ho1, hex1, hd1, _⟩ := n1
          refine wpAny_bind (wpAny_storeSet_of ho1 hd1 (wpAny_pure ⟨true, rfl, h _ _ (sb1.trans (Heap.SameBut.update _ a _)) (set_store ho1 hex1 hd1 S3)⟩) (fits_of_scanBound (by lia)))
        cases g3
        · exact wpAny_bind (wpAny_pure go)
        · exact wpAny_bind (wpAny_rule go)
      · exact wpAny_pure ⟨true, rfl, h _ _ sb1 n1⟩
    have fin : wpAny (model prog w) A (do
        let byValue ← if t1.plain then hashByValue 8 (.str x tx) else pure true
        let t := if byValue then t1 else { t1 with plain := false }
        storeSet a es1 t
        if (!wd && t.tooFull) = true then do
            (match (relayAll t es1 (SetTable.grown es1.size)).2.2 with | true => rule "set.scan.the-table-gave-way" | false => pure ())
            storeSet a (relayAll t es1 (SetTable.grown es1.size)).1 (relayAll t es1 (SetTable.grown es1.size)).2.1
            pure (some true)
          else pure (some true)) (fun r s₁ => ∃ b, r = some b ∧ Q b s₁) E s := by
      cases hpl : t1.plain with
      | true =>
        rw [if_pos rfl, hashByValue_scannable 8 rfl]
        refine wpAny_bind (wpAny_pure ?_)
        exact key _ (SetTable.fits_plain_off hfits) hled rfl
      | false =>
        rw [if_neg Bool.false_ne_true]
        refine wpAny_bind (wpAny_pure ?_)
        exact key t1 hfits hled hpl
    have tail : wpAny (model prog w) A (do
        let byValue ← if t1.plain then hashByValue 8 (.str x tx) else pure true
        let t := if byValue then t1 else { t1 with plain := false }
        storeSet a es1 t
        if (!wd && t.tooFull) = true then do
            (match (relayAll t es1 (SetTable.grown es1.size)).2.2 with | true => rule "set.scan.the-table-gave-way" | false => pure ())
            storeSet a (relayAll t es1 (SetTable.grown es1.size)).1 (relayAll t es1 (SetTable.grown es1.size)).2.1
            pure (some true)
          else pure (some true)) (fun r s₁ => wpAny (model prog w) A (match r with
            | some added => pure added
            | none => setAddHashedIn a (.str x tx) ((PySem.strKind prog w).hash x) 99999) Q E s₁) E s :=
      wpAny_mono fin (fun r s₁ ⟨b, e, hq⟩ => by rw [e]; exact wpAny_pure hq) fun _ _ e => e
    cases gv
    · exact wpAny_bind (wpAny_pure tail)
    · exact wpAny_bind (wpAny_rule tail)
end
end Mine
end

/- part SetC -/
section
open PySem PySem.W PyProof.Rows PySem.Calls PySem.Spec
set_option maxRecDepth 100000
namespace Mine
noncomputable def dedS (xs : List Str) : List Str := xs.foldl insS []
theorem insS_len (ss : List Str) (x : Str) : (insS ss x).length ≤ ss.length + 1 := by
  unfold insS; split
  · lia
  · rw [List.length_append]; exact Nat.le_refl _
theorem foldl_len : ∀ (xs ss : List Str), (xs.foldl insS ss).length ≤ ss.length + xs.length
  | [], ss => Nat.le_refl _
  | x :: r, ss => by
    have h1 := foldl_len r (insS ss x)
    have h2 := insS_len ss x
    rw [List.foldl_cons, List.length_cons]; lia
theorem strsAre_at : ∀ {vs : List Value} {xs : List Str}, StrsAre vs xs → ∀ (i : Nat) (v : Value), vs[i]? = some v → ∃ x t, v = .str x t ∧ xs[i]? = some x
  | _, _, .nil, i, v, h => by simp at h
  | _, _, .cons x t _, 0, v, h => by simp at h; exact ⟨x, t, h.symm, rfl⟩
  | _, _, .cons _ _ hr, i + 1, v, h => by
    rw [List.getElem?_cons_succ] at h
    obtain ⟨x, t, e1, e2⟩ := strsAre_at hr i v h
    exact ⟨x, t, e1, by rw [List.getElem?_cons_succ]; exact e2⟩
theorem take_fold {xs : List Str} {i : Nat} {x : Str} (h : xs[i]? = some x) : dedS (xs.take (i + 1)) = insS (dedS (xs.take i)) x := by
  unfold dedS
  rw [List.take_add_one, h, List.foldl_append]; rfl
section
variable {prog : Program} {w : World} {A : Around}
theorem StrSet.keepB {h h' : Heap} {a : Addr} {ss : List Str} (S : StrSet prog w h a ss) (k : ∀ o, h.get? a = some o → h'.get? a = some o) : StrSet prog w h' a ss :=
  let ⟨o, es, ep, t, ho, r⟩ := S; ⟨o, es, ep, t, k o ho, r⟩
/- the loop that fills the set from a list's iterator -/
theorem upd_loop {R : Result → Shared → Prop} (hh : A.handled = none) {I l S : Addr} {items : Array Value} {xs : List Str} (hI : StrsAre items.toList xs) (hlI : l ≠ I) (hSI : S ≠ I) (hSl : S ≠ l) (hb : xs.length + 1 < scanBound) :
    ∀ (k i : Nat) (s : Shared), xs.length - i = k → i ≤ xs.length → s.heap.IsListIter I l i → s.heap.IsList l items → StrSet prog w s.heap S (dedS (xs.take i)) →
      (∀ h' tk, (∀ b o, b ≠ S → b ≠ I → s.heap.get? b = some o → h'.get? b = some o) → StrSet prog w h' S (dedS xs) → R (.ok (.ret .none)) { s with heap := h', toks := tk }) →
      codeAny (model prog w) A (.builtin "set.update.loop" ⟨[.ref S, .ref I], []⟩) R s := by
  have hlen : items.size = xs.length := by rw [← Array.length_toList]; exact hI.length
  intro k
  induction k with
  | zero =>
    intro i s hk hi hit hl hS hR
    refine codeAny_builtin PyProof.Rows.F.entry_set_update_loop ?_
    rw [Around.under_plainId PyProof.Rows.F.plain_set_update_loop _]
    show wpAny _ A.in1 (pyNext (.ref I) >>= _) _ _ s
    refine wpAny_bind (wpAny_pyNext_list_end (by simp [hh]) hit hl (by simp; lia) fun h' he' => ?_)
    show wpAny _ A.in1 (ret Value.none) _ _ _
    refine wpAny_pure (hR h' s.toks (fun b o _ hb e => he' b o hb e) ?_)
    rw [List.take_of_length_le (by lia)] at hS
    exact hS.keepB fun o e => he' S o hSI e
  | succ k ih =>
    intro i s hk hi hit hl hS hR
    have hlt : i < xs.length := by lia
    obtain ⟨v, hv⟩ : ∃ v, items[i]? = some v := ⟨items[i]'(by lia), by simp⟩
    obtain ⟨x, tx, rfl, hx⟩ := strsAre_at hI i v (by rw [Array.getElem?_toList]; exact hv)
    refine codeAny_builtin PyProof.Rows.F.entry_set_update_loop ?_
    rw [Around.under_plainId PyProof.Rows.F.plain_set_update_loop _]
    show wpAny _ A.in1 (pyNext (.ref I) >>= _) _ _ s
    refine wpAny_bind (wpAny_pyNext_list_item hit hl hv fun h1 hit1 hs1 => ?_)
    show wpAny _ A.in1 (holding [Value.str x tx] (setAdd S (.str x tx)) >>= _) _ _ _
    refine wpAny_bind (wpAny_holding ?_)
    unfold setAdd
    refine wpAny_holding (wpAny_bind ((PySem.strKind prog w).pyHash (k := x) (strKind_is _ _ _ _) ?_))
    have hS1 : StrSet prog w h1 S (dedS (xs.take i)) := hS.keepB fun o e => hs1.extBut S o hSI e
    have hl1 : h1.IsList l items := hl.extBut hs1.extBut hlI
    refine ss_add hS1 (by have := foldl_len (xs.take i) []; have h2 := List.length_take_le i xs; unfold dedS; rw [List.length_nil] at this; lia) fun b h2 hs2 hS2 => ?_
    refine wpAny_pure ⟨plainId_quiet PyProof.Rows.F.plain_set_update_loop _, ih (i + 1) _ (by lia) hlt (hit1.extBut hs2.extBut hSI.symm) (hl1.extBut hs2.extBut hSl.symm) (by rw [take_fold hx]; exact hS2) fun h3 tk3 hk3 hS3 => ?_⟩
    exact hR h3 tk3 (fun b o b1 b2 e => hk3 b o b1 b2 (hs2.extBut b o b1 (hs1.extBut b o b2 e))) hS3
end
end Mine
end

/- part SetD -/
section
open PySem PySem.W PyProof.Rows PySem.Calls PySem.Spec
set_option maxRecDepth 100000
namespace Mine
section
variable {prog : Program} {w : World} {A : Around} {E : Value → Shared → Prop} {s : Shared}
noncomputable abbrev newSetObj (w : World) : Obj := { cls := .type "set", dict := none, data := .set #[] 0 (.fresh 0 0 (!(w.params.followText "set-order"))) }
/- set.__new__, the mark of its maker known -/
theorem set_new (a : Value) {Q₁ : Value → Shared → Prop} (h : Q₁ (.ref s.heap.objs.size) { s with heap := s.heap.push (newSetObj w) }) :
    codeAny (model prog w) A (.call (.builtin "set.__new__") ⟨[.type "set", a], []⟩) (wants Q₁ E) s := by
  refine codeAny_of_tree ?_
  show wpAny _ A.in1 (do checkBuiltinCall "set.__new__" ⟨[.type "set", a], []⟩; again (.builtin "set.__new__" ⟨[.type "set", a], []⟩)) _ _ s
  refine wpAny_bind (wpAny_of_eq (PySem.F.newCall_set_1 a) (wpAny_pure ⟨plainId_quiet PySem.F.plain_set_new _, codeAny_builtin PySem.F.entry_set_new ?_⟩))
  rw [Around.under_plainId PySem.F.plain_set_new _]
  have hsub := sub_set_self
  obtain ⟨hp, g, d, tk, os⟩ := s
  dsimp only at h
  unfold Builtin.«set.__new__» Builtin.Frozenset.newClass
  wp_walk
  refine wpAny_askSetting (wpAny_pure ?_)
  dsimp only
  simp only [newObj]
  refine wpAny_bind (wpAny_alloc (wpAny_pure ?_))
  exact wpAny_pure h
theorem newSet_str : SetData prog w [] #[] (.fresh 0 0 (!(w.params.followText "set-order"))) :=
  ⟨fun e he => by simp at he, by simp, rfl, rfl, fun h => absurd rfl h⟩
structure Kept (P : Prop) : Prop where out : P
set_option maxHeartbeats 3200000 in
/- set(a list of strs) -/
theorem set_of_strs {l : Addr} {items : Array Value} {xs : List Str} {Q : Value → Shared → Prop} (hh : A.handled = none) (hl : s.heap.IsList l items) (hi : StrsAre items.toList xs) (hb : xs.length + 1 < scanBound)
    (h : ∀ h' tk, StrSet prog w h' s.heap.objs.size (dedS xs) → (∀ b o, b < s.heap.objs.size → s.heap.get? b = some o → h'.get? b = some o) → Q (.ref s.heap.objs.size) { s with heap := h', toks := tk }) :
    wpAny (model prog w) A (call (.type "set") [.ref l]) Q E s := by
  have kI := Kept.mk hi
  have kB := Kept.mk hb
  have kQ := Kept.mk h
  have kL := Kept.mk hl
  clear hi hb h hl
  obtain ⟨c, tl, hmro⟩ := PySem.F.called_set.mro
  have hmade := PySem.F.called_set.made
  have hsub := PySem.F.called_set.sub
  refine wpAny_call (codeAny_of_tree ?_)
  show wpAny _ _ (callAny (.type "set") _) _ _ _
  refine wpAny_pure ⟨Code.quiet_builtin _ (by decide +kernel), codeAny_builtin PySem.F.entry_type_call ?_⟩
  rw [Around.under_plain (weight_type_call_type "set" [.ref l] []) rfl]
  have h1 := PySem.F.called_set.notType
  have h2 := PySem.F.called_set.canCreate
  have hct := PySem.F.typeCall_set_1 (.ref l)
  repeat (any_goals (first | assumption | wp_step))
  refine codeAny_mono (set_new (.ref l) (E := E) (Q₁ := fun obj s₁ => obj = .ref s.heap.objs.size ∧ s₁ = { s with heap := s.heap.push (newSetObj w) }) ⟨rfl, rfl⟩) fun r s₁ hr => ?_
  cases r with
  | error e => exact hr
  | ok fl =>
    cases fl with
    | ret obj =>
      obtain ⟨rfl, rfl⟩ := hr
      have hS : (s.heap.push (newSetObj w)).get? s.heap.objs.size = some (newSetObj w) := Heap.get?_push_size _ rfl
      have hT : Shared.TypeIs { s with heap := s.heap.push (newSetObj w) } (.ref s.heap.objs.size) "set" := ⟨_, hS, rfl⟩
      have hli := PySem.F.called_set.init.lookup
      have hbi := PySem.F.called_set.init.bind (.ref s.heap.objs.size)
      repeat (any_goals (first | assumption | wp_step))
      refine codeAny_mono (codeAny_call_builtin (R := wants (fun r s₂ => r = .none ∧ ∃ h' tk, s₂ = { s with heap := h', toks := tk } ∧ StrSet prog w h' s.heap.objs.size (dedS xs) ∧
          (∀ b o, b < s.heap.objs.size → s.heap.get? b = some o → h'.get? b = some o)) E) PySem.F.called_set.init.plain PySem.F.entry_set_init (check_set_init_1 hT ?_)) fun r₂ s₂ hr₂ => ?_
      · obtain ⟨ol, hol, hcl, nl, hdl⟩ := id kL.out
        have hlS : l < s.heap.objs.size := Heap.lt_size hol
        obtain ⟨ocls, odict, odata, oslots⟩ := ol
        dsimp only at hcl hdl
        subst hcl; subst hdl
        have hol' : (s.heap.push (newSetObj w)).get? l = some { cls := .type "list", dict := odict, data := .seq items nl, slots := oslots } := Heap.get?_push_of_some _ hol
        have hsls := PySem.F.sub_list_set
        have hslf := PySem.F.sub_list_frozenset
        have hne : (Value.type "list" == Value.type "dict") = false := by decide
        have hl1 : (s.heap.push (newSetObj w)).IsList l items := ⟨_, hol', rfl, nl, rfl⟩
        unfold Builtin.«set.__init__» noKeywords Builtin.Frozenset.updateFrom
        generalize hPI : pyIter = PI
        wp_walk
        subst hPI
        refine wpAny_pyIter_list hl1 ?_
        refine wpAny_bind (wpAny_runValue ?_)
        have hz : (s.heap.push (newSetObj w)).objs.size = s.heap.objs.size + 1 := Heap.size_push _ _
        refine upd_loop (by simp [hh]) kI.out (by rw [hz]; exact Nat.ne_of_lt (Nat.lt_succ_of_lt hlS)) (by rw [hz]; exact Nat.ne_of_lt (Nat.lt_succ_self _)) (Nat.ne_of_gt hlS) kB.out (xs.length - 0) 0 _ rfl (Nat.zero_le _)
          ⟨_, Heap.get?_push_size _ rfl, rfl, rfl⟩ (hl1.push _) ⟨_, #[], 0, _, Heap.get?_push_of_some _ hS, ⟨rfl, rfl, rfl⟩, rfl, newSet_str⟩ fun h' tk hk hS' => ?_
        show wpAny _ _ _ _ _ _
        refine wpAny_pure ?_
        show wpAny _ _ (ret Value.none) _ _ _
        refine wpAny_pure ⟨rfl, h', tk, rfl, hS', fun b o hb e => hk b o (Nat.ne_of_lt hb) (by rw [hz]; exact Nat.ne_of_lt (Nat.lt_succ_of_lt hb)) (Heap.get?_push_of_some _ (Heap.get?_push_of_some _ e))⟩
      · cases r₂ with
        | error e => exact hr₂
        | ok fl₂ =>
          cases fl₂ with
          | ret r =>
            obtain ⟨rfl, h', tk, rfl, hS', hk'⟩ := hr₂
            repeat (any_goals (first | assumption | wp_step))
            exact kQ.out _ _ hS' hk'
          | _ => exact hr₂.elim
    | _ => exact hr.elim
end
end Mine
end

/- part SetE -/
section
open PySem PySem.W PyProof.Rows PySem.Calls PySem.Spec
set_option maxRecDepth 100000
namespace Mine
namespace FS
theorem slot_setiter_next : Slot "set_iterator" "__next__" "set_iterator.__next__" :=
  .of (owner := "set_iterator") (n := "__next__") (by rw [typeLookup_type, builtinLookup_eq_fast]; kernel_rfl) (by decide +kernel) (by decide +kernel) (by decide +kernel)
    (by first | exact .inl (by decide +kernel) | exact .inr (by decide +kernel)) (by rw [isSubtype_type]; kernel_rfl)
theorem entry_setiter_next : entryFor table "set_iterator.__next__" = some Builtin.«set_iterator.__next__» := entryFor_of_fast (by kernel_rfl)
theorem entry_set_iter : entryFor table "set.__iter__" = some Builtin.«frozenset.__iter__» :=
  entryFor_alias (id' := "frozenset.__iter__") (by kernel_rfl) rfl (by decide +kernel) (by kernel_rfl)
theorem args_setiter_next (a : Value) : argsOk "set_iterator.__next__" ⟨[a], []⟩ := by unfold argsOk; kernel_rfl
end FS
theorem erase_perm {α : Type} : ∀ (l : List α) (i : Nat) (hi : i < l.length), (l[i] :: l.eraseIdx i).Perm l
  | x :: r, 0, _ => .refl _
  | x :: r, i + 1, hi => by
    rw [List.eraseIdx_cons_succ, List.getElem_cons_succ]
    exact (List.Perm.swap _ _ _).trans ((erase_perm r i (by simpa using hi)).cons _)
noncomputable def IterAt (h : Heap) (I : Addr) (first : Value) (i : Nat) (S : Addr) (n ep : Nat) : Prop :=
  ∃ o, h.get? I = some o ∧ o.cls = .type "set_iterator" ∧ o.data = .fields #[first, .int i 0, .ref S, .int n 0, .int ep 0]
noncomputable def SetAt (h : Heap) (S : Addr) (es : Array (Int × Value)) (ep : Nat) (t : SetTable) : Prop := ∃ o, h.get? S = some o ∧ o.ExactSet ∧ o.data = .set es ep t
section
variable {prog : Program} {w : World} {A : Around} {E : Value → Shared → Prop} {s : Shared}
theorem IterAt.typeIs {I : Addr} {first : Value} {i : Nat} {S : Addr} {n ep : Nat} (x : IterAt s.heap I first i S n ep) : s.TypeIs (.ref I) "set_iterator" := let ⟨o, ho, hc, _⟩ := x; ⟨o, ho, hc⟩
theorem draw_one {n : Nat} {Q : Nat → Shared → Prop} (hn : n ≠ 0) (h : ∀ i dr, i < n → Q i { s with drawn := dr }) : wpAny (model prog w) A (choose .order n) Q E s := fun Γ p _ => by
  unfold choose
  rw [Sem.wp_choose]
  exact ⟨hn, by rw [Sem.wp_pure]; exact h _ _ (Nat.mod_lt _ (Nat.pos_of_ne_zero hn))⟩
theorem draw_order {α : Type} : ∀ (n : Nat) (xs : List α) (s : Shared) (Q : List α → Shared → Prop), xs.length = n → (∀ ys dr, ys.Perm xs → Q ys { s with drawn := dr }) → wpAny (model prog w) A (drawOrder n xs) Q E s
  | 0, xs, s, Q, hl, h => by
    obtain rfl := List.length_eq_zero_iff.mp hl
    exact wpAny_pure (h [] s.drawn (.refl _))
  | n + 1, [], s, Q, hl, h => by simp at hl
  | n + 1, x :: r, s, Q, hl, h => by
    show wpAny _ _ (choose .order (x :: r).length >>= _) _ _ _
    refine wpAny_bind (draw_one (by simp) fun i dr hi => ?_)
    rw [List.getElem?_eq_getElem hi]
    dsimp only
    refine wpAny_bind (draw_order n _ _ _ (by rw [List.length_eraseIdx, if_pos hi, hl]; rfl) fun ys dr' hp => wpAny_pure ?_)
    refine h _ dr' ?_
    exact (hp.cons _).trans (erase_perm _ _ hi)
theorem raise_stop {α : Type} {Q' : α → Shared → Prop} {E' : Value → Shared → Prop} (hh : A.handled = none)
    (h : ∀ e h', (∀ b o, s.heap.get? b = some o → h'.get? b = some o) → Shared.TypeIs { s with heap := h' } e "StopIteration" → E' e { s with heap := h' }) :
    wpAny (model prog w) A (newExc (.type "StopIteration") [] >>= fun e => raiseNew (α := α) e) Q' E' s := by
  refine wpAny_bind ?_
  simp only [newExc, newTuple]
  refine wpAny_bind (wpAny_newObj_type ?_ (by size_fits))
  refine wpAny_bind (m := firstArgMember _ _) (wpAny_of_eq (a := Value.none) (by first | rfl | (simp only [firstArgMember]; rfl)) ?_)
  refine wpAny_newObj_type ?_ (by size_fits)
  simp only [raiseNew]
  refine wpAny_bind (wpAny_handled ?_)
  rw [hh]
  refine wpAny_bind (wpAny_pure (wpAny_throw ?_))
  exact h _ _ (fun b o e => Heap.get?_push_of_some _ (Heap.get?_push_of_some _ e)) ⟨_, Heap.get?_push_size _ rfl, rfl⟩
/- one step of the iterator, its order drawn -/
theorem next_drawn {I pl S : Addr} {i n ep : Nat} {es : Array (Int × Value)} {t : SetTable} {places : Array Value} {k p : Nat} {tp : Tok} {hx : Int} {x : Value} {Q : Option Value → Shared → Prop}
    (hit : IterAt s.heap I (.ref pl) i S n ep) (hS : SetAt s.heap S es ep t) (hf : t.fits es.size = true) (hn : es.size = n) (hp : s.heap.get? pl = some { cls := .type "tuple", data := .seq places k }) (e1 : places[i]? = some (.int p tp)) (e2 : es[p]? = some (hx, x))
    (hQ : ∀ h', IterAt h' I (.ref pl) (i + 1) S n ep → Heap.SameBut I s.heap h' → Q (some x) { s with heap := h' }) : wpAny (model prog w) A (pyNext (.ref I)) Q E s := by
  obtain ⟨o, ho, hc, hd⟩ := id hit
  obtain ⟨os, hos, hes, hds⟩ := id hS
  unfold pyNext
  refine wpAny_bind (wpAny_attempt (wpAny_callSpecial?_slot (name := Str.ofString "__next__") hit.typeIs FS.slot_setiter_next
    (wpAny_call_entry FS.slot_setiter_next hit.typeIs FS.entry_setiter_next ?_ (FS.args_setiter_next _))))
  show wpAny _ _ (fieldsOf (.ref I) >>= _) _ _ s
  refine wpAny_bind (wpAny_fieldsOf ho hd ?_)
  show wpAny _ _ (setEntries S >>= _) _ _ s
  refine wpAny_bind (wpAny_setEntries_of hos hds hf ?_)
  rw [if_neg (by rw [hn]; simp)]
  show wpAny _ _ (seqItems? (.ref pl) >>= _) _ _ s
  refine wpAny_bind (wpAny_seqItems hp rfl ?_)
  simp only [Int.toNat_natCast, e1]
  unfold setNextDrawn
  refine wpAny_bind (wpAny_bind (wpAny_setState_of hos hds hf ?_))
  dsimp only
  rw [if_neg (by simp)]
  simp only [e2]
  refine wpAny_pure ?_
  refine wpAny_bind (wpAny_setField ho hd (by simp) (wpAny_pure ⟨x, rfl, wpAny_pure (hQ _ ?_ (Heap.SameBut.update ..))⟩))
  exact ⟨_, Heap.get?_update_self _ ho (Obj.isFreed_of_fields (Obj.data_mapFields hd _)), (Obj.cls_mapFields ..).trans hc, by
    rw [Obj.data_mapFields hd]; simp [rawInt]⟩
/- its end -/
theorem next_drawn_end {I pl S : Addr} {i n ep : Nat} {es : Array (Int × Value)} {t : SetTable} {places : Array Value} {k : Nat} {Q : Option Value → Shared → Prop} (hh : A.handled = none)
    (hit : IterAt s.heap I (.ref pl) i S n ep) (hS : SetAt s.heap S es ep t) (hf : t.fits es.size = true) (hn : es.size = n) (hp : s.heap.get? pl = some { cls := .type "tuple", data := .seq places k }) (e1 : places[i]? = none)
    (hQ : ∀ h', (∀ b o, b ≠ I → s.heap.get? b = some o → h'.get? b = some o) → Q none { s with heap := h' }) : wpAny (model prog w) A (pyNext (.ref I)) Q E s := by
  obtain ⟨o, ho, hc, hd⟩ := id hit
  obtain ⟨os, hos, hes, hds⟩ := id hS
  unfold pyNext
  refine wpAny_bind (wpAny_attempt (wpAny_callSpecial?_slot (name := Str.ofString "__next__") hit.typeIs FS.slot_setiter_next
    (wpAny_call_entry FS.slot_setiter_next hit.typeIs FS.entry_setiter_next ?_ (FS.args_setiter_next _))))
  show wpAny _ _ (fieldsOf (.ref I) >>= _) _ _ s
  refine wpAny_bind (wpAny_fieldsOf ho hd ?_)
  show wpAny _ _ (setEntries S >>= _) _ _ s
  refine wpAny_bind (wpAny_setEntries_of hos hds hf ?_)
  rw [if_neg (by rw [hn]; simp)]
  show wpAny _ _ (seqItems? (.ref pl) >>= _) _ _ s
  refine wpAny_bind (wpAny_seqItems hp rfl ?_)
  simp only [Int.toNat_natCast, e1]
  refine wpAny_bind (wpAny_setField ho hd (by simp) ?_)
  have e9 := Heap.get?_update_self (Obj.mapFields (·.setIfInBounds 0 (rawInt 0))) ho (Obj.isFreed_of_fields (Obj.data_mapFields hd _))
  refine wpAny_bind (wpAny_setField e9 (Obj.data_mapFields hd _) (by simp) ?_)
  refine raise_stop (by simp [hh]) fun e h' hk hT => ?_
  refine wpAny_bind (wpAny_isInstance (T := "StopIteration") (b := true) hT isSubtype_stop ?_)
  exact wpAny_pure (hQ _ fun b o hb e => hk b o ((Heap.get?_update_other _ _ (Ne.symm hb)).trans ((Heap.get?_update_other _ _ (Ne.symm hb)).trans e)))
/- one step of the iterator that reads the set's own order -/
theorem next_direct {I S : Addr} {slot i n ep nx : Nat} {es : Array (Int × Value)} {t : SetTable} {x : Value} {Q : Option Value → Shared → Prop}
    (hit : IterAt s.heap I (rawInt slot) i S n ep) (hS : SetAt s.heap S es ep t) (hf : t.fits es.size = true) (hn : es.size = n)
    (hx : ∀ (A' : Around) (E' : Value → Shared → Prop) (Q' : Option (Value × Nat) → Shared → Prop), Q' (some (x, nx)) s → wpAny (model prog w) A' (setNext S slot i ep) Q' E' s)
    (hQ : ∀ h', IterAt h' I (rawInt nx) (i + 1) S n ep → Heap.SameBut I s.heap h' → Q (some x) { s with heap := h' }) : wpAny (model prog w) A (pyNext (.ref I)) Q E s := by
  obtain ⟨o, ho, hc, hd⟩ := id hit
  obtain ⟨os, hos, hes, hds⟩ := id hS
  unfold pyNext
  refine wpAny_bind (wpAny_attempt (wpAny_callSpecial?_slot (name := Str.ofString "__next__") hit.typeIs FS.slot_setiter_next
    (wpAny_call_entry FS.slot_setiter_next hit.typeIs FS.entry_setiter_next ?_ (FS.args_setiter_next _))))
  show wpAny _ _ (fieldsOf (.ref I) >>= _) _ _ s
  refine wpAny_bind (wpAny_fieldsOf ho hd ?_)
  show wpAny _ _ (setEntries S >>= _) _ _ s
  refine wpAny_bind (wpAny_setEntries_of hos hds hf ?_)
  rw [if_neg (by rw [hn]; simp)]
  show wpAny _ _ (setNext S _ _ _ >>= _) _ _ s
  simp only [Int.toNat_natCast]
  refine wpAny_bind (hx _ _ _ ?_)
  dsimp only
  refine wpAny_bind (wpAny_setField ho hd (by simp) ?_)
  have e9 := Heap.get?_update_self (Obj.mapFields (·.setIfInBounds 0 (rawInt nx))) ho (Obj.isFreed_of_fields (Obj.data_mapFields hd _))
  refine wpAny_bind (wpAny_setField e9 (Obj.data_mapFields hd _) (by simp) (wpAny_pure ⟨x, rfl, wpAny_pure (hQ _ ?_ ((Heap.SameBut.update ..).trans (Heap.SameBut.update ..)))⟩))
  exact ⟨_, Heap.get?_update_self _ e9 (Obj.isFreed_of_fields (Obj.data_mapFields (Obj.data_mapFields hd _) _)), (Obj.cls_mapFields ..).trans ((Obj.cls_mapFields ..).trans hc), by
    rw [Obj.data_mapFields (Obj.data_mapFields hd _)]; simp [rawInt]⟩
theorem next_direct_end {I S : Addr} {slot i n ep : Nat} {es : Array (Int × Value)} {t : SetTable} {Q : Option Value → Shared → Prop} (hh : A.handled = none)
    (hit : IterAt s.heap I (rawInt slot) i S n ep) (hS : SetAt s.heap S es ep t) (hf : t.fits es.size = true) (hn : es.size = n)
    (hx : ∀ (A' : Around) (E' : Value → Shared → Prop) (Q' : Option (Value × Nat) → Shared → Prop), Q' none s → wpAny (model prog w) A' (setNext S slot i ep) Q' E' s)
    (hQ : ∀ h', (∀ b o, b ≠ I → s.heap.get? b = some o → h'.get? b = some o) → Q none { s with heap := h' }) : wpAny (model prog w) A (pyNext (.ref I)) Q E s := by
  obtain ⟨o, ho, hc, hd⟩ := id hit
  obtain ⟨os, hos, hes, hds⟩ := id hS
  unfold pyNext
  refine wpAny_bind (wpAny_attempt (wpAny_callSpecial?_slot (name := Str.ofString "__next__") hit.typeIs FS.slot_setiter_next
    (wpAny_call_entry FS.slot_setiter_next hit.typeIs FS.entry_setiter_next ?_ (FS.args_setiter_next _))))
  show wpAny _ _ (fieldsOf (.ref I) >>= _) _ _ s
  refine wpAny_bind (wpAny_fieldsOf ho hd ?_)
  show wpAny _ _ (setEntries S >>= _) _ _ s
  refine wpAny_bind (wpAny_setEntries_of hos hds hf ?_)
  rw [if_neg (by rw [hn]; simp)]
  show wpAny _ _ (setNext S _ _ _ >>= _) _ _ s
  simp only [Int.toNat_natCast]
  refine wpAny_bind (hx _ _ _ ?_)
  dsimp only
  refine wpAny_bind (wpAny_setField ho hd (by simp) ?_)
  refine raise_stop (by simp [hh]) fun e h' hk hT => ?_
  refine wpAny_bind (wpAny_isInstance (T := "StopIteration") (b := true) hT isSubtype_stop ?_)
  exact wpAny_pure (hQ _ fun b o hb e => hk b o ((Heap.get?_update_other _ _ (Ne.symm hb)).trans e))
end
end Mine
end

/- part SetF -/
section
open PySem PySem.W PyProof.Rows PySem.Calls PySem.Spec
set_option maxRecDepth 100000
namespace Mine
theorem pick_go {α : Type} (next : Nat → Nat) : ∀ (fuel k : Nat) (left : List α) (out : Array α), left.length ≤ fuel → (pickOrder.go next fuel k left out).toList.Perm (out.toList ++ left)
  | 0, k, left, out, h => by
    obtain rfl : left = [] := List.length_eq_zero_iff.mp (by omega)
    rw [List.append_nil]; exact .refl _
  | fuel + 1, k, [], out, h => by
    rw [List.append_nil]; exact .refl _
  | fuel + 1, k, x :: r, out, h => by
    have hi : next k % (x :: r).length < (x :: r).length := Nat.mod_lt _ (by simp)
    unfold pickOrder.go
    rw [List.getElem?_eq_getElem hi]
    dsimp only
    refine (pick_go next fuel (k + 1) _ _ (by rw [List.length_eraseIdx, if_pos hi]; simp at h ⊢; omega)).trans ?_
    rw [Array.toList_push, List.append_assoc]
    exact (erase_perm _ _ hi).append_left _
theorem pick_perm {α : Type} (next : Nat → Nat) (xs : Array α) : (pickOrder next xs).toList.Perm xs.toList := by
  have := pick_go next xs.size 0 xs.toList #[] (Nat.le_of_eq (by simp))
  simpa [pickOrder] using this
structure SIter (prog : Program) (w : World) (I : Addr) (fp : List Addr) (vals : List Value) (St : Nat → Heap → Prop) : Prop where
  frame : ∀ i h h', St i h → (∀ b ∈ fp, ∀ o, h.get? b = some o → h'.get? b = some o) → St i h'
  item : ∀ (A : Around) (E : Value → Shared → Prop) i (s : Shared) v (Q : Option Value → Shared → Prop), St i s.heap → vals[i]? = some v → (∀ h', St (i + 1) h' → Heap.SameBut I s.heap h' → Q (some v) { s with heap := h' }) → wpAny (model prog w) A (pyNext (.ref I)) Q E s
  done : ∀ (A : Around) (E : Value → Shared → Prop) (s : Shared) (Q : Option Value → Shared → Prop), A.handled = none → St vals.length s.heap → (∀ h', (∀ b o, b ≠ I → s.heap.get? b = some o → h'.get? b = some o) → Q none { s with heap := h' }) → wpAny (model prog w) A (pyNext (.ref I)) Q E s
theorem SetAt.other {h h' : Heap} {S I : Addr} {es : Array (Int × Value)} {ep : Nat} {t : SetTable} (x : SetAt h S es ep t) (hs : Heap.SameBut I h h') (hne : S ≠ I) : SetAt h' S es ep t :=
  let ⟨o, ho, r⟩ := x; ⟨o, hs.extBut S o hne ho, r⟩
theorem SetAt.keepB {h h' : Heap} {S : Addr} {es : Array (Int × Value)} {ep : Nat} {t : SetTable} (x : SetAt h S es ep t) (k : ∀ o, h.get? S = some o → h'.get? S = some o) : SetAt h' S es ep t :=
  let ⟨o, ho, r⟩ := x; ⟨o, k o ho, r⟩
theorem IterAt.keepB {h h' : Heap} {I S : Addr} {f : Value} {i n ep : Nat} (x : IterAt h I f i S n ep) (k : ∀ o, h.get? I = some o → h'.get? I = some o) : IterAt h' I f i S n ep :=
  let ⟨o, ho, r⟩ := x; ⟨o, k o ho, r⟩
section
variable {prog : Program} {w : World}
theorem vals_at {l : List (Int × Value)} {i : Nat} {v : Value} (h : (l.map (·.2))[i]? = some v) : ∃ e, l[i]? = some e ∧ e.2 = v := by
  rw [List.getElem?_map] at h
  cases e : l[i]? with
  | none => rw [e] at h; cases h
  | some e' => rw [e] at h; exact ⟨e', rfl, Option.some.inj h⟩
theorem below_zero {j slot : Nat} (h : slot ≤ j) : SetTable.below #[j] slot = 0 := by
  simp only [SetTable.below, SetTable.below.go, List.size_toArray, List.length_cons, List.length_nil]
  have e : ¬ ((#[j] : Array Nat).getD 0 0 < slot) := by simp; omega
  simp
  omega
theorem below_one {j : Nat} : SetTable.below #[j] (j + 1) = 1 := by
  simp only [SetTable.below, SetTable.below.go, List.size_toArray, List.length_cons, List.length_nil]
  simp
/- by the text's order -/
theorem siter_text (hbt : w.params.followText "set-order" = true) {I S : Addr} {n ep : Nat} {es : Array (Int × Value)} {t : SetTable} (hne : S ≠ I) (hf : t.fits es.size = true) (hn : es.size = n) :
    SIter prog w I [I, S] ((pickOrder (w.params.setOrder S ep) es).toList.map (·.2)) (fun i h => IterAt h I (rawInt 0) i S n ep ∧ SetAt h S es ep t) where
  frame := fun i h h' st k => ⟨st.1.keepB fun o e => k I (.head _) o e, st.2.keepB fun o e => k S (.tail _ (.head _)) o e⟩
  item := fun A E i s v Q st hv hQ => by
    obtain ⟨os, hos, hes, hds⟩ := id st.2
    refine next_direct (slot := 0) (nx := 0) st.1 st.2 hf hn (fun A' E' Q' q => ?_) fun h' hi hs => hQ h' ⟨hi, st.2.other hs hne⟩ hs
    unfold setNext
    refine wpAny_bind (wpAny_setState_of hos hds hf ?_)
    dsimp only
    unfold setsByText
    refine wpAny_bind (wpAny_bind (wpAny_askSetting (wpAny_pure ?_)))
    rw [if_pos (show (Setting.params ⟨(model prog w).prog, (model prog w).w.params⟩).followText "set-order" = true from hbt), if_neg (by simp)]
    unfold setWalk
    refine wpAny_bind (wpAny_bind (wpAny_setState_of hos hds hf ?_))
    dsimp only
    unfold setsByText
    refine wpAny_bind (wpAny_bind (wpAny_askSetting (wpAny_pure ?_)))
    rw [if_pos (show (Setting.params ⟨(model prog w).prog, (model prog w).w.params⟩).followText "set-order" = true from hbt)]
    refine wpAny_bind (wpAny_askSetting (wpAny_pure ?_))
    obtain ⟨e, he, rfl⟩ := vals_at hv
    refine wpAny_pure ?_
    have e9 : (pickOrder (w.params.setOrder S ep) es)[i]? = some e := by rw [← Array.getElem?_toList]; exact he
    show Q' (((pickOrder (w.params.setOrder S ep) es)[i]?).map fun e => (e.2, 0)) s
    rw [e9]; exact q
  done := fun A E s Q hh st hQ => by
    obtain ⟨os, hos, hes, hds⟩ := id st.2
    refine next_direct_end (slot := 0) hh st.1 st.2 hf hn (fun A' E' Q' q => ?_) hQ
    unfold setNext
    refine wpAny_bind (wpAny_setState_of hos hds hf ?_)
    dsimp only
    unfold setsByText
    refine wpAny_bind (wpAny_bind (wpAny_askSetting (wpAny_pure ?_)))
    rw [if_pos (show (Setting.params ⟨(model prog w).prog, (model prog w).w.params⟩).followText "set-order" = true from hbt), if_neg (by simp)]
    unfold setWalk
    refine wpAny_bind (wpAny_bind (wpAny_setState_of hos hds hf ?_))
    dsimp only
    unfold setsByText
    refine wpAny_bind (wpAny_bind (wpAny_askSetting (wpAny_pure ?_)))
    rw [if_pos (show (Setting.params ⟨(model prog w).prog, (model prog w).w.params⟩).followText "set-order" = true from hbt)]
    refine wpAny_bind (wpAny_askSetting (wpAny_pure ?_))
    refine wpAny_pure ?_
    show Q' (((pickOrder (w.params.setOrder S ep) es)[((pickOrder (w.params.setOrder S ep) es).toList.map (·.2)).length]?).map fun e => (e.2, 0)) s
    rw [List.length_map, Array.length_toList, Array.getElem?_size]; exact q
/- by the drawn places -/
theorem siter_drawn {I S pl : Addr} {n ep k : Nat} {es : Array (Int × Value)} {t : SetTable} {ord : List Nat} (hne : S ≠ I) (hpI : pl ≠ I) (hf : t.fits es.size = true) (hn : es.size = n) (ho : ord.Perm (List.range n)) :
    SIter prog w I [I, S, pl] (ord.map fun p => (es.getD p (0, .none)).2) (fun i h => IterAt h I (.ref pl) i S n ep ∧ SetAt h S es ep t ∧ h.get? pl = some { cls := .type "tuple", data := .seq (ord.map fun (p : Nat) => rawInt (p : Int)).toArray k }) where
  frame := fun i h h' st k => ⟨st.1.keepB fun o e => k I (.head _) o e, st.2.1.keepB fun o e => k S (.tail _ (.head _)) o e, k pl (.tail _ (.tail _ (.head _))) _ st.2.2⟩
  item := fun A E i s v Q st hv hQ => by
    rw [List.getElem?_map] at hv
    cases e : ord[i]? with
    | none => rw [e] at hv; cases hv
    | some p =>
      rw [e] at hv
      have hp : p < n := List.mem_range.mp (ho.mem_iff.mp (List.mem_of_getElem? e))
      have hes : es[p]? = some (es.getD p (0, .none)) := by rw [Array.getD_eq_getD_getElem?, Array.getElem?_eq_getElem (by omega)]; rfl
      cases hv
      exact next_drawn (p := p) (tp := 0) (hx := (es.getD p (0, .none)).1) st.1 st.2.1 hf hn st.2.2 (by rw [List.getElem?_toArray, List.getElem?_map, e]; rfl) hes fun h' hi hs => hQ h' ⟨hi, st.2.1.other hs hne, hs.extBut pl _ hpI st.2.2⟩ hs
  done := fun A E s Q hh st hQ => next_drawn_end hh st.1 st.2.1 hf hn st.2.2 (by simp) hQ
/- one element -/
theorem siter_one (hbt : w.params.followText "set-order" = false) {I S : Addr} {ep j : Nat} {es : Array (Int × Value)} {t : SetTable} {e : Int × Value} (hne : S ≠ I) (hf : t.fits es.size = true) (he : es = #[e]) (hl : t.led = true) (hj : t.place = #[j]) :
    SIter prog w I [I, S] [e.2] (fun i h => (∃ slot, IterAt h I (rawInt slot) i S 1 ep ∧ ((i = 0 ∧ slot = 0) ∨ (i = 1 ∧ slot = j + 1))) ∧ SetAt h S es ep t) where
  frame := fun i h h' ⟨⟨slot, st, c⟩, st2⟩ k => ⟨⟨slot, st.keepB fun o e => k I (.head _) o e, c⟩, st2.keepB fun o e => k S (.tail _ (.head _)) o e⟩
  item := fun A E i s v Q ⟨⟨slot, st, c⟩, st2⟩ hv hQ => by
    obtain ⟨os, hos, hes, hds⟩ := id st2
    rcases c with ⟨rfl, rfl⟩ | ⟨rfl, _⟩
    · cases hv
      refine next_direct (slot := 0) (nx := j + 1) st st2 hf (by rw [he]; rfl) (fun A' E' Q' q => ?_) fun h' hi hs => hQ h' ⟨⟨_, hi, .inr ⟨rfl, rfl⟩⟩, st2.other hs hne⟩ hs
      unfold setNext
      refine wpAny_bind (wpAny_setState_of hos hds hf ?_)
      dsimp only
      unfold setsByText
      refine wpAny_bind (wpAny_bind (wpAny_askSetting (wpAny_pure ?_)))
      rw [if_neg (show ¬ (Setting.params ⟨(model prog w).prog, (model prog w).w.params⟩).followText "set-order" = true from by rw [show (Setting.params ⟨(model prog w).prog, (model prog w).w.params⟩).followText "set-order" = false from hbt]; exact Bool.false_ne_true), if_neg (by show ¬ ((!t.plain && decide (es.size > 1)) = true); rw [he]; simp)]
      refine wpAny_bind ?_
      show wpAny _ _ (if (!t.led && !es.isEmpty) = true then unsupported "set:maker-not-led" else pure ()) _ _ _
      rw [if_neg (by rw [hl]; simp)]
      refine wpAny_pure (wpAny_pure ?_)
      rw [he, hj, below_zero (Nat.zero_le _)]
      exact q
    · cases hv
  done := fun A E s Q hh ⟨⟨slot, st, c⟩, st2⟩ hQ => by
    obtain ⟨os, hos, hes, hds⟩ := id st2
    rcases c with ⟨h9, _⟩ | ⟨_, rfl⟩
    · cases h9
    · refine next_direct_end (slot := j + 1) hh st st2 hf (by rw [he]; rfl) (fun A' E' Q' q => ?_) hQ
      unfold setNext
      refine wpAny_bind (wpAny_setState_of hos hds hf ?_)
      dsimp only
      unfold setsByText
      refine wpAny_bind (wpAny_bind (wpAny_askSetting (wpAny_pure ?_)))
      rw [if_neg (show ¬ (Setting.params ⟨(model prog w).prog, (model prog w).w.params⟩).followText "set-order" = true from by rw [show (Setting.params ⟨(model prog w).prog, (model prog w).w.params⟩).followText "set-order" = false from hbt]; exact Bool.false_ne_true), if_neg (by show ¬ ((!t.plain && decide (es.size > 1)) = true); rw [he]; simp)]
      refine wpAny_bind ?_
      show wpAny _ _ (if (!t.led && !es.isEmpty) = true then unsupported "set:maker-not-led" else pure ()) _ _ _
      rw [if_neg (by rw [hl]; simp)]
      refine wpAny_pure (wpAny_pure ?_)
      rw [he, hj, below_one]
      exact q
end
end Mine
end

/- part SetG -/
section
open PySem PySem.W PyProof.Rows PySem.Calls PySem.Spec
set_option maxRecDepth 100000
namespace Mine
theorem arr_one {α : Type} {a : Array α} (h : a.size = 1) : ∃ e, a = #[e] := by
  rcases a with ⟨_ | ⟨e, _ | ⟨f, l⟩⟩⟩
  · cases h
  · exact ⟨e, rfl⟩
  · cases h
theorem range_getD (es : Array (Int × Value)) : (List.range es.size).map (fun p => (es.getD p (0, .none)).2) = es.toList.map (·.2) := by
  apply List.ext_getElem
  · simp
  · intro i h1 h2
    simp at h1 h2 ⊢
    rw [Array.getElem?_eq_getElem h1]; rfl
section
variable {prog : Program} {w : World} {A : Around} {E : Value → Shared → Prop} {s : Shared}
theorem vals_strs {ss : List Str} {es : Array (Int × Value)} {t : SetTable} {vals : List Value} (S : SetData prog w ss es t) (hp : vals.Perm (es.toList.map (·.2))) : ∃ xs, StrsAre vals xs ∧ xs.Perm ss := by
  refine ⟨vals.map strOf, strsAre_map vals fun v hv => ?_, ?_⟩
  · obtain ⟨e, he, rfl⟩ := List.mem_map.mp (hp.mem_iff.mp hv)
    obtain ⟨⟨k, hk, _⟩, _⟩ := S.1 e he
    obtain ⟨t, e9⟩ := Value.isStrOf_shape (by simpa [PySem.strKind] using hk)
    exact ⟨_, t, e9⟩
  · have := hp.map strOf
    rw [List.map_map] at this
    exact this.trans S.2.1
theorem iter_set {S : Addr} {ss : List Str} {Q : Value → Shared → Prop} (hS : StrSet prog w s.heap S ss) (hne : ss ≠ []) (hb : ss.length ≤ 4096)
    (h : ∀ I h' dr vals fp St xs, s.heap.get? I = none → (h'.get? I).isSome = true → (∀ b o, s.heap.get? b = some o → h'.get? b = some o) → SIter prog w I fp vals St → St 0 h' → (∀ b ∈ fp, b = S ∨ s.heap.get? b = none) → StrsAre vals xs → xs.Perm ss → Q (.ref I) { s with heap := h', drawn := dr }) :
    wpAny (model prog w) A (pyIter (.ref S)) Q E s := by
  obtain ⟨o, es, ep, t, ho, hex, hd, D⟩ := id hS
  have hT : s.TypeIs (.ref S) "set" := ⟨o, ho, hex.1⟩
  have hlt : S < s.heap.objs.size := Heap.lt_size ho
  have hsz := D.size
  have new : s.heap.get? s.heap.objs.size = none := by
    cases q : s.heap.get? s.heap.objs.size with
    | none => rfl
    | some o => exact absurd (Heap.lt_size q) (Nat.lt_irrefl _)
  have new1 : s.heap.get? (s.heap.objs.size + 1) = none := by
    cases q : s.heap.get? (s.heap.objs.size + 1) with
    | none => rfl
    | some o => exact absurd (Heap.lt_size q) (Nat.not_lt.mpr (Nat.le_succ _))
  refine wpAny_pyIter_slot hT PySem.F.slot_set_iter (wpAny_call_entry PySem.F.slot_set_iter hT FS.entry_set_iter ?_ (PySem.F.args_set_iter_1 _))
  unfold Builtin.«frozenset.__iter__»
  refine wpAny_bind (m := Builtin.Frozenset.slot0 _ _) (wpAny_pure ?_)
  unfold Builtin.Frozenset.sizeOf
  refine wpAny_bind (wpAny_bind (wpAny_setEntries_of ho hd D.2.2.1 (wpAny_pure ?_)))
  unfold setDrawn
  refine wpAny_bind (wpAny_bind (wpAny_setState_of ho hd D.2.2.1 ?_))
  dsimp only
  unfold setsByText
  refine wpAny_bind (wpAny_bind (wpAny_askSetting (wpAny_pure ?_)))
  refine wpAny_pure ?_
  -- the last step: the iterator's object
  have last : ∀ (first : Value) (s₂ : Shared), s₂.heap.get? S = some o →
      Q (.ref s₂.heap.objs.size) { s₂ with heap := s₂.heap.push { cls := .type "set_iterator", data := .fields #[first, rawInt 0, .ref S, rawInt es.size, rawInt ep] } } →
      wpAny (model prog w) A.in1 (do ret (← newFields "set_iterator" [first, rawInt 0, .ref S, rawInt es.size, rawInt (← setEpoch S)]))
        (fun fin s' => ∃ v, fin = .done (.ret v) ∧ ∃ T' r, s'.TypeIs v T' ∧ typeLookup (.type T') "__next__" = pure (some r) ∧ Q v s') E s₂ := fun first s₂ ho₂ q => by
    refine wpAny_bind (wpAny_setEpoch_of ho₂ hd D.2.2.1 ?_)
    refine wpAny_bind (wpAny_newObj_type (wpAny_pure ⟨_, rfl, "set_iterator", _, ⟨_, Heap.get?_push_size _ rfl, rfl⟩, FS.slot_setiter_next.lookup, q⟩))
  have hset : (Setting.params ⟨(model prog w).prog, (model prog w).w.params⟩).followText "set-order" = w.params.followText "set-order" := rfl
  rw [hset]
  cases hbt : w.params.followText "set-order" with
  | true =>
    rw [if_neg (by simp)]
    refine wpAny_bind (wpAny_pure ?_)
    refine last _ s ho ?_
    obtain ⟨xs, x1, x2⟩ := vals_strs D ((pick_perm (w.params.setOrder S ep) es).map (·.2))
    refine h s.heap.objs.size _ s.drawn _ [s.heap.objs.size, S] _ xs new (by rw [Heap.get?_push_size _ rfl]; rfl) (fun b o e => Heap.get?_push_of_some _ e) (siter_text hbt (Nat.ne_of_lt hlt) D.2.2.1 rfl)
      ⟨⟨_, Heap.get?_push_size _ rfl, rfl, rfl⟩, ⟨o, Heap.get?_push_of_some _ ho, hex, hd⟩⟩ (fun b hb => ?_) x1 x2
    rcases List.mem_cons.mp hb with rfl | hb
    · exact .inr new
    · exact .inl (List.mem_singleton.mp hb)
  | false =>
    have hpl := D.2.2.2.2 hne
    have hled : t.led = true := by rw [D.2.2.2.1, hbt]; rfl
    have e9 : (!false && (!t.plain && decide (es.size > 1))) = decide (es.size > 1) := by rw [hpl]; rfl
    by_cases h1 : es.size > 1
    · refine wpAny_ite_split (fun _ => ?_) (fun hab => absurd (show (!false && (!t.plain && decide (es.size > 1))) = true by rw [e9]; exact decide_eq_true h1) hab)
      refine wpAny_bind (draw_order es.size (List.range es.size) s _ List.length_range fun ord dr hp => ?_)
      have hz : (ord.map fun (i : Nat) => rawInt (i : Int)).length ≤ sizeLine := by rw [List.length_map, hp.length_eq, List.length_range, sizeLine_eq]; omega
      refine wpAny_bind (wpAny_newTuple ?_ hz)
      refine last _ _ (Heap.get?_push_of_some _ ho) ?_
      have hz1 : (s.heap.push { cls := .type "tuple", data := .seq (ord.map fun (i : Nat) => rawInt (i : Int)).toArray }).objs.size = s.heap.objs.size + 1 := Heap.size_push _ _
      obtain ⟨xs, x1, x2⟩ := vals_strs D (vals := ord.map fun p => (es.getD p (0, .none)).2) (by rw [← range_getD]; exact hp.map _)
      refine h _ _ dr _ [(s.heap.push { cls := .type "tuple", data := .seq (ord.map fun (i : Nat) => rawInt (i : Int)).toArray }).objs.size, S, s.heap.objs.size] _ xs (by rw [hz1]; exact new1) (by rw [Heap.get?_push_size _ rfl]; rfl) (fun b o e => Heap.get?_push_of_some _ (Heap.get?_push_of_some _ e))
        (siter_drawn (ep := ep) (k := 0) (by rw [hz1]; exact Nat.ne_of_lt (Nat.lt_succ_of_lt hlt)) (by rw [hz1]; exact Nat.ne_of_lt (Nat.lt_succ_self _)) D.2.2.1 rfl hp)
        ⟨⟨_, Heap.get?_push_size _ rfl, rfl, rfl⟩, ⟨o, Heap.get?_push_of_some _ (Heap.get?_push_of_some _ ho), hex, hd⟩, Heap.get?_push_of_some _ (Heap.get?_push_size _ rfl)⟩ (fun b hb => ?_) x1 x2
      rcases List.mem_cons.mp hb with rfl | hb
      · rw [hz1]; exact .inr new1
      rcases List.mem_cons.mp hb with rfl | hb
      · exact .inl rfl
      · rw [List.mem_singleton.mp hb]; exact .inr new
    · refine wpAny_ite_split (fun hab => absurd hab (show ¬ (!false && (!t.plain && decide (es.size > 1))) = true by rw [e9]; simpa using h1)) (fun _ => ?_)
      refine wpAny_bind (wpAny_pure ?_)
      refine last _ s ho ?_
      have hs1 : es.size = 1 := by
        have : ss.length ≠ 0 := fun q => hne (List.length_eq_zero_iff.mp q)
        omega
      obtain ⟨e, he⟩ : ∃ e, es = #[e] := by
        exact arr_one hs1
      obtain ⟨j, hj⟩ : ∃ j, t.place = #[j] := by
        have hf := D.2.2.1
        simp only [SetTable.fits, Bool.and_eq_true, beq_iff_eq, decide_eq_true_eq, hs1] at hf
        exact arr_one hf.1
      obtain ⟨xs, x1, x2⟩ := vals_strs D (vals := [e.2]) (by rw [he]; exact .refl _)
      refine h s.heap.objs.size _ s.drawn _ [s.heap.objs.size, S] _ xs new (by rw [Heap.get?_push_size _ rfl]; rfl) (fun b o e => Heap.get?_push_of_some _ e) (siter_one (ep := ep) hbt (Nat.ne_of_lt hlt) D.2.2.1 he hled hj)
        ⟨⟨0, ⟨_, Heap.get?_push_size _ rfl, rfl, by rw [hs1]; rfl⟩, .inl ⟨rfl, rfl⟩⟩, ⟨o, Heap.get?_push_of_some _ ho, hex, hd⟩⟩ (fun b hb => ?_) x1 x2
      rcases List.mem_cons.mp hb with rfl | hb
      · exact .inr new
      · exact .inl (List.mem_singleton.mp hb)
end
end Mine
end

/- part SetH -/
section
open PySem PySem.W PyProof.Rows PySem.Calls PySem.Spec
set_option maxRecDepth 100000
namespace Mine
section
variable {prog : Program} {w : World} {A : Around} {E : Value → Shared → Prop}
noncomputable abbrev lstObj (its : Array Value) (c : Nat) : Obj := { cls := .type "list", dict := none, data := .seq its c, slots := #[] }
theorem ext_loop {R : Result → Shared → Prop} {I T : Addr} {fp : List Addr} {vals : List Value} {St : Nat → Heap → Prop} {res : Value} (W : SIter prog w I fp vals St) (hh : A.handled = none) (hT : T ∉ fp) (hTI : T ≠ I) (hn : vals.length ≤ 4096) :
    ∀ (k i : Nat) (s : Shared) (acc : Array Value) (c : Nat), vals.length - i = k → i ≤ vals.length → St i s.heap → s.heap.get? T = some (lstObj acc c) → acc.toList = vals.take i →
      (∀ h' c', (∀ b o, b ≠ T → b ≠ I → s.heap.get? b = some o → h'.get? b = some o) → h'.get? T = some (lstObj vals.toArray c') → R (.ok (.ret res)) { s with heap := h' }) →
      codeAny (model prog w) A (.builtin "list.extend.loop" ⟨[.ref T, .ref I, res], []⟩) R s := by
  intro k
  induction k with
  | zero =>
    intro i s acc c hk hi st hL ha hR
    obtain rfl : i = vals.length := by lia
    refine codeAny_builtin PySem.F.entry_extend_loop ?_
    rw [Around.under_plainId PySem.F.plain_extend_loop _]
    show wpAny _ A.in1 (pyNext (.ref I) >>= _) _ _ s
    refine wpAny_bind (W.done A.in1 _ s _ (by simp [hh]) st fun h' hk' => ?_)
    have ea : acc = vals.toArray := by
      rw [List.take_length] at ha
      rw [← ha]
    exact wpAny_pure (hR h' c (fun b o _ b2 e => hk' b o b2 e) (ea ▸ hk' T _ hTI hL))
  | succ k ih =>
    intro i s acc c hk hi st hL ha hR
    have hlt : i < vals.length := by lia
    have hv : vals[i]? = some vals[i] := List.getElem?_eq_getElem hlt
    have hsz : acc.size = i := by rw [← Array.length_toList, ha, List.length_take]; lia
    refine codeAny_builtin PySem.F.entry_extend_loop ?_
    rw [Around.under_plainId PySem.F.plain_extend_loop _]
    show wpAny _ A.in1 (pyNext (.ref I) >>= _) _ _ s
    refine wpAny_bind (W.item A.in1 _ i s _ _ st hv fun h1 st1 hs1 => ?_)
    have hL1 : h1.get? T = some (lstObj acc c) := hs1.extBut T _ hTI hL
    show wpAny _ A.in1 (updateSeq T (·.push vals[i]) >>= _) _ _ _
    refine wpAny_bind ?_
    refine wpAny_updateSeq hL1 rfl (wpAny_pure ⟨plainId_quiet PySem.F.plain_extend_loop _, ih (i + 1) _ (acc.push vals[i]) _ (by lia) hlt (W.frame _ _ _ st1 fun b hb o e => ?_) (Heap.get?_update_self _ hL1 rfl) ?_ fun h' c' hk' hL' => ?_⟩)
      (by rw [hsz, sizeLine_eq]; lia) (by show (acc.push vals[i]).size ≤ sizeLine + 1; rw [Array.size_push, hsz, sizeLine_eq]; lia)
    · exact (Heap.get?_update_other _ _ (fun q : T = b => hT (q ▸ hb))).trans e
    · rw [Array.toList_push, ha, List.take_add_one, hv]; rfl
    · refine hR h' c' (fun b o b1 b2 e => hk' b o b1 b2 ?_) hL'
      exact (Heap.get?_update_other _ _ (Ne.symm b1)).trans (hs1.extBut b o b2 e)
variable {s : Shared}
theorem hint_set {S : Addr} {Q : Bool → Shared → Prop} (hT : s.TypeIs (.ref S) "set") (h : Q false s) : wpAny (model prog w) A (Builtin.List.listLengthHint (.ref S)) Q E s := by
  unfold Builtin.List.listLengthHint
  refine wpAny_bind (wpAny_specialOf hT PySem.F.slot_set_len.lookup ?_)
  generalize hid : ("set.__len__" : String) = id0
  wp_delta
  rw [show splitId id0 = some ("set", "__len__") from by subst hid; decide +kernel]
  subst hid
  refine wpAny_bind (wpAny_isInstance (T := "set") (b := true) hT sub_set_self ?_)
  refine wpAny_ite_split (fun hab => absurd hab (by decide)) (fun _ => ?_)
  refine wpAny_ite_split (fun _ => ?_) (fun hab => absurd (by decide +kernel) hab)
  refine wpAny_bind (wpAny_typeOf hT ?_)
  exact wpAny_pure h
/- what a set of strs gives in some order -/
theorem collect_set {S : Addr} {ss : List Str} {Q : List Value → Shared → Prop} (hh : A.handled = none) (hS : StrSet prog w s.heap S ss) (hne : ss ≠ []) (hb : ss.length ≤ 4096)
    (h : ∀ h' dr vs xs, (∀ b o, s.heap.get? b = some o → h'.get? b = some o) → s.heap.objs.size < h'.objs.size → StrsAre vs xs → xs.Perm ss → Q vs { s with heap := h', drawn := dr }) : wpAny (model prog w) A (collect (.ref S)) Q E s := by
  obtain ⟨o, es, ep, t, ho, hex, hd, D⟩ := id hS
  have hlt : S < s.heap.objs.size := Heap.lt_size ho
  unfold collect
  refine wpAny_bind (wpAny_runValue (codeAny_builtin PySem.F.entry_proto_collect ?_))
  rw [Around.under_plainId PySem.F.plain_proto_collect _]
  show wpAny _ A.in1 (newList [] >>= fun l => again (.builtin "list.__iadd__" ⟨[l, .ref S], []⟩)) _ _ s
  refine wpAny_bind (wpAny_newObj_type ?_)
  refine wpAny_pure ⟨plainId_quiet PySem.F.plain_list_iadd _, codeAny_builtin PySem.F.entry_list_iadd ?_⟩
  rw [Around.under_plainId PySem.F.plain_list_iadd _]
  have hS1 : StrSet prog w (s.heap.push (lstObj #[] 0)) S ss := hS.keepB fun o e => Heap.get?_push_of_some _ e
  have ho1 : (s.heap.push (lstObj #[] 0)).get? S = some o := Heap.get?_push_of_some _ ho
  have hT0 : (s.heap.push (lstObj #[] 0)).get? s.heap.objs.size = some (lstObj #[] 0) := Heap.get?_push_size _ rfl
  show wpAny _ A.in1 (Builtin.List.listExtendWith (.ref s.heap.objs.size) (.ref S) (.ref s.heap.objs.size)) _ _ { s with heap := s.heap.push (lstObj #[] 0) }
  unfold Builtin.List.listExtendWith
  refine wpAny_bind (wpAny_typeOf (T := "set") ⟨o, ho1, hex.1⟩ ?_)
  have h1 : Builtin.List.listSameRef (.ref s.heap.objs.size) (.ref S) = false := by simp [Builtin.List.listSameRef]; exact Nat.ne_of_gt hlt
  have h2 : (Value.type "set" == Value.type "list") = false := by decide
  have h3 : (Value.type "set" == Value.type "tuple") = false := by decide
  simp only [h1, h2, h3, Bool.or_false, Bool.false_eq_true, if_false]
  refine wpAny_bind (iter_set hS1 hne hb fun I h' dr vals fp St xs n1 n2 k W st hfp x1 x2 => ?_)
  have hTI : s.heap.objs.size ≠ I := fun e => by rw [← e, hT0] at n1; cases n1
  have hTf : s.heap.objs.size ∉ fp := fun hm => by
    rcases hfp _ hm with e | e
    · exact Nat.ne_of_gt hlt e
    · rw [hT0] at e; cases e
  have ho2 := k _ _ ho1
  have hT2 := k _ _ hT0
  refine wpAny_bind (wpAny_holding (hint_set ⟨o, ho2, hex.1⟩ ?_))
  refine wpAny_ite_split (fun _ => ?_) (fun hab => absurd (by decide +kernel) hab)
  refine wpAny_bind (wpAny_rule ?_)
  refine wpAny_bind ?_
  show wpAny _ A.in1 (updateSeq s.heap.objs.size (·.push .none) >>= fun _ => updateSeq s.heap.objs.size (·.pop)) _ _ _
  refine wpAny_bind (wpAny_updateSeq hT2 rfl ?_)
  have hT3 := Heap.get?_update_self (Obj.mapSeq (·.push Value.none)) hT2 rfl
  refine wpAny_updateSeq hT3 rfl ?_
  have hT4 := Heap.get?_update_self (Obj.mapSeq (·.pop)) hT3 rfl
  have oth : ∀ b o, b ≠ s.heap.objs.size → h'.get? b = some o → ((h'.update s.heap.objs.size (Obj.mapSeq (·.push Value.none))).update s.heap.objs.size (Obj.mapSeq (·.pop))).get? b = some o :=
    fun b o hb e => (Heap.get?_update_other _ _ (Ne.symm hb)).trans ((Heap.get?_update_other _ _ (Ne.symm hb)).trans e)
  have hlen : vals.length ≤ 4096 := by rw [x1.length, x2.length_eq]; exact hb
  refine wpAny_pure ⟨plainId_quiet PySem.F.plain_extend_loop _, ext_loop W hh hTf hTI hlen vals.length 0 _ _ _ rfl (Nat.zero_le _)
    (W.frame _ _ _ st fun b hb o e => oth b o (fun q => hTf (q ▸ hb)) e) hT4 rfl fun h'' c' hk' hL' => ?_⟩
  show wpAny _ A (load s.heap.objs.size >>= _) _ _ _
  refine wpAny_bind (wpAny_load hL' ?_)
  refine wpAny_pure ?_
  refine h h'' dr vals xs (fun b o e => ?_) (Heap.lt_size hL') x1 x2
  have hbT : b ≠ s.heap.objs.size := Nat.ne_of_lt (Heap.lt_size e)
  have e1 := Heap.get?_push_of_some (lstObj #[] 0) e
  refine hk' b o hbT (fun q => by rw [← q, e1] at n1; cases n1) (oth b o hbT (k b o e1))
end
end Mine
end

/- part SetI -/
section
open PySem PySem.W PyProof.Rows PySem.Calls PySem.Spec
set_option maxRecDepth 100000
namespace Mine
/- the sort of ninety strs: its runs are merged -/
noncomputable def Sort90 : Prop := ∀ (prog : Program) (w : World) (A : Around) (E : Value → Shared → Prop) (s : Shared) (a₀ : Array Keyed) (st : SortSt) (Q : Unit → SortSt → Prop), KeysOf PyProof.Rows.strKind a₀ → SBase a₀ st → a₀.size = 90 →
  (∀ st', (arrOf st').Perm a₀ → failedOf st' = none → SortedToK PyProof.Rows.strKind (arrOf st') a₀.size → Q () st') → wpS (model prog w) A E s sortRuns' Q st
section
variable {prog : Program} {w : World} {A : Around} {E : Value → Shared → Prop} {s : Shared}
theorem list_sort_strs (S90 : Sort90) {a : Addr} {vs : List Value} {ss : List Str} {n : Nat} {P : Fin → Shared → Prop} (ho : s.heap.get? a = some (seqObj "list" vs.toArray n)) (hS : StrsAre vs ss) (hz : vs.length < 64 ∨ vs.length = 90)
    (h : ∀ (out : Array Value) ss', StrsAre out.toList ss' → ss'.Perm ss → sortedS ss' = true → P (.done (.ret .none)) { s with heap := sortedHeap s.heap a vs out }) :
    wpAny (model prog w) A (Builtin.«list.sort» ⟨[.ref a], []⟩) P E s := by
  rcases hz with h64 | h90
  · refine list_sort_treeK strKind_oneLt ho hS.keysOf (fun v₁ v₂ rest e => keyKind_strs (by rw [← e]; exact hS)) h64 fun st' hp hs => ?_
    obtain ⟨ss', h1, h2, h3⟩ := sorted_out_str hS hp hs
    exact h _ ss' h1 h2 h3
  · rw [list_sort_plain]
    have ha : a < s.heap.objs.size := Heap.lt_size ho
    refine wpAny_bind (listItems_at ho rfl ?_)
    refine wpAny_bind (listUpdate_at ho rfl ?_)
    obtain ⟨e1, ho1⟩ : ∃ e1, (s.heap.update a (Obj.mapSeq fun _ => #[])).get? a = some (seqObj "list" #[] e1) := ⟨_, get?_update_seq ho (fun _ => #[])⟩
    refine wpAny_bind (seqEpoch_at ho1 rfl ?_)
    refine wpAny_bind (wpAny_newTuple ?_ (by rw [show vs.toArray.toList = vs from rfl, sizeLine_eq]; omega))
    refine wpAny_bind (wpAny_newList ?_)
    refine wpAny_holding ?_
    have ho6 : (((s.heap.update a (Obj.mapSeq fun _ => #[])).push (seqObj "tuple" vs.toArray 0)).push (seqObj "list" #[] 0)).get? a = some (seqObj "list" #[] e1) := by
      rw [Heap.get?_push_ne _ _ _ (by rw [size_push', Heap.size_update]; exact Nat.ne_of_lt (Nat.lt_succ_of_lt ha)), Heap.get?_push_ne _ _ _ (by rw [Heap.size_update]; exact Nat.ne_of_lt ha)]
      exact ho1
    show wpAny (model prog w) A _ P E { s with heap := ((s.heap.update a (Obj.mapSeq fun _ => #[])).push (seqObj "tuple" vs.toArray 0)).push (seqObj "list" #[] 0) }
    dsimp only
    have hsz : vs.toArray.size = vs.length := by simp
    rw [if_neg (by rw [hsz]; omega), if_neg (by rw [hsz]; omega)]
    obtain ⟨v₁, v₂, rest, e9⟩ : ∃ v₁ v₂ rest, vs = v₁ :: v₂ :: rest := by
      match vs, h90 with
      | v₁ :: v₂ :: rest, _ => exact ⟨v₁, v₂, rest, rfl⟩
    have hkk : keyKind' vs.toArray = pure oneType' := by rw [e9]; exact keyKind_strs (ss := ss) (e9 ▸ hS)
    rw [hkk]
    refine wpAny_bind (wpAny_pure ?_)
    refine wpAny_bind (wpAny_mono (S90 prog w A E _ (pairsOf vs) (SortSt.mk' oneType' (vs.toArray.zip vs.toArray) #[] 7 none)
      (fun _ st' => (arrOf st').Perm (pairsOf vs) ∧ failedOf st' = none ∧ SortedToK PyProof.Rows.strKind (arrOf st') (pairsOf vs).size) hS.keysOf ⟨Array.Perm.refl _, rfl, rfl, rfl⟩ (by rw [pairsOf_size]; exact h90) fun st' a1 a2 a3 => ⟨a1, a2, a3⟩) ?_ fun _ _ e => e)
    rintro ⟨⟨⟩, st'⟩ s' ⟨rfl, hp, hf, hs⟩
    dsimp only
    refine wpAny_bind (seqEpoch_at ho6 rfl ?_)
    refine wpAny_bind (listUpdate_at ho6 rfl ?_ (hsz2 := by refine Nat.le_trans (Nat.le_of_eq ((Array.size_map ..).trans (hp.size_eq.trans (pairsOf_size _)))) ?_; rw [sizeLine_eq]; omega))
    rw [hf]
    simp only [bne_self_eq_false, Bool.false_eq_true, if_false]
    obtain ⟨ss', h1, h2, h3⟩ := sorted_out_str hS hp hs
    exact wpAny_pure (h _ ss' h1 h2 h3)
/- sorted(a set of strs) -/
theorem sorted_set (S90 : Sort90) {h₀ : Heap} {L : Addr} {m : Str → Option Value} {news : List (Addr × Obj)} {S : Addr} {ss : List Str} {Q : Value → Shared → Prop} (hh : A.handled = none) (F : Fr h₀ L s.heap m) (N : News h₀ L s.heap news) (hS : StrSet prog w s.heap S ss) (hne : ss ≠ []) (hz : ss.length < 64 ∨ ss.length = 90)
    (h : ∀ h' dr D vs' ss' e, Fr h₀ L h' m → News h₀ L h' ((D, seqObj "list" vs'.toArray e) :: news) → (∀ p ∈ news, p.1 < D) → StrsAre vs' ss' → ss'.Perm ss → sortedS ss' = true → Q (.ref D) { s with heap := h', drawn := dr }) :
    wpAny (model prog w) A (call (.builtin "sorted") [.ref S]) Q E s := by
  refine Calls.call_function_entry kind_sorted plain_sorted entry_sorted (args_sorted1 _) ?_
  unfold Builtin.«sorted»
  refine wpAny_bind (m := checkCount "sorted" 1 1 _) (wpAny_pure ?_)
  refine wpAny_bind (collect_set (by simp [hh]) hS hne (by omega) fun h1 dr vs xs k1 lt1 x1 x2 => ?_)
  have hlen : vs.length = ss.length := by rw [x1.length, x2.length_eq]
  refine wpAny_bind (wpAny_newList ?_)
  have hoL : (h1.push (seqObj "list" vs.toArray 0)).get? h1.objs.size = some (seqObj "list" vs.toArray 0) := Heap.get?_push_size _ rfl
  show wpAny _ _ _ _ _ { s with heap := h1.push (seqObj "list" vs.toArray 0), drawn := dr }
  refine wpAny_bind (wpAny_holding (wpAny_call_entry slot_list_sort ⟨_, hoL, rfl⟩ entry_list_sort (list_sort_strs S90 hoL x1 (by rw [hlen]; exact hz) fun out ss' a1 a2 a3 => ⟨_, rfl, ?_⟩) (args_list_sort _)))
  refine wpAny_pure ⟨_, rfl, ?_⟩
  obtain ⟨e, he⟩ := sortedHeap_at (vs := vs) (out := out) hoL
  have k2 : ∀ b o, s.heap.get? b = some o → (sortedHeap (h1.push (seqObj "list" vs.toArray 0)) h1.objs.size vs out).get? b = some o := fun b o eb => by
    have hb := Heap.lt_size (k1 b o eb)
    rw [sortedHeap_old (Nat.ne_of_lt hb) (by rw [size_push']; exact Nat.lt_succ_of_lt hb)]
    exact Heap.get?_push_of_some _ (k1 b o eb)
  exact h _ dr _ out.toList ss' e (F.kept k2) (N.kept_cons F k2 (Nat.le_of_lt lt1) (by simpa using he)) (fun p hp => Nat.lt_trans (Heap.lt_size (N p hp).1) lt1) a1 (a2.trans x2) a3
end
end Mine
end

/- part SortA -/
section
open PySem PySem.W PyProof.Rows PySem.Calls PySem.Spec
set_option maxRecDepth 100000
namespace Mine
noncomputable def gallop' : Bool → Keyed → Array Keyed → Nat → Nat → Nat → StateT SortSt Sem (Option Nat) := sortPriv% PySem.Builtin.gallop
section
variable {prog : Program} {w : World} {A : Around} {E : Value → Shared → Prop} {s : Shared} {κ : PyProof.Rows.KeyKind}
/- a comparison of two keyed values -/
theorem wpS_ltV (hO : κ.OneLt) {st : SortSt} {x y : Keyed} {a b : κ.α} {Q : Option Bool → SortSt → Prop} (hk : kindOf st = oneType') (ha : κ.keyOf x.1 = some a) (hb : κ.keyOf y.1 = some b) (h : Q (some (κ.blt a b)) st) :
    wpS (model prog w) A E s (lt' x y) Q st := by
  rw [lt'_eq]
  refine wpS_bind (wpS_get ?_)
  rw [hk, keyLt'_oneType]
  refine wpS_bind (wpS_lift (wpAny_attempt (hO prog w A _ s x.1 y.1 a b ha hb ⟨rfl, ?_⟩)))
  exact wpS_pure h
theorem wpS_elem {st : SortSt} {arr : Array Keyed} {i : Nat} {x : Keyed} {Q : Keyed → SortSt → Prop} (hx : arr[i]? = some x) (h : Q x st) : wpS (model prog w) A E s (elem' arr i) Q st := by
  rw [elem'_eq, hx]; exact wpS_pure h
/- the step that gallop asks: does item i lie before the key? -/
noncomputable def beyondK (κ : PyProof.Rows.KeyKind) (left : Bool) (kk : κ.α) (arr : Array Keyed) (i : Nat) : Bool := if left then κ.blt (KK κ arr i) kk else !κ.blt kk (KK κ arr i)
theorem wpS_iteA {β : Type} {c : Prop} [Decidable c] {m R : StateT SortSt Sem β} {Q : β → SortSt → Prop} {st : SortSt} (ha : c → wpS (model prog w) A E s m Q st) (hb : ¬c → wpS (model prog w) A E s R Q st) : wpS (model prog w) A E s (if c then m else R) Q st := by
  by_cases hc : c
  · rw [if_pos hc]; exact ha hc
  · rw [if_neg hc]; exact hb hc
end
/- what is known of a search's bounds -/
structure Bs (g : Nat → Bool) (base n l r : Nat) : Prop where
  le : l ≤ r
  ln : r ≤ n
  lo : ∀ i, i < l → g (base + i) = true
  hi : ∀ i, r ≤ i → i < n → g (base + i) = false
section
variable {g : Nat → Bool} {base n l r o hint : Nat}
theorem mono_false (hmono : ∀ i j, i ≤ j → j < n → g (base + j) = true → g (base + i) = true) {k : Nat} (hk : g (base + k) = false) : ∀ i, k ≤ i → i < n → g (base + i) = false := fun i h1 hi => by
  cases hgi : g (base + i)
  · rfl
  · rw [hmono k i h1 hi hgi] at hk; exact hk
theorem mid_lt (h : l < r) : l ≤ l + (r - l) / 2 ∧ l + (r - l) / 2 < r := by lia
theorem Bs.left (hmono : ∀ i j, i ≤ j → j < n → g (base + j) = true → g (base + i) = true) (B : Bs g base n l r) (h : l < r) (hm : g (base + (l + (r - l) / 2)) = false) : Bs g base n l (l + (r - l) / 2) :=
  ⟨(mid_lt h).1, Nat.le_trans (Nat.le_of_lt (mid_lt h).2) B.ln, B.lo, mono_false hmono hm⟩
theorem Bs.right (hmono : ∀ i j, i ≤ j → j < n → g (base + j) = true → g (base + i) = true) (B : Bs g base n l r) (h : l < r) (hm : g (base + (l + (r - l) / 2)) = true) : Bs g base n (l + (r - l) / 2 + 1) r :=
  ⟨(mid_lt h).2, B.ln, fun i hi => hmono i _ (Nat.le_of_lt_succ hi) (Nat.lt_of_lt_of_le (mid_lt h).2 B.ln) hm, B.hi⟩
theorem half1 {x : Nat} (h : l < r) (d : r - l ≤ n - x) : l + (r - l) / 2 - l ≤ n - (x + 1) := by
  rw [Nat.add_sub_cancel_left]
  exact Nat.le_pred_of_lt (Nat.lt_of_lt_of_le (Nat.div_lt_self (Nat.sub_pos_of_lt h) (by decide)) d)
theorem half2 {x : Nat} (h : l < r) (d : r - l ≤ n - x) : r - (l + (r - l) / 2 + 1) ≤ n - (x + 1) :=
  Nat.pred_le_pred (Nat.le_trans (Nat.sub_le_sub_left (Nat.le_add_right l _) r) d)
theorem bs_up (hmono : ∀ i j, i ≤ j → j < n → g (base + j) = true → g (base + i) = true) (h2 : l < o) (h3 : hint + l < n) (h4 : g (base + (hint + l)) = true) (h5 : n ≤ hint + o ∨ g (base + (hint + o)) = false) : Bs g base n (hint + l + 1) (hint + min o (n - hint)) := by
  refine ⟨by lia, by lia, fun i hi => hmono i (hint + l) (by lia) h3 h4, fun i h1 hi => ?_⟩
  rcases h5 with h5 | h5
  · lia
  · exact mono_false hmono h5 i (by lia) hi
theorem bs_down (hmono : ∀ i j, i ≤ j → j < n → g (base + j) = true → g (base + i) = true) (hh : hint < n) (h2 : l < o) (h3 : l ≤ hint) (h4 : g (base + (hint - l)) = false) (h5 : hint + 1 ≤ o ∨ (o ≤ hint ∧ g (base + (hint - o)) = true)) : Bs g base n (hint + 1 - min o (hint + 1)) (hint - l) := by
  refine ⟨Nat.le_trans (Nat.sub_le_sub_left (Nat.le_min.mpr ⟨h2, Nat.succ_le_succ h3⟩) _) (Nat.le_of_eq (Nat.succ_sub_succ _ _)), Nat.le_trans (Nat.sub_le _ _) (Nat.le_of_lt hh), fun i hi => ?_, mono_false hmono h4⟩
  rcases h5 with h5 | ⟨h5, h6⟩
  · rw [Nat.min_eq_right h5, Nat.sub_self] at hi; exact absurd hi (Nat.not_lt_zero _)
  · rw [Nat.min_eq_left (Nat.le_succ_of_le h5), Nat.succ_sub h5] at hi
    exact hmono i (hint - o) (Nat.le_of_lt_succ hi) (Nat.lt_of_le_of_lt (Nat.sub_le _ _) hh) h6
end
inductive BsI (g : Nat → Bool) (base n : Nat) (st : SortSt) (x : Nat) : Option (Option Nat) × Nat × Nat → SortSt → Prop
  | mk {l r : Nat} (B : Bs g base n l r) (d : r - l ≤ n - x) : BsI g base n st x (none, l, r) st
inductive BsQ (g : Nat → Bool) (base n : Nat) (st : SortSt) : Option (Option Nat) × Nat × Nat → SortSt → Prop
  | mk {l r : Nat} (e : l = r) (B : Bs g base n l r) : BsQ g base n st (none, l, r) st
inductive UpI (g : Nat → Bool) (base n hint : Nat) (st : SortSt) (x : Nat) : Option (Option Nat) × Nat × Nat → SortSt → Prop
  | mk {l o : Nat} (h1 : x + 1 ≤ o) (h2 : l < o) (h3 : hint + l < n) (h4 : g (base + (hint + l)) = true) : UpI g base n hint st x (none, l, o) st
inductive UpQ (g : Nat → Bool) (base n hint : Nat) (st : SortSt) : Option (Option Nat) × Nat × Nat → SortSt → Prop
  | mk {l o : Nat} (h2 : l < o) (h3 : hint + l < n) (h4 : g (base + (hint + l)) = true) (h5 : n ≤ hint + o ∨ g (base + (hint + o)) = false) : UpQ g base n hint st (none, l, o) st
inductive DnI (g : Nat → Bool) (base hint : Nat) (st : SortSt) (x : Nat) : Option (Option Nat) × Nat × Nat → SortSt → Prop
  | mk {l o : Nat} (h1 : x + 1 ≤ o) (h2 : l < o) (h3 : l ≤ hint) (h4 : g (base + (hint - l)) = false) : DnI g base hint st x (none, l, o) st
inductive DnQ (g : Nat → Bool) (base hint : Nat) (st : SortSt) : Option (Option Nat) × Nat × Nat → SortSt → Prop
  | mk {l o : Nat} (h2 : l < o) (h3 : l ≤ hint) (h4 : g (base + (hint - l)) = false) (h5 : hint + 1 ≤ o ∨ (o ≤ hint ∧ g (base + (hint - o)) = true)) : DnQ g base hint st (none, l, o) st
section
variable {prog : Program} {w : World} {A : Around} {E : Value → Shared → Prop} {s : Shared} {κ : PyProof.Rows.KeyKind}
theorem gallop_ok (hO : κ.OneLt) {left : Bool} {key : Keyed} {kk : κ.α} {arr : Array Keyed} {base n hint : Nat} {st : SortSt} {Q : Option Nat → SortSt → Prop}
    (hk : kindOf st = oneType') (hkey : κ.keyOf key.1 = some kk) (harr : KeysOf κ arr) (hsz : base + n ≤ arr.size) (hh : hint < n)
    (hmono : ∀ i j, i ≤ j → j < n → beyondK κ left kk arr (base + j) = true → beyondK κ left kk arr (base + i) = true)
    (h : ∀ k, k ≤ n → (∀ i, i < k → beyondK κ left kk arr (base + i) = true) → (∀ i, k ≤ i → i < n → beyondK κ left kk arr (base + i) = false) → Q (some k) st) :
    wpS (model prog w) A E s (gallop' left key arr base n hint) Q st := by
  have hbey : ∀ {i : Nat} {R : Option Bool → SortSt → Prop}, i < n → R (some (beyondK κ left kk arr (base + i))) st →
      wpS (model prog w) A E s (do let x ← elem' arr (base + i); if left then lt' x key else return (← lt' key x).map (!·)) R st := by
    intro i R hi hR
    have hb : base + i < arr.size := by lia
    have e : arr[base + i]? = some (arr[base + i]'hb) := getElem?_pos arr (base + i) hb
    obtain ⟨a, ha⟩ := harr (arr[base + i]'hb) (by simp)
    have hK : KK κ arr (base + i) = a := by unfold KK; rw [e]; simp [ha]
    refine wpS_bind (wpS_elem e ?_)
    unfold beyondK at hR
    rw [hK] at hR
    cases left with
    | true => exact wpS_ltV hO hk ha hkey hR
    | false => exact wpS_bind (wpS_ltV hO hk hkey ha (wpS_pure hR))
  generalize hg : beyondK κ left kk arr = g at *
  refine wpS_bind (hbey (i := hint) hh ?_)
  dsimp -zeta -zetaHave -zetaUnused only
  extract_lets jp mo1 mo2
  have hj : ∀ (a b lo hi : Nat), Bs g base n lo hi → wpS (model prog w) A E s (jp () a b lo hi) Q st := by
    intro a b lo hi B
    refine wpS_bind (wpS_mono (wpS_forRange (I := BsI g base n st) (Q := BsQ g base n st) ?step2 ?fin2 (.mk B (Nat.le_trans (Nat.sub_le _ _) B.ln))) ?post2)
    case fin2 =>
      rintro c _ ⟨B, d⟩
      exact .mk (by have := B.le; lia) B
    case step2 =>
      rintro x c _ _ hx ⟨B, d⟩
      refine wpS_iteA (fun hge => wpS_pure (BsQ.mk (Nat.le_antisymm B.le hge) B)) (fun hge => ?_)
      have hlt := Nat.lt_of_not_le hge
      refine wpS_bind (hbey (Nat.lt_of_lt_of_le (mid_lt hlt).2 B.ln) ?_)
      exact wpS_iteA (fun hm => wpS_pure (BsI.mk (B.right hmono hlt hm) (half2 hlt d))) (fun hm => wpS_pure (BsI.mk (B.left hmono hlt ((Bool.not_eq_true _).mp hm)) (half1 hlt d)))
    case post2 =>
      rintro c _ ⟨e, B⟩
      exact wpS_pure (h _ B.ln (fun i hi => B.lo i (e ▸ hi)) B.hi)
  refine wpS_iteA (fun hr => ?_) (fun hr => ?_)
  · refine wpS_bind (wpS_mono (wpS_forRange (I := UpI g base n hint st) (Q := UpQ g base n hint st) ?step ?fin (.mk (Nat.le_refl _) Nat.one_pos hh hr)) ?post)
    case fin =>
      rintro c _ ⟨h1, h2, h3, h4⟩
      exact .mk h2 h3 h4 (.inl (by lia))
    case step =>
      rintro x c _ _ hx ⟨h1, h2, h3, h4⟩
      refine wpS_iteA (fun hge => wpS_pure (UpQ.mk h2 h3 h4 (.inl ?_))) (fun hge => ?_)
      · exact Nat.sub_le_iff_le_add'.mp hge
      have hlt := Nat.lt_of_not_le hge
      refine wpS_bind (hbey (Nat.add_lt_of_lt_sub' hlt) ?_)
      refine wpS_iteA (fun hm => wpS_pure (UpQ.mk h2 h3 h4 (.inr (Bool.not_eq_true' _ ▸ hm)))) (fun hm => wpS_pure (UpI.mk (by lia) (by lia) (Nat.add_lt_of_lt_sub' hlt) (by simpa using hm)))
    case post =>
      rintro c _ ⟨h2, h3, h4, h5⟩
      rename_i l o
      exact hj l o _ _ (bs_up hmono h2 h3 h4 h5)
  · refine wpS_bind (wpS_mono (wpS_forRange (I := DnI g base hint st) (Q := DnQ g base hint st) ?step3 ?fin3 (.mk (Nat.le_refl _) Nat.one_pos (Nat.zero_le _) ((Bool.not_eq_true _).mp hr))) ?post3)
    case fin3 =>
      rintro c _ ⟨h1, h2, h3, h4⟩
      exact .mk h2 h3 h4 (.inl (by lia))
    case step3 =>
      rintro x c _ _ hx ⟨h1, h2, h3, h4⟩
      refine wpS_iteA (fun hge => wpS_pure (DnQ.mk h2 h3 h4 (.inl hge))) (fun hge => ?_)
      have hlt := Nat.le_of_lt_succ (Nat.lt_of_not_le hge)
      refine wpS_bind (hbey (Nat.lt_of_le_of_lt (Nat.sub_le _ _) hh) ?_)
      exact wpS_iteA (fun hm => wpS_pure (DnQ.mk h2 h3 h4 (.inr ⟨hlt, hm⟩))) (fun hm => wpS_pure (DnI.mk (by lia) (by lia) hlt ((Bool.not_eq_true _).mp hm)))
    case post3 =>
      rintro c _ ⟨h2, h3, h4, h5⟩
      rename_i l o
      exact hj l o _ _ (bs_down hmono hh h2 h3 h4 h5)
end
end Mine
end

/- part SortB -/
section
open PySem PySem.W PyProof.Rows PySem.Calls PySem.Spec
namespace Mine
section
variable {α : Type} {le : α → α → Prop}
/- two sorted lists, of which ia and ib items are merged into O -/
structure MInv (le : α → α → Prop) (A B O : List α) (ia ib : Nat) : Prop where
  ha : A.Pairwise le
  hb : B.Pairwise le
  la : ia ≤ A.length
  lb : ib ≤ B.length
  pm : O.Perm (A.take ia ++ B.take ib)
  so : O.Pairwise le
  ua : ∀ p ∈ O, ∀ q ∈ A.drop ia, le p q
  ub : ∀ p ∈ O, ∀ q ∈ B.drop ib, le p q
theorem MInv.symm {A B O : List α} {ia ib : Nat} (h : MInv le A B O ia ib) : MInv le B A O ib ia :=
  ⟨h.hb, h.ha, h.lb, h.la, h.pm.trans List.perm_append_comm, h.so, h.ub, h.ua⟩
theorem MInv.nil {A B : List α} (ha : A.Pairwise le) (hb : B.Pairwise le) : MInv le A B [] 0 0 :=
  ⟨ha, hb, Nat.zero_le _, Nat.zero_le _, by simp, .nil, fun _ h => (nomatch h), fun _ h => (nomatch h)⟩
theorem MInv.addA {A B O : List α} {ia ib : Nat} (h : MInv le A B O ia ib) (k : Nat) (hk : ia + k ≤ A.length) (hle : ∀ p ∈ (A.drop ia).take k, ∀ q ∈ B.drop ib, le p q) :
    MInv le A B (O ++ (A.drop ia).take k) (ia + k) ib := by
  have hp := List.pairwise_append.mp ((List.take_append_drop k (A.drop ia)).symm ▸ (h.ha.sublist (List.drop_sublist ia A)) : ((A.drop ia).take k ++ (A.drop ia).drop k).Pairwise le)
  refine ⟨h.ha, h.hb, hk, h.lb, ?_, List.pairwise_append.mpr ⟨h.so, hp.1, fun p hp q hq => h.ua p hp q (List.mem_of_mem_take hq)⟩, ?_, ?_⟩
  · rw [List.take_add]
    refine (h.pm.append_right _).trans ?_
    rw [List.append_assoc, List.append_assoc]
    exact List.Perm.append_left _ List.perm_append_comm
  · intro p hpm q hq
    rw [← List.drop_drop] at hq
    rcases List.mem_append.mp hpm with hpm | hpm
    · exact h.ua p hpm q (List.mem_of_mem_drop hq)
    · exact hp.2.2 p hpm q hq
  · intro p hpm q hq
    rcases List.mem_append.mp hpm with hpm | hpm
    · exact h.ub p hpm q hq
    · exact hle p hpm q hq
/- a merge's outcome -/
noncomputable def Merged (le : α → α → Prop) (A B R : List α) : Prop := R.Perm (A ++ B) ∧ R.Pairwise le
theorem MInv.finA {A B O : List α} {ia ib : Nat} (h : MInv le A B O ia ib) (hle : ∀ p ∈ A.drop ia, ∀ q ∈ B.drop ib, le p q) : Merged le A B (O ++ A.drop ia ++ B.drop ib) := by
  refine ⟨?_, ?_⟩
  · refine ((h.pm.append_right _).append_right _).trans ?_
    have e : A ++ B = (A.take ia ++ A.drop ia) ++ (B.take ib ++ B.drop ib) := by rw [List.take_append_drop, List.take_append_drop]
    rw [e, List.append_assoc (A.take ia), List.append_assoc (A.take ia), List.append_assoc (A.take ia)]
    refine List.Perm.append_left _ ?_
    rw [← List.append_assoc]
    refine List.Perm.append_right _ List.perm_append_comm
  · refine List.pairwise_append.mpr ⟨List.pairwise_append.mpr ⟨h.so, h.ha.sublist (List.drop_sublist _ _), fun p hp q hq => h.ua p hp q hq⟩, h.hb.sublist (List.drop_sublist _ _), fun p hp q hq => ?_⟩
    rcases List.mem_append.mp hp with hp | hp
    · exact h.ub p hp q hq
    · exact hle p hp q hq
theorem MInv.finB {A B O : List α} {ia ib : Nat} (h : MInv le A B O ia ib) (hle : ∀ p ∈ B.drop ib, ∀ q ∈ A.drop ia, le p q) : Merged le A B (O ++ B.drop ib ++ A.drop ia) := by
  have := h.symm.finA hle
  exact ⟨this.1.trans List.perm_append_comm, this.2⟩
end
end Mine
end

/- part SortC -/
section
open PySem PySem.W PyProof.Rows PySem.Calls PySem.Spec
set_option maxRecDepth 100000
namespace Mine
noncomputable def mergeLo' : Array Keyed → Array Keyed → StateT SortSt Sem (Array Keyed) := sortPriv% PySem.Builtin.mergeLo
noncomputable def mergeHi' : Array Keyed → Array Keyed → StateT SortSt Sem (Array Keyed) := sortPriv% PySem.Builtin.mergeHi
noncomputable def setMinGallop' : Nat → StateT SortSt Sem Unit := sortPriv% PySem.Builtin.setMinGallop
noncomputable def kyK (κ : PyProof.Rows.KeyKind) (p : Keyed) : κ.α := (κ.keyOf p.1).getD κ.dflt
noncomputable def leK (κ : PyProof.Rows.KeyKind) (p q : Keyed) : Prop := κ.kle (kyK κ p) (kyK κ q)
/- the state, but for the gallop's threshold -/
noncomputable def SameG (st st' : SortSt) : Prop := PyProof.Rows.kindOf st' = PyProof.Rows.kindOf st ∧ arrOf st' = arrOf st ∧ pendingOf st' = pendingOf st ∧ failedOf st' = failedOf st
theorem SameG.refl (st : SortSt) : SameG st st := ⟨rfl, rfl, rfl, rfl⟩
theorem SameG.trans {a b c : SortSt} (x : SameG a b) (y : SameG b c) : SameG a c := ⟨y.1.trans x.1, y.2.1.trans x.2.1, y.2.2.1.trans x.2.2.1, y.2.2.2.trans x.2.2.2⟩
theorem kk_at {κ : PyProof.Rows.KeyKind} {arr : Array Keyed} {i : Nat} (h : i < arr.size) : KK κ arr i = kyK κ arr[i] := by
  unfold KK kyK; rw [getElem?_pos arr i h]
theorem leK_refl {κ : PyProof.Rows.KeyKind} (p : Keyed) : leK κ p p := KeyOrd.kle_refl _
theorem leK_trans {κ : PyProof.Rows.KeyKind} {p q r : Keyed} (h1 : leK κ p q) (h2 : leK κ q r) : leK κ p r := KeyOrd.kle_trans h1 h2
section
variable {κ : PyProof.Rows.KeyKind} {a b out : Array Keyed} {ia ib : Nat} {left : Bool}
theorem drop_cons {a : Array Keyed} {i : Nat} (h : i < a.size) : a.toList.drop i = a[i] :: a.toList.drop (i + 1) := by
  rw [List.drop_eq_getElem_cons (by simpa using h)]; simp
theorem ext_list (a : Array Keyed) (i k : Nat) : (a.extract i (i + k)).toList = (a.toList.drop i).take k := by
  rw [Array.toList_extract, List.extract_eq_take_drop]; congr 1; lia
theorem ext_all (a : Array Keyed) (i : Nat) : (a.extract i).toList = a.toList.drop i := by
  rw [Array.toList_extract, List.extract_eq_take_drop]
  exact List.take_of_length_le (by simp)
theorem head_le (sa : a.toList.Pairwise (leK κ)) (h : ia < a.size) : ∀ q ∈ a.toList.drop ia, leK κ a[ia] q := by
  intro q hq
  have := sa.sublist (List.drop_sublist ia a.toList)
  rw [drop_cons h] at this hq
  rcases List.mem_cons.mp hq with rfl | hq
  · exact leK_refl _
  · exact (List.pairwise_cons.mp this).1 q hq
theorem key_at (hka : PyProof.Rows.KeysOf κ a) {i : Nat} (h : i < a.size) : κ.keyOf (a[i]).1 = some (kyK κ a[i]) := by
  obtain ⟨x, hx⟩ := hka a[i] (by simp)
  unfold kyK; rw [hx]; rfl
theorem drop_mono {a : Array Keyed} (sa : a.toList.Pairwise (leK κ)) {i j : Nat} (hij : i ≤ j) (hj : j < a.size) : κ.kle (KK κ a i) (KK κ a j) := by
  rw [kk_at hj, kk_at (by lia)]
  have := head_le sa (show i < a.size by lia) a[j] (by
    rw [List.mem_drop_iff_getElem]
    exact ⟨j - i, by simp; lia, by simp; congr 1; lia⟩)
  exact this
theorem gal_mono (left : Bool) {kk : κ.α} {a : Array Keyed} (sa : a.toList.Pairwise (leK κ)) {base n : Nat} (hn : base + n ≤ a.size) :
    ∀ i j, i ≤ j → j < n → beyondK κ left kk a (base + j) = true → beyondK κ left kk a (base + i) = true := by
  intro i j hij hj h
  have m := drop_mono sa (show base + i ≤ base + j by lia) (by lia)
  unfold beyondK at h ⊢
  cases left with
  | true =>
    simp only [if_true] at h ⊢
    exact KeyOrd.klt_of_kle_of_klt m h
  | false =>
    simp only [Bool.false_eq_true, if_false, Bool.not_eq_true'] at h ⊢
    exact KeyOrd.kle_trans (show κ.kle _ _ from m) (show κ.kle _ _ from h)
/- the items before a gallop's end are before the key, those behind are behind it -/
theorem gal_le {kk : Keyed} {base k : Nat} (hk : base + k ≤ a.size) (h : ∀ i, i < k → beyondK κ left (kyK κ kk) a (base + i) = true) : ∀ p ∈ (a.toList.drop base).take k, leK κ p kk := by
  intro p hp
  obtain ⟨i, hi, rfl⟩ := List.mem_iff_getElem.mp hp
  have hik : i < k := by simp at hi; lia
  have := h i hik
  unfold beyondK at this
  rw [kk_at (by lia)] at this
  have e : ((a.toList.drop base).take k)[i] = a[base + i]'(by lia) := by simp
  rw [e]
  cases left with
  | true => exact KeyOrd.kle_of_klt this
  | false => simpa [leK, KeyOrd.kle] using this
theorem gal_ge {kk : Keyed} {base n k : Nat} (hn : base + n = a.size) (h : ∀ i, k ≤ i → i < n → beyondK κ left (kyK κ kk) a (base + i) = false) : ∀ p ∈ a.toList.drop (base + k), leK κ kk p := by
  intro p hp
  obtain ⟨i, hi, rfl⟩ := List.mem_iff_getElem.mp hp
  simp at hi
  have := h (k + i) (by lia) (by lia)
  unfold beyondK at this
  rw [kk_at (by lia)] at this
  have e : (a.toList.drop (base + k))[i] = a[base + (k + i)]'(by lia) := by simp [Nat.add_assoc]
  rw [e]
  cases left with
  | true => simpa [leK, KeyOrd.kle] using this
  | false =>
    simp only [Bool.false_eq_true, if_false, Bool.not_eq_false'] at this
    exact KeyOrd.kle_of_klt this
theorem pushA (h : MInv (leK κ) a.toList b.toList out.toList ia ib) (hi : ia < a.size) (hle : ∀ q ∈ b.toList.drop ib, leK κ a[ia] q) : MInv (leK κ) a.toList b.toList (out.push a[ia]).toList (ia + 1) ib := by
  have e : (a.toList.drop ia).take 1 = [a[ia]] := by rw [drop_cons hi]; rfl
  have := h.addA 1 (by rw [Array.length_toList]; exact hi) (by rw [e]; intro p hp; rw [List.mem_singleton.mp hp]; exact hle)
  rw [e] at this
  rw [Array.toList_push]; exact this
theorem pushB (h : MInv (leK κ) a.toList b.toList out.toList ia ib) (hi : ib < b.size) (hle : ∀ q ∈ a.toList.drop ia, leK κ b[ib] q) : MInv (leK κ) a.toList b.toList (out.push b[ib]).toList ia (ib + 1) :=
  (pushA h.symm hi hle).symm
theorem extA {k : Nat} (h : MInv (leK κ) a.toList b.toList out.toList ia ib) (hk : ia + k ≤ a.size) (hle : ∀ p ∈ (a.toList.drop ia).take k, ∀ q ∈ b.toList.drop ib, leK κ p q) :
    MInv (leK κ) a.toList b.toList (out ++ a.extract ia (ia + k)).toList (ia + k) ib := by
  rw [Array.toList_append, ext_list]
  exact h.addA k (by simpa using hk) hle
theorem extB {k : Nat} (h : MInv (leK κ) a.toList b.toList out.toList ia ib) (hk : ib + k ≤ b.size) (hle : ∀ p ∈ (b.toList.drop ib).take k, ∀ q ∈ a.toList.drop ia, leK κ p q) :
    MInv (leK κ) a.toList b.toList (out ++ b.extract ib (ib + k)).toList ia (ib + k) := (extA h.symm hk hle).symm
theorem doneAB (h : MInv (leK κ) a.toList b.toList out.toList ia ib) (he : ib = b.size ∨ ia = a.size) : Merged (leK κ) a.toList b.toList (out ++ a.extract ia ++ b.extract ib).toList := by
  rw [Array.toList_append, Array.toList_append, ext_all, ext_all]
  refine h.finA ?_
  rcases he with rfl | rfl
  · intro p _ q hq
    rw [List.drop_of_length_le (by simp)] at hq; cases hq
  · intro p hp
    rw [List.drop_of_length_le (by simp)] at hp; cases hp
theorem lastA (h : MInv (leK κ) a.toList b.toList out.toList ia ib) (he : ia + 1 = a.size) (hlast : ∀ j, j < b.size → κ.klt (KK κ b j) (KK κ a (a.size - 1))) : Merged (leK κ) a.toList b.toList (out ++ b.extract ib ++ a.extract ia).toList := by
  rw [Array.toList_append, Array.toList_append, ext_all, ext_all]
  refine h.finB ?_
  intro p hp q hq
  rw [drop_cons (by lia), List.drop_of_length_le (by simp; lia)] at hq
  obtain rfl := List.mem_singleton.mp hq
  obtain ⟨j, hj, rfl⟩ := List.mem_iff_getElem.mp (List.mem_of_mem_drop hp)
  have := hlast j (by simpa using hj)
  rw [kk_at (by simpa using hj), kk_at (by lia)] at this
  have e2 : a.size - 1 = ia := by lia
  subst e2
  have := KeyOrd.kle_of_klt this
  simpa [leK] using this
end
section
variable {prog : Program} {w : World} {A : Around} {E : Value → Shared → Prop} {s : Shared} {κ : PyProof.Rows.KeyKind}
theorem wpS_setMin {g : Nat} {st : SortSt} {Q : Unit → SortSt → Prop} (h : ∀ st', SameG st st' → Q () st') : wpS (model prog w) A E s (setMinGallop' g) Q st :=
  wpS_modify (h _ ⟨rfl, rfl, rfl, rfl⟩)
end
end Mine
end

/- part SortD -/
section
open PySem PySem.W PyProof.Rows PySem.Calls PySem.Spec
set_option maxRecDepth 100000
namespace Mine
section
variable {prog : Program} {w : World} {A : Around} {E : Value → Shared → Prop} {s : Shared} {κ : PyProof.Rows.KeyKind}
theorem wpS_ite {β : Type} {c : Prop} [Decidable c] {m R : StateT SortSt Sem β} {Q : β → SortSt → Prop} {st : SortSt} (ha : c → wpS (model prog w) A E s m Q st) (hb : ¬c → wpS (model prog w) A E s R Q st) : wpS (model prog w) A E s (if c then m else R) Q st := by
  by_cases hc : c
  · rw [if_pos hc]; exact ha hc
  · rw [if_neg hc]; exact hb hc
theorem wpS_eqn {β : Type} {i j : Nat} {m R : StateT SortSt Sem β} {Q : β → SortSt → Prop} {st : SortSt} (ha : i = j → wpS (model prog w) A E s m Q st) (hb : ¬i = j → wpS (model prog w) A E s R Q st) : wpS (model prog w) A E s (if (i == j) = true then m else R) Q st :=
  wpS_ite (fun h => ha (beq_iff_eq.mp h)) (fun h => hb fun e => h (beq_iff_eq.mpr e))
end
theorem prg1 (x y : Nat) : x + 2 ≤ x + 1 + min y 1 + 1 + 1 := Nat.le_succ_of_le (Nat.add_le_add_right (Nat.le_add_right (x + 1) (min y 1)) 1)
theorem prg2 (x y : Nat) : x + 1 + min (y + 1) 1 ≤ x + 1 + min y 1 + 1 + 1 := Nat.le_trans (Nat.add_le_add_left (Nat.min_le_right _ _) (x + 1)) (prg1 x y)
/- two runs to be merged -/
structure Mrg (κ : PyProof.Rows.KeyKind) (a b : Array Keyed) : Prop where
  ka : PyProof.Rows.KeysOf κ a
  kb : PyProof.Rows.KeysOf κ b
  sa : a.toList.Pairwise (leK κ)
  sb : b.toList.Pairwise (leK κ)
  h1 : 0 < a.size
  h2 : 0 < b.size
  fst : κ.klt (KK κ b 0) (KK κ a 0)
  last : ∀ j, j < b.size → κ.klt (KK κ b j) (KK κ a (a.size - 1))
/- how far a merge from the left has come -/
structure LoB (κ : PyProof.Rows.KeyKind) (a b out : Array Keyed) (ia ib n : Nat) : Prop where
  iv : MInv (leK κ) a.toList b.toList out.toList ia ib
  b1 : ia + 1 < a.size
  b2 : ib < b.size
  b3 : n ≤ ia + ib
section
variable {κ : PyProof.Rows.KeyKind} {a b out : Array Keyed} {ia ib n k : Nat}
theorem LoB.hia (B : LoB κ a b out ia ib n) : ia < a.size := Nat.lt_of_succ_lt B.b1
theorem LoB.weak (B : LoB κ a b out ia ib n) {m : Nat} (h : m ≤ n) : LoB κ a b out ia ib m := ⟨B.iv, B.b1, B.b2, Nat.le_trans h B.b3⟩
theorem LoB.bDone (B : LoB κ a b out ia ib n) (h : ∀ q ∈ a.toList.drop ia, leK κ (b[ib]'B.b2) q) (e : ib + 1 = b.size) : Merged (leK κ) a.toList b.toList (out.push (b[ib]'B.b2) ++ a.extract ia ++ b.extract (ib + 1)).toList :=
  doneAB (pushB B.iv B.b2 h) (.inl e)
theorem LoB.stepB (B : LoB κ a b out ia ib n) (h : ∀ q ∈ a.toList.drop ia, leK κ (b[ib]'B.b2) q) (e : ¬ib + 1 = b.size) : LoB κ a b (out.push (b[ib]'B.b2)) ia (ib + 1) (n + 1) :=
  ⟨pushB B.iv B.b2 h, B.b1, Nat.lt_of_le_of_ne B.b2 e, Nat.succ_le_succ B.b3⟩
theorem LoB.aDone (C : Mrg κ a b) (B : LoB κ a b out ia ib n) (h : ∀ q ∈ b.toList.drop ib, leK κ (a[ia]'B.hia) q) (e : ia + 1 + 1 = a.size) : Merged (leK κ) a.toList b.toList (out.push (a[ia]'B.hia) ++ b.extract ib ++ a.extract (ia + 1)).toList :=
  lastA (pushA B.iv B.hia h) e C.last
theorem LoB.stepA (B : LoB κ a b out ia ib n) (h : ∀ q ∈ b.toList.drop ib, leK κ (a[ia]'B.hia) q) (e : ¬ia + 1 + 1 = a.size) : LoB κ a b (out.push (a[ia]'B.hia)) (ia + 1) ib (n + 1) :=
  ⟨pushA B.iv B.hia h, Nat.lt_of_le_of_ne B.b1 e, B.b2, by have := B.b3; lia⟩
theorem LoB.extA (C : Mrg κ a b) (B : LoB κ a b out ia ib n) (k1 : k ≤ a.size - ia) (g : ∀ p ∈ (a.toList.drop ia).take k, leK κ p (b[ib]'B.b2)) : MInv (leK κ) a.toList b.toList (out ++ a.extract ia (ia + k)).toList (ia + k) ib :=
  Mine.extA B.iv (by have := B.b1; lia) fun p hp q hq => leK_trans (g p hp) (head_le C.sb B.b2 q hq)
theorem LoB.extB (C : Mrg κ a b) (B : LoB κ a b out ia ib n) (k1 : k ≤ b.size - ib) (g : ∀ p ∈ (b.toList.drop ib).take k, leK κ p (a[ia]'B.hia)) : MInv (leK κ) a.toList b.toList (out ++ b.extract ib (ib + k)).toList ia (ib + k) :=
  Mine.extB B.iv (by have := B.b2; lia) fun p hp q hq => leK_trans (g p hp) (head_le C.sa B.hia q hq)
end
inductive L0 (κ : PyProof.Rows.KeyKind) (a b : Array Keyed) (st : SortSt) (n : Nat) : Option (Array Keyed) × Array Keyed × Nat × Nat × Nat → SortSt → Prop
  | go {out : Array Keyed} {ia ib g : Nat} {st' : SortSt} (sg : SameG st st') (B : LoB κ a b out ia ib n) : L0 κ a b st n (none, out, ia, ib, g) st'
inductive D0 (κ : PyProof.Rows.KeyKind) (a b : Array Keyed) (st : SortSt) : Option (Array Keyed) × Array Keyed × Nat × Nat × Nat → SortSt → Prop
  | fin {r : Array Keyed} {t : Array Keyed × Nat × Nat × Nat} {st' : SortSt} (sg : SameG st st') (m : Merged (leK κ) a.toList b.toList r.toList) : D0 κ a b st (some r, t) st'
inductive L1 (κ : PyProof.Rows.KeyKind) (a b : Array Keyed) (st : SortSt) (n : Nat) : Option (Array Keyed) × Array Keyed × Nat × Nat × Nat × Nat → SortSt → Prop
  | go {out : Array Keyed} {ia ib g c : Nat} {st' : SortSt} (sg : SameG st st') (B : LoB κ a b out ia ib n) : L1 κ a b st n (none, out, ia, ib, g, c) st'
inductive R1 (κ : PyProof.Rows.KeyKind) (a b : Array Keyed) (st : SortSt) (n : Nat) : Option (Array Keyed) × Array Keyed × Nat × Nat × Nat × Nat → SortSt → Prop
  | go {out : Array Keyed} {ia ib g c : Nat} {st' : SortSt} (sg : SameG st st') (B : LoB κ a b out ia ib n) : R1 κ a b st n (none, out, ia, ib, g, c) st'
  | fin {r : Array Keyed} {t : Array Keyed × Nat × Nat × Nat × Nat} {st' : SortSt} (sg : SameG st st') (m : Merged (leK κ) a.toList b.toList r.toList) : R1 κ a b st n (some r, t) st'
inductive L2 (κ : PyProof.Rows.KeyKind) (a b : Array Keyed) (st : SortSt) (n : Nat) : Option (Array Keyed) × Array Keyed × Nat × Nat × Nat × Nat × Nat → SortSt → Prop
  | go {out : Array Keyed} {ia ib g c d : Nat} {st' : SortSt} (sg : SameG st st') (B : LoB κ a b out ia ib n) : L2 κ a b st n (none, out, ia, ib, g, c, d) st'
inductive R2 (κ : PyProof.Rows.KeyKind) (a b : Array Keyed) (st : SortSt) (n : Nat) : Option (Array Keyed) × Array Keyed × Nat × Nat × Nat × Nat × Nat → SortSt → Prop
  | go {out : Array Keyed} {ia ib g c d : Nat} {st' : SortSt} (sg : SameG st st') (B : LoB κ a b out ia ib n) : R2 κ a b st n (none, out, ia, ib, g, c, d) st'
  | fin {r : Array Keyed} {t : Array Keyed × Nat × Nat × Nat × Nat × Nat} {st' : SortSt} (sg : SameG st st') (m : Merged (leK κ) a.toList b.toList r.toList) : R2 κ a b st n (some r, t) st'
/- what a turn of the galloping loop leaves -/
noncomputable abbrev P2 (κ : PyProof.Rows.KeyKind) (a b : Array Keyed) (st : SortSt) (n m : Nat) (r : ForInStep (Option (Array Keyed) × Array Keyed × Nat × Nat × Nat × Nat × Nat)) (st' : SortSt) : Prop := match r with
  | .done c => R2 κ a b st n c st'
  | .yield c => L2 κ a b st m c st'
section
variable {prog : Program} {w : World} {A : Around} {E : Value → Shared → Prop} {s : Shared} {κ : PyProof.Rows.KeyKind}
theorem mergeLo_ok (hO : κ.OneLt) {a b : Array Keyed} {st : SortSt} {Q : Array Keyed → SortSt → Prop} (hk : PyProof.Rows.kindOf st = oneType') (C : Mrg κ a b)
    (h : ∀ r st', Merged (leK κ) a.toList b.toList r.toList → SameG st st' → Q r st') : wpS (model prog w) A E s (mergeLo' a b) Q st := by
  refine wpS_bind (wpS_lift (wpAny_rule ⟨rfl, ?_⟩))
  refine wpS_bind (wpS_elem (getElem?_pos b 0 C.h2) ?_)
  have i0 : MInv (leK κ) a.toList b.toList (#[b[0]'C.h2] : Array Keyed).toList 0 1 := pushB (out := #[]) (MInv.nil C.sa C.sb) C.h2 (fun q hq => leK_trans (KeyOrd.kle_of_klt (by have := C.fst; rw [kk_at C.h2, kk_at C.h1] at this; exact this)) (head_le C.sa C.h1 q hq))
  refine wpS_eqn (fun e1 => wpS_pure (h _ _ (doneAB i0 (.inl e1)) (SameG.refl _))) (fun e1 => ?_)
  refine wpS_eqn (fun e2 => wpS_pure (h _ _ (lastA i0 e2 C.last) (SameG.refl _))) (fun e2 => ?_)
  have B0 : LoB κ a b #[b[0]'C.h2] 0 1 1 := ⟨i0, by have := C.h1; change ¬ 0 + 1 = a.size at e2; lia, by have := C.h2; change ¬ 1 = b.size at e1; lia, by lia⟩
  refine wpS_bind (wpS_get ?_)
  refine wpS_bind (wpS_mono (wpS_forRange (I := fun x c st' => L0 κ a b st (x + 1) c st') (Q := fun c st' => D0 κ a b st c st') ?step ?fin (L0.go (SameG.refl _) B0)) ?post)
  case fin =>
    rintro c st' ⟨sg, B⟩
    have := B.b1; have := B.b2; have := B.b3
    lia
  case post =>
    rintro c st' ⟨sg, m⟩
    exact wpS_pure (h _ _ m sg)
  case step =>
    rintro x c st1 _ hx ⟨sg, B⟩
    refine wpS_bind (wpS_mono (wpS_forRange (I := fun y c st' => L1 κ a b st (x + 1) c st') (Q := fun c st' => R1 κ a b st (x + 1) c st') ?step1 ?fin1 (L1.go sg B)) ?post1)
    case fin1 =>
      rintro c st' ⟨sg, B⟩
      exact R1.go sg B
    case step1 =>
      rintro y c st' _ hy ⟨sg, B⟩
      refine wpS_bind (wpS_elem (getElem?_pos b _ B.b2) ?_)
      refine wpS_bind (wpS_elem (getElem?_pos a _ B.hia) ?_)
      refine wpS_bind (wpS_ltV hO (sg.1.trans hk) (key_at C.kb B.b2) (key_at C.ka B.hia) ?_)
      refine wpS_ite (fun hw => ?_) (fun hw => ?_)
      · refine wpS_bind (wpS_elem (getElem?_pos b _ B.b2) ?_)
        have hle := fun q hq => leK_trans (KeyOrd.kle_of_klt hw) (head_le C.sa B.hia q hq)
        refine wpS_eqn (fun e => wpS_pure (R1.fin sg (B.bDone hle e))) (fun e => ?_)
        exact wpS_ite (fun _ => wpS_pure (R1.go sg ((B.stepB hle e).weak (Nat.le_succ _)))) (fun _ => wpS_pure (L1.go sg ((B.stepB hle e).weak (Nat.le_succ _))))
      · refine wpS_bind (wpS_elem (getElem?_pos a _ B.hia) ?_)
        have hle : ∀ q ∈ b.toList.drop _, leK κ (a[_]'B.hia) q := fun q hq => leK_trans (show κ.kle _ _ from (Bool.not_eq_true _).mp hw) (head_le C.sb B.b2 q hq)
        refine wpS_eqn (fun e => wpS_pure (R1.fin sg (B.aDone C hle e))) (fun e => ?_)
        exact wpS_ite (fun _ => wpS_pure (R1.go sg ((B.stepA hle e).weak (Nat.le_succ _)))) (fun _ => wpS_pure (L1.go sg ((B.stepA hle e).weak (Nat.le_succ _))))
    case post1 =>
      rintro c st' (⟨sg, B⟩ | ⟨sg, m⟩)
      case fin => exact wpS_pure (D0.fin sg m)
      refine wpS_bind (wpS_lift (wpAny_rule ⟨rfl, ?_⟩))
      refine wpS_bind (wpS_mono (wpS_forRange (I := fun y c st' => L2 κ a b st (x + 1 + min y 1) c st') (Q := fun c st' => R2 κ a b st (x + 2) c st') ?step2 ?fin2 (L2.go sg (B.weak (by lia)))) ?post2)
      case fin2 =>
        rintro c st' ⟨sg, B⟩
        exact R2.go sg (B.weak (by have := C.h1; lia))
      case post2 =>
        rintro c st' (⟨sg, B⟩ | ⟨sg, m⟩)
        case fin => exact wpS_pure (D0.fin sg m)
        refine wpS_bind (wpS_setMin fun st2 sg2 => ?_)
        exact wpS_pure (L0.go (sg.trans sg2) B)
      case step2 =>
        rintro y c st' _ hy ⟨sg, B⟩
        rename_i out ia ib g ac bc
        extract_lets
        rename_i jp mg
        suffices hj : ∀ (g2 : Nat) (st2 : SortSt), SameG st st2 → wpS (model prog w) A E s (jp () g2) (P2 κ a b st (x + 2) (x + 1 + min (y + 1) 1)) st2 from wpS_mono (wpS_ite (fun _ => hj _ _ sg) (fun _ => hj _ _ sg)) (fun r st' hp => by cases r <;> exact hp)
        intro g2 st2 sg2
        refine wpS_bind (wpS_setMin fun st3 sg3 => ?_)
        replace sg2 := sg2.trans sg3
        refine wpS_bind (wpS_elem (getElem?_pos b ib B.b2) ?_)
        refine wpS_bind (gallop_ok hO (sg2.1.trans hk) (key_at C.kb B.b2) C.ka (Nat.le_of_eq (Nat.add_sub_cancel' (Nat.le_of_lt B.hia))) (Nat.sub_pos_of_lt B.hia) (gal_mono false C.sa (Nat.le_of_eq (Nat.add_sub_cancel' (Nat.le_of_lt B.hia)))) fun k k1 k2 k3 => ?_)
        have g1 := gal_le (a := a) (left := false) (kk := b[ib]'B.b2) (Nat.add_le_of_le_sub' (Nat.le_of_lt B.hia) k1) k2
        have g2 := gal_ge (a := a) (left := false) (kk := b[ib]'B.b2) (Nat.add_sub_cancel' (Nat.le_of_lt B.hia)) k3
        dsimp -zeta -zetaHave -zetaUnused only
        extract_lets
        rename_i jp2 o1 i1
        suffices hj2 : ∀ (out1 : Array Keyed) (ia1 : Nat) (B1 : LoB κ a b out1 ia1 ib (x + 1 + min y 1)), (∀ q ∈ a.toList.drop ia1, leK κ (b[ib]'B.b2) q) → wpS (model prog w) A E s (jp2 () out1 ia1) (P2 κ a b st (x + 2) (x + 1 + min (y + 1) 1)) st3 by
          have iv1 := B.extA C k1 g1
          refine wpS_ite (fun _ => wpS_eqn (fun e => wpS_pure (R2.fin sg2 (lastA iv1 e C.last))) fun e => wpS_eqn (fun e' => wpS_pure (R2.fin sg2 (doneAB iv1 (.inr e')))) fun e' => hj2 _ _ ⟨iv1, ?_, B.b2, Nat.le_trans B.b3 (Nat.add_le_add_right (Nat.le_add_right _ _) _)⟩ g2) (fun e => ?_)
          · exact Nat.lt_of_le_of_ne (Nat.lt_of_le_of_ne (Nat.add_le_of_le_sub' (Nat.le_of_lt B.hia) k1) e') e
          · have e0 : k = 0 := Nat.eq_zero_of_not_pos e
            subst e0
            exact hj2 _ _ B g2
        intro out1 ia1 B1 h1
        refine wpS_bind (wpS_elem (getElem?_pos b ib B.b2) ?_)
        refine wpS_eqn (fun e => wpS_pure (R2.fin sg2 (B1.bDone h1 e))) (fun e => ?_)
        have B2 := B1.stepB h1 e
        refine wpS_bind (wpS_elem (getElem?_pos a ia1 B2.hia) ?_)
        refine wpS_bind (gallop_ok hO (sg2.1.trans hk) (key_at C.ka B2.hia) C.kb (Nat.le_of_eq (Nat.add_sub_cancel' (Nat.le_of_lt B2.b2))) (Nat.sub_pos_of_lt B2.b2) (gal_mono true C.sb (Nat.le_of_eq (Nat.add_sub_cancel' (Nat.le_of_lt B2.b2)))) fun k' k1' k2' k3' => ?_)
        have g1' := gal_le (a := b) (left := true) (kk := a[ia1]'B2.hia) (Nat.add_le_of_le_sub' (Nat.le_of_lt B2.b2) k1') k2'
        have g2' := gal_ge (a := b) (left := true) (kk := a[ia1]'B2.hia) (Nat.add_sub_cancel' (Nat.le_of_lt B2.b2)) k3'
        dsimp -zeta -zetaHave -zetaUnused only
        extract_lets
        rename_i jp3 o2 i2
        suffices hj3 : ∀ (out3 : Array Keyed) (ib3 : Nat) (B3 : LoB κ a b out3 ia1 ib3 (x + 1 + min y 1 + 1)), (∀ q ∈ b.toList.drop ib3, leK κ (a[ia1]'B3.hia) q) → wpS (model prog w) A E s (jp3 () out3 ib3) (P2 κ a b st (x + 2) (x + 1 + min (y + 1) 1)) st3 by
          have iv3 := B2.extB C k1' g1'
          refine wpS_ite (fun _ => wpS_eqn (fun e => wpS_pure (R2.fin sg2 (doneAB iv3 (.inl e)))) fun e => hj3 _ _ ⟨iv3, B2.b1, ?_, Nat.le_trans B2.b3 (Nat.add_le_add_left (Nat.le_add_right _ _) _)⟩ g2') (fun e => ?_)
          · exact Nat.lt_of_le_of_ne (Nat.add_le_of_le_sub' (Nat.le_of_lt B2.b2) k1') e
          · have e0 : k' = 0 := Nat.eq_zero_of_not_pos e
            subst e0
            exact hj3 _ _ B2 g2'
        intro out3 ib3 B3 h3
        refine wpS_bind (wpS_elem (getElem?_pos a ia1 B3.hia) ?_)
        refine wpS_eqn (fun e => wpS_pure (R2.fin sg2 (B3.aDone C h3 e))) (fun e => ?_)
        exact wpS_ite (fun _ => wpS_pure (R2.go sg2 ((B3.stepA h3 e).weak (prg1 x y)))) (fun _ => wpS_pure (L2.go sg2 ((B3.stepA h3 e).weak (prg2 x y))))
end
end Mine
end

/- part SortE -/
section
open PySem PySem.W PyProof.Rows PySem.Calls PySem.Spec
set_option maxRecDepth 100000
namespace Mine
section
variable {α : Type} {le : α → α → Prop}
/- two sorted lists, merged from their ends into R; na and nb items are left -/
structure HInv (le : α → α → Prop) (A B R : List α) (na nb : Nat) : Prop where
  ha : A.Pairwise le
  hb : B.Pairwise le
  la : na ≤ A.length
  lb : nb ≤ B.length
  pm : R.Perm (A.drop na ++ B.drop nb)
  so : R.Pairwise le
  ua : ∀ p ∈ A.take na, ∀ q ∈ R, le p q
  ub : ∀ p ∈ B.take nb, ∀ q ∈ R, le p q
theorem HInv.symm {A B R : List α} {na nb : Nat} (h : HInv le A B R na nb) : HInv le B A R nb na :=
  ⟨h.hb, h.ha, h.lb, h.la, h.pm.trans List.perm_append_comm, h.so, h.ub, h.ua⟩
theorem HInv.nil {A B : List α} (ha : A.Pairwise le) (hb : B.Pairwise le) : HInv le A B [] A.length B.length :=
  ⟨ha, hb, Nat.le_refl _, Nat.le_refl _, by simp, .nil, fun _ _ _ h => (nomatch h), fun _ _ _ h => (nomatch h)⟩
theorem HInv.addA {A B R : List α} {na nb : Nat} (h : HInv le A B R na nb) (k : Nat) (hk : k ≤ na) (hle : ∀ p ∈ B.take nb, ∀ q ∈ (A.take na).drop k, le p q) :
    HInv le A B ((A.take na).drop k ++ R) k nb := by
  have hs := h.ha.sublist (List.take_sublist na A)
  have e1 : (A.take na).take k = A.take k := by rw [List.take_take, Nat.min_eq_left hk]
  have hp := List.pairwise_append.mp ((List.take_append_drop k (A.take na)).symm ▸ hs : ((A.take na).take k ++ (A.take na).drop k).Pairwise le)
  rw [e1] at hp
  refine ⟨h.ha, h.hb, Nat.le_trans hk h.la, h.lb, ?_, List.pairwise_append.mpr ⟨hp.2.1, h.so, fun p hp q hq => h.ua p (List.mem_of_mem_drop hp) q hq⟩, ?_, ?_⟩
  · have e2 : A.drop k = (A.take na).drop k ++ A.drop na := by
      have : A.drop k = (A.take na ++ A.drop na).drop k := by rw [List.take_append_drop]
      rw [this, List.drop_append_of_le_length (by rw [List.length_take, Nat.min_eq_left h.la]; exact hk)]
    rw [e2, List.append_assoc]
    exact List.Perm.append_left _ h.pm
  · intro p hpm q hq
    rcases List.mem_append.mp hq with hq | hq
    · exact hp.2.2 p hpm q hq
    · rw [← e1] at hpm
      exact h.ua p (List.mem_of_mem_take hpm) q hq
  · intro p hpm q hq
    rcases List.mem_append.mp hq with hq | hq
    · exact hle p hpm q hq
    · exact h.ub p hpm q hq
theorem HInv.finA {A B R : List α} {na nb : Nat} (h : HInv le A B R na nb) (hle : ∀ p ∈ A.take na, ∀ q ∈ B.take nb, le p q) : Merged le A B (A.take na ++ B.take nb ++ R) := by
  refine ⟨?_, ?_⟩
  · rw [List.append_assoc]
    have e : A ++ B = (A.take na ++ A.drop na) ++ (B.take nb ++ B.drop nb) := by rw [List.take_append_drop, List.take_append_drop]
    rw [e, List.append_assoc (A.take na)]
    refine List.Perm.append_left _ ?_
    refine (h.pm.append_left (B.take nb)).trans ?_
    rw [← List.append_assoc, ← List.append_assoc]
    exact List.Perm.append_right _ List.perm_append_comm
  · rw [List.append_assoc]
    refine List.pairwise_append.mpr ⟨h.ha.sublist (List.take_sublist _ _), List.pairwise_append.mpr ⟨h.hb.sublist (List.take_sublist _ _), h.so, fun p hp q hq => h.ub p hp q hq⟩, fun p hp q hq => ?_⟩
    rcases List.mem_append.mp hq with hq | hq
    · exact hle p hp q hq
    · exact h.ua p hp q hq
theorem HInv.finB {A B R : List α} {na nb : Nat} (h : HInv le A B R na nb) (hle : ∀ p ∈ B.take nb, ∀ q ∈ A.take na, le p q) : Merged le A B (B.take nb ++ A.take na ++ R) := by
  have := h.symm.finA hle
  exact ⟨this.1.trans List.perm_append_comm, this.2⟩
end
section
variable {κ : PyProof.Rows.KeyKind} {a b out : Array Keyed} {na nb : Nat} {left : Bool}
theorem take_snoc {a : Array Keyed} {i : Nat} (h : i < a.size) : (a.toList.take (i + 1)).drop i = [a[i]] := by
  rw [List.take_add_one, List.drop_append_of_le_length (by rw [List.length_take, Array.length_toList]; lia), List.drop_of_length_le (by rw [List.length_take]; lia)]
  simp [h]
theorem ext_rev (a : Array Keyed) (i k : Nat) : ((a.extract i k).reverse).toList.reverse = (a.toList.take k).drop i := by
  rw [Array.toList_reverse, List.reverse_reverse, Array.toList_extract, List.extract_eq_take_drop, List.drop_take]
theorem ext_front (a : Array Keyed) (k : Nat) : (a.extract 0 k).toList = a.toList.take k := by
  rw [Array.toList_extract, List.extract_eq_take_drop]; simp
theorem hpushA (h : HInv (leK κ) a.toList b.toList out.toList.reverse (na + 1) nb) (hi : na < a.size) (hle : ∀ p ∈ b.toList.take nb, leK κ p a[na]) : HInv (leK κ) a.toList b.toList (out.push a[na]).toList.reverse na nb := by
  have := h.addA na (by lia) (by rw [take_snoc hi]; intro p hp q hq; rw [List.mem_singleton.mp hq]; exact hle p hp)
  rw [take_snoc hi] at this
  rw [Array.toList_push, List.reverse_append]; exact this
theorem hpushB (h : HInv (leK κ) a.toList b.toList out.toList.reverse na (nb + 1)) (hi : nb < b.size) (hle : ∀ p ∈ a.toList.take na, leK κ p b[nb]) : HInv (leK κ) a.toList b.toList (out.push b[nb]).toList.reverse na nb :=
  (hpushA h.symm hi hle).symm
theorem hextA {k : Nat} (h : HInv (leK κ) a.toList b.toList out.toList.reverse na nb) (hk : k ≤ na) (hle : ∀ p ∈ b.toList.take nb, ∀ q ∈ (a.toList.take na).drop k, leK κ p q) :
    HInv (leK κ) a.toList b.toList (out ++ (a.extract k na).reverse).toList.reverse k nb := by
  rw [Array.toList_append, List.reverse_append, ext_rev]
  exact h.addA k hk hle
theorem hextB {k : Nat} (h : HInv (leK κ) a.toList b.toList out.toList.reverse na nb) (hk : k ≤ nb) (hle : ∀ p ∈ a.toList.take na, ∀ q ∈ (b.toList.take nb).drop k, leK κ p q) :
    HInv (leK κ) a.toList b.toList (out ++ (b.extract k nb).reverse).toList.reverse na k := (hextA h.symm hk hle).symm
theorem hdone (h : HInv (leK κ) a.toList b.toList out.toList.reverse na nb) (he : na = 0 ∨ nb = 0) : Merged (leK κ) a.toList b.toList (a.extract 0 na ++ b.extract 0 nb ++ out.reverse).toList := by
  rw [Array.toList_append, Array.toList_append, ext_front, ext_front, Array.toList_reverse]
  refine h.finA ?_
  rcases he with rfl | rfl
  · intro p hp; cases hp
  · intro p _ q hq; cases hq
theorem last_le (sa : a.toList.Pairwise (leK κ)) {i : Nat} (h : i < a.size) : ∀ p ∈ a.toList.take (i + 1), leK κ p a[i] := by
  intro p hp
  obtain ⟨j, hj, rfl⟩ := List.mem_iff_getElem.mp hp
  have hj2 : j ≤ i := by simp at hj; lia
  have := drop_mono sa hj2 h
  rw [kk_at h, kk_at (by lia)] at this
  simpa [leK] using this
theorem first_le (sa : a.toList.Pairwise (leK κ)) (h : 0 < a.size) {n : Nat} : ∀ p ∈ a.toList.take n, leK κ a[0] p := fun p hp => head_le sa h p (by simpa using List.mem_of_mem_take hp)
theorem hfirst (h : HInv (leK κ) a.toList b.toList out.toList.reverse na 1) (sa : a.toList.Pairwise (leK κ)) (ha : 0 < a.size) (hb : 0 < b.size) (hfst : κ.klt (KK κ b 0) (KK κ a 0)) : Merged (leK κ) a.toList b.toList (b.extract 0 1 ++ a.extract 0 na ++ out.reverse).toList := by
  rw [Array.toList_append, Array.toList_append, ext_front, ext_front, Array.toList_reverse]
  refine h.finB ?_
  intro p hp q hq
  have e := take_snoc hb
  rw [Nat.zero_add, List.drop_zero] at e
  rw [e] at hp
  obtain rfl := List.mem_singleton.mp hp
  rw [kk_at ha, kk_at hb] at hfst
  exact leK_trans (KeyOrd.kle_of_klt hfst) (first_le sa ha q hq)
theorem hgal_ge {kk : Keyed} {n k : Nat} (hn : n ≤ a.size) (h : ∀ i, k ≤ i → i < n → beyondK κ left (kyK κ kk) a (0 + i) = false) : ∀ p ∈ (a.toList.take n).drop k, leK κ kk p := by
  intro p hp
  obtain ⟨i, hi, rfl⟩ := List.mem_iff_getElem.mp hp
  have hik : k + i < n := by simp at hi; lia
  have := h (k + i) (by lia) hik
  unfold beyondK at this
  rw [kk_at (by lia)] at this
  have e : ((a.toList.take n).drop k)[i] = a[0 + (k + i)]'(by lia) := by simp
  rw [e]
  cases left with
  | true => simpa [leK, KeyOrd.kle] using this
  | false =>
    simp only [Bool.false_eq_true, if_false, Bool.not_eq_false'] at this
    exact KeyOrd.kle_of_klt this
theorem hgal_le {kk : Keyed} {k : Nat} (hk : k ≤ a.size) (h : ∀ i, i < k → beyondK κ left (kyK κ kk) a (0 + i) = true) : ∀ p ∈ a.toList.take k, leK κ p kk := by
  have := gal_le (a := a) (left := left) (kk := kk) (base := 0) (k := k) (by lia) h
  simpa using this
end
end Mine
end

/- part SortF -/
section
open PySem PySem.W PyProof.Rows PySem.Calls PySem.Spec
set_option maxRecDepth 100000
namespace Mine
/- how far a merge from the right has come -/
structure HiB (κ : PyProof.Rows.KeyKind) (a b out : Array Keyed) (na nb n : Nat) : Prop where
  iv : HInv (leK κ) a.toList b.toList out.toList.reverse na nb
  b1 : 1 ≤ na
  b2 : 2 ≤ nb
  b3 : n + na + nb ≤ a.size + b.size
section
variable {κ : PyProof.Rows.KeyKind} {a b out : Array Keyed} {na nb n k : Nat}
theorem HiB.la (B : HiB κ a b out na nb n) : na ≤ a.size := by have := B.iv.la; rwa [Array.length_toList] at this
theorem HiB.lb (B : HiB κ a b out na nb n) : nb ≤ b.size := by have := B.iv.lb; rwa [Array.length_toList] at this
theorem HiB.hia (B : HiB κ a b out na nb n) : na - 1 < a.size := Nat.lt_of_lt_of_le (Nat.sub_lt B.b1 Nat.one_pos) B.la
theorem HiB.hib (B : HiB κ a b out na nb n) : nb - 1 < b.size := Nat.lt_of_lt_of_le (Nat.sub_lt (Nat.le_trans (by decide) B.b2) Nat.one_pos) B.lb
theorem HiB.weak (B : HiB κ a b out na nb n) {m : Nat} (h : m ≤ n) : HiB κ a b out na nb m := ⟨B.iv, B.b1, B.b2, by have := B.b3; lia⟩
theorem HiB.ivA (B : HiB κ a b out na nb n) (h : ∀ p ∈ b.toList.take nb, leK κ p (a[na - 1]'B.hia)) : HInv (leK κ) a.toList b.toList (out.push (a[na - 1]'B.hia)).toList.reverse (na - 1) nb :=
  hpushA (by rw [Nat.sub_add_cancel B.b1]; exact B.iv) B.hia h
theorem HiB.ivB (B : HiB κ a b out na nb n) (h : ∀ p ∈ a.toList.take na, leK κ p (b[nb - 1]'B.hib)) : HInv (leK κ) a.toList b.toList (out.push (b[nb - 1]'B.hib)).toList.reverse na (nb - 1) :=
  hpushB (by rw [Nat.sub_add_cancel (Nat.le_trans (by decide) B.b2)]; exact B.iv) B.hib h
theorem HiB.aDone (B : HiB κ a b out na nb n) (h : ∀ p ∈ b.toList.take nb, leK κ p (a[na - 1]'B.hia)) (e : na - 1 = 0) : Merged (leK κ) a.toList b.toList (a.extract 0 (na - 1) ++ b.extract 0 nb ++ (out.push (a[na - 1]'B.hia)).reverse).toList :=
  hdone (B.ivA h) (.inl e)
theorem HiB.stepA (B : HiB κ a b out na nb n) (h : ∀ p ∈ b.toList.take nb, leK κ p (a[na - 1]'B.hia)) (e : ¬na - 1 = 0) : HiB κ a b (out.push (a[na - 1]'B.hia)) (na - 1) nb (n + 1) :=
  ⟨B.ivA h, Nat.pos_of_ne_zero e, B.b2, by have := B.b3; have := B.b1; lia⟩
theorem hfirst1 (C : Mrg κ a b) (h : HInv (leK κ) a.toList b.toList out.toList.reverse na nb) (e : nb = 1) : Merged (leK κ) a.toList b.toList (b.extract 0 nb ++ a.extract 0 na ++ out.reverse).toList := by
  subst e; exact hfirst h C.sa C.h1 C.h2 C.fst
theorem HiB.bDone (C : Mrg κ a b) (B : HiB κ a b out na nb n) (h : ∀ p ∈ a.toList.take na, leK κ p (b[nb - 1]'B.hib)) (e : nb - 1 = 1) : Merged (leK κ) a.toList b.toList (b.extract 0 (nb - 1) ++ a.extract 0 na ++ (out.push (b[nb - 1]'B.hib)).reverse).toList :=
  hfirst1 C (B.ivB h) e
theorem HiB.stepB (B : HiB κ a b out na nb n) (h : ∀ p ∈ a.toList.take na, leK κ p (b[nb - 1]'B.hib)) (e : ¬nb - 1 = 1) : HiB κ a b (out.push (b[nb - 1]'B.hib)) na (nb - 1) (n + 1) :=
  ⟨B.ivB h, B.b1, by have := B.b2; lia, by have := B.b3; have := B.b2; lia⟩
theorem HiB.lastB (C : Mrg κ a b) (B : HiB κ a b out na nb n) : ∀ p ∈ b.toList.take nb, leK κ p (b[nb - 1]'B.hib) := by
  have := last_le C.sb B.hib
  rwa [Nat.sub_add_cancel (Nat.le_trans (by decide) B.b2)] at this
theorem HiB.lastA (C : Mrg κ a b) (B : HiB κ a b out na nb n) : ∀ p ∈ a.toList.take na, leK κ p (a[na - 1]'B.hia) := by
  have := last_le C.sa B.hia
  rwa [Nat.sub_add_cancel B.b1] at this
theorem HiB.extA (C : Mrg κ a b) (B : HiB κ a b out na nb n) (k1 : k ≤ na) (g : ∀ q ∈ (a.toList.take na).drop k, leK κ (b[nb - 1]'B.hib) q) : HInv (leK κ) a.toList b.toList (out ++ (a.extract k na).reverse).toList.reverse k nb :=
  hextA B.iv k1 fun p hp q hq => leK_trans (B.lastB C p hp) (g q hq)
theorem HiB.extB (C : Mrg κ a b) (B : HiB κ a b out na nb n) (k1 : k ≤ nb) (g : ∀ q ∈ (b.toList.take nb).drop k, leK κ (a[na - 1]'B.hia) q) : HInv (leK κ) a.toList b.toList (out ++ (b.extract k nb).reverse).toList.reverse na k :=
  hextB B.iv k1 fun p hp q hq => leK_trans (B.lastA C p hp) (g q hq)
end
inductive H0 (κ : PyProof.Rows.KeyKind) (a b : Array Keyed) (st : SortSt) (n : Nat) : Option (Array Keyed) × Nat × Nat × Array Keyed × Nat → SortSt → Prop
  | go {out : Array Keyed} {na nb g : Nat} {st' : SortSt} (sg : SameG st st') (B : HiB κ a b out na nb n) : H0 κ a b st n (none, na, nb, out, g) st'
inductive E0 (κ : PyProof.Rows.KeyKind) (a b : Array Keyed) (st : SortSt) : Option (Array Keyed) × Nat × Nat × Array Keyed × Nat → SortSt → Prop
  | fin {r : Array Keyed} {t : Nat × Nat × Array Keyed × Nat} {st' : SortSt} (sg : SameG st st') (m : Merged (leK κ) a.toList b.toList r.toList) : E0 κ a b st (some r, t) st'
inductive H1 (κ : PyProof.Rows.KeyKind) (a b : Array Keyed) (st : SortSt) (n : Nat) : Option (Array Keyed) × Nat × Nat × Array Keyed × Nat × Nat → SortSt → Prop
  | go {out : Array Keyed} {na nb g c : Nat} {st' : SortSt} (sg : SameG st st') (B : HiB κ a b out na nb n) : H1 κ a b st n (none, na, nb, out, g, c) st'
inductive E1 (κ : PyProof.Rows.KeyKind) (a b : Array Keyed) (st : SortSt) (n : Nat) : Option (Array Keyed) × Nat × Nat × Array Keyed × Nat × Nat → SortSt → Prop
  | go {out : Array Keyed} {na nb g c : Nat} {st' : SortSt} (sg : SameG st st') (B : HiB κ a b out na nb n) : E1 κ a b st n (none, na, nb, out, g, c) st'
  | fin {r : Array Keyed} {t : Nat × Nat × Array Keyed × Nat × Nat} {st' : SortSt} (sg : SameG st st') (m : Merged (leK κ) a.toList b.toList r.toList) : E1 κ a b st n (some r, t) st'
inductive H2 (κ : PyProof.Rows.KeyKind) (a b : Array Keyed) (st : SortSt) (n : Nat) : Option (Array Keyed) × Nat × Nat × Array Keyed × Nat × Nat × Nat → SortSt → Prop
  | go {out : Array Keyed} {na nb g c d : Nat} {st' : SortSt} (sg : SameG st st') (B : HiB κ a b out na nb n) : H2 κ a b st n (none, na, nb, out, g, c, d) st'
inductive E2 (κ : PyProof.Rows.KeyKind) (a b : Array Keyed) (st : SortSt) (n : Nat) : Option (Array Keyed) × Nat × Nat × Array Keyed × Nat × Nat × Nat → SortSt → Prop
  | go {out : Array Keyed} {na nb g c d : Nat} {st' : SortSt} (sg : SameG st st') (B : HiB κ a b out na nb n) : E2 κ a b st n (none, na, nb, out, g, c, d) st'
  | fin {r : Array Keyed} {t : Nat × Nat × Array Keyed × Nat × Nat × Nat} {st' : SortSt} (sg : SameG st st') (m : Merged (leK κ) a.toList b.toList r.toList) : E2 κ a b st n (some r, t) st'
/- what a turn of the galloping loop leaves -/
noncomputable abbrev PH2 (κ : PyProof.Rows.KeyKind) (a b : Array Keyed) (st : SortSt) (n m : Nat) (r : ForInStep (Option (Array Keyed) × Nat × Nat × Array Keyed × Nat × Nat × Nat)) (st' : SortSt) : Prop := match r with
  | .done c => E2 κ a b st n c st'
  | .yield c => H2 κ a b st m c st'
section
variable {prog : Program} {w : World} {A : Around} {E : Value → Shared → Prop} {s : Shared} {κ : PyProof.Rows.KeyKind}
theorem mergeHi_ok (hO : κ.OneLt) {a b : Array Keyed} {st : SortSt} {Q : Array Keyed → SortSt → Prop} (hk : PyProof.Rows.kindOf st = oneType') (C : Mrg κ a b)
    (h : ∀ r st', Merged (leK κ) a.toList b.toList r.toList → SameG st st' → Q r st') : wpS (model prog w) A E s (mergeHi' a b) Q st := by
  refine wpS_bind (wpS_lift (wpAny_rule ⟨rfl, ?_⟩))
  have hn : a.size - 1 < a.size := Nat.sub_lt C.h1 Nat.one_pos
  refine wpS_bind (wpS_elem (getElem?_pos a (a.size - 1) hn) ?_)
  have i0 : HInv (leK κ) a.toList b.toList (#[a[a.size - 1]'hn] : Array Keyed).toList.reverse (a.size - 1) b.size := hpushA (out := #[]) (by have z := HInv.nil C.sa C.sb; rw [Array.length_toList, Array.length_toList] at z; rw [Nat.sub_add_cancel C.h1]; exact z) hn (fun p hp => by
    obtain ⟨j, hj, rfl⟩ := List.mem_iff_getElem.mp (List.mem_of_mem_take hp)
    have := C.last j (by simpa using hj)
    rw [kk_at (by simpa using hj), kk_at hn] at this
    have := KeyOrd.kle_of_klt this
    simpa [leK] using this)
  refine wpS_eqn (fun e1 => wpS_pure (h _ _ (hdone i0 (.inl e1)) (SameG.refl _))) (fun e1 => ?_)
  refine wpS_eqn (fun e2 => wpS_pure (h _ _ (hfirst1 C i0 e2) (SameG.refl _))) (fun e2 => ?_)
  have B0 : HiB κ a b #[a[a.size - 1]'hn] (a.size - 1) b.size 1 := ⟨i0, Nat.pos_of_ne_zero e1, by have := C.h2; change ¬ b.size = 1 at e2; lia, by have := C.h1; lia⟩
  refine wpS_bind (wpS_get ?_)
  refine wpS_bind (wpS_mono (wpS_forRange (I := fun x c st' => H0 κ a b st (x + 1) c st') (Q := fun c st' => E0 κ a b st c st') ?step ?fin (H0.go (SameG.refl _) B0)) ?post)
  case fin =>
    rintro c st' ⟨sg, B⟩
    have := B.b1; have := B.b2; have := B.b3
    lia
  case post =>
    rintro c st' ⟨sg, m⟩
    exact wpS_pure (h _ _ m sg)
  case step =>
    rintro x c st1 _ hx ⟨sg, B⟩
    refine wpS_bind (wpS_mono (wpS_forRange (I := fun y c st' => H1 κ a b st (x + 1) c st') (Q := fun c st' => E1 κ a b st (x + 1) c st') ?step1 ?fin1 (H1.go sg B)) ?post1)
    case fin1 =>
      rintro c st' ⟨sg, B⟩
      exact E1.go sg B
    case step1 =>
      rintro y c st' _ hy ⟨sg, B⟩
      refine wpS_bind (wpS_elem (getElem?_pos b _ B.hib) ?_)
      refine wpS_bind (wpS_elem (getElem?_pos a _ B.hia) ?_)
      refine wpS_bind (wpS_ltV hO (sg.1.trans hk) (key_at C.kb B.hib) (key_at C.ka B.hia) ?_)
      refine wpS_ite (fun hw => ?_) (fun hw => ?_)
      · refine wpS_bind (wpS_elem (getElem?_pos a _ B.hia) ?_)
        have hle := fun p hp => leK_trans (B.lastB C p hp) (KeyOrd.kle_of_klt hw)
        refine wpS_eqn (fun e => wpS_pure (E1.fin sg (B.aDone hle e))) (fun e => ?_)
        exact wpS_ite (fun _ => wpS_pure (E1.go sg ((B.stepA hle e).weak (Nat.le_succ _)))) (fun _ => wpS_pure (H1.go sg ((B.stepA hle e).weak (Nat.le_succ _))))
      · refine wpS_bind (wpS_elem (getElem?_pos b _ B.hib) ?_)
        have hle : ∀ p ∈ a.toList.take _, leK κ p (b[_]'B.hib) := fun p hp => leK_trans (B.lastA C p hp) (show κ.kle _ _ from (Bool.not_eq_true _).mp hw)
        refine wpS_eqn (fun e => wpS_pure (E1.fin sg (B.bDone C hle e))) (fun e => ?_)
        exact wpS_ite (fun _ => wpS_pure (E1.go sg ((B.stepB hle e).weak (Nat.le_succ _)))) (fun _ => wpS_pure (H1.go sg ((B.stepB hle e).weak (Nat.le_succ _))))
    case post1 =>
      rintro c st' (⟨sg, B⟩ | ⟨sg, m⟩)
      case fin => exact wpS_pure (E0.fin sg m)
      refine wpS_bind (wpS_lift (wpAny_rule ⟨rfl, ?_⟩))
      refine wpS_bind (wpS_mono (wpS_forRange (I := fun y c st' => H2 κ a b st (x + 1 + min y 1) c st') (Q := fun c st' => E2 κ a b st (x + 2) c st') ?step2 ?fin2 (H2.go sg (B.weak (by lia)))) ?post2)
      case fin2 =>
        rintro c st' ⟨sg, B⟩
        exact E2.go sg (B.weak (by have := C.h1; lia))
      case post2 =>
        rintro c st' (⟨sg, B⟩ | ⟨sg, m⟩)
        case fin => exact wpS_pure (E0.fin sg m)
        refine wpS_bind (wpS_setMin fun st2 sg2 => ?_)
        exact wpS_pure (H0.go (sg.trans sg2) B)
      case step2 =>
        rintro y c st' _ hy ⟨sg, B⟩
        rename_i out na nb g ac bc
        extract_lets
        rename_i jp mg
        suffices hj : ∀ (g2 : Nat) (st2 : SortSt), SameG st st2 → wpS (model prog w) A E s (jp () g2) (PH2 κ a b st (x + 2) (x + 1 + min (y + 1) 1)) st2 from wpS_mono (wpS_ite (fun _ => hj _ _ sg) (fun _ => hj _ _ sg)) (fun r st' hp => by cases r <;> exact hp)
        intro g2 st2 sg2
        refine wpS_bind (wpS_setMin fun st3 sg3 => ?_)
        replace sg2 := sg2.trans sg3
        refine wpS_bind (wpS_elem (getElem?_pos b (nb - 1) B.hib) ?_)
        refine wpS_bind (gallop_ok hO (sg2.1.trans hk) (key_at C.kb B.hib) C.ka (by rw [Nat.zero_add]; exact B.la) (Nat.sub_lt B.b1 Nat.one_pos) (gal_mono false C.sa (by rw [Nat.zero_add]; exact B.la)) fun k k1 k2 k3 => ?_)
        have k1 : k ≤ na := k1
        have g1 := hgal_le (a := a) (left := false) (kk := b[nb - 1]'B.hib) (Nat.le_trans k1 B.la) k2
        have g2 := hgal_ge (a := a) (left := false) (kk := b[nb - 1]'B.hib) B.la k3
        dsimp -zeta -zetaHave -zetaUnused only
        extract_lets kk ac2 jp2
        suffices hj2 : ∀ (na1 : Nat) (out1 : Array Keyed) (B1 : HiB κ a b out1 na1 nb (x + 1 + min y 1)), (∀ p ∈ a.toList.take na1, leK κ p (b[nb - 1]'B.hib)) → wpS (model prog w) A E s (jp2 () na1 out1) (PH2 κ a b st (x + 2) (x + 1 + min (y + 1) 1)) st3 by
          have iv1 := B.extA C k1 g2
          refine wpS_ite (fun _ => wpS_eqn (fun e => wpS_pure (E2.fin sg2 (hdone iv1 (.inl e)))) fun e => hj2 _ _ ⟨iv1, Nat.pos_of_ne_zero e, B.b2, Nat.le_trans (Nat.add_le_add_right (Nat.add_le_add_left k1 _) _) B.b3⟩ g1) (fun e => ?_)
          have e0 : k = na := Nat.le_antisymm k1 (Nat.sub_eq_zero_iff_le.mp (Nat.eq_zero_of_not_pos e))
          subst e0
          exact hj2 _ _ B g1
        intro na1 out1 B1 h1
        refine wpS_bind (wpS_elem (getElem?_pos b (nb - 1) B.hib) ?_)
        refine wpS_eqn (fun e => wpS_pure (E2.fin sg2 (B1.bDone C h1 e))) (fun e => ?_)
        have B2 := B1.stepB h1 e
        refine wpS_bind (wpS_elem (getElem?_pos a (na1 - 1) B2.hia) ?_)
        refine wpS_bind (gallop_ok hO (sg2.1.trans hk) (key_at C.ka B2.hia) C.kb (by rw [Nat.zero_add]; exact B2.lb) (Nat.sub_lt (Nat.le_trans (by decide) B2.b2) Nat.one_pos) (gal_mono true C.sb (by rw [Nat.zero_add]; exact B2.lb)) fun k' k1' k2' k3' => ?_)
        have k1' : k' ≤ nb - 1 := k1'
        have g1' := hgal_le (a := b) (left := true) (kk := a[na1 - 1]'B2.hia) (Nat.le_trans k1' B2.lb) k2'
        have g2' := hgal_ge (a := b) (left := true) (kk := a[na1 - 1]'B2.hia) B2.lb k3'
        dsimp -zeta -zetaHave -zetaUnused only
        extract_lets kk2 bc2 na2 jp3
        suffices hj3 : ∀ (nb3 : Nat) (out3 : Array Keyed) (B3 : HiB κ a b out3 na1 nb3 (x + 1 + min y 1 + 1)), (∀ p ∈ b.toList.take nb3, leK κ p (a[na1 - 1]'B3.hia)) → wpS (model prog w) A E s (jp3 () nb3 out3) (PH2 κ a b st (x + 2) (x + 1 + min (y + 1) 1)) st3 by
          have iv3 := B2.extB C k1' g2'
          refine wpS_ite (fun _ => wpS_eqn (fun e => wpS_pure (E2.fin sg2 (hfirst1 C iv3 e))) fun e => wpS_eqn (fun e' => wpS_pure (E2.fin sg2 (hdone iv3 (.inr e')))) fun e' => hj3 _ _ ⟨iv3, B2.b1, ?_, Nat.le_trans (Nat.add_le_add_left k1' _) B2.b3⟩ g1') (fun e => ?_)
          · exact Nat.lt_of_le_of_ne (Nat.pos_of_ne_zero e') (Ne.symm e)
          · have e0 : k' = nb - 1 := Nat.le_antisymm k1' (Nat.sub_eq_zero_iff_le.mp (Nat.eq_zero_of_not_pos e))
            subst e0
            exact hj3 _ _ B2 g1'
        intro nb3 out3 B3 h3
        refine wpS_bind (wpS_elem (getElem?_pos a (na1 - 1) B3.hia) ?_)
        refine wpS_eqn (fun e => wpS_pure (E2.fin sg2 (B3.aDone h3 e))) (fun e => ?_)
        exact wpS_ite (fun _ => wpS_pure (E2.go sg2 ((B3.stepA h3 e).weak (prg1 x y)))) (fun _ => wpS_pure (H2.go sg2 ((B3.stepA h3 e).weak (prg2 x y))))
end
end Mine
end

/- part SortG -/
section
open PySem PySem.W PyProof.Rows PySem.Calls PySem.Spec
set_option maxRecDepth 100000
namespace Mine
section
variable {prog : Program} {w : World} {A : Around} {E : Value → Shared → Prop} {s : Shared} {κ : PyProof.Rows.KeyKind}
theorem wpS_set {st st1 : SortSt} {Q : PUnit → SortSt → Prop} (h : Q ⟨⟩ st1) : wpS (model prog w) A E s (set st1 : StateT SortSt Sem PUnit) Q st := by
  unfold wpS; rw [StateT.run_set]; exact wpAny_pure ⟨rfl, h⟩
theorem gal_mono' (left : Bool) {kk : κ.α} {a : Array Keyed} {base n : Nat} (hm : ∀ i j, base ≤ i → i ≤ j → j < base + n → κ.kle (KK κ a i) (KK κ a j)) :
    ∀ i j, i ≤ j → j < n → beyondK κ left kk a (base + j) = true → beyondK κ left kk a (base + i) = true := by
  intro i j hij hj h
  have m := hm (base + i) (base + j) (by lia) (by lia) (by lia)
  unfold beyondK at h ⊢
  cases left with
  | true =>
    simp only [if_true] at h ⊢
    exact KeyOrd.klt_of_kle_of_klt m h
  | false =>
    simp only [Bool.false_eq_true, if_false, Bool.not_eq_true'] at h ⊢
    exact KeyOrd.kle_trans (show κ.kle _ _ from m) (show κ.kle _ _ from h)
theorem seg1 {a : Array Keyed} {lo : Nat} (h1 : lo ≤ a.size) (s1 : (a.toList.take lo).Pairwise (leK κ)) : ∀ i j, i ≤ j → j < lo → κ.kle (KK κ a i) (KK κ a j) := by
  intro i j hij hj
  rcases Nat.lt_or_eq_of_le hij with hlt | rfl
  · have := List.pairwise_iff_getElem.mp s1 i j (by simp; lia) (by simp; lia) hlt
    rw [kk_at (by lia), kk_at (by lia)]
    simpa [leK] using this
  · exact KeyOrd.kle_refl _
theorem seg2 {a : Array Keyed} {lo : Nat} (s2 : (a.toList.drop lo).Pairwise (leK κ)) : ∀ i j, lo ≤ i → i ≤ j → j < a.size → κ.kle (KK κ a i) (KK κ a j) := by
  intro i j hl hij hj
  rcases Nat.lt_or_eq_of_le hij with hlt | rfl
  · have := List.pairwise_iff_getElem.mp s2 (i - lo) (j - lo) (by simp; lia) (by simp; lia) (by lia)
    rw [kk_at (by lia), kk_at (by omega)]
    have e1 : lo + (i - lo) = i := by lia
    have e2 : lo + (j - lo) = j := by lia
    simpa [leK, e1, e2] using this
  · exact KeyOrd.kle_refl _
end
end Mine
end

/- part SortH -/
section
open PySem PySem.W PyProof.Rows PySem.Calls PySem.Spec
namespace Mine
/- the merged items are written back -/
theorem foldl_set {α : Type} : ∀ (r : List α) (c sa : Nat) (a : Array α), sa + c + r.length ≤ a.size →
    ((r.zipIdx c).foldl (fun a (x : α × Nat) => a.setIfInBounds (sa + x.2) x.1) a).toList = a.toList.take (sa + c) ++ r ++ a.toList.drop (sa + c + r.length)
  | [], c, sa, a, h => by simp
  | x :: r, c, sa, a, h => by
    rw [List.zipIdx_cons, List.foldl_cons, foldl_set r (c + 1) sa _ (by simp at h ⊢; lia)]
    have hl : sa + c < a.toList.length := by simp at h ⊢; lia
    rw [Array.toList_setIfInBounds, ← Nat.add_assoc sa c 1, List.take_set, List.drop_set, List.length_cons]
    rw [if_pos (by lia), List.take_add_one, List.set_append]
    rw [if_neg (by rw [List.length_take]; lia), List.length_take, Nat.min_eq_left (by lia)]
    rw [List.getElem?_eq_getElem hl, show sa + (x, c).snd - (sa + c) = 0 from Nat.sub_self _, show sa + c + 1 + r.length = sa + c + (r.length + 1) by lia]
    simp
end Mine
end

/- part SortJ -/
section
open PySem PySem.W PyProof.Rows PySem.Calls PySem.Spec
set_option maxRecDepth 100000
namespace Mine
section
theorem merged_in {α : Type} {le : α → α → Prop} {P X Y T R : List α} (h1 : (P ++ X).Pairwise le) (h2 : (Y ++ T).Pairwise le) (hP : ∀ p ∈ P, ∀ q ∈ Y ++ T, le p q) (hT : ∀ x ∈ X, ∀ t ∈ T, le x t) (m : Merged le X Y R) :
    (P ++ R ++ T).Perm (P ++ X ++ (Y ++ T)) ∧ (P ++ R ++ T).Pairwise le := by
  obtain ⟨mp, ms⟩ := m
  have a1 := List.pairwise_append.mp h1
  have a2 := List.pairwise_append.mp h2
  refine ⟨?_, ?_⟩
  · refine ((mp.append_left P).append_right T).trans ?_
    simp only [List.append_assoc]
    exact .refl _
  · refine List.pairwise_append.mpr ⟨List.pairwise_append.mpr ⟨a1.1, ms, fun p hp q hq => ?_⟩, a2.2.1, fun p hp q hq => ?_⟩
    · rcases List.mem_append.mp (mp.mem_iff.mp hq) with hq | hq
      · exact a1.2.2 p hp q hq
      · exact hP p hp q (List.mem_append_left _ hq)
    · rcases List.mem_append.mp hp with hp | hp
      · exact hP p hp q (List.mem_append_right _ hq)
      · rcases List.mem_append.mp (mp.mem_iff.mp hp) with hp | hp
        · exact hT p hp q hq
        · exact a2.2.2 p hp q hq
variable {prog : Program} {w : World} {A : Around} {E : Value → Shared → Prop} {s : Shared} {κ : PyProof.Rows.KeyKind}
theorem pair_of_KK {a : Array Keyed} (h : ∀ i j, i < j → j < a.size → κ.kle (KK κ a i) (KK κ a j)) : a.toList.Pairwise (leK κ) := by
  rw [List.pairwise_iff_getElem]
  intro i j hi hj hij
  have := h i j hij (by simpa using hj)
  rw [kk_at (by simpa using hi), kk_at (by simpa using hj)] at this
  simpa [leK] using this
theorem whole {a : Array Keyed} {lo : Nat} (h0 : 0 < lo) (_h1 : lo < a.size) (m1 : ∀ i j, i ≤ j → j < lo → κ.kle (KK κ a i) (KK κ a j)) (m2 : ∀ i j, lo ≤ i → i ≤ j → j < a.size → κ.kle (KK κ a i) (KK κ a j)) (hc : κ.kle (KK κ a (lo - 1)) (KK κ a lo)) : a.toList.Pairwise (leK κ) :=
  pair_of_KK fun i j hij hj => by
    by_cases c1 : j < lo
    · exact m1 i j (by lia) c1
    by_cases c2 : lo ≤ i
    · exact m2 i j c2 (by lia) hj
    · exact KeyOrd.kle_trans (m1 i (lo - 1) (by lia) (by lia)) (KeyOrd.kle_trans hc (m2 lo j (Nat.le_refl _) (by lia) hj))
theorem ext_size {arr : Array Keyed} {i j : Nat} (h : j ≤ arr.size) : (arr.extract i j).size = j - i := by rw [Array.size_extract, Nat.min_eq_left h]
theorem merge_fin {arr : Array Keyed} {lo k nb : Nat} {r : List Keyed} (k1 : k ≤ lo) (h1 : lo < arr.size) (n1 : lo + nb ≤ arr.size) (s1 : (arr.toList.take lo).Pairwise (leK κ)) (s2 : (arr.toList.drop lo).Pairwise (leK κ))
    (c1 : ∀ p ∈ arr.toList.take k, leK κ p arr[lo]) (c2 : ∀ p ∈ arr.toList.drop (lo + nb), leK κ (arr[lo - 1]'(by lia)) p) (m : Merged (leK κ) (arr.extract (0 + k) lo).toList (arr.extract lo (lo + nb)).toList r) :
    ((r.zipIdx).foldl (fun a (x : Keyed × Nat) => a.setIfInBounds (0 + k + x.2) x.1) arr).Perm arr ∧ ((r.zipIdx).foldl (fun a (x : Keyed × Nat) => a.setIfInBounds (0 + k + x.2) x.1) arr).toList.Pairwise (leK κ) := by
  have hr : r.length = (lo - k) + nb := by
    rw [m.1.length_eq, List.length_append, Array.length_toList, Array.length_toList, ext_size (Nat.le_of_lt h1), ext_size n1, Nat.zero_add, Nat.add_sub_cancel_left]
  have hks : 0 + k + 0 + (lo - k + nb) = lo + nb := by rw [Nat.add_zero, Nat.zero_add, ← Nat.add_assoc, Nat.add_sub_cancel' k1]
  have e := foldl_set r 0 (0 + k) arr (by rw [hr, hks]; exact n1)
  rw [hr, hks, show 0 + k + 0 = k from Nat.zero_add k] at e
  have ex : (arr.extract (0 + k) lo).toList = (arr.toList.drop k).take (lo - k) := by
    have := ext_list arr k (lo - k)
    rw [Nat.add_sub_cancel' k1] at this
    rw [Nat.zero_add]; exact this
  rw [ext_list, ex] at m
  have e1 : arr.toList.take k ++ (arr.toList.drop k).take (lo - k) = arr.toList.take lo := by
    rw [← List.take_add, Nat.add_sub_cancel' k1]
  have e2 : (arr.toList.drop lo).take nb ++ arr.toList.drop (lo + nb) = arr.toList.drop lo := by
    rw [← List.drop_drop]; exact List.take_append_drop _ _
  have lst : ∀ x ∈ arr.toList.take lo, leK κ x (arr[lo - 1]'(by lia)) := by
    intro x hx
    obtain ⟨i, hi, rfl⟩ := List.mem_iff_getElem.mp hx
    have hi' : i < lo := by simp at hi; lia
    have := seg1 (by lia) s1 i (lo - 1) (by lia) (by lia)
    rw [kk_at (by lia), kk_at (by lia)] at this
    simpa [leK] using this
  have f := merged_in (P := arr.toList.take k) (T := arr.toList.drop (lo + nb)) (by rw [e1]; exact s1) (by rw [e2]; exact s2) (fun p hp q hq => by
      rw [e2, drop_cons h1] at hq
      rw [drop_cons h1] at s2
      rcases List.mem_cons.mp hq with rfl | hq
      · exact c1 p hp
      · exact leK_trans (c1 p hp) ((List.pairwise_cons.mp s2).1 q hq))
    (fun x hx t ht => leK_trans (lst x (by rw [← e1]; exact List.mem_append_right _ hx)) (c2 t ht)) m
  rw [e1, e2, List.take_append_drop] at f
  refine ⟨Array.perm_iff_toList_perm.mpr ?_, ?_⟩
  · rw [e]; exact f.1
  · rw [e]; exact f.2
theorem KeysOf_extract {arr : Array Keyed} (ha : PyProof.Rows.KeysOf κ arr) (i j : Nat) : PyProof.Rows.KeysOf κ (arr.extract i j) := by
  intro p hp
  refine ha p ?_
  rw [Array.toList_extract, List.extract_eq_take_drop] at hp
  exact List.mem_of_mem_drop (List.mem_of_mem_take hp)
theorem KK_extract {arr : Array Keyed} {i j k : Nat} (h : i + k < j) (hj : j ≤ arr.size) : KK κ (arr.extract i j) k = KK κ arr (i + k) := by
  refine KK_congr ?_
  rw [Array.getElem?_extract]; rw [if_pos (by lia)]
theorem mergeAt_ok (hO : κ.OneLt) {st : SortSt} {lo n : Nat} {pw p2 : Nat} {Q : Bool → SortSt → Prop} (hk : PyProof.Rows.kindOf st = oneType') (hf : failedOf st = none) (hp : pendingOf st = #[(0, lo, pw), (lo, n - lo, p2)]) (ha : PyProof.Rows.KeysOf κ (arrOf st)) (hs : (arrOf st).size = n)
    (h0 : 0 < lo) (h1 : lo < n) (s1 : ((arrOf st).toList.take lo).Pairwise (leK κ)) (s2 : ((arrOf st).toList.drop lo).Pairwise (leK κ))
    (h : ∀ st', PyProof.Rows.kindOf st' = oneType' → failedOf st' = none → pendingOf st' = #[(0, n, pw)] → (arrOf st').Perm (arrOf st) → (arrOf st').toList.Pairwise (leK κ) → Q true st') : wpS (model prog w) A E s (mergeAt' 0) Q st := by
  rcases st with ⟨kind, arr, pend, mg, failed⟩
  change kind = oneType' at hk
  change failed = none at hf
  change pend = _ at hp
  change PyProof.Rows.KeysOf κ arr at ha
  change arr.size = n at hs
  change (arr.toList.take lo).Pairwise (leK κ) at s1
  change (arr.toList.drop lo).Pairwise (leK κ) at s2
  change ∀ st', PyProof.Rows.kindOf st' = oneType' → failedOf st' = none → pendingOf st' = #[(0, n, pw)] → (arrOf st').Perm arr → (arrOf st').toList.Pairwise (leK κ) → Q true st' at h
  subst hk hf hp
  refine wpS_bind (wpS_get ?_)
  dsimp only
  rw [show ((#[(0, lo, pw), (lo, n - lo, p2)] : Array (Nat × Nat × Nat))[0]?, (#[(0, lo, pw), (lo, n - lo, p2)] : Array (Nat × Nat × Nat))[0 + 1]?) = (some (0, lo, pw), some (lo, n - lo, p2)) from rfl]
  dsimp only
  refine wpS_bind (wpS_set ?_)
  have e3 : ((#[(0, lo, pw), (lo, n - lo, p2)] : Array (Nat × Nat × Nat)).setIfInBounds 0 (0, lo + (n - lo), pw)).eraseIdxIfInBounds (0 + 1) = #[(0, n, pw)] := by
    rw [Nat.add_sub_cancel' (Nat.le_of_lt h1)]; simp [Array.eraseIdxIfInBounds]
  rw [e3]
  have hlo : lo < arr.size := Nat.lt_of_lt_of_eq h1 hs.symm
  refine wpS_bind (wpS_elem (getElem?_pos arr lo hlo) ?_)
  have m1 := seg1 (Nat.le_of_lt hlo) s1
  have m2 := seg2 s2
  refine wpS_bind (gallop_ok hO rfl (key_at ha hlo) ha (by rw [Nat.zero_add]; exact Nat.le_of_lt hlo) h0 (gal_mono' false (fun i j _ hij hj => m1 i j hij (by rwa [Nat.zero_add] at hj))) fun k k1 k2 k3 => ?_)
  dsimp only
  by_cases f0 : lo - k = 0
  · rw [if_pos (by simpa using f0)]
    refine wpS_pure (h _ rfl rfl rfl (Array.Perm.refl _) (whole h0 hlo m1 m2 ?_))
    have := k2 (lo - 1) (Nat.lt_of_lt_of_le (Nat.sub_lt h0 Nat.one_pos) (Nat.sub_eq_zero_iff_le.mp f0))
    unfold beyondK at this
    rw [Nat.zero_add] at this
    rw [kk_at hlo]
    simpa [KeyOrd.kle] using this
  rw [if_neg (by simpa using f0)]
  have hl1 : lo - 1 < arr.size := Nat.lt_of_le_of_lt (Nat.sub_le _ _) hlo
  rw [Nat.zero_add, Nat.add_sub_cancel' k1, ← Nat.zero_add k]
  refine wpS_bind (wpS_elem (getElem?_pos arr (lo - 1) hl1) ?_)
  refine wpS_bind (gallop_ok hO rfl (key_at ha hl1) ha (by rw [Nat.add_sub_cancel' (Nat.le_of_lt h1), hs]; exact Nat.le_refl _) (Nat.sub_lt (Nat.sub_pos_of_lt h1) Nat.one_pos) (gal_mono' true (fun i j hi hij hj => m2 i j hi hij (by rwa [Nat.add_sub_cancel' (Nat.le_of_lt h1), ← hs] at hj))) fun nb n1 n2 n3 => ?_)
  dsimp only
  by_cases f1 : nb = 0
  · rw [if_pos (by simpa using f1)]
    refine wpS_pure (h _ rfl rfl rfl (Array.Perm.refl _) (whole h0 hlo m1 m2 ?_))
    have := n3 0 (Nat.le_of_eq f1) (Nat.sub_pos_of_lt h1)
    unfold beyondK at this
    rw [Nat.add_zero] at this
    rw [kk_at hl1]
    simpa [KeyOrd.kle] using this
  rw [if_neg (by simpa using f1)]
  have hnb : lo + nb ≤ arr.size := by rw [hs, ← Nat.add_sub_cancel' (Nat.le_of_lt h1)]; exact Nat.add_le_add_left n1 lo
  have xs : (arr.extract (0 + k) lo).size = lo - k := by rw [ext_size (Nat.le_of_lt hlo), Nat.zero_add]
  have ys : (arr.extract lo (lo + nb)).size = nb := by rw [ext_size hnb, Nat.add_sub_cancel_left]
  have sx : (arr.extract (0 + k) lo).toList.Pairwise (leK κ) := by
    rw [Array.toList_extract, List.extract_eq_take_drop, ← List.drop_take]
    exact s1.sublist (List.drop_sublist _ _)
  have sy : (arr.extract lo (lo + nb)).toList.Pairwise (leK κ) := by
    rw [ext_list]; exact s2.sublist (List.take_sublist _ _)
  have hfst : κ.klt (KK κ (arr.extract lo (lo + nb)) 0) (KK κ (arr.extract (0 + k) lo) 0) := by
    rw [KK_extract (by lia) hnb, KK_extract (by lia) (by lia), Nat.add_zero, Nat.add_zero, kk_at hlo]
    have := k3 k (Nat.le_refl _) (by lia)
    unfold beyondK at this
    simpa [KeyOrd.klt] using this
  have hlast : ∀ j, j < (arr.extract lo (lo + nb)).size → κ.klt (KK κ (arr.extract lo (lo + nb)) j) (KK κ (arr.extract (0 + k) lo) ((arr.extract (0 + k) lo).size - 1)) := by
    intro j hj
    rw [ys] at hj
    rw [xs, KK_extract (by lia) hnb, KK_extract (by lia) (by lia), show 0 + k + (lo - k - 1) = lo - 1 by lia, kk_at hl1]
    have := n2 j hj
    unfold beyondK at this
    simpa [KeyOrd.klt] using this
  have c1 : ∀ p ∈ arr.toList.take k, leK κ p arr[lo] := gal_le (base := 0) (by rw [Nat.zero_add]; exact Nat.le_trans k1 (Nat.le_of_lt hlo)) k2
  have c2 : ∀ p ∈ arr.toList.drop (lo + nb), leK κ arr[lo - 1] p := gal_ge (base := lo) (n := n - lo) (by rw [Nat.add_sub_cancel' (Nat.le_of_lt h1), hs]) n3
  have C : Mrg κ (arr.extract (0 + k) lo) (arr.extract lo (lo + nb)) := ⟨KeysOf_extract ha _ _, KeysOf_extract ha _ _, sx, sy, by rw [xs]; exact Nat.pos_of_ne_zero f0, by rw [ys]; exact Nat.pos_of_ne_zero f1, hfst, hlast⟩
  have tl : ∀ (r : Array Keyed) (st' : SortSt), Merged (leK κ) (arr.extract (0 + k) lo).toList (arr.extract lo (lo + nb)).toList r.toList → SameG (SortSt.mk' oneType' arr #[(0, n, pw)] mg none) st' →
      Q (failedOf st').isNone (PyProof.Rows.setArr st' (List.foldl (fun a (x : Keyed × Nat) => a.setIfInBounds (0 + k + x.2) x.1) (arrOf st') r.toList.zipIdx)) := by
    rintro r st' hm ⟨g1, g2, g3, g4⟩
    have f := merge_fin k1 hlo hnb s1 s2 c1 c2 hm
    have g2 : arrOf st' = arr := g2
    have g4 : failedOf st' = none := g4
    rw [g4, g2]
    exact h _ g1 g4 g3 f.1 f.2
  exact wpS_ite (fun _ => wpS_bind (mergeLo_ok hO rfl C fun r st' hm hG => wpS_bind (wpS_modify (wpS_bind (wpS_get (wpS_pure (tl r st' hm hG)))))))
    (fun _ => wpS_bind (mergeHi_ok hO rfl C fun r st' hm hG => wpS_bind (wpS_modify (wpS_bind (wpS_get (wpS_pure (tl r st' hm hG)))))))
end
end Mine
end

/- part SortK -/
section
open PySem PySem.W PyProof.Rows PySem.Calls PySem.Spec
set_option maxRecDepth 100000
namespace Mine
section
variable {prog : Program} {w : World} {A : Around} {E : Value → Shared → Prop} {s : Shared} {κ : PyProof.Rows.KeyKind} {a₁ : Array Keyed} {pd : Array (Nat × Nat × Nat)} {lo : Nat} {st : SortSt}
/- the state in the second run: what lies ahead of lo is kept -/
structure SLow (a₁ : Array Keyed) (pd : Array (Nat × Nat × Nat)) (lo : Nat) (st : SortSt) : Prop where
  perm : (arrOf st).Perm a₁
  kind : PyProof.Rows.kindOf st = oneType'
  failed : failedOf st = none
  pend : pendingOf st = pd
  pre : ∀ i, i < lo → (arrOf st)[i]? = a₁[i]?
theorem SLow.size (h : SLow a₁ pd lo st) : (arrOf st).size = a₁.size := h.perm.size_eq
theorem SLow.setArr (h : SLow a₁ pd lo st) {xs : Array Keyed} (hp : xs.Perm (arrOf st)) (hl : ∀ i, i < lo → xs[i]? = (arrOf st)[i]?) : SLow a₁ pd lo (PyProof.Rows.setArr st xs) :=
  ⟨hp.trans h.perm, h.kind, h.failed, h.pend, fun i hi => (hl i hi).trans (h.pre i hi)⟩
theorem SLow.mir (h : SLow a₁ pd lo st) {i j : Nat} (hi : lo ≤ i) (hj : j ≤ a₁.size) : SLow a₁ pd lo (PyProof.Rows.setArr st (mirror (arrOf st) i j ((j - i) / 2))) :=
  h.setArr (mirror_perm _ _ _ _) fun k hk => by rw [getElem?_mirror_all (by rw [h.size]; exact hj), if_neg (by lia)]
theorem SLow.bub (h : SLow a₁ pd lo st) {src d : Nat} (hs : src < a₁.size) (hd : lo + d ≤ src) : SLow a₁ pd lo (PyProof.Rows.setArr st (bubble (arrOf st) src d)) :=
  h.setArr (bubble_perm _ _ _) fun k hk => by rw [getElem?_bubble (by rw [h.size]; exact hs) d (by lia), if_neg (by lia), if_neg (by lia)]
theorem wpS_ltO {i j : Nat} {Q : Option Bool → SortSt → Prop} (hO : κ.OneLt) (hB : SLow a₁ pd lo st) (h0 : PyProof.Rows.KeysOf κ a₁) (hi : i < a₁.size) (hj : j < a₁.size)
    (h : Q (some (κ.blt (KK κ (arrOf st) i) (KK κ (arrOf st) j))) st) : wpS (model prog w) A E s (ltAt' i j) Q st := by
  have hb : SBase a₁ (SortSt.mk' (PyProof.Rows.kindOf st) (arrOf st) #[] 7 (failedOf st)) := ⟨hB.perm, hB.kind, hB.failed, rfl⟩
  obtain ⟨x, p, a, e1, ha, ka⟩ := hb.atK h0 hi
  obtain ⟨y, q, b, e2, hb', kb⟩ := hb.atK h0 hj
  change KK κ (arrOf st) i = a at ka
  change KK κ (arrOf st) j = b at kb
  rw [ka, kb] at h
  exact wpS_ltAtK hO hB.kind e1 e2 ha hb' h
noncomputable def IncO (κ : PyProof.Rows.KeyKind) (lo : Nat) (xs : Array Keyed) (n : Nat) : Prop := ∀ i j, lo ≤ i → i ≤ j → j < lo + n → κ.kle (KK κ xs i) (KK κ xs j)
noncomputable def DecO (κ : PyProof.Rows.KeyKind) (lo : Nat) (xs : Array Keyed) (n : Nat) : Prop := ∀ i j, lo ≤ i → i ≤ j → j < lo + n → κ.kle (KK κ xs j) (KK κ xs i)
theorem IncO.one {xs : Array Keyed} : IncO κ lo xs 1 := fun i j h1 h2 h3 => by
  obtain rfl : i = j := by lia
  exact KeyOrd.kle_refl _
theorem IncO.succ {xs : Array Keyed} {x : Nat} (h : IncO κ lo xs x) (hx : 1 ≤ x) (hc : κ.kle (KK κ xs (lo + x - 1)) (KK κ xs (lo + x))) : IncO κ lo xs (x + 1) := fun i j h1 h2 h3 => by
  by_cases c1 : j < lo + x
  · exact h i j h1 h2 c1
  obtain rfl : j = lo + x := by lia
  by_cases c2 : i = lo + x
  · subst c2; exact KeyOrd.kle_refl _
  · exact KeyOrd.kle_trans (h i (lo + x - 1) h1 (Nat.le_pred_of_lt (Nat.lt_of_le_of_ne h2 c2)) (Nat.sub_lt (Nat.lt_of_lt_of_le hx (Nat.le_add_left x lo)) Nat.one_pos)) hc
theorem DecO.succ {xs : Array Keyed} {x : Nat} (h : DecO κ lo xs x) (hx : 1 ≤ x) (hc : κ.kle (KK κ xs (lo + x)) (KK κ xs (lo + x - 1))) : DecO κ lo xs (x + 1) := fun i j h1 h2 h3 => by
  by_cases c1 : j < lo + x
  · exact h i j h1 h2 c1
  obtain rfl : j = lo + x := by lia
  by_cases c2 : i = lo + x
  · subst c2; exact KeyOrd.kle_refl _
  · exact KeyOrd.kle_trans hc (h i (lo + x - 1) h1 (Nat.le_pred_of_lt (Nat.lt_of_le_of_ne h2 c2)) (Nat.sub_lt (Nat.lt_of_lt_of_le hx (Nat.le_add_left x lo)) Nat.one_pos))
inductive AscI (κ : PyProof.Rows.KeyKind) (lo : Nat) (st : SortSt) (x : Nat) : Option (Option Nat) × Nat → SortSt → Prop
  | mk (hs : IncO κ lo (arrOf st) x) : AscI κ lo st x (none, x) st
inductive AscQ (κ : PyProof.Rows.KeyKind) (lo nrem : Nat) (st : SortSt) : Option (Option Nat) × Nat → SortSt → Prop
  | mk {n : Nat} (h1 : 1 ≤ n) (h2 : n ≤ nrem) (hs : IncO κ lo (arrOf st) n) (hor : n = nrem ∨ κ.klt (KK κ (arrOf st) (lo + n)) (KK κ (arrOf st) (lo + n - 1))) : AscQ κ lo nrem st (none, n) st
inductive AscR (κ : PyProof.Rows.KeyKind) (lo nrem : Nat) (st : SortSt) : Option (Option Nat) × Nat → SortSt → Prop
  | mk {n : Nat} (h1 : 1 ≤ n) (h2 : n ≤ nrem) (hs : IncO κ lo (arrOf st) n) : AscR κ lo nrem st (none, n) st
/- a falling run, its last items alike -/
structure DscB (κ : PyProof.Rows.KeyKind) (a₁ : Array Keyed) (pd : Array (Nat × Nat × Nat)) (lo x neq : Nat) (st : SortSt) : Prop where
  B : SLow a₁ pd lo st
  D : DecO κ lo (arrOf st) x
  hq : neq + 1 ≤ x
  he : ∀ i, lo + x - (neq + 1) ≤ i → i < lo + x → KK κ (arrOf st) i = KK κ (arrOf st) (lo + x - 1)
inductive DscI (κ : PyProof.Rows.KeyKind) (a₁ : Array Keyed) (pd : Array (Nat × Nat × Nat)) (lo x : Nat) : Option (Option Nat) × Nat × Nat → SortSt → Prop
  | mk {neq : Nat} {st : SortSt} (d : DscB κ a₁ pd lo x neq st) : DscI κ a₁ pd lo x (none, x, neq) st
inductive DscQ (κ : PyProof.Rows.KeyKind) (a₁ : Array Keyed) (pd : Array (Nat × Nat × Nat)) (lo n nrem : Nat) : Option (Option Nat) × Nat × Nat → SortSt → Prop
  | mk {x neq : Nat} {st : SortSt} (h1 : n + 1 ≤ x) (h2 : x ≤ nrem) (d : DscB κ a₁ pd lo x neq st) : DscQ κ a₁ pd lo n nrem (none, x, neq) st
theorem same1 {a : Array Keyed} {k : Nat} : ∀ i, k - (0 + 1) ≤ i → i < k → KK κ a i = KK κ a (k - 1) := fun i h1 h2 => by rw [Nat.le_antisymm (Nat.le_pred_of_lt h2) h1]; rfl
theorem wpS_iteK {β : Type} {c : Prop} [Decidable c] {m R : StateT SortSt Sem β} {Q : β → SortSt → Prop} (ha : c → wpS (model prog w) A E s m Q st) (hb : ¬c → wpS (model prog w) A E s R Q st) : wpS (model prog w) A E s (if c then m else R) Q st := by
  by_cases hc : c
  · rw [if_pos hc]; exact ha hc
  · rw [if_neg hc]; exact hb hc
theorem wpS_two {β : Type} {c : Prop} [Decidable c] {m R : StateT SortSt Sem β} {Q : β → SortSt → Prop} {P : SortSt → Prop} (hr : ∀ st2, P st2 → wpS (model prog w) A E s R Q st2)
    (ha : c → (∀ st2, P st2 → wpS (model prog w) A E s R Q st2) → wpS (model prog w) A E s m Q st) (hb : ¬c → P st) : wpS (model prog w) A E s (if c then m else R) Q st := by
  by_cases hc : c
  · rw [if_pos hc]; exact ha hc hr
  · rw [if_neg hc]; exact hr _ (hb hc)
theorem countRun_at {nrem : Nat} {Q : Option Nat → SortSt → Prop} (hO : κ.OneLt) (h0 : PyProof.Rows.KeysOf κ a₁) (hn : lo + nrem ≤ a₁.size) (h1 : 1 ≤ nrem) (hB : SLow a₁ pd lo st)
    (h : ∀ m st', SLow a₁ pd lo st' → 1 ≤ m → m ≤ nrem → IncO κ lo (arrOf st') m → Q (some m) st') : wpS (model prog w) A E s (countRun' lo nrem) Q st := by
  rw [countRun'_eq]
  have hnl : ∀ {x : Nat}, x ≤ nrem → lo + x ≤ a₁.size := fun h => Nat.le_trans (Nat.add_le_add_left h lo) hn
  have hnt : ∀ {x : Nat}, x < nrem → lo + x < a₁.size := fun h => Nat.lt_of_lt_of_le (Nat.add_lt_add_left h lo) hn
  have hpr : ∀ {x : Nat}, 1 ≤ x → lo + x - 1 < lo + x := fun {x} h => Nat.sub_lt (Nat.lt_of_lt_of_le h (Nat.le_add_left x lo)) Nat.one_pos
  refine wpS_bind (wpS_mono (wpS_forRange (I := AscI κ lo st) (Q := AscQ κ lo nrem st) ?step ?fin (.mk IncO.one)) ?post)
  case fin =>
    rw [Nat.max_eq_right h1]
    rintro c _ ⟨hs⟩
    exact .mk h1 (Nat.le_refl _) hs (.inl rfl)
  case step =>
    rintro x c _ hx1 hx2 ⟨hs⟩
    refine wpS_bind (wpS_ltO hO hB h0 (hnt hx2) (Nat.lt_of_le_of_lt (Nat.sub_le _ _) (hnt hx2)) ?_)
    exact wpS_iteK (fun hl => wpS_pure (AscQ.mk hx1 (Nat.le_of_lt hx2) hs (.inr hl))) (fun hl => wpS_pure (AscI.mk (hs.succ hx1 ((Bool.not_eq_true _).mp hl))))
  case post =>
    rintro c _ ⟨hn1, hn2, hs, hor⟩
    rename_i n
    dsimp only
    refine wpS_iteK (fun e => wpS_pure (h n st hB hn1 hn2 hs)) (fun e => ?_)
    have hnn : ¬n = nrem := fun z => e (beq_iff_eq.mpr z)
    have hlt := hor.resolve_left hnn
    refine wpS_two (P := fun st2 => SLow a₁ pd lo st2 ∧ DecO κ lo (arrOf st2) (n + 1)) ?rest ?pre ?one
    case one =>
      intro hgt
      obtain rfl : n = 1 := by lia
      refine ⟨hB, fun i j hi hij hj => ?_⟩
      by_cases c : i = j
      · subst c; exact KeyOrd.kle_refl _
      · obtain rfl : i = lo := by lia
        obtain rfl : j = i + 1 := by lia
        exact KeyOrd.kle_of_klt hlt
    case pre =>
      intro hgt hr
      refine wpS_bind (wpS_ltO hO hB h0 (Nat.lt_of_lt_of_le (Nat.lt_add_of_pos_right hn1) (hnl hn2)) (Nat.lt_of_lt_of_le (hpr hn1) (hnl hn2)) ?_)
      refine wpS_iteK (fun _ => wpS_pure (h n st hB hn1 hn2 hs)) (fun hrose => ?_)
      have hsz : lo + n ≤ (arrOf st).size := by rw [hB.size]; exact hnl hn2
      have hall : ∀ k, lo ≤ k → k < lo + n → KK κ (arrOf st) k = KK κ (arrOf st) (lo + n - 1) := by
        intro k hk1 hk2
        have a1 := hs lo k (Nat.le_refl _) hk1 hk2
        have a2 := hs k (lo + n - 1) hk1 (Nat.le_pred_of_lt hk2) (hpr hn1)
        exact KeyOrd.kle_antisymm a2 (KeyOrd.kle_trans ((Bool.not_eq_true _).mp hrose) a1)
      refine wpS_bind (wpS_reverse (hr _ ⟨hB.mir (Nat.le_refl _) (hnl hn2), fun i j hi hij hj => ?_⟩))
      show κ.kle (KK κ (mirror (arrOf st) _ _ _) j) (KK κ (mirror (arrOf st) _ _ _) i)
      rw [KK_mirror_equal hsz hall, KK_mirror_equal hsz hall]
      by_cases hjn : j < lo + n
      · rw [hall i hi (by lia), hall j (by lia) hjn]; exact KeyOrd.kle_refl _
      · obtain rfl : j = lo + n := by lia
        by_cases c : i = lo + n
        · subst c; exact KeyOrd.kle_refl _
        · rw [hall i hi (by lia)]; exact KeyOrd.kle_of_klt hlt
    case rest =>
      rintro st2 ⟨hB2, hd2⟩
      refine wpS_bind (wpS_lift (wpAny_rule ⟨rfl, ?_⟩))
      refine wpS_bind (wpS_mono (wpS_forRange (I := DscI κ a₁ pd lo) (Q := DscQ κ a₁ pd lo n nrem) ?step2 ?fin2 (.mk ⟨hB2, hd2, by lia, same1⟩)) ?post2)
      case fin2 =>
        rw [Nat.max_eq_right (Nat.lt_of_le_of_ne hn2 hnn)]
        rintro c st3 ⟨d⟩
        exact .mk (Nat.lt_of_le_of_ne hn2 hnn) (Nat.le_refl _) d
      case step2 =>
        rintro x c st3 hx1 hx2 ⟨d⟩
        rename_i neq
        have a1 := d.B
        have a2 := d.D
        have a4 := d.he
        have h1x : 1 ≤ x := Nat.le_trans (Nat.le_add_left 1 n) hx1
        have hsz : lo + x ≤ (arrOf st3).size := by rw [a1.size]; exact hnl (Nat.le_of_lt hx2)
        have i1 : lo + x < a₁.size := Nat.lt_of_lt_of_le (Nat.add_lt_add_left hx2 lo) hn
        have i2 : lo + x - 1 < a₁.size := Nat.lt_of_le_of_lt (Nat.sub_le _ _) i1
        refine wpS_bind (wpS_ltO hO a1 h0 i1 i2 ?_)
        refine wpS_iteK (fun hl => ?_) (fun hl => ?_)
        · have hd3 : DecO κ lo (arrOf st3) (x + 1) := a2.succ h1x (KeyOrd.kle_of_klt hl)
          refine wpS_iteK (fun hneq => wpS_bind (wpS_reverse (wpS_pure (DscI.mk (neq := 0) ⟨a1.mir ?_ (Nat.le_of_lt i1), fun i j hi hij hj => ?_, Nat.le_add_left 1 x, same1⟩)))) (fun _ => wpS_pure (DscI.mk (neq := 0) ⟨a1, hd3, Nat.le_add_left 1 x, same1⟩))
          · have := d.hq
            show lo ≤ lo + x - (neq + 1)
            lia
          · show κ.kle (KK κ (mirror (arrOf st3) _ _ _) j) (KK κ (mirror (arrOf st3) _ _ _) i)
            rw [KK_mirror_equal hsz a4, KK_mirror_equal hsz a4]
            exact hd3 i j hi hij hj
        · have hl := (Bool.not_eq_true _).mp hl
          refine wpS_bind (wpS_ltO hO a1 h0 i2 i1 ?_)
          refine wpS_iteK (fun _ => wpS_pure (DscQ.mk hx1 (Nat.le_of_lt hx2) d)) (fun hg => ?_)
          have hg := (Bool.not_eq_true _).mp hg
          have heqx : KK κ (arrOf st3) (lo + x) = KK κ (arrOf st3) (lo + x - 1) := KeyOrd.kle_antisymm hg hl
          refine wpS_pure (DscI.mk (neq := neq + 1) ⟨a1, a2.succ h1x (by rw [heqx]; exact KeyOrd.kle_refl _), Nat.succ_le_succ d.hq, fun i h1 h2 => ?_⟩)
          rw [show lo + (x + 1) - 1 = lo + x by lia]
          by_cases hix : i = lo + x
          · subst hix; rfl
          · rw [heqx]; exact a4 i (by lia) (by lia)
      case post2 =>
        rintro c st3 ⟨hx1, hx2, d⟩
        rename_i x neq
        dsimp only
        have a1 := d.B
        have hsz : lo + x ≤ (arrOf st3).size := by rw [a1.size]; exact hnl hx2
        refine wpS_two (P := fun st2 => SLow a₁ pd lo st2 ∧ DecO κ lo (arrOf st2) x) ?rest3 ?pre3 ?one3
        case one3 => exact fun _ => ⟨a1, d.D⟩
        case pre3 =>
          intro hneq hr
          refine wpS_bind (wpS_reverse (hr _ ⟨a1.mir (by have := d.hq; lia) (hnl hx2), fun i j hi hij hj => ?_⟩))
          show κ.kle (KK κ (mirror (arrOf st3) _ _ _) j) (KK κ (mirror (arrOf st3) _ _ _) i)
          rw [KK_mirror_equal hsz d.he, KK_mirror_equal hsz d.he]
          exact d.D i j hi hij hj
        case rest3 =>
          rintro st4 ⟨hB4, hd4⟩
          have hsz4 : lo + x ≤ (arrOf st4).size := by rw [hB4.size]; exact hnl hx2
          refine wpS_bind (wpS_reverse ?_)
          have hB5 := hB4.mir (i := lo) (j := lo + x) (Nat.le_refl _) (hnl hx2)
          have hs5 : IncO κ lo (arrOf (PyProof.Rows.setArr st4 (mirror (arrOf st4) lo (lo + x) ((lo + x - lo) / 2)))) x := by
            intro i j hi hij hj
            show κ.kle (KK κ (mirror (arrOf st4) _ _ _) i) (KK κ (mirror (arrOf st4) _ _ _) j)
            rw [KK_mirror hsz4, KK_mirror hsz4, if_pos ⟨hi, Nat.lt_of_le_of_lt hij hj⟩, if_pos ⟨Nat.le_trans hi hij, hj⟩]
            exact hd4 _ _ (by omega) (Nat.sub_le_sub_left hij _) (by omega)
          revert hB5 hs5
          generalize PyProof.Rows.setArr st4 (mirror (arrOf st4) lo (lo + x) ((lo + x - lo) / 2)) = st5
          intro hB5 hs5
          refine wpS_bind (wpS_mono (wpS_forRange (I := AscI κ lo st5) (Q := AscR κ lo nrem st5) ?step4 ?fin4 (.mk hs5)) ?post4)
          case fin4 =>
            rw [Nat.max_eq_right hx2]
            rintro c _ ⟨hs⟩
            exact .mk h1 (Nat.le_refl _) hs
          case step4 =>
            rintro y c _ hy1 hy2 ⟨hs⟩
            have y1 : 1 ≤ y := Nat.le_trans (Nat.le_trans (Nat.le_add_left 1 n) hx1) hy1
            have i1 : lo + y < a₁.size := Nat.lt_of_lt_of_le (Nat.add_lt_add_left hy2 lo) hn
            refine wpS_bind (wpS_ltO hO hB5 h0 i1 (Nat.lt_of_le_of_lt (Nat.sub_le _ _) i1) ?_)
            exact wpS_iteK (fun _ => wpS_pure (AscR.mk y1 (Nat.le_of_lt hy2) hs)) (fun hl => wpS_pure (AscI.mk (hs.succ y1 ((Bool.not_eq_true _).mp hl))))
          case post4 =>
            rintro c _ ⟨hm1, hm2, hs⟩
            dsimp only
            exact wpS_pure (h _ _ hB5 hm1 hm2 hs)
end
end Mine
end

/- part SortL -/
section
open PySem PySem.W PyProof.Rows PySem.Calls PySem.Spec
set_option maxRecDepth 100000
namespace Mine
/- what is known of the place that is sought -/
structure Bn (κ : PyProof.Rows.KeyKind) (xs : Array Keyed) (lo k l r : Nat) : Prop where
  le : l ≤ r
  ln : r ≤ k
  below : ∀ i, lo ≤ i → i < lo + l → κ.kle (KK κ xs i) (KK κ xs (lo + k))
  above : ∀ i, lo + r ≤ i → i < lo + k → κ.klt (KK κ xs (lo + k)) (KK κ xs i)
section
variable {κ : PyProof.Rows.KeyKind} {xs : Array Keyed} {lo k l r : Nat}
theorem half_lt (h : l < r) : l ≤ (l + r) / 2 ∧ (l + r) / 2 < r := by omega
theorem Bn.left (hs : IncO κ lo xs k) (B : Bn κ xs lo k l r) (h : l < r) (hm : κ.klt (KK κ xs (lo + k)) (KK κ xs (lo + (l + r) / 2))) : Bn κ xs lo k l ((l + r) / 2) :=
  ⟨(half_lt h).1, Nat.le_trans (Nat.le_of_lt (half_lt h).2) B.ln, B.below, fun i h1 h2 => KeyOrd.klt_of_klt_of_kle hm (hs _ _ (Nat.le_add_right _ _) h1 h2)⟩
theorem Bn.right (hs : IncO κ lo xs k) (B : Bn κ xs lo k l r) (h : l < r) (hm : κ.kle (KK κ xs (lo + (l + r) / 2)) (KK κ xs (lo + k))) : Bn κ xs lo k ((l + r) / 2 + 1) r :=
  ⟨(half_lt h).2, B.ln, fun i h1 h2 => KeyOrd.kle_trans (hs i _ h1 (Nat.le_of_lt_succ h2) (Nat.add_lt_add_left (Nat.lt_of_lt_of_le (half_lt h).2 B.ln) lo)) hm, B.above⟩
theorem hlf1 {x : Nat} (h : l < r) (d : r - l ≤ k - x) : (l + r) / 2 - l ≤ k - (x + 1) :=
  Nat.le_pred_of_lt (Nat.lt_of_lt_of_le (Nat.sub_lt_sub_right (half_lt h).1 (half_lt h).2) d)
theorem hlf2 {x : Nat} (h : l < r) (d : r - l ≤ k - x) : r - ((l + r) / 2 + 1) ≤ k - (x + 1) :=
  Nat.pred_le_pred (Nat.le_trans (Nat.sub_le_sub_left (half_lt h).1 r) d)
theorem bub_inc (hk : lo + k < xs.size) (hs : IncO κ lo xs k) (B : Bn κ xs lo k l l) : IncO κ lo (bubble xs (lo + k) (lo + k - (lo + l))) (k + 1) := by
  have hl := B.ln
  intro i j hi hij hj
  rw [KK_bubble hk (Nat.sub_le _ _), KK_bubble hk (Nat.sub_le _ _), Nat.sub_sub_self (Nat.add_le_add_left hl lo)]
  by_cases j1 : j = lo + l
  · rw [if_pos j1]
    by_cases i1 : i = lo + l
    · rw [if_pos i1]; exact KeyOrd.kle_refl _
    · rw [if_neg i1, if_neg (fun z => absurd (Nat.le_trans hij (Nat.le_of_eq j1)) (Nat.not_le_of_lt z.1))]
      exact B.below i hi (Nat.lt_of_le_of_ne (Nat.le_trans hij (Nat.le_of_eq j1)) i1)
  rw [if_neg j1]
  by_cases j2 : lo + l < j ∧ j ≤ lo + k
  · have jk : j - 1 < lo + k := Nat.lt_of_lt_of_le (Nat.sub_lt (Nat.zero_lt_of_lt j2.1) Nat.one_pos) j2.2
    rw [if_pos j2]
    by_cases i1 : i = lo + l
    · rw [if_pos i1]
      exact KeyOrd.kle_of_klt (B.above _ (Nat.le_pred_of_lt j2.1) jk)
    rw [if_neg i1]
    by_cases i2 : lo + l < i ∧ i ≤ lo + k
    · rw [if_pos i2]
      exact hs _ _ (Nat.le_trans (Nat.le_add_right _ _) (Nat.le_pred_of_lt i2.1)) (Nat.pred_le_pred hij) jk
    · rw [if_neg i2]
      have i3 : i < lo + l := Nat.lt_of_le_of_ne (Nat.le_of_not_lt fun z => i2 ⟨z, Nat.le_trans hij j2.2⟩) i1
      exact hs _ _ hi (Nat.le_pred_of_lt (Nat.lt_trans i3 j2.1)) jk
  · have j3 : j < lo + l := Nat.lt_of_le_of_ne (Nat.le_of_not_lt fun z => j2 ⟨z, Nat.le_of_lt_succ hj⟩) j1
    have i3 := Nat.lt_of_le_of_lt hij j3
    rw [if_neg j2, if_neg (Nat.ne_of_lt i3), if_neg (fun z => absurd i3 (Nat.not_lt_of_lt z.1))]
    exact hs _ _ hi hij (Nat.lt_of_lt_of_le j3 (Nat.add_le_add_left hl lo))
end
inductive BnI (κ : PyProof.Rows.KeyKind) (lo k : Nat) (st : SortSt) (x : Nat) : Option Bool × Nat × Nat → SortSt → Prop
  | mk {l r : Nat} (B : Bn κ (arrOf st) lo k l r) (d : r - l ≤ k - x) : BnI κ lo k st x (none, l, r) st
inductive BnQ (κ : PyProof.Rows.KeyKind) (lo k : Nat) (st : SortSt) : Option Bool × Nat × Nat → SortSt → Prop
  | mk {l r : Nat} (e : l = r) (B : Bn κ (arrOf st) lo k l r) : BnQ κ lo k st (none, l, r) st
inductive BoI (κ : PyProof.Rows.KeyKind) (a₁ : Array Keyed) (pd : Array (Nat × Nat × Nat)) (lo k : Nat) : Option Bool × Unit → SortSt → Prop
  | mk {st : SortSt} (B : SLow a₁ pd lo st) (hs : IncO κ lo (arrOf st) k) : BoI κ a₁ pd lo k (none, ()) st
section
variable {prog : Program} {w : World} {A : Around} {E : Value → Shared → Prop} {s : Shared} {κ : PyProof.Rows.KeyKind} {a₁ : Array Keyed} {pd : Array (Nat × Nat × Nat)} {lo : Nat} {st : SortSt}
theorem wpS_move {i j : Nat} {Q : Unit → SortSt → Prop} (h : Q () (PyProof.Rows.setArr st (bubble (arrOf st) i (i - j)))) : wpS (model prog w) A E s (moveDown' i j) Q st := by
  rw [moveDown'_eq]; exact wpS_modify h
theorem binarySort_at {n ok : Nat} {Q : Bool → SortSt → Prop} (hO : κ.OneLt) (h0 : PyProof.Rows.KeysOf κ a₁) (hn : lo + n ≤ a₁.size) (hok : ok ≤ n) (hok1 : 1 ≤ ok) (hB : SLow a₁ pd lo st) (hs : IncO κ lo (arrOf st) ok)
    (h : ∀ st', SLow a₁ pd lo st' → IncO κ lo (arrOf st') n → Q true st') : wpS (model prog w) A E s (binarySort' lo n ok) Q st := by
  rw [binarySort'_eq, Nat.max_eq_left hok1]
  refine wpS_bind (wpS_mono (wpS_forRange (I := BoI κ a₁ pd lo) (Q := BoI κ a₁ pd lo n) ?step ?fin (.mk hB hs)) ?post)
  case post =>
    rintro c st' ⟨hB', hs'⟩
    exact wpS_pure (h _ hB' hs')
  case fin =>
    rw [Nat.max_eq_right hok]
    exact fun c st' h => h
  case step =>
    rintro k c st' hak hkn ⟨hB', hs'⟩
    have hk : lo + k < a₁.size := Nat.lt_of_lt_of_le (Nat.add_lt_add_left hkn lo) hn
    refine wpS_bind (wpS_mono (wpS_forRange (I := BnI κ lo k st') (Q := BnQ κ lo k st') ?istep ?ifin (.mk ⟨Nat.zero_le _, Nat.le_refl _, fun i h1 h2 => absurd h1 (Nat.not_le_of_lt h2), fun i h1 h2 => absurd h1 (Nat.not_le_of_lt h2)⟩ (Nat.le_refl _))) ?ipost)
    case ifin =>
      rw [Nat.max_eq_right (Nat.zero_le k)]
      rintro c _ ⟨B, d⟩
      rw [Nat.sub_self] at d
      exact .mk (Nat.le_antisymm B.le (Nat.sub_eq_zero_iff_le.mp (Nat.le_zero.mp d))) B
    case istep =>
      rintro x c _ _ hxk ⟨B, d⟩
      refine wpS_iteK (fun hge => wpS_pure (BnQ.mk (Nat.le_antisymm B.le hge) B)) (fun hge => ?_)
      have hlt := Nat.lt_of_not_le hge
      refine wpS_bind (wpS_ltO hO hB' h0 hk (Nat.lt_trans (Nat.add_lt_add_left (Nat.lt_of_lt_of_le (half_lt hlt).2 B.ln) lo) hk) ?_)
      exact wpS_iteK (fun hm => wpS_pure (BnI.mk (B.left hs' hlt hm) (hlf1 hlt d))) (fun hm => wpS_pure (BnI.mk (B.right hs' hlt ((Bool.not_eq_true _).mp hm)) (hlf2 hlt d)))
    case ipost =>
      rintro c _ ⟨e, B⟩
      subst e
      exact wpS_bind (wpS_move (wpS_pure (BoI.mk (hB'.bub hk (by have := B.ln; rw [Nat.add_sub_add_left]; exact Nat.add_le_add_left (Nat.sub_le _ _) lo)) (bub_inc (by rw [hB'.size]; exact hk) hs' B))))
end
end Mine
end

/- part SortM -/
section
open PySem PySem.W PyProof.Rows PySem.Calls PySem.Spec
set_option maxRecDepth 100000
namespace Mine
section
variable {prog : Program} {w : World} {A : Around} {E : Value → Shared → Prop} {s : Shared} {κ : PyProof.Rows.KeyKind} {a₀ : Array Keyed}
theorem pair_take {xs : Array Keyed} {n : Nat} (hn : n ≤ xs.size) (h : IncO κ 0 xs n) : (xs.toList.take n).Pairwise (leK κ) := by
  rw [List.pairwise_iff_getElem]
  intro i j hi hj hij
  have hj' : j < n := by simp at hj; lia
  have := h i j (Nat.zero_le _) (by lia) (by lia)
  rw [kk_at (by lia), kk_at (by lia)] at this
  simpa [leK] using this
theorem pair_drop {xs : Array Keyed} {lo n : Nat} (hn : lo + n = xs.size) (h : IncO κ lo xs n) : (xs.toList.drop lo).Pairwise (leK κ) := by
  rw [List.pairwise_iff_getElem]
  intro i j hi hj hij
  have hj' : lo + j < xs.size := by simp at hj; lia
  have := h (lo + i) (lo + j) (by lia) (by lia) (by lia)
  rw [kk_at (by lia), kk_at (by omega)] at this
  simpa [leK] using this
/- one run lies there -/
structure Run1 (κ : PyProof.Rows.KeyKind) (a₀ : Array Keyed) (n1 : Nat) (st : SortSt) : Prop where
  perm : (arrOf st).Perm a₀
  kind : PyProof.Rows.kindOf st = oneType'
  failed : failedOf st = none
  pend : pendingOf st = #[(0, n1, 0)]
  inc : IncO κ 0 (arrOf st) n1
/- two runs, that fill the array -/
structure Run2 (κ : PyProof.Rows.KeyKind) (a₀ : Array Keyed) (n1 pw : Nat) (st : SortSt) : Prop where
  perm : (arrOf st).Perm a₀
  kind : PyProof.Rows.kindOf st = oneType'
  failed : failedOf st = none
  pend : pendingOf st = #[(0, n1, pw), (n1, a₀.size - n1, 0)]
  inc1 : IncO κ 0 (arrOf st) n1
  inc2 : IncO κ n1 (arrOf st) (a₀.size - n1)
structure RunD (κ : PyProof.Rows.KeyKind) (a₀ : Array Keyed) (st : SortSt) : Prop where
  perm : (arrOf st).Perm a₀
  failed : failedOf st = none
  pend : (pendingOf st).size ≤ 1
  inc : SortedToK κ (arrOf st) a₀.size
theorem Run1.done {st : SortSt} (h : Run1 κ a₀ a₀.size st) : RunD κ a₀ st := ⟨h.perm, h.failed, by rw [h.pend]; exact Nat.le_refl 1, fun i j h1 h2 => h.inc i j (Nat.zero_le _) h1 (by rw [Nat.zero_add]; exact h2)⟩
theorem run1_of {st : SortSt} {n1 : Nat} (hB : SBase a₀ st) (hs : SortedToK κ (arrOf st) n1) : Run1 κ a₀ n1 (setPending st ((pendingOf st).push (0, n1, 0))) :=
  ⟨hB.perm, hB.kind, hB.failed, by show (pendingOf st).push _ = _; rw [hB.pend]; rfl, fun i j _ h1 h2 => hs i j h1 (by lia)⟩
theorem Run1.low {st : SortSt} {n1 : Nat} (h : Run1 κ a₀ n1 st) : SLow (arrOf st) #[(0, n1, 0)] n1 st := ⟨Array.Perm.refl _, h.kind, h.failed, h.pend, fun _ _ => rfl⟩
theorem keys_perm {a b : Array Keyed} (h : a.Perm b) (hb : PyProof.Rows.KeysOf κ b) : PyProof.Rows.KeysOf κ a := fun p hp => hb p ((Array.perm_iff_toList_perm.mp h).mem_iff.mp hp)
inductive RunE (κ : PyProof.Rows.KeyKind) (a₀ : Array Keyed) (st : SortSt) : Prop
  | done (D : RunD κ a₀ st) : RunE κ a₀ st
  | two {n1 pw : Nat} (h1 : 45 ≤ n1) (h2 : n1 < 90) (R : Run2 κ a₀ n1 pw st) : RunE κ a₀ st
inductive RunI (κ : PyProof.Rows.KeyKind) (a₀ : Array Keyed) : Nat → Option Unit × Nat → SortSt → Prop
  | zero {st : SortSt} (hB : SBase a₀ st) : RunI κ a₀ 0 (none, 0) st
  | one {n1 : Nat} {st : SortSt} (h1 : 45 ≤ n1) (h2 : n1 < 90) (R : Run1 κ a₀ n1 st) : RunI κ a₀ 1 (none, n1) st
  | all {x : Nat} {st : SortSt} (hx : 1 ≤ x) (D : RunE κ a₀ st) : RunI κ a₀ x (none, 90) st
inductive RunQ (κ : PyProof.Rows.KeyKind) (a₀ : Array Keyed) : Option Unit × Nat → SortSt → Prop
  | mk {st : SortSt} (D : RunE κ a₀ st) : RunQ κ a₀ (none, 90) st
inductive MrgI (κ : PyProof.Rows.KeyKind) (a₀ : Array Keyed) : Nat → Option Unit × Unit → SortSt → Prop
  | done {x : Nat} {st : SortSt} (D : RunD κ a₀ st) : MrgI κ a₀ x (none, ()) st
  | two {n1 pw : Nat} {st : SortSt} (h1 : 45 ≤ n1) (h2 : n1 < 90) (R : Run2 κ a₀ n1 pw st) : MrgI κ a₀ 0 (none, ()) st
inductive MrgQ (κ : PyProof.Rows.KeyKind) (a₀ : Array Keyed) : Option Unit × Unit → SortSt → Prop
  | mk {st : SortSt} (D : RunD κ a₀ st) : MrgQ κ a₀ (none, ()) st
inductive StayI (st : SortSt) : Option Unit × Unit → SortSt → Prop
  | mk : StayI st (none, ()) st
theorem run2_of {st' st3 : SortSt} {n1 : Nat} (h90 : a₀.size = 90) (hR : Run1 κ a₀ n1 st') (hL : SLow (arrOf st') #[(0, n1, 0)] n1 st3) (hi : IncO κ n1 (arrOf st3) (90 - n1)) (pw : Nat) :
    Run2 κ a₀ n1 pw (setPending (setPending st3 ((pendingOf st3).modify ((pendingOf st3).size - 1) fun x => (x.fst, x.2.fst, pw))) (((pendingOf st3).modify ((pendingOf st3).size - 1) fun x => (x.fst, x.2.fst, pw)).push (n1, 90 - n1, 0))) := by
  refine ⟨hL.perm.trans hR.perm, hL.kind, hL.failed, ?_, ?_, ?_⟩
  · show ((pendingOf st3).modify ((pendingOf st3).size - 1) fun x => (x.fst, x.2.fst, pw)).push (n1, 90 - n1, 0) = _
    rw [hL.pend, h90]; rfl
  · intro i j h1 h2 h3
    rw [Nat.zero_add] at h3
    show κ.kle (KK κ (arrOf st3) i) (KK κ (arrOf st3) j)
    rw [KK_congr (hL.pre i (Nat.lt_of_le_of_lt h2 h3)), KK_congr (hL.pre j h3)]
    exact hR.inc i j h1 h2 (by rw [Nat.zero_add]; exact h3)
  · rw [h90]; exact hi
theorem run1_in {st : SortSt} {m : Nat} (h90 : a₀.size = 90) (h1 : 45 ≤ m) (h2 : m ≤ 90) (hR : Run1 κ a₀ m st) : RunI κ a₀ 1 (none, 0 + m) st := by
  rw [Nat.zero_add]
  by_cases hm : m = 90
  · subst hm
    exact .all (Nat.le_refl _) (.done (Run1.done (by rw [h90]; exact hR)))
  · exact .one h1 (Nat.lt_of_le_of_ne h2 hm) hR
theorem sort_90 {st : SortSt} {Q : Unit → SortSt → Prop} (hO : κ.OneLt) (h0 : PyProof.Rows.KeysOf κ a₀) (hB : SBase a₀ st) (h90 : a₀.size = 90)
    (h : ∀ st', (arrOf st').Perm a₀ → failedOf st' = none → SortedToK κ (arrOf st') a₀.size → Q () st') : wpS (model prog w) A E s sortRuns' Q st := by
  rw [sortRuns'_eq]
  refine wpS_bind (wpS_get ?_)
  dsimp only
  have hmr : minRun' 90 90 0 = 45 := by rw [minRun'_succ, if_neg (by decide), minRun'_succ, if_pos (by decide)]; rfl
  rw [hB.size, h90, hmr]
  refine wpS_bind (wpS_mono (wpS_forRange (I := RunI κ a₀) (Q := RunQ κ a₀) ?step ?fin (.zero hB)) ?post)
  case fin =>
    intro c st' hI
    rw [show max 0 90 = 90 from rfl] at hI
    cases hI with
    | all _ D => exact .mk D
  case step =>
    rintro x c st' hx0 hx (⟨hB'⟩ | ⟨ha, hb, hR⟩ | ⟨hx1, hD⟩)
    · dsimp only
      rw [if_neg (by decide)]
      rw [show 90 - 0 = a₀.size from h90.symm]
      refine wpS_bind (wpS_countRunK hO h0 (Nat.le_refl _) (by rw [h90]; decide) hB' fun m st2 hB2 hm1 hm2 hs2 => ?_)
      dsimp only
      rw [h90] at hm2
      refine wpS_iteK (fun hlt => ?_) (fun hlt => ?_)
      · refine wpS_bind (wpS_lift (wpAny_rule ⟨rfl, ?_⟩))
        rw [h90, show min 90 45 = 45 from rfl]
        refine wpS_bind (wpS_binarySortK hO h0 (by rw [h90]; decide) (Nat.le_of_lt hlt) hB2 hs2 fun st3 hB3 hs3 => ?_)
        rw [if_neg (by simp)]
        refine wpS_bind (wpS_get ?_)
        rw [show (pendingOf st3).back? = none by rw [hB3.pend]; rfl]
        dsimp only
        exact wpS_bind (wpS_modify (wpS_pure (run1_in h90 (Nat.le_refl _) (by decide) (run1_of hB3 hs3))))
      · refine wpS_bind (wpS_get ?_)
        rw [show (pendingOf st2).back? = none by rw [hB2.pend]; rfl]
        dsimp only
        exact wpS_bind (wpS_modify (wpS_pure (run1_in h90 (Nat.le_of_not_lt hlt) hm2 (run1_of hB2 hs2))))
    · rename_i n1
      dsimp only
      rw [if_neg (Nat.not_le_of_lt hb)]
      have hsz : (arrOf st').size = 90 := by rw [hR.perm.size_eq, h90]
      have hk := keys_perm hR.perm h0
      have hsum : n1 + (90 - n1) = 90 := Nat.add_sub_cancel' (Nat.le_of_lt hb)
      have h45 : 90 - n1 ≤ 45 := Nat.sub_le_sub_left ha 90
      refine wpS_bind (countRun_at hO hk (by rw [hsz]; exact Nat.le_of_eq hsum) (Nat.sub_pos_of_lt hb) hR.low fun m st2 hB2 hm1 hm2 hs2 => ?_)
      dsimp only
      have tl : ∀ st3, SLow (arrOf st') #[(0, n1, 0)] n1 st3 → (pendingOf st3).back? = some (0, n1, 0) := fun st3 hL => by rw [hL.pend]; rfl
      refine wpS_iteK (fun hlt => ?_) (fun hlt => ?_)
      · refine wpS_bind (wpS_lift (wpAny_rule ⟨rfl, ?_⟩))
        rw [Nat.min_eq_left h45]
        refine wpS_bind (binarySort_at hO hk (by rw [hsz]; exact Nat.le_of_eq hsum) hm2 hm1 hB2 hs2 fun st3 hB3 hs3 => ?_)
        rw [if_neg (by simp)]
        refine wpS_bind (wpS_get ?_)
        rw [tl st3 hB3]
        dsimp only
        refine wpS_bind (wpS_mono (wpS_forRange (I := fun _ => StayI st3) (Q := StayI st3) ?_ (fun _ _ hh => hh) .mk) ?_)
        · rintro x c _ _ _ ⟨⟩
          refine wpS_bind (wpS_get ?_)
          rw [if_neg (by rw [hB3.pend]; show ¬(1 > 1); decide)]
          exact wpS_pure .mk
        · rintro c _ ⟨⟩
          dsimp only
          rw [hsum]
          exact wpS_bind (wpS_modify (wpS_bind (wpS_modify (wpS_pure (.all (by decide) (.two ha hb (run2_of h90 hR hB3 hs3 _)))))))
      · obtain rfl : m = 90 - n1 := Nat.le_antisymm hm2 (Nat.le_trans h45 (Nat.le_of_not_lt hlt))
        refine wpS_bind (wpS_get ?_)
        rw [tl st2 hB2]
        dsimp only
        refine wpS_bind (wpS_mono (wpS_forRange (I := fun _ => StayI st2) (Q := StayI st2) ?_ (fun _ _ hh => hh) .mk) ?_)
        · rintro x c _ _ _ ⟨⟩
          refine wpS_bind (wpS_get ?_)
          rw [if_neg (by rw [hB2.pend]; show ¬(1 > 1); decide)]
          exact wpS_pure .mk
        · rintro c _ ⟨⟩
          dsimp only
          rw [hsum]
          exact wpS_bind (wpS_modify (wpS_bind (wpS_modify (wpS_pure (.all (by decide) (.two ha hb (run2_of h90 hR hB2 hs2 _)))))))
    · dsimp only
      rw [if_pos (Nat.le_refl _)]
      exact wpS_pure (.mk hD)
  case post =>
    rintro c st' ⟨hD⟩
    dsimp only
    refine wpS_bind (wpS_mono (wpS_forRange (I := MrgI κ a₀) (Q := MrgQ κ a₀) ?step2 ?fin2 (by
      rcases hD with D | ⟨h1, h2, R⟩
      · exact .done D
      · exact .two h1 h2 R)) ?post2)
    case fin2 =>
      intro c st'' hI
      rw [show max 0 90 = 90 from rfl] at hI
      cases hI with
      | done D => exact .mk D
    case post2 =>
      rintro c st'' ⟨D⟩
      exact wpS_pure (h _ D.perm D.failed D.inc)
    case step2 =>
      rintro x c st'' _ _ (⟨hD⟩ | ⟨ha, hb, hD⟩)
      · refine wpS_bind (wpS_get ?_)
        rw [if_pos hD.pend]
        exact wpS_pure (.mk hD)
      · refine wpS_bind (wpS_get ?_)
        have hp := hD.pend
        rw [if_neg (by rw [hp]; show ¬(2 ≤ 1); decide)]
        rw [show (pendingOf st'').size = 2 by rw [hp]; rfl]
        have hsz : (arrOf st'').size = a₀.size := hD.perm.size_eq
        rw [if_neg (show ¬(2 - 2 > 0) by decide), if_neg (by simp), show 2 - 2 = 0 from rfl]
        refine wpS_bind (mergeAt_ok hO hD.kind hD.failed hp (keys_perm hD.perm h0) hsz (Nat.lt_of_lt_of_le (by decide) ha) (by rw [h90]; exact hb) (pair_take (by rw [hsz, h90]; exact Nat.le_of_lt hb) hD.inc1) (pair_drop (by rw [hsz, h90]; exact Nat.add_sub_cancel' (Nat.le_of_lt hb)) hD.inc2) fun st3 b1 b2 b3 b4 b5 => ?_)
        rw [if_neg (by simp)]
        have hsz3 : (arrOf st3).size = a₀.size := by rw [b4.size_eq, hsz]
        exact wpS_pure (.done ⟨b4.trans hD.perm, b2, by rw [b3]; exact Nat.le_refl 1, fun i j h1 h2 => drop_mono b5 h1 (by rw [hsz3]; exact h2)⟩)
theorem sort90 : Sort90 := fun _ _ _ _ _ _ _ _ h0 hB h90 h => sort_90 strKind_oneLt h0 hB h90 h
end
end Mine
end

/- part Base -/
section
example : True := by
  k_with_none
  w_top off
  trivial
open PySem PySem.W PyProof.Rows PySem.Calls PySem.Spec
set_option maxRecDepth 100000
namespace Mine

@[elab_as_elim] theorem mem_cons_elim {α : Type} {P : α → Prop} {a : α} {l : List α} {p : α} (hp : p ∈ a :: l) (h1 : P a) (h2 : p ∈ l → P p) : P p := by
  rcases List.mem_cons.mp hp with rfl | hp
  · exact h1
  · exact h2 hp
theorem all_cons {α : Type} {p : α → Prop} {a : α} {l : List α} (h : p a) (t : ∀ x ∈ l, p x) : ∀ x ∈ a :: l, p x := List.forall_mem_cons.mpr ⟨h, t⟩
noncomputable abbrev prg : Program := PySem.Challenge.rw_pg0285_01.row.prog

noncomputable abbrev Keep (h h' : Heap) : Prop := ∀ b o, h.get? b = some o → h'.get? b = some o
theorem Keep.refl (h : Heap) : Keep h h := fun _ _ e => e
structure Gnd (w : World) (H : Heap) : Prop where
  K : (hd.heap_1 w.params).In H
  T : ∃ p loose mean mg mb, Top p loose mean mg mb H
theorem Gnd.keep {w : World} {H h : Heap} (G : Gnd w H) (k : Keep H h) : Gnd w h :=
  ⟨G.K.keeps k, let ⟨p, l, m, a, b, T⟩ := G.T; ⟨p, l, m, a, b, T.keeps k⟩⟩

/- the walk's surroundings: no exception is handled, room for frames and C units -/
noncomputable abbrev Arnd (dp un : Nat) (fr : Option (List Env)) (gd : Option (List Code)) : Around := { handled := none, depth := dp, frames := fr, guards := gd, units := un }

/- a def's contract: it comes back, every object stands, Post holds -/
noncomputable def Meets (w : World) (H : Heap) (f : Addr) (args : List Value) (d u : Nat) (Pre : Heap → Prop) (Post : Heap → Value → Heap → Prop) : Prop :=
  ∀ (dp un : Nat) (fr : Option (List Env)) (gd : Option (List Code)) (s : Shared) (R : Result → Shared → Prop), dp + d < recursionLimit → un + u < cLine → Keep H s.heap → Pre s.heap →
    (∀ v h' tk', Keep s.heap h' → Post s.heap v h' → R (.ok (.ret v)) { s with heap := h', toks := tk' }) → codeAny (model prg w) (Arnd dp un fr gd) (.call (.ref f) ⟨args, []⟩) R s

section
variable {w : World} {H : Heap} {f : Addr} {args : List Value} {R : Result → Shared → Prop} {s : Shared} {dp un : Nat} {fr : Option (List Env)} {gd : Option (List Code)}
  {name qual : Str} {params : Arguments} {body : List Stmt} {scope : Scope} {dV kV doc pm cdv ct oc : Value} {an od : Option Addr} {osl : Array (Option Value)} {binds : List (Str × Value)}

/- into a plain def; all that stands is the ground of its frame, but what is listed as own -/
theorem enter (own : List (Addr × Obj)) (G : Gnd w H) (kp : Keep H s.heap)
    (ho : (hd.heap_1 w.params).lookup f = some ⟨oc, od, .func (fnOf name qual params body scope dV kV doc pm an cdv ct), osl⟩) (hcd : codeIn (hd.heap_1 w.params) cdv qual = true)
    (hroom : dp < recursionLimit)
    (hbind : BindsTo s (fnOf name qual params body scope dV kV doc pm an cdv ct) ⟨args, []⟩ binds) (hloc : ∀ y ∈ binds, scope.names.lookup y.1 = some .local)
    (hown : ∀ p ∈ own, s.heap.get? p.1 = some p.2 ∧ H.get? p.1 = none)
    (h : ∀ g L' h₁ p loose mean mg mb, Keep H g → Keep g s.heap → (∀ b o, s.heap.get? b = some o → b ∉ own.map (·.1) → g.get? b = some o) → g.objs.size = s.heap.objs.size →
      Fr g L' h₁ (fun y => binds.reverse.lookup y) → News g L' h₁ own → (∀ p ∈ own, p.1 < L') → (hd.heap_1 w.params).In g → Top p loose mean mg mb g →
      wpAny (model prg w) (Arnd (dp + 1) (un + 3) (fr.map (envOf qual scope L' f cdv :: ·)) gd) (execs body (envOf qual scope L' f cdv))
        (fun fl s' => R (.ok (.ret (match fl with | .ret v => v | _ => .none))) s') (fun _ _ => False) { s with heap := h₁, toks := s.toks + binds.length })
    (hco : scope.isCoroutine = false) (hgen : scope.isGenerator = false) (hk : scope.kind = .function)
    (hcell : ∀ x ∈ scope.names, x.2 ≠ .cell) : codeAny (model prg w) (Arnd dp un fr gd) (.call (.ref f) ⟨args, []⟩) R s := by
  obtain ⟨p, loose, mean, mg, mb, T⟩ := G.T
  have nm : ∀ b o, H.get? b = some o → b ∉ own.map (·.1) := fun b o e q => by
    obtain ⟨p, hp, rfl⟩ := List.mem_map.mp q
    rw [(hown p hp).2] at e; cases e
  have st : Keep H (hideAll s.heap (own.map (·.1))) := fun b o e => hideAll_get _ (kp b o e) (nm b o e)
  refine codeAny_call_def (fd := fnOf name qual params body scope dV kV doc pm an cdv ct) (body := body) (binds := binds) hroom (G.K.keeps kp _ _ ho) rfl (T.nolimit.keeps kp) (codeRec_of (G.K.keeps kp) hcd) rfl hbind hcell hloc (fun h₁ hns hk₁ => ?_) hco hgen hk
  exact wpAny_mono (h (hideAll s.heap (own.map (·.1))) s.heap.objs.size h₁ p loose mean mg mb st (fun b o e => of_hideAll _ e) (fun b o e q => hideAll_get _ e q) (hideAll_size _ _)
    ⟨hns, fun b o e => hk₁ b o (of_hideAll _ e), Nat.le_of_eq (hideAll_size _ _)⟩
    (fun p hp => ⟨hk₁ _ _ (hown p hp).1, Nat.ne_of_lt (Heap.lt_size (hown p hp).1), hideAll_none _ (List.mem_map_of_mem hp)⟩) (fun p hp => Heap.lt_size (hown p hp).1) (G.K.keeps st) (T.keeps st))
    (fun _ _ y => y) (fun _ _ y => y.elim)
/- the same, nothing being own -/
theorem enter0 (G : Gnd w H) (kp : Keep H s.heap)
    (ho : (hd.heap_1 w.params).lookup f = some ⟨oc, od, .func (fnOf name qual params body scope dV kV doc pm an cdv ct), osl⟩) (hcd : codeIn (hd.heap_1 w.params) cdv qual = true)
    (hroom : dp < recursionLimit)
    (hbind : BindsTo s (fnOf name qual params body scope dV kV doc pm an cdv ct) ⟨args, []⟩ binds) (hloc : ∀ y ∈ binds, scope.names.lookup y.1 = some .local)
    (h : ∀ L' h₁ p loose mean mg mb, Fr s.heap L' h₁ (fun y => binds.reverse.lookup y) → News s.heap L' h₁ [] → (hd.heap_1 w.params).In s.heap → Top p loose mean mg mb s.heap →
      wpAny (model prg w) (Arnd (dp + 1) (un + 3) (fr.map (envOf qual scope L' f cdv :: ·)) gd) (execs body (envOf qual scope L' f cdv))
        (fun fl s' => R (.ok (.ret (match fl with | .ret v => v | _ => .none))) s') (fun _ _ => False) { s with heap := h₁, toks := s.toks + binds.length })
    (hco : scope.isCoroutine = false) (hgen : scope.isGenerator = false) (hk : scope.kind = .function)
    (hcell : ∀ x ∈ scope.names, x.2 ≠ .cell) : codeAny (model prg w) (Arnd dp un fr gd) (.call (.ref f) ⟨args, []⟩) R s := by
  obtain ⟨p, loose, mean, mg, mb, T⟩ := G.T
  refine codeAny_call_def (fd := fnOf name qual params body scope dV kV doc pm an cdv ct) (body := body) (binds := binds) hroom (G.K.keeps kp _ _ ho) rfl (T.nolimit.keeps kp) (codeRec_of (G.K.keeps kp) hcd) rfl hbind hcell hloc (fun h₁ hns hk₁ => ?_) hco hgen hk
  exact wpAny_mono (h s.heap.objs.size h₁ p loose mean mg mb ⟨hns, fun b o e => hk₁ b o e, Nat.le_refl _⟩ News.nil (G.K.keeps kp) (T.keeps kp)) (fun _ _ y => y) (fun _ _ y => y.elim)
end

/- into a def some of whose names lie in cells -/
theorem enterC {w : World} {H : Heap} {f : Addr} {args : List Value} {R : Result → Shared → Prop} {s : Shared} {dp un : Nat} {fr : Option (List Env)} {gd : Option (List Code)}
    {name qual : Str} {params : Arguments} {body : List Stmt} {scope : Scope} {dV kV doc pm cdv ct oc : Value} {an od : Option Addr} {osl : Array (Option Value)} {binds : List (Str × Value)}
    (own : List (Addr × Obj)) (G : Gnd w H) (kp : Keep H s.heap)
    (ho : (hd.heap_1 w.params).lookup f = some ⟨oc, od, .func (fnOf name qual params body scope dV kV doc pm an cdv ct), osl⟩) (hcd : codeIn (hd.heap_1 w.params) cdv qual = true)
    (hroom : dp < recursionLimit)
    (hbind : BindsTo s (fnOf name qual params body scope dV kV doc pm an cdv ct) ⟨args, []⟩ binds) (hkind : (binds.all fun y => scope.names.lookup y.1 == some .local || scope.names.lookup y.1 == some .cell) = true)
    (hnd : ((cellsFrom 0 scope.names []).map (·.1)).Nodup)
    (hown : ∀ p ∈ own, s.heap.get? p.1 = some p.2 ∧ H.get? p.1 = none)
    (h : ∀ g L' h₁ tk cells p loose mean mg mb, Keep H g → Keep g s.heap → (∀ b o, s.heap.get? b = some o → b ∉ own.map (·.1) → g.get? b = some o) → g.objs.size = s.heap.objs.size →
      Fr g L' h₁ (bindL (envOfC qual scope L' f cdv).kindOf binds fun _ => none) → News g L' h₁ (cells ++ own) → CellsAre (bindC (envOfC qual scope L' f cdv).kindOf binds fun _ => none) (cellsFrom (L' + 1) scope.names []) cells →
      (∀ p ∈ own, p.1 < L') → (hd.heap_1 w.params).In g → Top p loose mean mg mb g →
      wpAny (model prg w) (Arnd (dp + 1) (un + 3) (fr.map (envOfC qual scope L' f cdv :: ·)) gd) (execs body (envOfC qual scope L' f cdv))
        (fun fl s' => R (.ok (.ret (match fl with | .ret v => v | _ => .none))) s') (fun _ _ => False) { s with heap := h₁, toks := tk })
    (hco : scope.isCoroutine = false) (hgen : scope.isGenerator = false) (hk : scope.kind = .function) : codeAny (model prg w) (Arnd dp un fr gd) (.call (.ref f) ⟨args, []⟩) R s := by
  obtain ⟨p, loose, mean, mg, mb, T⟩ := G.T
  have nm : ∀ b o, H.get? b = some o → b ∉ own.map (·.1) := fun b o e q => by
    obtain ⟨p, hp, rfl⟩ := List.mem_map.mp q
    rw [(hown p hp).2] at e; cases e
  have st : Keep H (hideAll s.heap (own.map (·.1))) := fun b o e => hideAll_get _ (kp b o e) (nm b o e)
  refine codeAny_call_function (fd := fnOf name qual params body scope dV kV doc pm an cdv ct) (body := body) hroom (G.K.keeps kp _ _ ho) rfl hco hgen rfl (codeRec_of (G.K.keeps kp) hcd) (hbind _ _ _ _ ?_)
  refine wpAny_newFunctionEnv_cells hk (kindsX hkind _) fun env' he s' x => ?_
  subst he
  refine ⟨(T.nolimit.keeps kp).keeps x.toInCall.keep, codeAny_func ?_⟩
  obtain ⟨h₁, tk, rfl, _⟩ := x.done
  have hk₁ := x.toInCall.keep
  obtain ⟨cells, NC, Y⟩ := Cl.news (h₀ := s.heap) (Nat.le_refl _) fun n c hm => ⟨x.cell n c (lookup_of_mem_nodup (cellsFrom_names scope.names 0 (s.heap.objs.size + 1) [] [] rfl ▸ hnd) hm), x.above n c hm⟩
  refine wpAny_mono (h (hideAll s.heap (own.map (·.1))) s.heap.objs.size h₁ tk cells p loose mean mg mb st (fun b o e => of_hideAll _ e) (fun b o e q => hideAll_get _ e q) (hideAll_size _ _)
    ⟨x.toInCall.ns, fun b o e => hk₁ b o (of_hideAll _ e), Nat.le_of_eq (hideAll_size _ _)⟩ (fun p hp => ?_) Y (fun p hp => Heap.lt_size (hown p hp).1) (G.K.keeps st) (T.keeps st)) (fun _ _ y => y) fun _ _ y => y.elim
  rcases List.mem_append.mp hp with hp | hp
  · refine ⟨(NC p hp).1, (NC p hp).2.1, ?_⟩
    cases q : (hideAll s.heap (own.map (·.1))).get? p.1 with
    | none => rfl
    | some o => have := of_hideAll _ q; rw [(NC p hp).2.2] at this; cases this
  · exact ⟨hk₁ _ _ (hown p hp).1, Nat.ne_of_lt (Heap.lt_size (hown p hp).1), hideAll_none _ (List.mem_map_of_mem hp)⟩
/- into a def that was made within a def -/
theorem enterN {w : World} {H : Heap} {f c' : Addr} {args : List Value} {R : Result → Shared → Prop} {s : Shared} {dp un : Nat} {fr : Option (List Env)} {gd : Option (List Code)}
    {name qual : Str} {params : Arguments} {body : List Stmt} {scope : Scope} {cl : List (Str × Addr)} {doc pm ctv : Value} {binds : List (Str × Value)}
    (own : List (Addr × Obj)) (G : Gnd w H) (kp : Keep H s.heap)
    (ho : s.heap.get? f = some (fnMade name qual params body scope cl doc pm c' ctv)) (hcd : s.heap.CodeRec (.ref c') qual)
    (hroom : dp < recursionLimit)
    (hbind : BindsTo s (fnX name qual params body scope cl .none .none doc pm none (.ref c') ctv) ⟨args, []⟩ binds) (hloc : ∀ y ∈ binds, scope.names.lookup y.1 = some .local)
    (hown : ∀ p ∈ own, s.heap.get? p.1 = some p.2 ∧ H.get? p.1 = none)
    (h : ∀ g L' h₁ p loose mean mg mb, Keep H g → Keep g s.heap → (∀ b o, s.heap.get? b = some o → b ∉ own.map (·.1) → g.get? b = some o) → g.objs.size = s.heap.objs.size →
      Fr g L' h₁ (fun y => binds.reverse.lookup y) → News g L' h₁ own → (∀ p ∈ own, p.1 < L') → (hd.heap_1 w.params).In g → Top p loose mean mg mb g →
      wpAny (model prg w) (Arnd (dp + 1) (un + 3) (fr.map (envX qual scope L' f (.ref c') cl :: ·)) gd) (execs body (envX qual scope L' f (.ref c') cl))
        (fun fl s' => R (.ok (.ret (match fl with | .ret v => v | _ => .none))) s') (fun _ _ => False) { s with heap := h₁, toks := s.toks + binds.length })
    (hco : scope.isCoroutine = false) (hgen : scope.isGenerator = false) (hk : scope.kind = .function)
    (hcell : ∀ x ∈ scope.names, x.2 ≠ .cell) : codeAny (model prg w) (Arnd dp un fr gd) (.call (.ref f) ⟨args, []⟩) R s := by
  obtain ⟨p, loose, mean, mg, mb, T⟩ := G.T
  have nm : ∀ b o, H.get? b = some o → b ∉ own.map (·.1) := fun b o e q => by
    obtain ⟨p, hp, rfl⟩ := List.mem_map.mp q
    rw [(hown p hp).2] at e; cases e
  have st : Keep H (hideAll s.heap (own.map (·.1))) := fun b o e => hideAll_get _ (kp b o e) (nm b o e)
  refine codeAny_call_def (fd := fnX name qual params body scope cl .none .none doc pm none (.ref c') ctv) (body := body) (binds := binds) hroom ho rfl (T.nolimit.keeps kp) hcd rfl hbind hcell hloc (fun h₁ hns hk₁ => ?_) hco hgen hk
  exact wpAny_mono (h (hideAll s.heap (own.map (·.1))) s.heap.objs.size h₁ p loose mean mg mb st (fun b o e => of_hideAll _ e) (fun b o e q => hideAll_get _ e q) (hideAll_size _ _)
    ⟨hns, fun b o e => hk₁ b o (of_hideAll _ e), Nat.le_of_eq (hideAll_size _ _)⟩
    (fun p hp => ⟨hk₁ _ _ (hown p hp).1, Nat.ne_of_lt (Heap.lt_size (hown p hp).1), hideAll_none _ (List.mem_map_of_mem hp)⟩) (fun p hp => Heap.lt_size (hown p hp).1) (G.K.keeps st) (T.keeps st))
    (fun _ _ y => y) (fun _ _ y => y.elim)
theorem keep_of {s h' g : Heap} {L' : Addr} {m : Str → Option Value} {own news : List (Addr × Obj)} (ko : ∀ b o, s.get? b = some o → b ∉ own.map (·.1) → g.get? b = some o)
    (F : Fr g L' h' m) (N : News g L' h' news) (hs : ∀ p ∈ own, p ∈ news) (hown : ∀ p ∈ own, s.get? p.1 = some p.2) : Keep s h' := fun b o e => by
  by_cases q : b ∈ own.map (·.1)
  · obtain ⟨p, hp, rfl⟩ := List.mem_map.mp q
    have h2 := hown p hp
    rw [e] at h2
    rw [Option.some.inj h2]
    exact (N p (hs p hp)).1
  · exact F.keep b o (ko b o e q)

section
variable {prog : Program} {w : World} {A : Around} {E : Value → Shared → Prop} {s : Shared}
theorem len_tupI {l : Addr} {vs : List Value} {ns : List Int} {Q : Value → Shared → Prop} (hl : IsTup s.heap l vs.toArray) (hI : IntsAre vs ns) (hz : ns.length ≤ 16384) (h : Q (.int ns.length (s.toks + 1)) { s with toks := s.toks + 1 + 1 }) :
    wpAny (model prog w) A (call (.builtin "len") [.ref l]) Q E s :=
  kun_lenT hl (by have := hI.length; simp; lia) (by lia) h
theorem len_lstI {l : Addr} {vs : List Value} {ns : List Int} {Q : Value → Shared → Prop} (hl : s.heap.IsList l vs.toArray) (hI : IntsAre vs ns) (hz : ns.length ≤ 16384) (h : Q (.int ns.length (s.toks + 1)) { s with toks := s.toks + 1 + 1 }) :
    wpAny (model prog w) A (call (.builtin "len") [.ref l]) Q E s :=
  kun_lenL hl (by have := hI.length; simp; lia) (by lia) h
end
theorem tuple_ofO {prog : Program} {w : World} {A : Around} {E : Value → Shared → Prop} {s : Shared} {h₀ : Heap} {L l : Addr} {m : Str → Option Value} {news : List (Addr × Obj)} {its : Array Value} {Q : Value → Shared → Prop}
    (F : Fr h₀ L s.heap m) (N : News h₀ L s.heap news) (hl : s.heap.IsList l its) (hsz : its.size ≤ sizeLine)
    (h : ∀ D h', Fr h₀ L h' m → News h₀ L h' ((D, { cls := .type "tuple", data := .seq its }) :: news) → (∀ p ∈ news, p.1 < D) → Q (.ref D) { s with heap := h' }) : wpAny (model prog w) A (call (.type "tuple") [.ref l]) Q E s := by
  refine call_tuple_list hl (fun h' hk => ?_) hsz
  have F' := F.kept hk
  have N' : News h₀ L h' news := fun p hp => ⟨hk _ _ (N p hp).1, (N p hp).2⟩
  exact h _ _ (F'.push _) (N'.push F' _) fun p hp => Heap.lt_size (N' p hp).1
theorem none_own {s g : Heap} {own : List (Addr × Obj)} {a : Addr} (ko : ∀ b o, s.get? b = some o → b ∉ own.map (·.1) → g.get? b = some o) (e : g.get? a = none) (ha : a ∉ own.map (·.1)) : s.get? a = none := by
  cases q : s.get? a with
  | none => rfl
  | some o => rw [ko a o q ha] at e; cases e
theorem news_sub {h₀ h : Heap} {L : Addr} {a b : List (Addr × Obj)} (N : News h₀ L h a) (hs : ∀ p ∈ b, p ∈ a) : News h₀ L h b := fun p hp => N p (hs p hp)
noncomputable abbrev wsEs (h1 h2 h3 h4 h5 : Int) (t1 t2 t3 t4 t5 : Tok) (raw n nt norm simple : Value) : List DictEntry :=
  [⟨h1, .str (Str.ofString "raw") t1, raw⟩, ⟨h2, .str (Str.ofString "n") t2, n⟩, ⟨h3, .str (Str.ofString "nt") t3, nt⟩, ⟨h4, .str (Str.ofString "norm") t4, norm⟩, ⟨h5, .str (Str.ofString "is_simple") t5, simple⟩]
noncomputable abbrev tupOf (its : List Value) : Obj := { cls := .type "tuple", data := .seq its.toArray }

/- where a Whitespace object's parts lie -/
structure WsP where
  dx : Addr
  nrm : Addr
  ct : Addr
  h1 : Int
  h2 : Int
  h3 : Int
  h4 : Int
  h5 : Int
  t1 : Tok
  t2 : Tok
  t3 : Tok
  t4 : Tok
  t5 : Tok
  tb : Tok
  tnt : Tok
  raw : Value
  n : Value
  simple : Value
  k : Nat
noncomputable abbrev wsOwn (x : Addr) (q : WsP) (vs : List Value) (b nt : Int) : List (Addr × Obj) :=
  [(x, instObj 134 q.dx), (q.dx, dictOf (wsEs q.h1 q.h2 q.h3 q.h4 q.h5 q.t1 q.t2 q.t3 q.t4 q.t5 q.raw q.n (.int nt q.tnt) (.ref q.nrm) q.simple) q.k),
    (q.nrm, tupOf [.ref q.ct, .int b q.tb]), (q.ct, tupOf vs)]
/- a Whitespace object: its runs' counts, the blanks behind, its tabs -/
noncomputable def WsAt (H h : Heap) (x : Addr) (q : WsP) (vs : List Value) (cnt : List Int) (b nt : Int) : Prop :=
  (∀ p ∈ wsOwn x q vs b nt, h.get? p.1 = some p.2 ∧ H.get? p.1 = none) ∧ IntsAre vs cnt
end Mine
end

/- part Loop -/
section
example : True := by
  k_with_none
  w_top off
  trivial
open PySem PySem.W PyProof.Rows PySem.Calls PySem.Spec
set_option maxRecDepth 100000
namespace Mine

/- the walk rests here -/
noncomputable def Hold (P : Prop) : Prop := P
theorem Hold.out {P : Prop} (h : Hold P) : P := h

section
variable {prog : Program} {w : World} {A : Around} {E : Value → Shared → Prop} {s : Shared} {env : Env} {h₀ : Heap} {x : Str} {body : List Stmt} {Q : Flow → Shared → Prop}

/- a turn's end -/
noncomputable def TurnEnd (h₀ : Heap) (L : Addr) (I : Addr) (oI : Obj) (J : (Str → Option Value) → List (Addr × Obj) → Prop) (s₁ s₂ : Shared) : Prop :=
  ∃ h' tk m' nx, s₂ = { s₁ with heap := h', toks := tk } ∧ Fr h₀ L h' m' ∧ News h₀ L h' ((I, oI) :: nx) ∧ (∀ p ∈ nx, p.1 ≠ I) ∧ J m' nx
noncomputable def TurnPost (h₀ : Heap) (L : Addr) (I : Addr) (oI : Obj) (J : (Str → Option Value) → List (Addr × Obj) → Prop) (s₁ : Shared) (Q : Flow → Shared → Prop) (f : Flow) (s₂ : Shared) : Prop :=
  match f with
  | .ret v => Q (.ret v) s₂
  | .brk => Q .next s₂
  | _ => TurnEnd h₀ L I oI J s₁ s₂
theorem TurnEnd.intro {L I : Addr} {oI : Obj} {J : (Str → Option Value) → List (Addr × Obj) → Prop} {s₁ : Shared} {h' : Heap} {tk : Nat} {m' : Str → Option Value} {all : List (Addr × Obj)} (nx : List (Addr × Obj))
    (F : Fr h₀ L h' m') (N : News h₀ L h' all) (hs : ∀ p ∈ (I, oI) :: nx, p ∈ all) (off : ∀ p ∈ nx, p.1 ≠ I) (j : J m' nx) : TurnEnd h₀ L I oI J s₁ { s₁ with heap := h', toks := tk } :=
  ⟨h', tk, m', nx, rfl, F, fun p hp => N p (hs p hp), off, j⟩

/- the ledger without the iterator -/
noncomputable def offI (I : Addr) (all : List (Addr × Obj)) : List (Addr × Obj) := all.filter fun p => decide (p.1 ≠ I)
theorem offI_has {I : Addr} {all xs : List (Addr × Obj)} (a : ∀ p ∈ xs, p ∈ all) (b : ∀ p ∈ xs, p.1 ≠ I) : ∀ p ∈ xs, p ∈ offI I all := fun p hp =>
  List.mem_filter.mpr ⟨a p hp, decide_eq_true (b p hp)⟩
theorem TurnEnd.auto {L I : Addr} {oI : Obj} {J : (Str → Option Value) → List (Addr × Obj) → Prop} {s₁ : Shared} {h' : Heap} {tk : Nat} {m' : Str → Option Value} {all : List (Addr × Obj)}
    (F : Fr h₀ L h' m') (N : News h₀ L h' all) (hI : (I, oI) ∈ all) (j : J m' (offI I all)) : TurnEnd h₀ L I oI J s₁ { s₁ with heap := h', toks := tk } :=
  .intro (offI I all) F N (fun p hp => by
    rcases List.mem_cons.mp hp with rfl | hp
    · exact hI
    · exact (List.mem_filter.mp hp).1) (fun p hp => of_decide_eq_true (List.mem_filter.mp hp).2) j
theorem loopAt_of {I : Addr} {fp : List Addr} {n : Nat} {P : Nat → Value → Prop} {St : Nat → Heap → Prop} {m : Str → Option Value} {news : List (Addr × Obj)} {s₂ : Shared}
    (W : Walks prog w A I fp [I] n P St) (hLf : env.locals ∉ fp) (hI₀ : h₀.get? I = none) (hst : St 0 s₂.heap) (F : Fr h₀ env.locals s₂.heap m) (N : News h₀ env.locals s₂.heap news) (off : ∀ p ∈ news, p.1 ≠ I)
    (hIo : ∀ i h, St i h → ∃ o, h.get? I = some o)
    (J : Nat → (Str → Option Value) → List (Addr × Obj) → Prop) (hj : J 0 m news)
    (src : List (Addr × Obj)) (hfp : ∀ b ∈ fp, b = I ∨ (h₀.get? b).isSome = true ∨ ∃ o, (b, o) ∈ src) (hsrc : ∀ i m nx, J i m nx → ∀ p ∈ src, p ∈ nx)
    (turn : ∀ i v m₁ nx h tk oI, i < n → P i v → J i m₁ nx → (∀ p ∈ nx, p.1 ≠ I) → Fr h₀ env.locals h (fun y => if y = x then some v else m₁ y) → News h₀ env.locals h ((I, oI) :: nx) →
      wpAny (model prog w) A (execs body env) (TurnPost h₀ env.locals I oI (J (i + 1)) { s₂ with heap := h, toks := tk } Q) E { s₂ with heap := h, toks := tk })
    (done : ∀ m₁ nx h tk, J n m₁ nx → Fr h₀ env.locals h m₁ → News h₀ env.locals h nx → Q .next { s₂ with heap := h, toks := tk }) :
    LoopAtV prog w A h₀ env x body Q E (.ref I) s₂ := by
  have hIf : I ∈ fp := W.sub I (List.mem_singleton.mpr rfl)
  refine ⟨I, fp, [I], n, P, St, m, news, J, rfl, W, hLf, fun b hb => by rw [List.mem_singleton.mp hb]; exact hI₀, fun p hp q => off p hp (List.mem_singleton.mp q), hst, F, N, hj, ?_, fun h' tk m' news' F' N' _ j => done m' news' h' tk j F' N'⟩
  rintro i v m₁ nx s₁ own ⟨hh, tk, rfl⟩ hi hP hJ hoff hof hown hall hst₁ F₁ N₁
  obtain ⟨oI, heI⟩ := hIo _ _ hst₁
  have hmI : (I, oI) ∈ own := hall I hIf hI₀ oI heI
  have N₂ : News h₀ env.locals hh ((I, oI) :: nx) := fun p hp => by
    rcases List.mem_cons.mp hp with rfl | hp
    · exact N₁ _ (List.mem_append_left _ hmI)
    · exact N₁ _ (List.mem_append_right _ hp)
  refine wpAny_mono (turn i v m₁ nx hh tk oI hi hP hJ (fun p hp q => hoff p hp (List.mem_singleton.mpr q)) F₁ N₂) (fun f s₃ h₃ => ?_) fun _ _ e => e
  have fin : TurnEnd h₀ env.locals I oI (J (i + 1)) { s₂ with heap := hh, toks := tk } s₃ → LoopStepU h₀ env.locals [I] own (J (i + 1)) { s₂ with heap := hh, toks := tk } .next s₃ := by
    rintro ⟨h', tk', m', nx', rfl, F', N', off', j⟩
    refine ⟨rfl, h', tk', m', nx', rfl, F', fun p hp => ?_, fun p hp q => off' p hp (List.mem_singleton.mp q), j⟩
    rcases List.mem_append.mp hp with hp | hp
    · have e1 := hown p hp
      have n1 := N₁ p (List.mem_append_left _ hp)
      rcases hfp p.1 (hof p hp) with q | q | ⟨o, q⟩
      · have : p = (I, oI) := Prod.ext q (by rw [q, heI] at e1; exact (Option.some.inj e1).symm)
        rw [this]; exact N' _ (.head _)
      · rw [n1.2.2] at q; cases q
      · have : o = p.2 := by
          have e2 := (N₁ (p.1, o) (List.mem_append_right _ (hsrc _ _ _ hJ _ q))).1
          rw [e1] at e2; exact (Option.some.inj e2).symm
        subst this
        exact N' _ (List.mem_cons_of_mem _ (hsrc _ _ _ j _ q))
    · exact N' p (List.mem_cons_of_mem _ hp)
  cases f with
  | ret v => exact .ret h₃
  | brk => exact .brk h₃
  | next => exact .next (fin h₃)
  | cont => exact .cont (fin h₃)

theorem for_str {xt : PySem.Str} {tx : Tok} {m : Str → Option Value} {news : List (Addr × Obj)} (J : Nat → (Str → Option Value) → List (Addr × Obj) → Prop) (hh : A.handled = none)
    (F : Fr h₀ env.locals s.heap m) (N : News h₀ env.locals s.heap news) (hj : J 0 m news)
    (turn : ∀ i c t m₁ nx h tk I oI, xt.cps[i]? = some c → J i m₁ nx → (∀ p ∈ nx, p.1 ≠ I) → Fr h₀ env.locals h (fun y => if y = x then some (.str ⟨#[c]⟩ t) else m₁ y) → News h₀ env.locals h ((I, oI) :: nx) →
      wpAny (model prog w) A (execs body env) (TurnPost h₀ env.locals I oI (J (i + 1)) { s with heap := h, toks := tk } Q) E { s with heap := h, toks := tk })
    (done : ∀ m₁ nx h tk, J xt.cps.size m₁ nx → Fr h₀ env.locals h m₁ → News h₀ env.locals h nx → Q .next { s with heap := h, toks := tk }) :
    wpAny (model prog w) A (pyIter (.str xt tx)) (fun it s₂ => LoopAtV prog w A h₀ env x body Q E it s₂) E s := by
  have hIL : env.locals ≠ s.heap.objs.size := Nat.ne_of_lt F.ns.lt
  have go : ∀ (c : String), Walks prog w A s.heap.objs.size [s.heap.objs.size] [s.heap.objs.size] xt.cps.size (SignAt xt) (fun i h => h.IsStrIter s.heap.objs.size c xt tx i) →
      LoopAtV prog w A h₀ env x body Q E (.ref s.heap.objs.size) { s with heap := s.heap.push { cls := .type c, data := .fields #[.str xt tx, .int 0 0] } } := fun c W => by
    refine loopAt_of (s₂ := { s with heap := s.heap.push { cls := .type c, data := .fields #[.str xt tx, .int 0 0] } }) W (fun h => hIL (List.mem_singleton.mp h)) (next_is_new F) ⟨_, Heap.get?_push_size _ rfl, rfl, rfl⟩ (F.push _)
      (fun p hp => ⟨Heap.get?_push_of_some _ (N p hp).1, (N p hp).2⟩) (fun p hp => Nat.ne_of_lt (Heap.lt_size (N p hp).1)) (fun i h st => ⟨_, st.choose_spec.1⟩) J hj [] (fun b hb => .inl (List.mem_singleton.mp hb)) (fun _ _ _ _ _ hp => nomatch hp) ?_ done
    rintro i v m₁ nx h tk oI hi ⟨c', u, hc, rfl⟩ hJ off F₁ N₁
    exact turn i c' u m₁ nx h tk _ oI hc hJ off F₁ N₁
  cases ha : xt.cps.all (· < 128) with
  | false => exact wpAny_pyIter_wide ha (go _ (Walks.strWide hh _ _ _))
  | true => exact wpAny_pyIter_ascii ha (go _ (Walks.strAscii hh _ _ _))

theorem for_range {r : Addr} {a b : Int} {t u v : Tok} {n : Nat} {m : Str → Option Value} {news : List (Addr × Obj)} (J : Nat → (Str → Option Value) → List (Addr × Obj) → Prop) (hh : A.handled = none)
    (hr : IsRange s.heap r a b 1 t u v) (hsm : Builtin.Range.small a b 1 = true) (hn : Builtin.Range.rangeSize a b 1 = ((n : Nat) : Int))
    (F : Fr h₀ env.locals s.heap m) (N : News h₀ env.locals s.heap news) (hj : J 0 m news)
    (turn : ∀ i t m₁ nx h tk I oI, i < n → J i m₁ nx → (∀ p ∈ nx, p.1 ≠ I) → Fr h₀ env.locals h (fun y => if y = x then some (.int (a + (i : Int)) t) else m₁ y) → News h₀ env.locals h ((I, oI) :: nx) →
      wpAny (model prog w) A (execs body env) (TurnPost h₀ env.locals I oI (J (i + 1)) { s with heap := h, toks := tk } Q) E { s with heap := h, toks := tk })
    (done : ∀ m₁ nx h tk, J n m₁ nx → Fr h₀ env.locals h m₁ → News h₀ env.locals h nx → Q .next { s with heap := h, toks := tk }) :
    wpAny (model prog w) A (pyIter (.ref r)) (fun it s₂ => LoopAtV prog w A h₀ env x body Q E it s₂) E s := by
  have hIL : env.locals ≠ s.heap.objs.size := Nat.ne_of_lt F.ns.lt
  refine wpAny_pyIter_range hr hsm ?_
  rw [hn]
  refine loopAt_of (s₂ := { s with heap := s.heap.push { cls := .type "range_iterator", data := .fields #[rawInt a, rawInt (n : Int), rawInt 1] } }) (LCg.range_walks hh a n) (fun h => hIL (List.mem_singleton.mp h)) (next_is_new F)
    (by show IsRangeIter _ _ _ _ _; simpa using Heap.get?_push_size _ rfl) (F.push _) (fun p hp => ⟨Heap.get?_push_of_some _ (N p hp).1, (N p hp).2⟩) (fun p hp => Nat.ne_of_lt (Heap.lt_size (N p hp).1))
    (fun i h st => ⟨_, st⟩) J hj [] (fun b hb => .inl (List.mem_singleton.mp hb)) (fun _ _ _ _ _ hp => nomatch hp) ?_ done
  rintro i v m₁ nx h tk oI hi ⟨t', rfl⟩ hJ off F₁ N₁
  exact turn i t' m₁ nx h tk _ oI hi hJ off F₁ N₁
end
end Mine
namespace Mine
/- a frame's map, what is known of it in front -/
noncomputable def bnd (m : Str → Option Value) : List (Str × Value) → Str → Option Value
  | [], y => m y
  | p :: r, y => if y = p.1 then some p.2 else bnd m r y
theorem bnd_eq {m : Str → Option Value} : ∀ {ps : List (Str × Value)}, (∀ p ∈ ps, m p.1 = some p.2) → bnd m ps = m
  | [], _ => rfl
  | p :: r, h => by
    funext y
    show (if y = p.1 then some p.2 else bnd m r y) = m y
    rw [bnd_eq fun q hq => h q (.tail _ hq)]
    by_cases e : y = p.1
    · rw [if_pos e, e]; exact (h p (.head _)).symm
    · rw [if_neg e]
theorem bnd_fr {h₀ h : Heap} {L : Addr} {m : Str → Option Value} {ps : List (Str × Value)} (F : Fr h₀ L h m) (e : ∀ p ∈ ps, m p.1 = some p.2) : Fr h₀ L h (bnd m ps) := by
  rw [bnd_eq e]; exact F
theorem bnd_fr1 {h₀ h : Heap} {L : Addr} {m : Str → Option Value} {ps : List (Str × Value)} {x : Str} {v : Value} (F : Fr h₀ L h (fun y => if y = x then some v else m y)) (e : ∀ p ∈ ps, m p.1 = some p.2) : Fr h₀ L h (fun y => if y = x then some v else bnd m ps y) := by
  rw [bnd_eq e]; exact F
end Mine
namespace Mine
noncomputable def OffN (I : Addr) : List (Addr × Obj) → Prop
  | [] => True
  | p :: r => (@Ne Nat p.1 I) ∧ OffN I r
theorem OffN.of {I : Addr} : ∀ {l : List (Addr × Obj)}, (∀ p ∈ l, p.1 ≠ I) → OffN I l
  | [], _ => trivial
  | _ :: _, h => ⟨h _ (.head _), OffN.of fun p hp => h p (.tail _ hp)⟩
end Mine
end

/- part Bits -/
section
example : True := by
  k_with_none
  w_top off
  trivial
open PySem PySem.W PyProof.Rows PySem.Calls PySem.Spec
namespace Mine
theorem and_low (X k : Nat) : X &&& (X / 2 ^ k * 2 ^ k) = X / 2 ^ k * 2 ^ k := by
  apply Nat.eq_of_testBit_eq
  intro i
  rw [Nat.testBit_and, ← Nat.shiftLeft_eq, Nat.testBit_shiftLeft]
  by_cases h : k ≤ i
  · have e : (X / 2 ^ k).testBit (i - k) = X.testBit i := by
      rw [Nat.testBit_div_two_pow]
      congr 1; lia
    simp [h, e]
  · simp [h]
theorem xor_low {x : Int} (hx : 0 ≤ x) (k : Nat) : Builtin.bitXor x (x.fdiv (2 ^ k) * 2 ^ k) = x % 2 ^ k := by
  obtain ⟨X, rfl⟩ := Int.eq_ofNat_of_zero_le hx
  have e1 : (X : Int).fdiv (2 ^ k) = ((X / 2 ^ k : Nat) : Int) := by
    rw [Int.fdiv_eq_ediv_of_nonneg _ (by exact_mod_cast Nat.zero_le _)]
    push_cast; rfl
  rw [e1, bitXor_and]
  have e2 : ((X / 2 ^ k : Nat) : Int) * 2 ^ k = ((X / 2 ^ k * 2 ^ k : Nat) : Int) := by push_cast; rfl
  rw [e2]
  have e3 : Builtin.bitAnd (X : Int) ((X / 2 ^ k * 2 ^ k : Nat) : Int) = ((X / 2 ^ k * 2 ^ k : Nat) : Int) := by
    unfold Builtin.bitAnd
    rw [decide_eq_true (Int.natCast_nonneg _), decide_eq_true (Int.natCast_nonneg _)]
    show ((((X : Int).toNat &&& ((X / 2 ^ k * 2 ^ k : Nat) : Int).toNat : Nat)) : Int) = _
    rw [Int.toNat_natCast, Int.toNat_natCast, and_low]
  rw [e3]
  have h := Nat.div_add_mod X (2 ^ k)
  have e4 : ((X : Int)) % 2 ^ k = ((X % 2 ^ k : Nat) : Int) := by push_cast; rfl
  rw [e4]
  have h2 : X / 2 ^ k * 2 ^ k + X % 2 ^ k = X := by rw [Nat.mul_comm]; exact h
  lia
/- digits, the lowest first -/
noncomputable def val (B : Int) : List Int → Int
  | [] => 0
  | d :: r => d + B * val B r
theorem val_append (B : Int) : ∀ (e f : List Int), val B (e ++ f) = val B e + B ^ e.length * val B f
  | [], f => by simp [val]
  | d :: r, f => by
    have ih := val_append B r f
    simp only [List.cons_append, val, List.length_cons, ih, Int.pow_succ]
    rw [Int.mul_add, Int.add_assoc, Int.mul_comm (B ^ r.length) B, Int.mul_assoc]
theorem split_facts {x : Int} {N k1 k2 : Nat} (h0 : 0 ≤ x) (h : x < 2 ^ (N * (k1 + k2))) : 0 ≤ x.fdiv (2 ^ (N * k1)) ∧ x.fdiv (2 ^ (N * k1)) < 2 ^ (N * k2) ∧ 0 ≤ x % 2 ^ (N * k1) ∧ x % 2 ^ (N * k1) < 2 ^ (N * k1) ∧ x % 2 ^ (N * k1) + (2 ^ N) ^ k1 * x.fdiv (2 ^ (N * k1)) = x ∧ x.fdiv (2 ^ (N * k1)) ≤ x ∧ x % 2 ^ (N * k1) ≤ x := by
  have hp : (0 : Int) < 2 ^ (N * k1) := Int.pow_pos (by decide)
  rw [Int.fdiv_eq_ediv_of_nonneg _ (Int.le_of_lt hp), ← Int.pow_mul]
  rw [Nat.mul_add, Int.pow_add] at h
  have h1 := Int.emod_nonneg x (Int.ne_of_gt hp)
  have h2 := Int.emod_lt_of_pos x hp
  have h3 := Int.ediv_nonneg h0 (Int.le_of_lt hp)
  have h4 := Int.emod_add_mul_ediv x (2 ^ (N * k1))
  refine ⟨h3, Int.ediv_lt_of_lt_mul hp (by rw [Int.mul_comm]; exact h), h1, h2, h4, Int.ediv_le_self _ h0, ?_⟩
  have : 0 ≤ 2 ^ (N * k1) * (x / 2 ^ (N * k1)) := Int.mul_nonneg (Int.le_of_lt hp) h3
  lia
theorem set_mid {ds : List Int} {L : Nat} (h : L < ds.length) (x : Int) : ds.set L x = ds.take L ++ [x] ++ ds.drop (L + 1) := by
  rw [List.set_eq_take_append_cons_drop, if_pos h]; simp
theorem two_mid {ds e1 e2 : List Int} {L M R : Nat} (h1 : L + e1.length = M) (h2 : M + e2.length = R) (hR : R ≤ ds.length) :
    (ds.take L ++ e1 ++ ds.drop M).take M ++ e2 ++ (ds.take L ++ e1 ++ ds.drop M).drop R = ds.take L ++ (e1 ++ e2) ++ ds.drop R := by
  have hl : (ds.take L ++ e1).length = M := by rw [List.length_append, List.length_take]; lia
  rw [List.take_append_of_le_length (by lia), List.take_of_length_le (by lia), List.drop_append, List.drop_of_length_le (by lia), hl, List.drop_drop]
  have : M + (R - M) = R := by lia
  rw [this]; simp
end Mine
end

/- part B1 -/
section
example : True := by
  k_with_none
  w_top off
  trivial
open PySem PySem.W PyProof.Rows PySem.Calls PySem.Spec
set_option maxRecDepth 100000
set_option rowWalk.seconds 0
namespace Mine
example : hd.heap_1 = hd.heap_1 ∧ PySem.Challenge.rw_pg0285_01 = PySem.Challenge.rw_pg0285_01 := by
  k_fill
  exact ⟨rfl, rfl⟩
set_option pp.maxSteps 100000
set_option pp.deepTerms false
set_option pp.deepTerms.threshold 4
noncomputable def bis3 (a b c x : Int) : Int := if x < b then (if x < a then 0 else 1) else (if x < c then 2 else 3)
set_option maxHeartbeats 8000000 in
theorem bisect_meets {w : World} {H : Heap} (G : Gnd w H) {l : Addr} {vs : List Value} {a b c : Int} {x : Int} {tx : Tok} (hI : IntsAre vs [a, b, c]) :
    Meets w H 30 [.ref l, .int x tx] 10 10 (fun h => h.IsList l vs.toArray) (fun _ v _ => ∃ t, v = .int (bis3 a b c x) t) := by
  intro dp un fr gd s R hd hu kp hl ret
  k_dflt (refine' enter0 G kp ?k6 ?k7 ?k8 ?k9 ?kB ?_ ?c2 ?c3 ?c4 ?c5)
  case k6 => k_is
  case k7 => k_is
  case k8 => lia
  case k9 => k_dflt (exact kp_binds (Frag.In.keeps G.K kp) (fun _ => rfl))
  case kB => exact locs rfl
  case c2 => exact rfl
  case c3 => exact rfl
  case c4 => exact rfl
  case c5 => decide
  intro L' h₁ p loose mean mg mb F N X T
  k_fold
  k_steps
  all_goals
    dsimp only
    k_unfold
    dsimp only
    refine ret _ _ _ (Fr.keep (by assumption)) ⟨_, congrArg (fun i => Value.int i _) ?_⟩
    simp [bis3] at *
    lia
end Mine
end

/- part W1 -/
section
example : True := by
  k_with_none
  w_top off
  trivial
open PySem PySem.W PyProof.Rows PySem.Calls PySem.Spec
set_option maxRecDepth 100000
set_option rowWalk.seconds 0
namespace Mine
example : hd.heap_1 = hd.heap_1 ∧ PySem.Challenge.rw_pg0285_01 = PySem.Challenge.rw_pg0285_01 := by
  k_fill
  exact ⟨rfl, rfl⟩
set_option pp.maxSteps 100000
set_option pp.deepTerms false
set_option pp.deepTerms.threshold 4
example : True := by
  k_with_none
  k_with "call builtin:len" => (k_here; (with_reducible show wpAny _ _ (call (Value.builtin "len") [Value.ref _]) _ _ _); k_dflt (first
      | refine len_tupI (News.isTup (by k_asm) (by k_mem)) (by assumption) (by lia) ?_
      | refine len_lstI (News.isList (by k_asm) (by k_mem)) (by assumption) (by lia) ?_))
  trivial
set_option maxHeartbeats 8000000 in
theorem longest_meets {w : World} {H : Heap} (G : Gnd w H) {x : Addr} {q : WsP} {vs : List Value} {cnt : List Int} {b nt : Int} (hc : cnt.length ≤ 60) (hb : 0 ≤ b) (hb2 : b ≤ 60) :
    Meets w H 96 [.ref x] 10 10 (fun h => WsAt H h x q vs cnt b nt) (fun _ v _ => ∃ t, v = .int (max ((cnt.length : Int) - 1) b) t) := by
  intro dp un fr gd s R hd hu kp hW ret
  have hI := hW.2
  have hlen := hI.length
  k_dflt (refine' enter (wsOwn x q vs b nt) G kp ?k6 ?k7 ?k8 ?k9 ?kB (hW.1) ?_ ?c2 ?c3 ?c4 ?c5)
  case k6 => k_is
  case k7 => k_is
  case k8 => lia
  case k9 => k_dflt (exact BindsTo.of_eq rfl)
  case kB => exact locs rfl
  case c2 => exact rfl
  case c3 => exact rfl
  case c4 => exact rfl
  case c5 => decide
  intro g L' h₁ p loose mean mg mb kg kgs ko ksz F N hlt X T
  k_fold
  k_steps
  all_goals
    refine ret _ _ _ (keep_of ko (by assumption) (by assumption) (fun _ h => h) (fun p hp => (hW.1 p hp).1)) ⟨_, congrArg (fun i => Value.int i _) ?_⟩
    simp only [Int.max_def]
    split <;> split <;> lia
end Mine
end

/- part W2 -/
section
example : True := by
  k_with_none
  w_top off
  trivial
open PySem PySem.W PyProof.Rows PySem.Calls PySem.Spec
set_option maxRecDepth 100000
set_option rowWalk.seconds 0
namespace Mine
example : hd.heap_1 = hd.heap_1 ∧ PySem.Challenge.rw_pg0285_01 = PySem.Challenge.rw_pg0285_01 := by
  k_fill
  exact ⟨rfl, rfl⟩
set_option pp.maxSteps 100000
set_option pp.deepTerms false
set_option pp.deepTerms.threshold 4
example : True := by
  k_with_none
  k_with "call builtin:len" => (k_here; (with_reducible show wpAny _ _ (call (Value.builtin "len") [Value.ref _]) _ _ _); k_dflt (first
      | refine len_tupI (News.isTup (by k_asm) (by k_mem)) (by assumption) (by lia) ?_
      | refine len_lstI (News.isList (by k_asm) (by k_mem)) (by assumption) (by lia) ?_))
  trivial

noncomputable def il (ts : Int) (cnt : List Int) (pre : List Int) : Int := (pre.map (fun i => i.fdiv ts * cnt.getD i.toNat 0)).sum
noncomputable def indentF (ts : Int) (cnt : List Int) (b nt : Int) : Int := b + ts * (il ts cnt (rangeKs ts ((cnt.length : Int) - ts).toNat) + nt)
theorem getD_bd {cnt : List Int} (h : ∀ c ∈ cnt, 0 ≤ c ∧ c ≤ 60) (k : Nat) : 0 ≤ cnt.getD k 0 ∧ cnt.getD k 0 ≤ 60 := by
  by_cases hk : k < cnt.length
  · have e : cnt.getD k 0 = cnt[k] := by simp [hk]
    rw [e]; exact h _ (List.getElem_mem hk)
  · have e : cnt.getD k 0 = 0 := by simp [Nat.not_lt.mp hk]
    rw [e]; lia
theorem mulOk_getD {cnt : List Int} (h : ∀ c ∈ cnt, 0 ≤ c ∧ c ≤ 60) {a : Int} {k : Nat} : IntMulOk a (cnt.getD k 0) :=
  have := getD_bd h k
  IntMulOk.of_right (intBits_le_64 (by lia) (by lia))
theorem il_snoc {ts : Int} {cnt pre : List Int} {a n : Int} (h : a = il ts cnt pre) : a + n.fdiv ts * cnt.getD n.toNat 0 = il ts cnt (pre ++ [n]) := by
  unfold il at *; rw [h]; simp
theorem il_nil {ts : Int} {cnt : List Int} : (0 : Int) = il ts cnt [] := rfl
example : True := by
  k_with "binaryOp Mult int int" => (k_here; k_dflt (first
      | refine mul_int ?_ (mulOk_getD (by assumption))
      | refine mul_int ?_ (IntMulOk.of_left (intBits_le_64 (by lia) (by lia)))))
  trivial
set_option maxHeartbeats 8000000 in
theorem indent_meets {w : World} {H : Heap} (G : Gnd w H) {x : Addr} {q : WsP} {vs : List Value} {cnt : List Int} {b nt ts : Int} {tt : Tok} (hc : cnt.length ≤ 60) (hb : 0 ≤ b) (hb2 : b ≤ 60) (hc0 : ∀ c ∈ cnt, 0 ≤ c ∧ c ≤ 60) (hn0 : 0 ≤ nt) (hn1 : nt ≤ 60) (ht : 1 ≤ ts) (ht1 : ts ≤ 61) :
    Meets w H 103 [.ref x, .int ts tt] 10 10 (fun h => WsAt H h x q vs cnt b nt) (fun _ v _ => ∃ t, v = .int (indentF ts cnt b nt) t) := by
  intro dp un fr gd s R hd hu kp hW ret
  have hI := hW.2
  have hlen := hI.length
  k_dflt (refine' enter (wsOwn x q vs b nt) G kp ?k6 ?k7 ?k8 ?k9 ?kB (hW.1) ?_ ?c2 ?c3 ?c4 ?c5)
  case k6 => k_is
  case k7 => k_is
  case k8 => lia
  case k9 => k_dflt (exact BindsTo.of_eq rfl)
  case kB => exact locs rfl
  case c2 => exact rfl
  case c3 => exact rfl
  case c4 => exact rfl
  case c5 => decide
  intro g L' h₁ p loose mean mg mb kg kgs ko ksz F N hlt X T
  k_fold
  k_with "pyIter ref" => k_state (fun pre a => a = il ts cnt pre) "il"
  k_with "state" => first | exact il_nil | exact il_snoc (by assumption)
  k_steps
  all_goals
    dsimp only
    k_unfold
    dsimp only
    refine ret _ _ _ (keep_of ko (by assumption) (by assumption) (fun _ h => h) (fun p hp => (hW.1 p hp).1)) ⟨_, congrArg (fun i => Value.int i _) ?_⟩
    unfold indentF
    rw [← (by assumption : _ = il ts cnt _)]
end Mine
end

/- part W3 -/
section
example : True := by
  k_with_none
  w_top off
  trivial
open PySem PySem.W PyProof.Rows PySem.Calls PySem.Spec
set_option maxRecDepth 100000
set_option rowWalk.seconds 0
namespace Mine
example : hd.heap_1 = hd.heap_1 ∧ PySem.Challenge.rw_pg0285_01 = PySem.Challenge.rw_pg0285_01 := by
  k_fill
  exact ⟨rfl, rfl⟩
set_option pp.maxSteps 100000
set_option pp.deepTerms false
set_option pp.deepTerms.threshold 4

noncomputable def padTo (cnt : List Int) (b : Int) : List Int := if (cnt.length : Int) ≤ b then cnt ++ List.replicate (b - cnt.length + 1).toNat 0 else cnt
noncomputable def bump (cnt : List Int) (b : Int) : List Int := (padTo cnt b).set b.toNat ((padTo cnt b).getD b.toNat 0 + 1)
noncomputable def wsStep (st : List Int × Int × Int) (c : Nat) : List Int × Int × Int := if c = 32 then (st.1, st.2.1 + 1, st.2.2) else (bump st.1 st.2.1, 0, st.2.2 + 1)
noncomputable def wsRun (cs : List Nat) : List Int × Int × Int := cs.foldl wsStep ([], 0, 0)
noncomputable def blank (c : Nat) : Bool := c == 32 || c == 9
theorem eq32 {c : Nat} : (({ cps := #[c] } : PySem.Str) == PySem.Str.ofString " ") = decide (c = 32) := by
  rw [show PySem.Str.ofString " " = ⟨#[32]⟩ from by decide +kernel, Bool.eq_iff_iff, beq_iff_eq, decide_eq_true_eq]
  constructor
  · intro h; injection h with h; injection h with h; injection h
  · rintro rfl; rfl
theorem eq9 {c : Nat} : (({ cps := #[c] } : PySem.Str) == PySem.Str.ofString "	") = decide (c = 9) := by
  rw [show PySem.Str.ofString "	" = ⟨#[9]⟩ from by decide +kernel, Bool.eq_iff_iff, beq_iff_eq, decide_eq_true_eq]
  constructor
  · intro h; injection h with h; injection h with h; injection h
  · rintro rfl; rfl
noncomputable def wsOf (cs : List Nat) : List Int × Int × Int := wsRun (cs.takeWhile blank)
theorem tw_of : ∀ (l : List Nat) (i : Nat), (∀ c ∈ l.take i, blank c = true) → (∀ c, l[i]? = some c → blank c = false) → l.take i = l.takeWhile blank
  | [], i, _, _ => by simp
  | c :: l, 0, _, h => by
    have := h c rfl
    simp [List.takeWhile_cons, this]
  | c :: l, i + 1, a, h => by
    rw [List.take_succ_cons, List.takeWhile_cons, a c (by simp), if_pos rfl]
    rw [tw_of l i (fun x hx => a x (by simp [hx])) (fun x hx => h x (by simpa using hx))]
theorem tw_brk {cs : Array Nat} {i c : Nat} (h : cs[i]? = some c) (a : ∀ c ∈ cs.toList.take i, blank c = true) (q1 : ¬ c = 32) (q2 : ¬ c = 9) : wsRun (cs.toList.take i) = wsOf cs.toList := by
  unfold wsOf
  rw [← tw_of cs.toList i a fun x hx => ?_]
  have h' : cs.toList[i]? = some c := by simpa using h
  rw [h'] at hx
  cases hx
  simp [blank, q1, q2]
theorem tw_all {cs : Array Nat} (a : ∀ c ∈ cs.toList.take cs.size, blank c = true) : wsRun (cs.toList.take cs.size) = wsOf cs.toList := by
  unfold wsOf
  rw [← tw_of cs.toList cs.size a fun x hx => by simp at hx]
theorem run_snoc {cs : Array Nat} {i c : Nat} (h : cs[i]? = some c) : wsRun (cs.toList.take (i + 1)) = wsStep (wsRun (cs.toList.take i)) c := by
  have h' : cs.toList[i]? = some c := by simpa using h
  unfold wsRun
  rw [List.take_add_one, h']
  simp
theorem all_snoc {cs : Array Nat} {i c : Nat} (h : cs[i]? = some c) (a : ∀ c ∈ cs.toList.take i, blank c = true) (b : blank c = true) : ∀ c ∈ cs.toList.take (i + 1), blank c = true := by
  have h' : cs.toList[i]? = some c := by simpa using h
  rw [List.take_add_one, h']
  intro x hx
  rcases List.mem_append.mp hx with hx | hx
  · exact a x hx
  · simp at hx; rw [hx]; exact b
theorem bump_pad {cnt : List Int} {b : Int} (h : (cnt.length : Int) ≤ b) : bump cnt b = (cnt ++ (List.replicate (b - (cnt.length : Int) + 1).toNat [0]).flatten).set b.toNat ((cnt ++ (List.replicate (b - (cnt.length : Int) + 1).toNat [0]).flatten).getD b.toNat 0 + 1) := by
  unfold bump padTo
  rw [if_pos h, List.flatten_replicate_singleton]
theorem bump_in {cnt : List Int} {b : Int} (h : ¬ (cnt.length : Int) ≤ b) : bump cnt b = cnt.set b.toNat (cnt.getD b.toNat 0 + 1) := by
  unfold bump padTo
  rw [if_neg h]
theorem bump_length (cnt : List Int) {b : Int} (h0 : 0 ≤ b) : ((bump cnt b).length : Int) = max (cnt.length : Int) (b + 1) := by
  unfold bump padTo
  split
  · rw [List.length_set, List.length_append, List.length_replicate]; lia
  · rw [List.length_set]; lia

example : True := by
  k_with_none
  k_with "exec For Name Attribute cons nil" => (k_here; (rename Fr _ _ _ _ => lF'); (with_unfolding_all refine' For_invVF lF' ?k1 ?k2 ?_; (case k1 => exact rfl); (case k2 => exact rfl); k_whole))
  k_with "pyIter str" => refine Hold.out ?_
  k_with "call builtin:len" => (k_here; (with_reducible show wpAny _ _ (call (Value.builtin "len") [Value.ref _]) _ _ _); k_dflt (first
      | refine len_tupI (News.isTup (by k_asm) (by k_mem)) (by assumption) (by lia) ?_
      | refine len_lstI (News.isList (by k_asm) (by k_mem)) (by assumption) (by lia) ?_))
  k_with "call type:tuple" => (k_here; (with_reducible show wpAny _ _ (call (Value.type _) [Value.ref _]) _ _ _); k_dflt (refine' tuple_ofO (by k_asm) (by k_asm) (News.isList (by k_asm) (by k_mem)) ?z ?_; (case z => ((simp only [List.size_toArray, sizeLine_eq]); lia)); k_whole; intro D' h' F' N' l1; (try k_lt l1)))
  trivial
noncomputable abbrev wsOwn0 (x dx : Addr) : List (Addr × Obj) := [(x, instObj 134 dx), (dx, dictOf [] 0)]
theorem ws_end {H s g h' : Heap} {L' x dx : Addr} {m : Str → Option Value} {news : List (Addr × Obj)} {q : WsP} {vs : List Value} {cnt : List Int} {b nt : Int} (kg : Keep H g)
    (ko : ∀ b o, s.get? b = some o → b ∉ (wsOwn0 x dx).map (·.1) → g.get? b = some o) (hx : s.get? x = some (instObj 134 dx)) (F : Fr g L' h' m) (N : News g L' h' news) (hdx : q.dx = dx) (hm : ∀ p ∈ wsOwn x q vs b nt, p ∈ news) (hI : IntsAre vs cnt)
    (n1 : @Ne Nat q.nrm x) (n2 : @Ne Nat q.nrm dx) (c1 : @Ne Nat q.ct x) (c2 : @Ne Nat q.ct dx) :
    (∀ b o, b ≠ dx → s.get? b = some o → h'.get? b = some o) ∧ WsAt H h' x q vs cnt b nt ∧ s.get? q.nrm = none ∧ s.get? q.ct = none := by
  have none_of : ∀ a, @Ne Nat a x → @Ne Nat a dx → g.get? a = none → s.get? a = none := fun a h1 h2 e => by
    cases q : s.get? a with
    | none => rfl
    | some o =>
      have := ko a o q (by simp; exact ⟨h1, h2⟩)
      rw [e] at this; cases this
  refine ⟨fun b' o hb e => ?_, ⟨fun p hp => ⟨(N p (hm p hp)).1, ?_⟩, hI⟩, none_of _ n1 n2 (N _ (hm _ (.tail _ (.tail _ (.head _))))).2.2, none_of _ c1 c2 (N _ (hm _ (.tail _ (.tail _ (.tail _ (.head _)))))).2.2⟩
  · by_cases hbx : b' = x
    · subst hbx
      rw [hx] at e
      rw [← Option.some.inj e, ← hdx]
      exact (N _ (hm _ (.head _))).1
    · exact F.keep b' o (ko b' o e (by simp; exact ⟨hbx, hb⟩))
  · cases e : H.get? p.1 with
    | none => rfl
    | some o => have := kg _ _ e; rw [(N p (hm p hp)).2.2] at this; cases this
/- where the loop over the text stands -/
inductive WsLoop (x dx : Addr) (ws : PySem.Str) (tw : Tok) (rh : Int) (rt : Tok) (i : Nat) (m : Str → Option Value) (nx : List (Addr × Obj)) : Prop
  | mk (cl : Addr) (vs : List Value) (k : Nat) (st : List Int × Int × Int) (n : Int) (tS tT tb tn tnt : Tok)
      (hm : ∀ p ∈ [(Str.ofString "self", Value.ref x), (Str.ofString "S", .str (Str.ofString " ") tS), (Str.ofString "T", .str (Str.ofString "	") tT), (Str.ofString "count", .ref cl), (Str.ofString "b", .int st.2.1 tb), (Str.ofString "n", .int n tn), (Str.ofString "nt", .int st.2.2 tnt)], m p.1 = some p.2)
      (hnx : ∀ p ∈ [(cl, W.listOf vs.toArray k), (x, instObj 134 dx), (dx, dictOf [⟨rh, .str (Str.ofString "raw") rt, .str ws tw⟩] 1)], p ∈ nx) (hI : IntsAre vs st.1) (hst : st = wsRun (ws.cps.toList.take i)) (hbl : ∀ c ∈ ws.cps.toList.take i, blank c = true)
      (h0 : 0 ≤ st.2.1) (h1 : st.2.1 ≤ (i : Int)) (h2 : st.1.length ≤ i + 1) (h3 : @LT.lt Nat _ x cl) (h4 : @LT.lt Nat _ dx cl) : WsLoop x dx ws tw rh rt i m nx
set_option maxHeartbeats 8000000 in
theorem init_meets {w : World} {H : Heap} (G : Gnd w H) {x dx : Addr} {ws : PySem.Str} {tw : Tok} {dp un : Nat} {fr : Option (List Env)} {gd : Option (List Code)} {s : Shared} {R : Result → Shared → Prop}
    (hd : dp + 10 < recursionLimit) (hu : un + 10 < cLine) (kp : Keep H s.heap) (hown : ∀ p ∈ wsOwn0 x dx, s.heap.get? p.1 = some p.2 ∧ H.get? p.1 = none) (hne : dx < x) (hsz : ws.cps.size ≤ 60)
    (ret : ∀ h' tk' q vs, q.dx = dx → (∀ b o, b ≠ dx → s.heap.get? b = some o → h'.get? b = some o) → WsAt H h' x q vs (wsOf ws.cps.toList).1 (wsOf ws.cps.toList).2.1 (wsOf ws.cps.toList).2.2 →
      s.heap.get? q.nrm = none → s.heap.get? q.ct = none → @LT.lt Nat _ x q.ct → @LT.lt Nat _ q.ct q.nrm → R (.ok (.ret .none)) { s with heap := h', toks := tk' }) : codeAny (model prg w) (Arnd dp un fr gd) (.call (.ref 89) ⟨[.ref x, .str ws tw], []⟩) R s := by
  k_dflt (refine' enter (wsOwn0 x dx) G kp ?k6 ?k7 ?k8 ?k9 ?kB (hown) ?_ ?c2 ?c3 ?c4 ?c5)
  case k6 => k_is
  case k7 => k_is
  case k8 => lia
  case k9 => k_dflt (exact BindsTo.of_eq rfl)
  case kB => exact locs rfl
  case c2 => exact rfl
  case c3 => exact rfl
  case c4 => exact rfl
  case c5 => decide
  intro g L' h₁ p loose mean mg mb kg kgs ko ksz F N hlt X T
  k_fold
  have hlt1 : x < L' := hlt _ (.head _)
  have hlt2 : dx < L' := hlt _ (.tail _ (.head _))
  replace hne := ltN hne
  replace hlt1 := ltN hlt1
  replace hlt2 := ltN hlt2
  k_steps
  rename Fr _ _ _ _ => F1
  rename News _ _ _ _ => N1
  rename_i h9 l9 
  clear h9
  unfold Hold
  obtain ⟨rh, rt, N1⟩ : ∃ rh rt, News g L' _ [(_, W.listOf ([] : List Value).toArray 0), _, (x, instObj 134 dx), (dx, dictOf [⟨rh, .str (Str.ofString "raw") rt, .str ws tw⟩] 1)] := ⟨_, _, N1⟩
  replace N1 := news_sub (b := [(_, W.listOf ([] : List Value).toArray 0), (x, instObj 134 dx), (dx, dictOf [⟨rh, .str (Str.ofString "raw") rt, .str ws tw⟩] 1)]) N1 (by repeat' (first | exact List.forall_mem_nil _ | refine all_cons (by k_mem) ?_))
  k_dflt (refine for_str (fun i m nx => WsLoop x dx ws tw rh rt i m nx) rfl F1 N1 ⟨_, [], 0, ([], 0, 0), 0, _, _, _, _, _, (by repeat' (first | exact List.forall_mem_nil _ | refine all_cons rfl ?_)), fun _ h => h, IntsAre.nil, by simp [wsRun], by simp, by simp, by simp, by simp, by lia, by lia⟩ ?turn ?done)
  case turn =>
    rintro i c t m₁ nx h tk I oI hc ⟨cl, vs, k, st, n, tS, tT, tb, tn, tnt, hm, hnx, hI, hst, hbl, h0, h1, h2, h3, h4⟩ off F N
    k_fold
    replace F := bnd_fr1 F hm
    have o1 := neN (off _ (hnx _ (.head _)))
    have o2 := neN (off _ (hnx _ (.tail _ (.head _))))
    have o3 := neN (off _ (hnx _ (.tail _ (.tail _ (.head _)))))
    dsimp only at o1 o2 o3
    have o1' := Ne.symm o1
    have o2' := Ne.symm o2
    have o3' := Ne.symm o3
    replace N := news_sub (b := (I, oI) :: [(cl, W.listOf vs.toArray k), (x, instObj 134 dx), (dx, dictOf [⟨rh, .str (Str.ofString "raw") rt, .str ws tw⟩] 1)]) N (fun p hp => (List.mem_cons.mp hp).elim (fun e => e ▸ .head _) fun h => .tail _ (hnx p h))
    have hlen := hI.length
    have hil : i < 60 := by
      have := (Array.getElem?_eq_some_iff.mp hc).1
      lia
    clear F1 N1 off
    k_steps
    · rename (_ == Str.ofString " ") = true => q1
      rw [eq32, decide_eq_true_eq] at q1
      show TurnEnd _ _ _ _ _ _ _
      refine TurnEnd.auto (by assumption) (by assumption) (by k_mem) ⟨_, _, _, (st.1, st.2.1 + 1, st.2.2), _, _, _, _, _, _, (by repeat' (first | exact List.forall_mem_nil _ | refine all_cons rfl ?_)), offI_has (by repeat' (first | exact List.forall_mem_nil _ | refine all_cons (by k_mem) ?_)) (by repeat' (first | exact List.forall_mem_nil _ | refine all_cons (by first | assumption | k_ne) ?_)), (by exact hI), ?r1x, ?r2x, by dsimp only; lia, by dsimp only; lia, by dsimp only; lia, ?a1x, ?a2x⟩
      case r1x => rw [run_snoc hc, ← hst, wsStep, if_pos q1]
      case r2x => exact all_snoc hc hbl (by rw [q1]; rfl)
      all_goals assumption
    · rename (_ == Str.ofString " ") = false => q1
      rename (_ == Str.ofString "	") = true => q2
      rw [eq32, decide_eq_false_iff_not] at q1
      rw [eq9, decide_eq_true_eq] at q2
      rename (_ ≤ st.2.1) => q3
      have e := bump_pad q3
      show TurnEnd _ _ _ _ _ _ _
      refine TurnEnd.auto (by assumption) (by assumption) (by k_mem) ⟨_, _, _, (bump st.1 st.2.1, 0, st.2.2 + 1), _, _, _, _, _, _, (by repeat' (first | exact List.forall_mem_nil _ | refine all_cons rfl ?_)), offI_has (by repeat' (first | exact List.forall_mem_nil _ | refine all_cons (by k_mem) ?_)) (by repeat' (first | exact List.forall_mem_nil _ | refine all_cons (by first | assumption | k_ne) ?_)), (by rw [e]; assumption), ?r1y, ?r2y, by dsimp only; lia, by dsimp only; lia, ?a0y, ?a1y, ?a2y⟩
      case r1y => rw [run_snoc hc, ← hst, wsStep, if_neg q1]
      case r2y => exact all_snoc hc hbl (by rw [q2]; rfl)
      case a0y => have := bump_length st.1 h0; dsimp only; lia
      all_goals (refine ltN ?_; omega)
    · rename (_ == Str.ofString " ") = false => q1
      rename (_ == Str.ofString "	") = true => q2
      rw [eq32, decide_eq_false_iff_not] at q1
      rw [eq9, decide_eq_true_eq] at q2
      rename (¬ (_ ≤ st.2.1)) => q3
      have e := bump_in q3
      show TurnEnd _ _ _ _ _ _ _
      refine TurnEnd.auto (by assumption) (by assumption) (by k_mem) ⟨_, _, _, (bump st.1 st.2.1, 0, st.2.2 + 1), _, _, _, _, _, _, (by repeat' (first | exact List.forall_mem_nil _ | refine all_cons rfl ?_)), offI_has (by repeat' (first | exact List.forall_mem_nil _ | refine all_cons (by k_mem) ?_)) (by repeat' (first | exact List.forall_mem_nil _ | refine all_cons (by first | assumption | k_ne) ?_)), (by rw [e]; assumption), ?r1z, ?r2z, by dsimp only; lia, by dsimp only; lia, ?a0z, ?a1z, ?a2z⟩
      case r1z => rw [run_snoc hc, ← hst, wsStep, if_neg q1]
      case r2z => exact all_snoc hc hbl (by rw [q2]; rfl)
      case a0z => have := bump_length st.1 h0; dsimp only; lia
      all_goals assumption
    · rename (_ == Str.ofString " ") = false => q1
      rename (_ == Str.ofString "	") = false => q2
      rw [eq32, decide_eq_false_iff_not] at q1
      rw [eq9, decide_eq_false_iff_not] at q2
      have hw := tw_brk hc hbl q1 q2
      dsimp only [TurnPost]
      k_steps
      have e9 : st = wsOf ws.cps.toList := hst.trans hw
      obtain ⟨z1, z2, z3, z4⟩ := ws_end (q := ⟨dx, _, _, _, _, _, _, _, _, _, _, _, _, _, _, _, _, _, _⟩) (vs := vs) (b := st.2.1) (nt := st.2.2) kg ko (hown _ (.head _)).1 (by assumption) (by assumption) rfl (by repeat' (first | exact List.forall_mem_nil _ | refine all_cons (by k_mem) ?_)) hI (by first | assumption | k_ne) (by first | assumption | k_ne) (by first | assumption | k_ne) (by first | assumption | k_ne)
      rw [e9] at z2
      exact ret _ _ _ _ rfl z1 z2 z3 z4 (by refine ltN ?_; dsimp only; omega) (by refine ltN ?_; dsimp only; lia)
  case done =>
    rintro m₁ nx h tk ⟨cl, vs, k, st, n, tS, tT, tb, tn, tnt, hm, hnx, hI, hst, hbl, h0, h1, h2, h3, h4⟩ F N
    dsimp only
    replace F := bnd_fr F hm
    replace N := news_sub (b := [(cl, W.listOf vs.toArray k), (x, instObj 134 dx), (dx, dictOf [⟨rh, .str (Str.ofString "raw") rt, .str ws tw⟩] 1)]) N hnx
    have hlen := hI.length
    have hw := tw_all hbl
    k_steps
    have e9 : st = wsOf ws.cps.toList := hst.trans hw
    obtain ⟨z1, z2, z3, z4⟩ := ws_end (q := ⟨dx, _, _, _, _, _, _, _, _, _, _, _, _, _, _, _, _, _, _⟩) (vs := vs) (b := st.2.1) (nt := st.2.2) kg ko (hown _ (.head _)).1 (by assumption) (by assumption) rfl (by repeat' (first | exact List.forall_mem_nil _ | refine all_cons (by k_mem) ?_)) hI (by first | assumption | k_ne) (by first | assumption | k_ne) (by first | assumption | k_ne) (by first | assumption | k_ne)
    rw [e9] at z2
    exact ret _ _ _ _ rfl z1 z2 z3 z4 (by refine ltN ?_; dsimp only; lia) (by refine ltN ?_; dsimp only; lia)

set_option maxHeartbeats 8000000 in
theorem ws_call {w : World} {H g : Heap} {L : Addr} {m : Str → Option Value} {news : List (Addr × Obj)} {s : Shared} {Q E : Value → Shared → Prop} {ws : PySem.Str} {tw : Tok} {dp un : Nat} {fr : Option (List Env)} {gd : Option (List Code)}
    (G : Gnd w H) (kg : Keep H g) (F : Fr g L s.heap m) (N : News g L s.heap news) (hd : dp + 20 < recursionLimit) (hu : un + 20 < cLine) (hsz : ws.cps.size ≤ 60)
    (h : ∀ x q vs h' tk', Fr g L h' m → News g L h' (wsOwn x q vs (wsOf ws.cps.toList).2.1 (wsOf ws.cps.toList).2.2 ++ news) → (∀ p ∈ news, p.1 < q.dx) → @LT.lt Nat _ q.dx x → @LT.lt Nat _ x q.ct → @LT.lt Nat _ q.ct q.nrm →
      IntsAre vs (wsOf ws.cps.toList).1 → Q (.ref x) { s with heap := h', toks := tk' }) :
    wpAny (model prg w) (Arnd dp un fr gd) (call (.ref 134) [.str ws tw]) Q E s := by
  have X := (G.keep kg).K
  k_dflt (refine' call_cls F X N ?c1 ?c2 ?c3 ?_)
  case c1 => k_is
  case c2 => k_is
  case c3 => k_is
  intro x dx h' F' N' l1 l2
  have eA : (Arnd dp un fr gd).under (.builtin "type.__call__" ⟨[.ref 134, .str ws tw], []⟩) = Arnd (dp + 1) (un + (Code.builtin "type.__call__" ⟨[.ref 134, .str ws tw], []⟩).cUnits) fr gd := rfl
  have eU : (Code.builtin "type.__call__" ⟨[.ref 134, .str ws tw], []⟩).cUnits = 1 := rfl
  rw [show ((Value.ref 134 :: [Value.str ws tw])) = [.ref 134, .str ws tw] from rfl, eA, eU]
  have none_of : ∀ a, g.get? a = none → H.get? a = none := fun a e => by
    cases q : H.get? a with
    | none => rfl
    | some o => rw [kg a o q] at e; cases e
  have kH : Keep H h' := fun b o e => F'.keep b o (kg b o e)
  refine init_meets (dx := dx) G (by lia) (by lia) kH (fun p hp => ?_) l2 hsz ?_
  · refine mem_cons_elim hp ?_ fun hp => ?_
    · exact ⟨(N' _ (.head _)).1, none_of _ (N' _ (.head _)).2.2⟩
    · rw [List.mem_singleton.mp hp]
      exact ⟨(N' _ (.tail _ (.head _))).1, none_of _ (N' _ (.tail _ (.head _))).2.2⟩
  · intro h'' tk' q vs hdx k1 W e1 e2 o1 o2
    subst hdx
    have off : ∀ p ∈ news, p.1 ≠ q.dx := fun p hp => Nat.ne_of_lt (l1 p hp)
    have hxL : x ≠ L := (N' _ (.head _)).2.1
    have hdL : q.dx ≠ L := (N' _ (.tail _ (.head _))).2.1
    have hg : g.get? q.dx = none := (N' _ (.tail _ (.head _))).2.2
    have F'' : Fr g L h'' m := ⟨F'.ns.at' fun o e => k1 _ o (Ne.symm hdL) e, fun b o e => k1 b o (fun z => by rw [z, hg] at e; cases e) (F'.keep b o e), F'.above⟩
    refine ⟨rfl, h x q vs h'' tk' F'' (fun p hp => ?_) l1 l2 o1 o2 W.2⟩
    rcases List.mem_append.mp hp with hp | hp
    · have z := W.1 p hp
      obtain ⟨oL, _, _, hL, _⟩ := F'.ns
      have gn : ∀ a, h'.get? a = none → g.get? a = none ∧ a ≠ L := fun a e => by
        refine ⟨?_, fun q => by rw [q, hL] at e; cases e⟩
        cases q : g.get? a with
        | none => rfl
        | some o => rw [F'.keep a o q] at e; cases e
      refine ⟨z.1, ?_⟩
      refine mem_cons_elim hp ?_ fun hp => ?_
      · exact ⟨hxL, (N' _ (.head _)).2.2⟩
      · refine mem_cons_elim hp ?_ fun hp => ?_
        · exact ⟨hdL, hg⟩
        · refine mem_cons_elim hp ?_ fun hp => ?_
          · exact ⟨(gn _ e1).2, (gn _ e1).1⟩
          · rw [List.mem_singleton.mp hp]; exact ⟨(gn _ e2).2, (gn _ e2).1⟩
    · have z := N' p (.tail _ (.tail _ hp))
      exact ⟨k1 _ _ (off p hp) z.1, z.2⟩
end Mine
end

/- part W4 -/
section
example : True := by
  k_with_none
  w_top off
  trivial
open PySem PySem.W PyProof.Rows PySem.Calls PySem.Spec
set_option maxRecDepth 100000
set_option rowWalk.seconds 0
namespace Mine
example : hd.heap_1 = hd.heap_1 ∧ PySem.Challenge.rw_pg0285_01 = PySem.Challenge.rw_pg0285_01 := by
  k_fill
  exact ⟨rfl, rfl⟩
set_option pp.maxSteps 100000
set_option pp.deepTerms false
set_option pp.deepTerms.threshold 4

theorem eq_intsT {A : Around} {s : Shared} {l r : Addr} {vs us : List Value} {cnt : List Int} (hl : s.heap.IsTuple l vs.toArray) (hr : s.heap.IsTuple r us.toArray) (hI : IntsAre vs cnt) (hJ : IntsAre us cnt) (hu : A.units < cLine) : SeqAt.EqAt A s (.ref l) (.ref r) true := by
  by_cases e : l = r
  · subst e; exact SeqAt.EqAt.same _
  · have h1 := hI.length
    have h2 := hJ.length
    have z := SeqAt.RcAt.tuples (A := A) (e := fun _ => true) hl hr hu (fun j a b => ?_)
    · have e2 : ((List.range (min vs.toArray.size us.toArray.size)).all (fun _ => true) && vs.toArray.size == us.toArray.size) = true := by simp [h1, h2]
      rw [e2] at z
      exact SeqAt.EqAt.of_refs e z
    · have a' : j < cnt.length := by simpa [h1] using a
      obtain ⟨t, ht⟩ := hI.get j cnt[j] (by simp [a'])
      obtain ⟨u, hu'⟩ := hJ.get j cnt[j] (by simp [a'])
      have e1 : vs.toArray[j] = .int cnt[j] t := by
        have : vs.toArray[j]? = some (.int cnt[j] t) := by simpa using ht
        exact (Array.getElem?_eq_some_iff.mp this).2
      have e2 : us.toArray[j] = .int cnt[j] u := by
        have : us.toArray[j]? = some (.int cnt[j] u) := by simpa using hu'
        exact (Array.getElem?_eq_some_iff.mp this).2
      rw [e1, e2]
      have := SeqAt.EqAt.int_int (A := A.in1) (s := s) cnt[j] t cnt[j] u
      rwa [beq_self_eq_true] at this
theorem eq_norms {prog : Program} {w : World} {A : Around} {E : Value → Shared → Prop} {s : Shared} {l r ct dt : Addr} {b : Int} {tb tc : Tok} {vs us : List Value} {cnt : List Int} {Q : Value → Shared → Prop}
    (hl : s.heap.IsTuple l [Value.ref ct, .int b tb].toArray) (hr : s.heap.IsTuple r [Value.ref dt, .int b tc].toArray) (hc : s.heap.IsTuple ct vs.toArray) (hd : s.heap.IsTuple dt us.toArray) (hI : IntsAre vs cnt) (hJ : IntsAre us cnt) (hu : A.units + 1 < cLine)
    (h : Q (.bool true) s) : wpAny (model prog w) A (compareOp .Eq (.ref l) (.ref r)) Q E s := by
  refine SeqAt.eq_tupleAt (e := fun _ => true) hl hr (by omega) (fun j a b' => ?_) (by have a : ∀ l : List Nat, l.all (fun _ => true) = true := (by simp); rw [a]; exact h)
  match j, a with
  | 0, _ => exact eq_intsT hc hd hI hJ (by simpa using hu)
  | 1, _ =>
    have := SeqAt.EqAt.int_int (A := A.in1) (s := s) b tb b tc
    rwa [beq_self_eq_true] at this
set_option maxHeartbeats 8000000 in
theorem equal_meets {w : World} {H : Heap} (G : Gnd w H) {x y : Addr} {q r : WsP} {vs us : List Value} {cnt : List Int} {b nt mt : Int} :
    Meets w H 110 [.ref x, .ref y] 10 30 (fun h => WsAt H h x q vs cnt b nt ∧ WsAt H h y r us cnt b mt) (fun _ v _ => v = .bool true) := by
  intro dp un fr gd s R hd hu kp hW ret
  have hI := hW.1.2
  have hJ := hW.2.2
  have hlen := hI.length
  k_dflt (refine' enter (wsOwn x q vs b nt ++ wsOwn y r us b mt) G kp ?k6 ?k7 ?k8 ?k9 ?kB ((fun p hp => (List.mem_append.mp hp).elim (hW.1.1 p) (hW.2.1 p))) ?_ ?c2 ?c3 ?c4 ?c5)
  case k6 => k_is
  case k7 => k_is
  case k8 => omega
  case k9 => k_dflt (exact BindsTo.of_eq rfl)
  case kB => exact locs rfl
  case c2 => exact rfl
  case c3 => exact rfl
  case c4 => exact rfl
  case c5 => decide
  intro g L' h₁ p loose mean mg mb kg kgs ko ksz F N hlt X T
  k_fold
  k_steps
  rename News _ _ _ _ => N9
  rename Fr _ _ _ _ => F9
  have hz : ∀ {a : Addr} {its : List Value}, (a, tupOf its) ∈ wsOwn x q vs b nt ++ wsOwn y r us b mt → Heap.IsTuple _ a its.toArray := fun hm => ⟨_, (N9 _ hm).1, rfl, 0, rfl⟩
  refine eq_norms (hz (by k_mem)) (hz (by k_mem)) (hz (by k_mem)) (hz (by k_mem)) hI hJ (by show un + 3 + 1 < cLine; omega) ?_
  dsimp only
  k_unfold
  dsimp only
  exact ret _ _ _ (keep_of ko F9 N9 (fun _ h => h) (fun p hp => ((List.mem_append.mp hp).elim (hW.1.1 p) (hW.2.1 p)).1)) rfl
end Mine
end

/- part W6 -/
section
example : True := by
  k_with_none
  w_top off
  trivial
open PySem PySem.W PyProof.Rows PySem.Calls PySem.Spec
set_option maxRecDepth 100000
set_option rowWalk.seconds 0
namespace Mine
example : hd.heap_1 = hd.heap_1 ∧ PySem.Challenge.rw_pg0285_01 = PySem.Challenge.rw_pg0285_01 := by
  k_fill
  exact ⟨rfl, rfl⟩
set_option pp.maxSteps 100000
set_option pp.deepTerms false
set_option pp.deepTerms.threshold 4

noncomputable def leadOne (n : Int) : PySem.Str := PySem.Txt.mul (PySem.Str.ofString " ") n ++ PySem.Str.ofString "\t"
noncomputable def leadStr (ns : List Int) : PySem.Str := PySem.Txt.join (PySem.Str.ofString "") (ns.map leadOne)
theorem mul_len {n : Int} (h : n ≤ 10) : (PySem.Txt.mul (PySem.Str.ofString " ") n).length ≤ 10 := by
  by_cases h0 : n ≤ 0
  · unfold Txt.mul; rw [if_pos (by lia)]; decide
  · have : n = 1 ∨ n = 2 ∨ n = 3 ∨ n = 4 ∨ n = 5 ∨ n = 6 ∨ n = 7 ∨ n = 8 ∨ n = 9 ∨ n = 10 := by lia
    rcases this with rfl | rfl | rfl | rfl | rfl | rfl | rfl | rfl | rfl | rfl <;> decide +kernel
theorem leadOne_len {n : Int} (h : n ≤ 10) : (leadOne n).length ≤ 11 := by
  unfold leadOne
  rw [Str.length_append]
  have := mul_len h
  have e : (PySem.Str.ofString "\t").length = 1 := by decide +kernel
  lia
example : True := by
  k_with_none
  k_with "eval ListComp" => (k_here; k_dflt (refine LCg.ListComp_U (F₀ := by k_asm) (by with_unfolding_all rfl) (by decide) (by rfl) (by decide) (by rfl) ?_))
  k_with "CompSrc" => refine Hold.out ?_
  k_with "call builtin:str.join" => refine Hold.out ?_
  k_with "binaryOp Mult str int" => (refine SB.mul (mulOk_of 1 10 (by decide +kernel) (by lia) (by lia) (by decide) (by decide)) ?_; intro _ _)
  trivial
set_option maxHeartbeats 8000000 in
theorem lead_meets {w : World} {H : Heap} (G : Gnd w H) {l : Addr} {vs : List Value} {ns : List Int} (hI : IntsAre vs ns) (hn : ns.length ≤ 60) (hb : ∀ n ∈ ns, 0 ≤ n ∧ n ≤ 10) :
    Meets w H 143 [.ref l] 30 30 (fun h => h.IsList l vs.toArray) (fun _ v _ => ∃ t, v = .str (leadStr ns) t) := by
  intro dp un fr gd s R hd hu kp hl ret
  have hlen := hI.length
  k_dflt (refine' enter0 G kp ?k6 ?k7 ?k8 ?k9 ?kB ?_ ?c2 ?c3 ?c4 ?c5)
  case k6 => k_is
  case k7 => k_is
  case k8 => lia
  case k9 => k_dflt (exact BindsTo.of_eq rfl)
  case kB => exact locs rfl
  case c2 => exact rfl
  case c3 => exact rfl
  case c4 => exact rfl
  case c5 => decide
  intro L' h₁ p loose mean mg mb F N X T
  k_fold
  k_steps
  unfold Hold
  rename Fr _ _ _ _ => F1
  rename News _ _ _ _ => N1
  refine LCg.CompSrc.base rfl F1 N1 hl (by simp only [List.size_toArray, sizeLine_eq]; lia) ?_
  intro g'
  refine kct_list leadOne hI (fun k t I oI C oC D m₂ ys h tk E' hk hC hx F' N' off ne mk => ?_) ?fin
  · have hk' := hb k hk
    simp only [LCg.Off3, and_true] at off
    k_steps
    refine SB.add (fun t2 k2 => ?_) (by have := mul_len hk'.2; have e : (PySem.Str.ofString "	").length = 1 := (by decide +kernel); rw [sizeLine_eq]; lia)
    k_steps
    exact kct_el rfl rfl rfl
  case fin =>
    unfold KPfDone
    intro ys hC hl2
    k_steps
    unfold Hold
    rename News _ _ _ _ => N2
    refine KT.join_B 11 (News.isList N2 (by k_mem)) hC (fun a ha => leadOne_len (hb a ha).2) (by lia) (by decide) ?_
    intro t3 k3
    dsimp only
    k_unfold
    dsimp only
    exact ret _ _ _ (Fr.keep (by assumption)) ⟨_, rfl⟩
end Mine
end

/- part W7 -/
section
example : True := by
  k_with_none
  w_top off
  trivial
open PySem PySem.W PyProof.Rows PySem.Calls PySem.Spec
set_option maxRecDepth 100000
set_option rowWalk.seconds 0
namespace Mine
example : hd.heap_1 = hd.heap_1 ∧ PySem.Challenge.rw_pg0285_01 = PySem.Challenge.rw_pg0285_01 := by
  k_fill
  exact ⟨rfl, rfl⟩
set_option pp.maxSteps 100000
set_option pp.deepTerms false
set_option pp.deepTerms.threshold 4

/- a new pair of ints -/
inductive PairAt (h : Heap) (v : Value) (h' : Heap) (x y : Int) : Prop
  | mk (q : Addr) (t1 t2 : Tok) (e : v = .ref q) (g : h'.get? q = some (tupOf [.int x t1, .int y t2])) (f : h.get? q = none) : PairAt h v h' x y
set_option maxHeartbeats 8000000 in
theorem div2_meets {w : World} {H : Heap} (G : Gnd w H) {a b n : Int} {ta tb tn : Tok} (ha : 0 ≤ a) (ha2 : a < 2 ^ 20) (hb : 1 ≤ b) (hb2 : b < 2 ^ 20) (hn : 0 ≤ n) (hn2 : n ≤ 100) :
    Meets w H 37 [.int a ta, .int b tb, .int n tn] 30 30 (fun h => True) (fun h v h' => PairAt h v h' (a.fdiv b) (a.fmod b)) := by
  intro dp un fr gd s R hd hu kp hl ret
  have hbits : Builtin.Int.intBits a ≤ 64 := intBits_le_64 (by omega) (by omega)
  k_dflt (refine' enter0 G kp ?k6 ?k7 ?k8 ?k9 ?kB ?_ ?c2 ?c3 ?c4 ?c5)
  case k6 => k_is
  case k7 => k_is
  case k8 => omega
  case k9 => k_dflt (exact BindsTo.of_eq rfl)
  case kB => exact locs rfl
  case c2 => exact rfl
  case c3 => exact rfl
  case c4 => exact rfl
  case c5 => decide
  intro L' h₁ p loose mean mg mb F N X T
  k_fold
  k_steps
  all_goals
    rename News _ _ _ _ => N9
    exact ret _ _ _ (Fr.keep (by assumption)) ⟨_, _, _, rfl, (N9 _ (.head _)).1, (N9 _ (.head _)).2.2⟩
end Mine
end

/- part Nest -/
section
example : True := by
  k_with_none
  w_top off
  trivial
open PySem PySem.W PyProof.Rows PySem.Calls PySem.Spec
set_option maxRecDepth 100000
namespace Mine
/- a nested def's code table: empty, or with the def's one code record -/
noncomputable def TabOf (h : Heap) (ps : Array Value) (ln col : Nat) (q : PySem.Str) : Prop :=
  ps = #[] ∨ ∃ c, ps = #[rawInt (ln : Int), rawInt (col : Int), .ref c] ∧ h.CodeRec (.ref c) q
noncomputable def TabSt (h : Heap) (t : Addr) (ln col : Nat) (q : PySem.Str) : Prop := ∃ ps, h.get? t = some (tabObj ps) ∧ TabOf h ps ln col q
/- after a run of the def: its table is full -/
noncomputable def TabNew (h h' : Heap) (t : Addr) (ln col : Nat) (q : PySem.Str) : Prop :=
  ∃ c oc vs tk, h'.get? t = some (tabObj #[rawInt (ln : Int), rawInt (col : Int), .ref c]) ∧ h'.get? c = some oc ∧ oc.data = .fields vs ∧ vs[1]? = some (.str q tk) ∧ ((h.get? c = none ∧ h.get? t = some (tabObj #[])) ∨ h.get? t = some (tabObj #[rawInt (ln : Int), rawInt (col : Int), .ref c]))
section
variable {M : Model} {A : Around} {E : Value → Shared → Prop} {s : Shared} {h₀ : Heap} {L a c P : Addr} {m mg mb : Str → Option Value} {cn : Str} {cs : Scope} {ccd : Value} {cl : List (Str × Addr)} {news : List (Addr × Obj)} {g : Obj → List (Addr × Obj)}
  {p : Program} {loose : List Str} {mean : ExcName → Option Value} {name qual : Str} {params : Arguments} {body : List Stmt} {scope : Scope} {ps : Array Value} {pos : Pos} {firstLine : Nat} {clos : List (Str × Addr)}
theorem hold_fn {Q : Value → Shared → Prop} (P : PySem.Str → Arguments → List Stmt → Scope → List (Str × Addr) → Prop) (hcl : closureFor scope (envX cn cs L a ccd cl) = pure clos) (key : P qual params body scope clos)
    (rest : P qual params body scope clos → wpAny M A (makeFunction name qual params (.stmts body) scope (envX cn cs L a ccd cl) [] [] [] pos firstLine) Q E s) :
    wpAny M A (makeFunction name qual params (.stmts body) scope (envX cn cs L a ccd cl) [] [] [] pos firstLine) Q E s := rest key
end
section
variable {s h h' g : Heap} {L D : Addr} {m : Str → Option Value} {own news r : List (Addr × Obj)}
theorem h_none {H : Heap} (kg : Keep H g) {a : Addr} (e : g.get? a = none) : H.get? a = none := by
  cases q : H.get? a with
  | none => rfl
  | some o => rw [kg a o q] at e; cases e
theorem keep_but (ko : ∀ b o, s.get? b = some o → b ∉ own.map (·.1) → g.get? b = some o)
    (F : Fr g L h' m) (N : News g L h' news) (hs : ∀ p ∈ own, p.1 ≠ D → p ∈ news) (hown : ∀ p ∈ own, s.get? p.1 = some p.2) : ∀ b o, b ≠ D → s.get? b = some o → h'.get? b = some o := fun b o hb e => by
  by_cases q : b ∈ own.map (·.1)
  · obtain ⟨p, hp, rfl⟩ := List.mem_map.mp q
    have h2 := hown p hp
    rw [e] at h2
    rw [Option.some.inj h2]
    exact (N p (hs p hp hb)).1
  · exact F.keep b o (ko b o e q)
theorem news_kept {h₀ : Heap} (N : News h₀ L h r) (k : Keep h h') : News h₀ L h' r := fun p hp => ⟨k _ _ (N p hp).1, (N p hp).2⟩
theorem news_add {oD : Obj} {m' : Str → Option Value} (F : Fr g L h m) (F' : Fr g L h' m') (N : News g L h' r) (e : h'.get? D = some oD) (f : h.get? D = none) : News g L h' ((D, oD) :: r) := fun p hp => by
  refine mem_cons_elim hp ?_ fun hp => ?_
  · refine ⟨e, fun q => ?_, ?_⟩
    · obtain ⟨oL, a1, a2, hL', a3⟩ := F.ns
      dsimp only at q
      rw [q, hL'] at f; cases f
    · cases x : g.get? D with
      | none => rfl
      | some o9 => rw [F.keep _ _ x] at f; cases f
  · exact N p hp
theorem news_adds {m' : Str → Option Value} {tl : List (Addr × Obj)} (F : Fr g L h m) (F' : Fr g L h' m') (N : News g L h' r) (e : ∀ p ∈ tl, h'.get? p.1 = some p.2 ∧ h.get? p.1 = none) : News g L h' (r ++ tl) := fun p hp => by
  rcases List.mem_append.mp hp with hp | hp
  · exact N p hp
  · exact news_add (D := p.1) (oD := p.2) F F' N (e p hp).1 (e p hp).2 _ (.head _)
theorem fresh_ne {a : Addr} (N : News g L h r) (f : h.get? a = none) : ∀ p ∈ r, p.1 ≠ a := fun p hp q => by
  have := (N p hp).1
  rw [q, f] at this; cases this
theorem but_fr (F : Fr g L h m) (hD : g.get? D = none) (hL : D ≠ L) (k : ∀ b o, b ≠ D → h.get? b = some o → h'.get? b = some o) : Fr g L h' m := by
  obtain ⟨oL, a1, a2, hL', a3⟩ := F.ns
  exact ⟨⟨oL, a1, a2, k _ _ (Ne.symm hL) hL', a3⟩, fun b o e => k b o (fun q => by rw [q, hD] at e; cases e) (F.keep b o e), F.above⟩
theorem but_news {o o' : Obj} (N : News g L h r) (hD : (D, o) ∈ r) (k : ∀ b o, b ≠ D → h.get? b = some o → h'.get? b = some o) (hn : h'.get? D = some o') {r' : List (Addr × Obj)} (hr : ∀ p ∈ r', p.1 ≠ D → p ∈ r) (hr2 : ∀ p ∈ r', p.1 = D → p.2 = o') : News g L h' r' := fun p hp => by
  by_cases q : p.1 = D
  · rw [q, hr2 p hp q]
    exact ⟨hn, (N _ hD).2⟩
  · exact ⟨k _ _ q (N p (hr p hp q)).1, (N p (hr p hp q)).2⟩
end
section
variable {w : World} {H g : Heap} {L : Addr} {m : Str → Option Value} {news : List (Addr × Obj)} {s : Shared} {Q E : Value → Shared → Prop} {dp un : Nat} {fr : Option (List Env)} {gd : Option (List Code)}
theorem use0 {f : Addr} {args : List Value} {d u : Nat} {Pre : Heap → Prop} {Post : Heap → Value → Heap → Prop} (C : Meets w H f args d u Pre Post) (kg : Keep H g) (F : Fr g L s.heap m) (N : News g L s.heap news) (hd : dp + d < recursionLimit) (hu : un + u < cLine)
    (hp : Pre s.heap) (h : ∀ v h' tk', Fr g L h' m → News g L h' news → Post s.heap v h' → Q v { s with heap := h', toks := tk' }) : wpAny (model prg w) (Arnd dp un fr gd) (call (.ref f) args) Q E s :=
  wpAny_call (C dp un fr gd s _ hd hu (fun b o e => F.keep b o (kg b o e)) hp fun v h' tk' k post => h v h' tk' (F.kept k) (fun p hp => ⟨k _ _ (N p hp).1, (N p hp).2⟩) post)
end
end Mine
end

/- part Dig -/
section
example : True := by
  k_with_none
  w_top off
  trivial
open PySem PySem.W PyProof.Rows PySem.Calls PySem.Spec
set_option maxRecDepth 100000
namespace Mine
theorem fdiv_bd {x n : Int} (hx : 0 ≤ x) (hn : 1 ≤ n) : 0 ≤ x.fdiv n ∧ x.fdiv n ≤ x := by
  rw [Int.fdiv_eq_ediv_of_nonneg x (by lia)]
  exact ⟨Int.ediv_nonneg hx (by lia), Int.ediv_le_self n hx⟩
theorem mid_bd {L R : Int} (h : L < R) : L ≤ (L + R).fdiv (2 ^ Int.toNat 1) ∧ (L + R).fdiv (2 ^ Int.toNat 1) < R ∧ (L + 1 = R ∨ L < (L + R).fdiv (2 ^ Int.toNat 1)) := by
  rw [show (2 : Int) ^ Int.toNat 1 = 2 from rfl, Int.fdiv_eq_ediv_of_nonneg _ (by decide)]
  lia
theorem shift_bd {L R n : Int} (h : L < R) (h0 : 0 ≤ L) (h1 : R ≤ 40) (hn : 1 ≤ n) (hn2 : n ≤ 20) : 0 ≤ ((L + R).fdiv (2 ^ Int.toNat 1) - L) * n ∧ ((L + R).fdiv (2 ^ Int.toNat 1) - L) * n ≤ 1000 := by
  have hm := mid_bd h
  have h2 := Int.mul_le_mul (a := (L + R).fdiv (2 ^ Int.toNat 1) - L) (b := n) (c := 40) (d := 20) (by lia) (by lia) (by lia) (by lia)
  exact ⟨Int.mul_nonneg (by lia) (by lia), by lia⟩
theorem pow_pos1 {k : Nat} : (1 : Int) ≤ 2 ^ k := Int.pow_pos (by decide)
theorem shift_eq {L M n : Int} (h : L ≤ M) (hn : 1 ≤ n) : ((M - L) * n).toNat = n.toNat * (M - L).toNat := by
  rw [Int.toNat_mul (by lia) (by lia), Nat.mul_comm]
theorem inner_facts {x L M R n : Int} (h0 : 0 ≤ x) (h : x < 2 ^ (n.toNat * (R - L).toNat)) (hL : L ≤ M) (hM : M ≤ R) (hn : 1 ≤ n) :
    0 ≤ Builtin.bitXor x (x.fdiv (2 ^ ((M - L) * n).toNat) * 2 ^ ((M - L) * n).toNat) ∧ Builtin.bitXor x (x.fdiv (2 ^ ((M - L) * n).toNat) * 2 ^ ((M - L) * n).toNat) ≤ x ∧
    Builtin.bitXor x (x.fdiv (2 ^ ((M - L) * n).toNat) * 2 ^ ((M - L) * n).toNat) < 2 ^ (n.toNat * (M - L).toNat) ∧ x.fdiv (2 ^ ((M - L) * n).toNat) < 2 ^ (n.toNat * (R - M).toNat) ∧
    Builtin.bitXor x (x.fdiv (2 ^ ((M - L) * n).toNat) * 2 ^ ((M - L) * n).toNat) + (2 ^ n.toNat) ^ (M - L).toNat * x.fdiv (2 ^ ((M - L) * n).toNat) = x := by
  rw [xor_low h0, shift_eq hL hn]
  have e : (R - L).toNat = (M - L).toNat + (R - M).toNat := by lia
  rw [e] at h
  obtain ⟨a, b, c, d, e, f, g⟩ := split_facts h0 h
  exact ⟨c, g, d, b, e⟩
theorem bits_dom {a n : Int} {k : Nat} (ha : 0 ≤ a) (hn : 1 ≤ n) (hk : (k : Int) = ((Builtin.Int.intBits a : Int) + n - 1).fdiv n) : a < 2 ^ (n.toNat * k) := by
  have h1 := (intBits_le_iff (m := n.toNat * k) (x := a)).mp (by
    obtain ⟨N, rfl⟩ := Int.eq_ofNat_of_zero_le (show 0 ≤ n by lia)
    rw [Int.fdiv_eq_ediv_of_nonneg _ (by lia)] at hk
    simp only [Int.ofNat_eq_natCast, Int.toNat_natCast] at *
    have h2 := Int.emod_add_mul_ediv ((Builtin.Int.intBits a : Int) + N - 1) N
    have h3 := Int.emod_lt_of_pos ((Builtin.Int.intBits a : Int) + N - 1) (show (0 : Int) < N by lia)
    rw [← hk] at h2
    have h4 : ((N * k : Nat) : Int) = (N : Int) * k := by push_cast; rfl
    lia)
  have : (a.natAbs : Int) = a := Int.natAbs_of_nonneg ha
  rw [← this]
  exact_mod_cast h1
end Mine
end

/- part W8 -/
section
example : True := by
  k_with_none
  w_top off
  trivial
open PySem PySem.W PyProof.Rows PySem.Calls PySem.Spec
set_option maxRecDepth 100000
set_option rowWalk.seconds 0
namespace Mine
example : hd.heap_1 = hd.heap_1 ∧ PySem.Challenge.rw_pg0285_01 = PySem.Challenge.rw_pg0285_01 := by
  k_fill
  exact ⟨rfl, rfl⟩
set_option pp.maxSteps 100000
set_option pp.deepTerms false
set_option pp.deepTerms.threshold 4

theorem tabof_g {h g : Heap} {ps : Array Value} {ln col : Nat} {q : PySem.Str} {t : Addr} (x : TabOf h ps ln col q) (ht : h.get? t = some (tabObj ps)) (k : ∀ b o, h.get? b = some o → b ∉ [(t, tabObj ps)].map (·.1) → g.get? b = some o) : TabOf g ps ln col q := by
  rcases x with rfl | ⟨c, rfl, c1, o, vs, tk, e, h1, h2, h3⟩
  · exact .inl rfl
  · refine .inr ⟨c, rfl, c1, o, vs, tk, e, k _ _ h1 fun hm => ?_, h2, h3⟩
    have hm := List.mem_singleton.mp hm
    dsimp only at hm
    rw [hm, ht] at h1
    cases h1
    dsimp only [tabObj] at h2
    cases h2
    simp [rawInt] at h3
example : True := by
  k_with_none
  k_with "call ref" => (k_here; refine Hold.out ?_)
  k_with "exec FunctionDef" => (k_here; k_dflt (refine' nestDef_K ?d0 ?k0 ?a0 ?_; (case d0 => exact rfl); (case k0 => exact rfl); (case a0 => exact rfl)); refine Hold.out ?_)
  trivial
theorem val_zeros (B : Int) : ∀ k : Nat, val B (List.replicate k 0) = 0
  | 0 => rfl
  | k + 1 => by rw [List.replicate_succ, val, val_zeros B k]; simp
noncomputable def qI2D : PySem.Str := Str.ofString "_int2digits.<locals>.inner"
/- what inner(x, L, R) does to the digits' list -/
noncomputable def InnerKey (w : World) (H : Heap) (n : Int) (pm : Value) (D9 cn ci cA : Addr) (tn : Tok) (qual : PySem.Str) (params : Arguments) (body : List Stmt) (scope : Scope) (clos : List (Str × Addr)) : Prop :=
  ∀ (f9 c9 : Addr) (ctv doc : Value) (oc9 : Obj) (vs9 : Array Value) (t9 : Tok) (oI oA o3 : Obj), oc9.data = .fields vs9 → vs9[1]? = some (.str qual t9) → oI.data = .cell (some (.ref f9)) → oA.data = .cell (some (.ref D9)) → o3.data = .cell (some (.int n tn)) →
    @Ne Nat f9 D9 → @Ne Nat c9 D9 → @Ne Nat cn D9 → @Ne Nat ci D9 → @Ne Nat cA D9 → H.get? D9 = none →
    ∀ (k : Nat) (x L R : Int) (tx tL tR : Tok) (dp un : Nat) (fr : Option (List Env)) (gd : Option (List Code)) (s : Shared) (RR : Result → Shared → Prop) (vs : List Value) (ds : List Int) (j : Nat),
        (R - L).toNat = k → L < R → 0 ≤ L → R ≤ 40 → 0 ≤ x → x < 2 ^ 20 → x < 2 ^ (n.toNat * (R - L).toNat) → ds.length ≤ 40 → R ≤ (ds.length : Int) → dp + k + 10 < recursionLimit → un + 4 * k + 100 < cLine → Keep H s.heap →
        (∀ p ∈ [(f9, fnMade (Str.ofString "inner") qual params body scope clos doc pm c9 ctv), (ci, oI), (cA, oA), (cn, o3)], s.heap.get? p.1 = some p.2 ∧ H.get? p.1 = none) → s.heap.get? c9 = some oc9 →
        s.heap.get? D9 = some (W.listOf vs.toArray j) → IntsAre vs ds → 
        (∀ h' tk' vs' j' e, (∀ b o, b ≠ D9 → s.heap.get? b = some o → h'.get? b = some o) → h'.get? D9 = some (W.listOf (List.toArray vs') j') → IntsAre vs' (ds.take L.toNat ++ e ++ ds.drop R.toNat) → e.length = (R - L).toNat → val (2 ^ n.toNat) e = x → (∀ d ∈ e, 0 ≤ d ∧ d < 2 ^ n.toNat) → RR (.ok (.ret .none)) { s with heap := h', toks := tk' }) →
        codeAny (model prg w) (Arnd dp un fr gd) (.call (.ref f9) ⟨[.int x tx, .int L tL, .int R tR], []⟩) RR s
set_option maxHeartbeats 8000000 in
theorem i2d_meets {w : World} {H : Heap} (G : Gnd w H) (CH : CodeHd H 50 46) (h46 : H.get? 46 = none) {a n : Int} {ta tn : Tok} {dp un : Nat} {fr : Option (List Env)} {gd : Option (List Code)} {s : Shared} {R : Result → Shared → Prop}
   (ha : 0 ≤ a) (ha2 : a < 2 ^ 20) (hn : 1 ≤ n) (hn2 : n ≤ 20) (hd : dp + 60 < recursionLimit) (hu : un + 300 < cLine) (kp : Keep H s.heap) (hT : TabSt s.heap 46 56 4 qI2D) 
   (ret : ∀ al vs j e h' tk', (∀ b o, b ≠ 46 → s.heap.get? b = some o → h'.get? b = some o) → h'.get? al = some (W.listOf (List.toArray vs) j) → s.heap.get? al = none → IntsAre vs e → val (2 ^ n.toNat) e = a → (∀ d ∈ e, 0 ≤ d ∧ d < 2 ^ n.toNat) → (e.length : Int) = ((Builtin.Int.intBits a : Int) + n - 1).fdiv n → TabNew s.heap h' 46 56 4 qI2D → R (.ok (.ret (.ref al))) { s with heap := h', toks := tk' })
   : codeAny (model prg w) (Arnd dp un fr gd) (.call (.ref 51) ⟨[.int a ta, .int n tn], []⟩) R s := by
  obtain ⟨ps, ht, hps⟩ := hT
  have hbits : Builtin.Int.intBits a ≤ 20 := intBits_le_iff.mpr (by lia)
  have hk := fdiv_bd (x := (Builtin.Int.intBits a : Int) + n - 1) (n := n) (by lia) hn
  have hown : ∀ p ∈ [((46 : Addr), (tabObj ps : Obj))], s.heap.get? p.1 = some p.2 ∧ H.get? p.1 = none := fun p hp => by rw [List.mem_singleton.mp hp]; exact ⟨ht, h46⟩
  k_dflt (refine' enterC ([((46 : Addr), (tabObj ps : Obj))]) G kp ?k6 ?k7 ?k8 ?k9 ?kB ?kD hown ?_ ?c2 ?c3 ?c4)
  case k6 => k_is
  case k7 => k_is
  case k8 => lia
  case k9 => k_dflt (exact BindsTo.of_eq rfl)
  case kB => exact rfl
  case kD => decide +kernel
  case c2 => exact rfl
  case c3 => exact rfl
  case c4 => exact rfl
  intro g L' h₁ tk₁ cells p loose mean mg mb kg kgs ko ksz F N Y hlt X T
  k_cells Y
  simp only [List.cons_append, List.nil_append] at N
  have hps' := tabof_g hps ht ko
  have lt9 : ∀ a, @LT.lt Nat _ 46 a → g.get? a = none → s.heap.get? a = none := fun a ha e => none_own ko e fun hm => by
      have hm := List.mem_singleton.mp hm
      dsimp only at hm
      rw [hm] at ha
      exact absurd ha (Nat.lt_irrefl _)
  have nh : ∀ a, g.get? a = none → H.get? a = none := fun a e => h_none kg e
  show wpAny _ _ _ _ _ _
  k_fold
  have hltA := allLt_of hlt
  simp only [AllLt, and_true] at hltA
  have C9 := CH.keeps kg
  k_steps
  rename_i o8 o2 o3 d18 d28 d3 l8 h6 l16 D9 h5 i1 n1 s1 e1 e2 e3 l15 h4 oA F1 N1 dA
  unfold Hold
  refine hold_fn (InnerKey w H n ((mg "__name__").getD .none) D9 (L' + 1) (L' + 1 + 1 + 1) (L' + 1 + 1) tn) rfl ?key ?rest
  case key => 
    intro f9 c9 ctv doc oc9 vs9 t9 oI oA o3 d1 d2 dI dA d3 nf9 nc9 n1d n2d n3d hD9 k
    induction k using Nat.strongRecOn with
      | ind k ih =>
      intro x L R tx tL tR dp un fr gd s RR vs ds j hk hLR hL hR hx hx2 hxB hds hRd hd hu kp hown hc9 hal hI ret
      have hlen := hI.length
      have hown5 : ∀ p ∈ [(f9, _), (L' + 1 + 1 + 1, oI), (L' + 1 + 1, oA), (L' + 1, o3), (D9, W.listOf vs.toArray j)], s.heap.get? p.1 = some p.2 ∧ H.get? p.1 = none := fun p hp => by
        rw [show [(f9, _), (L' + 1 + 1 + 1, oI), (L' + 1 + 1, oA), (L' + 1, o3), (D9, W.listOf vs.toArray j)] = [(f9, _), (L' + 1 + 1 + 1, oI), (L' + 1 + 1, oA), (L' + 1, o3)] ++ [(D9, W.listOf vs.toArray j)] from rfl] at hp
        rcases List.mem_append.mp hp with hp | hp
        · exact hown p hp
        · rw [List.mem_singleton.mp hp]; exact ⟨hal, hD9⟩
      have nC : c9 ∉ [f9, L' + 1 + 1 + 1, L' + 1 + 1, L' + 1, D9] := fun hm => by
        have fin : ∀ o : Obj, s.heap.get? c9 = some o → o.data = .fields vs9 := fun o e => by rw [hc9] at e; cases e; exact d1
        rcases List.mem_cons.mp hm with e | hm
        · have := fin _ (by rw [e]; exact (hown5 _ (.head _)).1); cases this
        rcases List.mem_cons.mp hm with e | hm
        · have := fin _ (by rw [e]; exact (hown5 _ (.tail _ (.head _))).1); rw [dI] at this; cases this
        rcases List.mem_cons.mp hm with e | hm
        · have := fin _ (by rw [e]; exact (hown5 _ (.tail _ (.tail _ (.head _)))).1); rw [dA] at this; cases this
        rcases List.mem_cons.mp hm with e | hm
        · have := fin _ (by rw [e]; exact (hown5 _ (.tail _ (.tail _ (.tail _ (.head _))))).1); rw [d3] at this; cases this
        exact nc9 (List.mem_singleton.mp hm)
      k_dflt (refine' enterN [(f9, _), (L' + 1 + 1 + 1, oI), (L' + 1 + 1, oA), (L' + 1, o3), (D9, W.listOf vs.toArray j)] G kp (hown _ (.head _)).1 ?m1 ?m2 ?m3 ?m4 hown5 ?_ ?m5 ?m6 ?m7 ?m8)
      case m1 => exact ⟨c9, oc9, vs9, t9, rfl, hc9, d1, d2⟩
      case m2 => lia
      case m3 => exact BindsTo.of_eq rfl
      case m4 => exact locs rfl
      case m5 => exact rfl
      case m6 => exact rfl
      case m7 => exact rfl
      case m8 => decide
      intro g2 L2 h2 p2 loose2 mean2 mg2 mb2 kg2 kgs2 ko2 ksz2 F2 N2 hlt2 X2 T2
      show wpAny _ _ _ _ _ _
      k_fold
      have hlt3 := allLt_of hlt2
      simp only [AllLt, and_true] at hlt3
      clear hlt2 F1 N1
      have hSH := shift_bd hLR hL hR hn hn2
      have hXS := fdiv_bd (x := x) (n := 2 ^ (((L + R).fdiv (2 ^ Int.toNat 1) - L) * n).toNat) hx pow_pos1
      have hXA : (x.fdiv (2 ^ (((L + R).fdiv (2 ^ Int.toNat 1) - L) * n).toNat)).natAbs < 2 ^ 64 := by lia
      k_steps
      · rename Fr _ _ _ _ => F9
        rename News _ _ _ _ => N9
        rename (_ + 1 = _) => q9
        rename (IntsAre _ _) => I9
        dsimp only
        try k_unfold
        try dsimp only
        have e1 : (R - L).toNat = 1 := by lia
        have e2 := set_mid (ds := ds) (L := L.toNat) (by lia) x
        refine ret _ _ _ _ [x] (keep_but ko2 F9 N9 (by repeat' (first | exact List.forall_mem_nil _ | refine all_cons (fun hne => by first | exact absurd rfl hne | k_mem) ?_)) fun p hp => (hown5 p hp).1) (N9 (D9, _) (by k_mem)).1 ?_ (by rw [e1]; rfl) (by simp [val]) (fun d hd => by rw [List.mem_singleton.mp hd]; rw [e1, Nat.mul_one] at hxB; exact ⟨hx, hxB⟩)
        rw [show R.toNat = L.toNat + 1 by lia, ← e2]; exact I9
      · rename Fr _ _ _ _ => F9
        rename News _ _ _ _ => N9
        rename (¬ _ + 1 = _) => q9
        unfold Hold
        have hM := mid_bd hLR
        have hM2 : L < (L + R).fdiv (2 ^ Int.toNat 1) := hM.2.2.resolve_left q9
        replace hM : L ≤ (L + R).fdiv (2 ^ Int.toNat 1) ∧ (L + R).fdiv (2 ^ Int.toNat 1) < R ∧ True := ⟨hM.1, hM.2.1, trivial⟩
        clear q9
        obtain ⟨x1, x2, x3, x4, x5⟩ := inner_facts (M := (L + R).fdiv (2 ^ Int.toNat 1)) hx hxB (by lia) (by lia) hn
        generalize (L + R).fdiv (2 ^ Int.toNat 1) = M at *
        generalize x.fdiv (2 ^ ((M - L) * n).toNat) = y at *
        generalize Builtin.bitXor x (y * 2 ^ ((M - L) * n).toNat) = z at *
        have kH : ∀ b, g2.get? b = none → H.get? b = none := fun b e => h_none kg2 e
        have hc2 := ko2 _ _ hc9 nC
        refine wpAny_call (ih (M - L).toNat (by lia) _ L M _ _ _ _ _ _ _ _ _ vs ds j rfl hM2 hL (by lia) x1 (by lia) x3 hds (by lia) (by lia) (by lia) (fun b o e => F9.keep b o (kg2 b o e)) (by repeat' (first | exact List.forall_mem_nil _ | refine all_cons ⟨(N9 _ (by k_mem)).1, kH _ (N9 _ (by k_mem)).2.2⟩ ?_)) (F9.keep _ _ hc2) (N9 (D9, _) (by k_mem)).1 hI fun h3 tk3 vs3 j3 e3 k3 g3 I3 l3 v3 b3 => ?_)
        have F8 := but_fr F9 (N9 (D9, _) (by k_mem)).2.2 (N9 (D9, _) (by k_mem)).2.1 k3
        have N8 := but_news (r' := [(f9, _), (L' + 1 + 1 + 1, oI), (L' + 1 + 1, oA), (L' + 1, o3), (D9, W.listOf vs3.toArray j3)]) N9 (D := D9) (by k_mem) k3 g3 (by repeat' (first | exact List.forall_mem_nil _ | refine all_cons (fun hne => by first | exact absurd rfl hne | k_mem) ?_)) (by repeat' (first | exact List.forall_mem_nil _ | refine all_cons (fun he => by first | rfl | exact absurd he (by first | assumption | k_ne)) ?_))
        have hl3 : (ds.take L.toNat ++ e3 ++ ds.drop M.toNat).length = ds.length := by
          simp only [List.length_append, List.length_take, List.length_drop, l3]; lia
        clear F9 N9
        show wpAny _ _ _ _ _ _
        k_steps
        rename Fr _ _ _ _ => F9
        rename News _ _ _ _ => N9
        unfold Hold
        refine wpAny_call (ih (R - M).toNat (by lia) _ M R _ _ _ _ _ _ _ _ _ vs3 (ds.take L.toNat ++ e3 ++ ds.drop M.toNat) j3 rfl hM.2.1 (by lia) hR hXS.1 (by lia) x4 (by lia) (by lia) (by lia) (by lia) (fun b o e => F9.keep b o (kg2 b o e)) (by repeat' (first | exact List.forall_mem_nil _ | refine all_cons ⟨(N9 _ (by k_mem)).1, kH _ (N9 _ (by k_mem)).2.2⟩ ?_)) (F9.keep _ _ hc2) (N9 (D9, _) (by k_mem)).1 I3 fun h4 tk4 vs4 j4 e4 k4 g4 I4 l4 v4 b4 => ?_)
        have F7 := but_fr F9 (N9 (D9, _) (by k_mem)).2.2 (N9 (D9, _) (by k_mem)).2.1 k4
        have N7 := but_news (r' := [(f9, _), (L' + 1 + 1 + 1, oI), (L' + 1 + 1, oA), (L' + 1, o3), (D9, W.listOf vs4.toArray j4)]) N9 (D := D9) (by k_mem) k4 g4 (by repeat' (first | exact List.forall_mem_nil _ | refine all_cons (fun hne => by first | exact absurd rfl hne | k_mem) ?_)) (by repeat' (first | exact List.forall_mem_nil _ | refine all_cons (fun he => by first | rfl | exact absurd he (by first | assumption | k_ne)) ?_))
        clear F9 N9
        show wpAny _ _ _ _ _ _
        k_steps
        rename Fr _ _ _ _ => F9
        rename News _ _ _ _ => N9
        try dsimp only
        try k_unfold
        try dsimp only
        refine ret _ _ _ _ (e3 ++ e4) (keep_but ko2 F9 N9 (by repeat' (first | exact List.forall_mem_nil _ | refine all_cons (fun hne => by first | exact absurd rfl hne | k_mem) ?_)) fun p hp => (hown5 p hp).1) (N9 (D9, _) (by k_mem)).1 ?_ (by rw [List.length_append, l3, l4]; lia) (by rw [val_append, v3, v4, l3]; exact x5) (fun d hd => (List.mem_append.mp hd).elim (b3 d) (b4 d))
        have e9 := two_mid (ds := ds) (e1 := e3) (e2 := e4) (L := L.toNat) (M := M.toNat) (R := R.toNat) (by lia) (by lia) (by lia)
        rw [← e9]; exact I4
  case rest =>
    intro key
    rw [List.flatten_replicate_singleton, List.length_replicate] at e1
    have hn1 : (n1 : Int) = ((Builtin.Int.intBits a : Int) + n - 1).fdiv n := by lia
    have hl1 : ((List.replicate (((Builtin.Int.intBits a : Int) + n - 1).fdiv n).toNat [(0 : Int)]).flatten).length = n1 := by rw [List.flatten_replicate_singleton, List.length_replicate]; exact e1
    have dom := bits_dom ha hn hn1
    have y40 : n1 ≤ 40 := by lia
    have y1 : ((n1 : Int) - 0).toNat = n1 := by rw [Int.sub_zero, Int.toNat_natCast]
    have y2 : ((List.replicate (((Builtin.Int.intBits a : Int) + n - 1).fdiv n).toNat [(0 : Int)]).flatten).length ≤ 40 := by rw [hl1]; exact y40
    have y3 : un + 3 + 4 * n1 + 100 < cLine := by lia
    have y4 : (n1 : Int) ≤ (((List.replicate (((Builtin.Int.intBits a : Int) + n - 1).fdiv n).toNat [(0 : Int)]).flatten).length : Int) := by rw [hl1]; exact Int.le_refl _
    have y5 : ((((n1 : Int) - 0).toNat : Nat) : Int) = (n1 : Int) := by rw [y1]
    have d3n : o3.data = .cell (some (.int n tn)) := d3
    have hq : (Str.ofString "_int2digits" ++ Str.ofString ".<locals>." ++ Str.ofString "inner") = qI2D := by decide +kernel
    rcases hps' with rfl | ⟨c9, rfl, hc⟩
    · k_dflt (refine' nest_K ?F ?N ?T ?C ?cd ?U ?t ?n ?cl ?_; (case F => k_asm); (case N => k_asm); (case T => k_asm); (case cd => exact rfl); (case C => with_reducible assumption); (case U => k_updF); (case t => kn_triples); (case n => kn_among); (case cl => exact rfl); k_whole)
      intro f9 c9 oc9 vs9 t9 ct9 dc9 h8 tk8 F8 N8 d1 d2k l1 l2
      have d2q : vs9[1]? = some (.str qI2D t9) := by rw [← hq]; exact d2k
      (try dsimp only at N8); (try k_lt l1); (try k_lt2 l2)
      clear F1 N1
      k_steps
      · rename_i h9 oI F9 N9 dI a9
        unfold Hold
        have nc9 : @Ne Nat c9 D9 := by first | assumption | k_ne
        have hcN : h9.get? c9 = some oc9 := (N9 (c9, oc9) (by k_mem)).1
        have hnew : (s.heap.get? c9 = none ∧ s.heap.get? 46 = some (tabObj #[])) ∨ s.heap.get? 46 = some (tabObj #[rawInt ((56 : Nat) : Int), rawInt ((4 : Nat) : Int), .ref c9]) := .inl ⟨lt9 c9 (by lia) (N9 (c9, oc9) (by k_mem)).2.2, ht⟩
        have hn0 : 0 < n1 := by
          cases n1 with
          | zero => rw [Nat.mul_zero] at dom; exact absurd (show a = 0 by lia) a9
          | succ k => lia
        have kH : ∀ b, g.get? b = none → H.get? b = none := nh
        refine wpAny_call (key f9 c9 ct9 dc9 oc9 vs9 t9 oI oA o3 d1 d2k dI dA d3n (by first | assumption | k_ne) nc9 (by first | assumption | k_ne) (by first | assumption | k_ne) (by first | assumption | k_ne) (nh _ (N9 (D9, _) (by k_mem)).2.2) n1 a 0 n1 _ _ _ _ _ _ _ _ _ _ _ 0 (by first | assumption | lia) (by first | assumption | lia) (by first | assumption | lia) (by first | assumption | lia) ha ha2 (by rw [Int.sub_zero, Int.toNat_natCast]; exact dom) (by first | assumption | lia) (by first | assumption | lia) (by first | assumption | lia) (by first | assumption | lia) (fun b o e => F9.keep b o (kg b o e)) (by repeat' (first | exact List.forall_mem_nil _ | refine all_cons ⟨(N9 _ (by k_mem)).1, kH _ (N9 _ (by k_mem)).2.2⟩ ?_)) hcN (N9 (D9, _) (by k_mem)).1 i1 fun h3 tk3 vs3 j3 e3 k3 g3 I3 l3 v3 b3 => ?_)
        have F8 := but_fr F9 (N9 (D9, _) (by k_mem)).2.2 (N9 (D9, _) (by k_mem)).2.1 k3
        have N8 := but_news (r' := [(D9, W.listOf vs3.toArray j3), (L' + 1 + 1, oA), (46, tabObj _)]) N9 (D := D9) (by k_mem) k3 g3 (by repeat' (first | exact List.forall_mem_nil _ | refine all_cons (fun hne => by first | exact absurd rfl hne | k_mem) ?_)) (by repeat' (first | exact List.forall_mem_nil _ | refine all_cons (fun he => by first | rfl | exact absurd he (by first | assumption | k_ne)) ?_))
        have I4 : IntsAre vs3 e3 := by
          have e8 : ((List.replicate (((Builtin.Int.intBits a : Int) + n - 1).fdiv n).toNat [(0 : Int)]).flatten).drop ((n1 : Int)).toNat = [] := List.drop_of_length_le (by rw [Int.toNat_natCast]; lia)
          rw [e8, Int.toNat_zero, List.take_zero, List.nil_append, List.append_nil] at I3
          exact I3
        clear F9 N9
        show wpAny _ _ _ _ _ _
        k_steps
        try dsimp only
        try k_unfold
        try dsimp only
        exact ret D9 vs3 j3 e3 _ _ (fun b o hb e => F8.keep b o (ko b o e (by simpa using hb))) g3 (lt9 _ (by first | assumption | lia) (N8 (D9, _) (by k_mem)).2.2) I4 v3 b3 (by rw [l3, ← hn1]; lia) ⟨c9, oc9, vs9, t9, (N8 (46, _) (by k_mem)).1, k3 _ _ nc9 hcN, d1, d2q, hnew⟩
      · rename Fr _ _ _ _ => F9
        rename News _ _ _ _ => N9
        have a0 : a = 0 := by lia
        have hcN : Heap.get? _ c9 = some oc9 := (N9 (c9, oc9) (by k_mem)).1
        have hnew : (s.heap.get? c9 = none ∧ s.heap.get? 46 = some (tabObj #[])) ∨ s.heap.get? 46 = some (tabObj #[rawInt ((56 : Nat) : Int), rawInt ((4 : Nat) : Int), .ref c9]) := .inl ⟨lt9 c9 (by lia) (N9 (c9, oc9) (by k_mem)).2.2, ht⟩
        try dsimp only
        try k_unfold
        try dsimp only
        exact ret D9 _ 0 _ _ _ (fun b o hb e => F9.keep b o (ko b o e (by simpa using hb))) (N9 (D9, _) (by k_mem)).1 (lt9 _ (by first | assumption | lia) (N9 (D9, _) (by k_mem)).2.2) i1 (by rw [a0, List.flatten_replicate_singleton]; exact val_zeros _ _) (fun d hd => by rw [List.flatten_replicate_singleton] at hd; rw [List.eq_of_mem_replicate hd]; exact ⟨Int.le_refl _, Int.pow_pos (by decide)⟩) (by rw [hl1]; exact hn1) ⟨c9, oc9, vs9, t9, (N9 (46, _) (by k_mem)).1, hcN, d1, d2q, hnew⟩
    · k_dflt (refine' nestHit_K ?F ?N ?T ?C ?cd ?mem ?t ?n ?cl ?_; (case F => k_asm); (case N => k_asm); (case T => k_asm); (case cd => exact rfl); (case C => with_reducible assumption); (case mem => k_mem); (case t => kn_triples); (case n => kn_hit); (case cl => exact rfl); k_whole)
      obtain ⟨c1, oc9, vs9, t9, ec9, hc9, d1, d2q⟩ := hc
      cases ec9
      have d2k : vs9[1]? = some (.str (Str.ofString "_int2digits" ++ Str.ofString ".<locals>." ++ Str.ofString "inner") t9) := by rw [hq]; exact d2q
      intro f9 ct9 dc9 h8 tk8 F8 N8 l1
      (try dsimp only at N8); (try k_lt l1)
      clear F1 N1
      k_steps
      · rename_i h9 oI F9 N9 dI a9
        unfold Hold
        have nc9 : @Ne Nat c9 D9 := fun e => by have := (N9 (D9, _) (by k_mem)).2.2; rw [← e] at this; exact nomatch hc9.symm.trans this
        have hcN : h9.get? c9 = some oc9 := F9.keep _ _ hc9
        have hnew : (s.heap.get? c9 = none ∧ s.heap.get? 46 = some (tabObj #[])) ∨ s.heap.get? 46 = some (tabObj #[rawInt ((56 : Nat) : Int), rawInt ((4 : Nat) : Int), .ref c9]) := .inr ht
        have hn0 : 0 < n1 := by
          cases n1 with
          | zero => rw [Nat.mul_zero] at dom; exact absurd (show a = 0 by lia) a9
          | succ k => lia
        have kH : ∀ b, g.get? b = none → H.get? b = none := nh
        refine wpAny_call (key f9 c9 ct9 dc9 oc9 vs9 t9 oI oA o3 d1 d2k dI dA d3n (by first | assumption | k_ne) nc9 (by first | assumption | k_ne) (by first | assumption | k_ne) (by first | assumption | k_ne) (nh _ (N9 (D9, _) (by k_mem)).2.2) n1 a 0 n1 _ _ _ _ _ _ _ _ _ _ _ 0 (by first | assumption | lia) (by first | assumption | lia) (by first | assumption | lia) (by first | assumption | lia) ha ha2 (by rw [Int.sub_zero, Int.toNat_natCast]; exact dom) (by first | assumption | lia) (by first | assumption | lia) (by first | assumption | lia) (by first | assumption | lia) (fun b o e => F9.keep b o (kg b o e)) (by repeat' (first | exact List.forall_mem_nil _ | refine all_cons ⟨(N9 _ (by k_mem)).1, kH _ (N9 _ (by k_mem)).2.2⟩ ?_)) hcN (N9 (D9, _) (by k_mem)).1 i1 fun h3 tk3 vs3 j3 e3 k3 g3 I3 l3 v3 b3 => ?_)
        have F8 := but_fr F9 (N9 (D9, _) (by k_mem)).2.2 (N9 (D9, _) (by k_mem)).2.1 k3
        have N8 := but_news (r' := [(D9, W.listOf vs3.toArray j3), (L' + 1 + 1, oA), (46, tabObj _)]) N9 (D := D9) (by k_mem) k3 g3 (by repeat' (first | exact List.forall_mem_nil _ | refine all_cons (fun hne => by first | exact absurd rfl hne | k_mem) ?_)) (by repeat' (first | exact List.forall_mem_nil _ | refine all_cons (fun he => by first | rfl | exact absurd he (by first | assumption | k_ne)) ?_))
        have I4 : IntsAre vs3 e3 := by
          have e8 : ((List.replicate (((Builtin.Int.intBits a : Int) + n - 1).fdiv n).toNat [(0 : Int)]).flatten).drop ((n1 : Int)).toNat = [] := List.drop_of_length_le (by rw [Int.toNat_natCast]; lia)
          rw [e8, Int.toNat_zero, List.take_zero, List.nil_append, List.append_nil] at I3
          exact I3
        clear F9 N9
        show wpAny _ _ _ _ _ _
        k_steps
        try dsimp only
        try k_unfold
        try dsimp only
        exact ret D9 vs3 j3 e3 _ _ (fun b o hb e => F8.keep b o (ko b o e (by simpa using hb))) g3 (lt9 _ (by first | assumption | lia) (N8 (D9, _) (by k_mem)).2.2) I4 v3 b3 (by rw [l3, ← hn1]; lia) ⟨c9, oc9, vs9, t9, (N8 (46, _) (by k_mem)).1, k3 _ _ nc9 hcN, d1, d2q, hnew⟩
      · rename Fr _ _ _ _ => F9
        rename News _ _ _ _ => N9
        have a0 : a = 0 := by lia
        have hcN : Heap.get? _ c9 = some oc9 := F9.keep _ _ hc9
        have hnew : (s.heap.get? c9 = none ∧ s.heap.get? 46 = some (tabObj #[])) ∨ s.heap.get? 46 = some (tabObj #[rawInt ((56 : Nat) : Int), rawInt ((4 : Nat) : Int), .ref c9]) := .inr ht
        try dsimp only
        try k_unfold
        try dsimp only
        exact ret D9 _ 0 _ _ _ (fun b o hb e => F9.keep b o (ko b o e (by simpa using hb))) (N9 (D9, _) (by k_mem)).1 (lt9 _ (by first | assumption | lia) (N9 (D9, _) (by k_mem)).2.2) i1 (by rw [a0, List.flatten_replicate_singleton]; exact val_zeros _ _) (fun d hd => by rw [List.flatten_replicate_singleton] at hd; rw [List.eq_of_mem_replicate hd]; exact ⟨Int.le_refl _, Int.pow_pos (by decide)⟩) (by rw [hl1]; exact hn1) ⟨c9, oc9, vs9, t9, (N9 (46, _) (by k_mem)).1, hcN, d1, d2q, hnew⟩
end Mine
end

/- part W9 -/
section
example : True := by
  k_with_none
  w_top off
  trivial
open PySem PySem.W PyProof.Rows PySem.Calls PySem.Spec
set_option maxRecDepth 100000
set_option rowWalk.seconds 0
namespace Mine
example : hd.heap_1 = hd.heap_1 ∧ PySem.Challenge.rw_pg0285_01 = PySem.Challenge.rw_pg0285_01 := by
  k_fill
  exact ⟨rfl, rfl⟩
set_option pp.maxSteps 100000
set_option pp.deepTerms false
set_option pp.deepTerms.threshold 4

example : True := by
  k_with_none
  k_with "call ref" => (k_here; refine Hold.out ?_)
  k_with "exec FunctionDef" => (k_here; k_dflt (refine' nestDef_K ?d0 ?k0 ?a0 ?_; (case d0 => exact rfl); (case k0 => exact rfl); (case a0 => exact rfl)); refine Hold.out ?_)
  trivial
noncomputable def qD2I : PySem.Str := Str.ofString "_digits2int.<locals>.inner"
noncomputable def sub (ds : List Int) (L R : Int) : List Int := (ds.drop L.toNat).take (R - L).toNat
theorem sub_split {ds : List Int} {L M R : Int} (h0 : 0 ≤ L) (h1 : L ≤ M) (h2 : M ≤ R) : sub ds L R = sub ds L M ++ sub ds M R := by
  unfold sub
  rw [show (R - L).toNat = (M - L).toNat + (R - M).toNat by lia, List.take_add, List.drop_drop, show L.toNat + (M - L).toNat = M.toNat by lia]
theorem sub_len {ds : List Int} {L R : Int} (h0 : 0 ≤ L) (h1 : L ≤ R) (h2 : R ≤ (ds.length : Int)) : (sub ds L R).length = (R - L).toNat := by
  unfold sub
  rw [List.length_take, List.length_drop]
  exact Nat.min_eq_left (by omega)
theorem sub_one {ds : List Int} {L R : Int} (h0 : 0 ≤ L) (h1 : L + 1 = R) (h2 : R ≤ (ds.length : Int)) : sub ds L R = [ds.getD L.toNat 0] := by
  unfold sub
  rw [show (R - L).toNat = 1 by lia]
  have h : L.toNat < ds.length := by lia
  rw [List.drop_eq_getElem_cons h, List.take_succ_cons, List.take_zero, List.getD_eq_getElem?_getD, List.getElem?_eq_getElem h]; rfl
theorem val_nonneg {B : Int} (hB : 0 ≤ B) : ∀ {ds : List Int}, (∀ d ∈ ds, 0 ≤ d) → 0 ≤ val B ds
  | [], _ => Int.le_refl _
  | d :: r, h => by
    have h1 := h d (.head _)
    have h2 := val_nonneg hB (ds := r) fun x hx => h x (.tail _ hx)
    have := Int.mul_nonneg hB h2
    unfold val; lia
theorem sub_mem {ds : List Int} {L R d : Int} (h : d ∈ sub ds L R) : d ∈ ds := List.mem_of_mem_drop (List.mem_of_mem_take h)
theorem sub_facts {ds : List Int} {L M R n : Int} (hd : ∀ d ∈ ds, 0 ≤ d) (h0 : 0 ≤ L) (h1 : L ≤ M) (h2 : M ≤ R) (h3 : R ≤ (ds.length : Int)) (hn : 1 ≤ n) :
    0 ≤ val (2 ^ n.toNat) (sub ds L M) ∧ 0 ≤ val (2 ^ n.toNat) (sub ds M R) ∧ val (2 ^ n.toNat) (sub ds L M) ≤ val (2 ^ n.toNat) (sub ds L R) ∧ val (2 ^ n.toNat) (sub ds M R) ≤ val (2 ^ n.toNat) (sub ds L R) ∧
    val (2 ^ n.toNat) (sub ds L R) = val (2 ^ n.toNat) (sub ds M R) * 2 ^ ((M - L) * n).toNat + val (2 ^ n.toNat) (sub ds L M) := by
  have hB : (0 : Int) ≤ 2 ^ n.toNat := Int.le_of_lt (Int.pow_pos (by decide))
  have a := val_nonneg hB (ds := sub ds L M) fun d h => hd d (sub_mem h)
  have b := val_nonneg hB (ds := sub ds M R) fun d h => hd d (sub_mem h)
  have e : val (2 ^ n.toNat) (sub ds L R) = val (2 ^ n.toNat) (sub ds M R) * 2 ^ ((M - L) * n).toNat + val (2 ^ n.toNat) (sub ds L M) := by
    rw [sub_split h0 h1 h2, val_append, sub_len h0 h1 (by lia), shift_eq h1 hn, ← Int.pow_mul, Int.mul_comm, Int.add_comm]
  have hp : (1 : Int) ≤ 2 ^ ((M - L) * n).toNat := pow_pos1
  have h4 := Int.mul_le_mul_of_nonneg_left hp b
  rw [Int.mul_one] at h4
  refine ⟨a, b, by lia, by lia, e⟩
theorem sub_whole {ds : List Int} : sub ds 0 (ds.length : Int) = ds := by
  unfold sub
  rw [Int.sub_zero, Int.toNat_natCast, Int.toNat_zero, List.drop_zero, List.take_length]
/- what inner(L, R) gives back -/
noncomputable def InnerKey2 (w : World) (H : Heap) (n : Int) (pm : Value) (D9 cn ci cA : Addr) (tn : Tok) (vs : List Value) (ds : List Int) (j : Nat) (qual : PySem.Str) (params : Arguments) (body : List Stmt) (scope : Scope) (clos : List (Str × Addr)) : Prop :=
  ∀ (f9 c9 : Addr) (ctv doc : Value) (oc9 : Obj) (vs9 : Array Value) (t9 : Tok) (oI oA o3 : Obj), oc9.data = .fields vs9 → vs9[1]? = some (.str qual t9) → oI.data = .cell (some (.ref f9)) → oA.data = .cell (some (.ref D9)) → o3.data = .cell (some (.int n tn)) →
    ∀ (k : Nat) (L R : Int) (tL tR : Tok) (dp un : Nat) (fr : Option (List Env)) (gd : Option (List Code)) (s : Shared) (RR : Result → Shared → Prop),
        (R - L).toNat = k → L < R → 0 ≤ L → R ≤ (ds.length : Int) → val (2 ^ n.toNat) (sub ds L R) < 2 ^ 20 → dp + k + 10 < recursionLimit → un + 4 * k + 100 < cLine → Keep H s.heap →
        (∀ p ∈ [(f9, fnMade (Str.ofString "inner") qual params body scope clos doc pm c9 ctv), (ci, oI), (cA, oA), (cn, o3), (D9, W.listOf vs.toArray j)], s.heap.get? p.1 = some p.2 ∧ H.get? p.1 = none) → s.heap.get? c9 = some oc9 →
        (∀ t h' tk', Keep s.heap h' → RR (.ok (.ret (.int (val (2 ^ n.toNat) (sub ds L R)) t))) { s with heap := h', toks := tk' }) →
        codeAny (model prg w) (Arnd dp un fr gd) (.call (.ref f9) ⟨[.int L tL, .int R tR], []⟩) RR s
set_option maxHeartbeats 8000000 in
theorem d2i_meets {w : World} {H : Heap} (G : Gnd w H) (CH : CodeHd H 57 53) (h53 : H.get? 53 = none) {l : Addr} {vs : List Value} {ds : List Int} {j : Nat} {n : Int} {tn : Tok} {dp un : Nat} {fr : Option (List Env)} {gd : Option (List Code)} {s : Shared} {R : Result → Shared → Prop}
   (hI : IntsAre vs ds) (hds : ds.length ≤ 40) (hd0 : ∀ d ∈ ds, 0 ≤ d) (hv : val (2 ^ n.toNat) ds < 2 ^ 20) (hn : 1 ≤ n) (hn2 : n ≤ 20) (hd : dp + 60 < recursionLimit) (hu : un + 300 < cLine) (kp : Keep H s.heap) (hT : TabSt s.heap 53 71 4 qD2I) 
   (hl : s.heap.get? l = some (W.listOf vs.toArray j)) (hlH : H.get? l = none)
   (ret : ∀ t h' tk', (∀ b o, b ≠ 53 → s.heap.get? b = some o → h'.get? b = some o) → TabNew s.heap h' 53 71 4 qD2I → R (.ok (.ret (.int (val (2 ^ n.toNat) ds) t))) { s with heap := h', toks := tk' })
   : codeAny (model prg w) (Arnd dp un fr gd) (.call (.ref 58) ⟨[.ref l, .int n tn], []⟩) R s := by
  obtain ⟨ps, ht, hps⟩ := hT
  have hlen := hI.length
  have l53 : l ≠ 53 := fun e => by rw [e, ht] at hl; cases hl
  have hown : ∀ p ∈ [((53 : Addr), (tabObj ps : Obj)), (l, W.listOf vs.toArray j)], s.heap.get? p.1 = some p.2 ∧ H.get? p.1 = none := List.forall_mem_cons.mpr ⟨⟨ht, h53⟩, List.forall_mem_cons.mpr ⟨⟨hl, hlH⟩, List.forall_mem_nil _⟩⟩
  k_dflt (refine' enterC ([((53 : Addr), (tabObj ps : Obj)), (l, W.listOf vs.toArray j)]) G kp ?k6 ?k7 ?k8 ?k9 ?kB ?kD hown ?_ ?c2 ?c3 ?c4)
  case k6 => k_is
  case k7 => k_is
  case k8 => lia
  case k9 => k_dflt (exact BindsTo.of_eq rfl)
  case kB => exact rfl
  case kD => decide +kernel
  case c2 => exact rfl
  case c3 => exact rfl
  case c4 => exact rfl
  intro g L' h₁ tk₁ cells p loose mean mg mb kg kgs ko ksz F N Y hlt X T
  k_cells Y
  simp only [List.cons_append, List.nil_append] at N
  have hps' : TabOf g ps 71 4 qD2I := by
    rcases hps with rfl | ⟨c, rfl, c1, o, ws, tk, e, h1, h2, h3⟩
    · exact .inl rfl
    · refine .inr ⟨c, rfl, c1, o, ws, tk, e, ko _ _ h1 fun hm => ?_, h2, h3⟩
      rcases List.mem_cons.mp hm with hm | hm
      · dsimp only at hm
        rw [hm, ht] at h1
        cases h1
        dsimp only [tabObj] at h2
        cases h2
        simp [rawInt] at h3
      · have hm := List.mem_singleton.mp hm
        rw [hm, hl] at h1
        cases h1
        cases h2
  have lt9 : ∀ a, @LT.lt Nat _ 53 a → @LT.lt Nat _ l a → g.get? a = none → s.heap.get? a = none := fun a ha hb e => none_own ko e fun hm => by
      rcases List.mem_cons.mp hm with hm | hm
      · dsimp only at hm; rw [hm] at ha; exact absurd ha (Nat.lt_irrefl _)
      · have hm := List.mem_singleton.mp hm
        rw [hm] at hb; exact absurd hb (Nat.lt_irrefl _)
  have nh : ∀ a, g.get? a = none → H.get? a = none := fun a e => h_none kg e
  show wpAny _ _ _ _ _ _
  k_fold
  have hltA := allLt_of hlt
  simp only [AllLt, and_true] at hltA
  have C9 := CH.keeps kg
  k_steps
  rename_i o8 o2 o3 d18 d28 d3
  rename Fr _ _ _ _ => F1
  rename News _ _ _ _ => N1
  unfold Hold
  have d2n : o2.data = .cell (some (.int n tn)) := d28
  have d3n : o3.data = .cell (some (.ref l)) := d3
  refine hold_fn (InnerKey2 w H n ((mg "__name__").getD .none) l (L' + 1 + 1) (L' + 1 + 1 + 1) (L' + 1) tn vs ds j) rfl ?key ?rest
  case key => 
    intro f9 c9 ctv doc oc9 vs9 t9 oI oA o3 d1 d2 dI dA d3 k
    induction k using Nat.strongRecOn with
      | ind k ih =>
      intro L R tL tR dp un fr gd s RR hk hLR hL hR hxB hd hu kp hown5 hc9 ret
      have nC : c9 ∉ [f9, L' + 1 + 1 + 1, L' + 1, L' + 1 + 1, l] := fun hm => by
        have fin : ∀ o : Obj, s.heap.get? c9 = some o → o.data = .fields vs9 := fun o e => by rw [hc9] at e; cases e; exact d1
        rcases List.mem_cons.mp hm with e | hm
        · have := fin _ (by rw [e]; exact (hown5 _ (.head _)).1); cases this
        rcases List.mem_cons.mp hm with e | hm
        · have := fin _ (by rw [e]; exact (hown5 _ (.tail _ (.head _))).1); rw [dI] at this; cases this
        rcases List.mem_cons.mp hm with e | hm
        · have := fin _ (by rw [e]; exact (hown5 _ (.tail _ (.tail _ (.head _)))).1); rw [dA] at this; cases this
        rcases List.mem_cons.mp hm with e | hm
        · have := fin _ (by rw [e]; exact (hown5 _ (.tail _ (.tail _ (.tail _ (.head _))))).1); rw [d3] at this; cases this
        · have hm := List.mem_singleton.mp hm
          have := fin _ (by rw [hm]; exact (hown5 _ (.tail _ (.tail _ (.tail _ (.tail _ (.head _)))))).1); cases this
      k_dflt (refine' enterN [(f9, _), (L' + 1 + 1 + 1, oI), (L' + 1, oA), (L' + 1 + 1, o3), (l, W.listOf vs.toArray j)] G kp (hown5 _ (.head _)).1 ?m1 ?m2 ?m3 ?m4 hown5 ?_ ?m5 ?m6 ?m7 ?m8)
      case m1 => exact ⟨c9, oc9, vs9, t9, rfl, hc9, d1, d2⟩
      case m2 => lia
      case m3 => exact BindsTo.of_eq rfl
      case m4 => exact locs rfl
      case m5 => exact rfl
      case m6 => exact rfl
      case m7 => exact rfl
      case m8 => decide
      intro g2 L2 h2 p2 loose2 mean2 mg2 mb2 kg2 kgs2 ko2 ksz2 F2 N2 hlt2 X2 T2
      show wpAny _ _ _ _ _ _
      k_fold
      have hlt3 := allLt_of hlt2
      simp only [AllLt, and_true] at hlt3
      clear hlt2 F1 N1
      have hSH := shift_bd hLR hL (by lia) hn hn2
      have hM := mid_bd hLR
      have kH : ∀ b, g2.get? b = none → H.get? b = none := fun b e => h_none kg2 e
      have hc2 := ko2 _ _ hc9 nC
      obtain ⟨x1, x2, x3, x4, x5⟩ := sub_facts (M := (L + R).fdiv (2 ^ Int.toNat 1)) hd0 hL (by lia) (by lia) hR hn
      k_steps
      · rename (_ + 1 = _) => q9
        rename Fr _ _ _ _ => F9
        rename News _ _ _ _ => N9
        try dsimp only
        try k_unfold
        try dsimp only
        have e : val (2 ^ n.toNat) (sub ds L R) = ds.getD L.toNat 0 := by rw [sub_one hL q9 hR]; simp [val]
        rw [e] at ret
        exact ret _ _ _ (keep_of ko2 F9 N9 (by repeat' (first | exact List.forall_mem_nil _ | refine all_cons (by k_mem) ?_)) fun p hp => (hown5 p hp).1)
      · rename Fr _ _ _ _ => F9
        rename News _ _ _ _ => N9
        rename (¬ _ + 1 = _) => q9
        unfold Hold
        have hM2 : L < (L + R).fdiv (2 ^ Int.toNat 1) := hM.2.2.resolve_left q9
        replace hM : L ≤ (L + R).fdiv (2 ^ Int.toNat 1) ∧ (L + R).fdiv (2 ^ Int.toNat 1) < R ∧ True := ⟨hM.1, hM.2.1, trivial⟩
        clear q9
        generalize (L + R).fdiv (2 ^ Int.toNat 1) = M at *
        refine wpAny_call (ih (R - M).toNat (by lia) M R _ _ _ _ _ _ _ _ rfl (by lia) (by lia) hR (by lia) (by lia) (by lia) (fun b o e => F9.keep b o (kg2 b o e)) (by repeat' (first | exact List.forall_mem_nil _ | refine all_cons ⟨(N9 _ (by k_mem)).1, kH _ (N9 _ (by k_mem)).2.2⟩ ?_)) (F9.keep _ _ hc2) fun t3 h3 tk3 k3 => ?_)
        have F8 := F9.kept k3
        have N8 := news_kept N9 k3
        have a3 : (val (2 ^ n.toNat) (sub ds M R)).natAbs < 2 ^ 64 := by lia
        clear F9 N9
        show wpAny _ _ _ _ _ _
        k_steps
        rename Fr _ _ _ _ => F9
        rename News _ _ _ _ => N9
        unfold Hold
        refine wpAny_call (ih (M - L).toNat (by lia) L M _ _ _ _ _ _ _ _ rfl hM2 hL (by lia) (by lia) (by lia) (by lia) (fun b o e => F9.keep b o (kg2 b o e)) (by repeat' (first | exact List.forall_mem_nil _ | refine all_cons ⟨(N9 _ (by k_mem)).1, kH _ (N9 _ (by k_mem)).2.2⟩ ?_)) (F9.keep _ _ hc2) fun t4 h4 tk4 k4 => ?_)
        have F7 := F9.kept k4
        have N7 := news_kept N9 k4
        clear F9 N9
        show wpAny _ _ _ _ _ _
        k_steps
        rw [x5] at ret
        exact ret _ _ _ (keep_of ko2 F7 N7 (by repeat' (first | exact List.forall_mem_nil _ | refine all_cons (by k_mem) ?_)) fun p hp => (hown5 p hp).1)
  case rest =>
    intro key
    have hq : (Str.ofString "_digits2int" ++ Str.ofString ".<locals>." ++ Str.ofString "inner") = qD2I := by decide +kernel
    rcases hps' with rfl | ⟨c9, rfl, hc⟩
    · k_dflt (refine' nest_K ?F ?N ?T ?C ?cd ?U ?t ?n ?cl ?_; (case F => k_asm); (case N => k_asm); (case T => k_asm); (case cd => exact rfl); (case C => with_reducible assumption); (case U => k_updF); (case t => kn_triples); (case n => kn_among); (case cl => exact rfl); k_whole)
      intro f9 c9 oc9 vs9 t9 ct9 dc9 h8 tk8 F8 N8 d1 d2k l1 l2
      have d2q : vs9[1]? = some (.str qD2I t9) := by rw [← hq]; exact d2k
      (try dsimp only at N8); (try k_lt l1); (try k_lt2 l2)
      clear F1 N1
      k_steps
      · rename_i h9 oI F9 N9 dI a9
        unfold Hold
        have hcN : h9.get? c9 = some oc9 := (N9 (c9, oc9) (by k_mem)).1
        have hnew : (s.heap.get? c9 = none ∧ s.heap.get? 53 = some (tabObj #[])) ∨ s.heap.get? 53 = some (tabObj #[rawInt ((71 : Nat) : Int), rawInt ((4 : Nat) : Int), .ref c9]) := .inl ⟨lt9 c9 (by lia) (by lia) (N9 (c9, oc9) (by k_mem)).2.2, ht⟩
        have kH : ∀ b, g.get? b = none → H.get? b = none := nh
        refine wpAny_call (key f9 c9 ct9 dc9 oc9 vs9 t9 oI o3 o2 d1 d2k dI d3n d2n ds.length 0 ds.length _ _ _ _ _ _ _ _ (by lia) (by lia) (by lia) (by lia) (by rw [sub_whole]; exact hv) (by lia) (by lia) (fun b o e => F9.keep b o (kg b o e)) (by repeat' (first | exact List.forall_mem_nil _ | refine all_cons ⟨(N9 _ (by k_mem)).1, kH _ (N9 _ (by k_mem)).2.2⟩ ?_)) hcN fun t3 h3 tk3 k3 => ?_)
        have F8 := F9.kept k3
        have N8 := news_kept N9 k3
        rw [sub_whole]
        clear F9 N9
        try k_unfold
        try dsimp only
        exact ret _ _ _ (fun b o hb e => keep_but (D := 53) ko F8 N8 (by repeat' (first | exact List.forall_mem_nil _ | refine all_cons (fun hne => by first | exact absurd rfl hne | k_mem) ?_)) (fun p hp => (hown p hp).1) b o hb e) ⟨c9, oc9, vs9, t9, (N8 (53, _) (by k_mem)).1, k3 _ _ hcN, d1, d2q, hnew⟩
      · rename Fr _ _ _ _ => F9
        rename News _ _ _ _ => N9
        have hcN : Heap.get? _ c9 = some oc9 := (N9 (c9, oc9) (by k_mem)).1
        have hnew : (s.heap.get? c9 = none ∧ s.heap.get? 53 = some (tabObj #[])) ∨ s.heap.get? 53 = some (tabObj #[rawInt ((71 : Nat) : Int), rawInt ((4 : Nat) : Int), .ref c9]) := .inl ⟨lt9 c9 (by lia) (by lia) (N9 (c9, oc9) (by k_mem)).2.2, ht⟩
        have e0 : ds = [] := List.eq_nil_of_length_eq_zero (by lia)
        have e : val (2 ^ n.toNat) ds = 0 := by rw [e0]; rfl
        rw [e] at ret
        try dsimp only
        try k_unfold
        try dsimp only
        exact ret _ _ _ (fun b o hb e => keep_but (D := 53) ko F9 N9 (by repeat' (first | exact List.forall_mem_nil _ | refine all_cons (fun hne => by first | exact absurd rfl hne | k_mem) ?_)) (fun p hp => (hown p hp).1) b o hb e) ⟨c9, oc9, vs9, t9, (N9 (53, _) (by k_mem)).1, hcN, d1, d2q, hnew⟩
    · k_dflt (refine' nestHit_K ?F2 ?N2 ?T2 ?C2 ?cd2 ?mem2 ?t2 ?n2 ?cl2 ?_; (case F2 => k_asm); (case N2 => k_asm); (case T2 => k_asm); (case cd2 => exact rfl); (case C2 => with_reducible assumption); (case mem2 => k_mem); (case t2 => kn_triples); (case n2 => kn_hit); (case cl2 => exact rfl); k_whole)
      obtain ⟨c1, oc9, vs9, t9, ec9, hc9, d1, d2q⟩ := hc
      cases ec9
      have d2k : vs9[1]? = some (.str (Str.ofString "_digits2int" ++ Str.ofString ".<locals>." ++ Str.ofString "inner") t9) := by rw [hq]; exact d2q
      intro f9 ct9 dc9 h8 tk8 F8 N8 l1
      (try dsimp only at N8); (try k_lt l1)
      clear F1 N1
      k_steps
      · rename_i h9 oI F9 N9 dI a9
        unfold Hold
        have hcN : h9.get? c9 = some oc9 := F9.keep _ _ hc9
        have hnew : (s.heap.get? c9 = none ∧ s.heap.get? 53 = some (tabObj #[])) ∨ s.heap.get? 53 = some (tabObj #[rawInt ((71 : Nat) : Int), rawInt ((4 : Nat) : Int), .ref c9]) := .inr ht
        have kH : ∀ b, g.get? b = none → H.get? b = none := nh
        refine wpAny_call (key f9 c9 ct9 dc9 oc9 vs9 t9 oI o3 o2 d1 d2k dI d3n d2n ds.length 0 ds.length _ _ _ _ _ _ _ _ (by lia) (by lia) (by lia) (by lia) (by rw [sub_whole]; exact hv) (by lia) (by lia) (fun b o e => F9.keep b o (kg b o e)) (by repeat' (first | exact List.forall_mem_nil _ | refine all_cons ⟨(N9 _ (by k_mem)).1, kH _ (N9 _ (by k_mem)).2.2⟩ ?_)) hcN fun t3 h3 tk3 k3 => ?_)
        have F8 := F9.kept k3
        have N8 := news_kept N9 k3
        rw [sub_whole]
        clear F9 N9
        try k_unfold
        try dsimp only
        exact ret _ _ _ (fun b o hb e => keep_but (D := 53) ko F8 N8 (by repeat' (first | exact List.forall_mem_nil _ | refine all_cons (fun hne => by first | exact absurd rfl hne | k_mem) ?_)) (fun p hp => (hown p hp).1) b o hb e) ⟨c9, oc9, vs9, t9, (N8 (53, _) (by k_mem)).1, k3 _ _ hcN, d1, d2q, hnew⟩
      · rename Fr _ _ _ _ => F9
        rename News _ _ _ _ => N9
        have hcN : Heap.get? _ c9 = some oc9 := F9.keep _ _ hc9
        have hnew : (s.heap.get? c9 = none ∧ s.heap.get? 53 = some (tabObj #[])) ∨ s.heap.get? 53 = some (tabObj #[rawInt ((71 : Nat) : Int), rawInt ((4 : Nat) : Int), .ref c9]) := .inr ht
        have e0 : ds = [] := List.eq_nil_of_length_eq_zero (by lia)
        have e : val (2 ^ n.toNat) ds = 0 := by rw [e0]; rfl
        rw [e] at ret
        try dsimp only
        try k_unfold
        try dsimp only
        exact ret _ _ _ (fun b o hb e => keep_but (D := 53) ko F9 N9 (by repeat' (first | exact List.forall_mem_nil _ | refine all_cons (fun hne => by first | exact absurd rfl hne | k_mem) ?_)) (fun p hp => (hown p hp).1) b o hb e) ⟨c9, oc9, vs9, t9, (N9 (53, _) (by k_mem)).1, hcN, d1, d2q, hnew⟩
end Mine
end

/- part Tabs -/
section
example : True := by
  k_with_none
  w_top off
  trivial
open PySem PySem.W PyProof.Rows PySem.Calls PySem.Spec
set_option maxRecDepth 100000
namespace Mine
/- the two code tables of the nested defs, and their code records (or the table itself, while it is empty) -/
structure TabP where
  p1 : Array Value
  p2 : Array Value
  c1 : Addr
  c2 : Addr
  o1 : Obj
  o2 : Obj
noncomputable abbrev tabOwn (q : TabP) : List (Addr × Obj) := [(46, tabObj q.p1), (53, tabObj q.p2), (q.c1, q.o1), (q.c2, q.o2)]
noncomputable def Rec (p : Array Value) (c : Addr) (o : Obj) (t : Addr) (ln col : Nat) (q : PySem.Str) : Prop :=
  (p = #[] ∧ c = t) ∨ (p = #[rawInt (ln : Int), rawInt (col : Int), .ref c] ∧ c ≠ t ∧ ∃ vs tk, o.data = .fields vs ∧ vs[1]? = some (.str q tk))
noncomputable def TabsOk (q : TabP) : Prop := Rec q.p1 q.c1 q.o1 46 56 4 qI2D ∧ Rec q.p2 q.c2 q.o2 53 71 4 qD2I ∧ q.c1 ≠ 53 ∧ q.c2 ≠ 46
noncomputable def TabsAt9 (H h : Heap) (q : TabP) : Prop := TabsOk q ∧ ∀ p ∈ tabOwn q, h.get? p.1 = some p.2 ∧ H.get? p.1 = none
noncomputable def KeepT (h h' : Heap) : Prop := ∀ b o, b ≠ 46 → b ≠ 53 → h.get? b = some o → h'.get? b = some o
noncomputable def New1 (h : Heap) (t c c' : Addr) (o o' : Obj) : Prop := (c' = c ∧ o' = o) ∨ (c = t ∧ c' ≠ t ∧ h.get? c' = none) ∨ (c = t ∧ c' = t)
noncomputable def NewT (h : Heap) (q q' : TabP) : Prop := New1 h 46 q.c1 q'.c1 q.o1 q'.o1 ∧ New1 h 53 q.c2 q'.c2 q.o2 q'.o2
theorem New1.of_keep {h h' : Heap} {t c c' : Addr} {o o' : Obj} (k : Keep h h') (x : New1 h' t c c' o o') : New1 h t c c' o o' := by
  rcases x with x | ⟨a, b, e⟩ | x
  · exact .inl x
  · refine .inr (.inl ⟨a, b, ?_⟩)
    cases q : h.get? c' with
    | none => rfl
    | some o => rw [k _ _ q] at e; cases e
  · exact .inr (.inr x)
theorem NewT.of_keep {h h' : Heap} {q q' : TabP} (k : Keep h h') (x : NewT h' q q') : NewT h q q' := ⟨x.1.of_keep k, x.2.of_keep k⟩
theorem New1.trans {h h' : Heap} {t c c' c'' : Addr} {o o' o'' : Obj} (k : ∀ b o, b ≠ 46 → b ≠ 53 → h.get? b = some o → h'.get? b = some o) (h46 : (h'.get? 46).isSome = true) (h53 : (h'.get? 53).isSome = true) (x : New1 h t c c' o o') (y : New1 h' t c' c'' o' o'') : New1 h t c c'' o o'' := by
  have hn : h'.get? c'' = none → h.get? c'' = none := fun e => by
    cases q : h.get? c'' with
    | none => rfl
    | some o9 =>
      by_cases a : c'' = 46
      · rw [a] at e; rw [e] at h46; cases h46
      by_cases b : c'' = 53
      · rw [b] at e; rw [e] at h53; cases h53
      rw [k _ _ a b q] at e; cases e
  rcases y with ⟨rfl, rfl⟩ | ⟨a, b, e⟩ | ⟨a, b⟩
  · exact x
  · rcases x with ⟨r1, r2⟩ | ⟨x1, x2, _⟩ | ⟨x1, x2⟩
    · exact .inr (.inl ⟨r1 ▸ a, b, hn e⟩)
    · exact absurd a x2
    · exact .inr (.inl ⟨x1, b, hn e⟩)
  · rcases x with ⟨r1, r2⟩ | ⟨x1, x2, _⟩ | ⟨x1, x2⟩
    · exact .inr (.inr ⟨r1 ▸ a, b⟩)
    · exact absurd a x2
    · exact .inr (.inr ⟨x1, b⟩)
theorem isSome_of {h : Heap} {a : Addr} {o : Obj} (e : h.get? a = some o) : (h.get? a).isSome = true := by rw [e]; rfl
theorem NewT.trans {H h h' : Heap} {q q' q'' : TabP} (k : KeepT h h') (T : TabsAt9 H h' q') (x : NewT h q q') (y : NewT h' q' q'') : NewT h q q'' :=
  ⟨x.1.trans k (isSome_of (T.2 _ (.head _)).1) (isSome_of (T.2 _ (.tail _ (.head _))).1) y.1, x.2.trans k (isSome_of (T.2 _ (.head _)).1) (isSome_of (T.2 _ (.tail _ (.head _))).1) y.2⟩
theorem New1.ne {h : Heap} {t c c' : Addr} {o o' : Obj} {D : Addr} {oD : Obj} (x : New1 h t c c' o o') (hD : h.get? D = some oD) (n : D ≠ c) : D ≠ c' := by
  rcases x with ⟨rfl, _⟩ | ⟨_, _, e⟩ | ⟨a, b⟩
  · exact n
  · intro q; rw [q, e] at hD; cases hD
  · rw [b, ← a]; exact n
theorem New1.lt {h : Heap} {t c c' : Addr} {o o' : Obj} {D : Addr} (x : New1 h t c c' o o') (h1 : @LT.lt Nat _ c' D) (h2 : @LT.lt Nat _ t D) : @LT.lt Nat _ c D := by
  rcases x with ⟨rfl, _⟩ | ⟨e, _⟩ | ⟨e, _⟩
  · exact h1
  · rw [e]; exact h2
  · rw [e]; exact h2
theorem tab_off {q : TabP} {D : Addr} (l1 : @LT.lt Nat _ 46 D) (l2 : @LT.lt Nat _ 53 D) (l3 : @LT.lt Nat _ q.c1 D) (l4 : @LT.lt Nat _ q.c2 D) (hm : D ∈ (tabOwn q).map (·.1)) : False := by
  rcases List.mem_cons.mp hm with hm | hm
  · exact Nat.ne_of_gt l1 hm
  rcases List.mem_cons.mp hm with hm | hm
  · exact Nat.ne_of_gt l2 hm
  rcases List.mem_cons.mp hm with hm | hm
  · exact Nat.ne_of_gt l3 hm
  · exact Nat.ne_of_gt l4 (List.mem_singleton.mp hm)
theorem tab_no {q : TabP} {D : Addr} (n : (@Ne Nat D 46 ∧ @Ne Nat D 53) ∧ @Ne Nat D q.c1 ∧ @Ne Nat D q.c2) (hm : D ∈ (tabOwn q).map (·.1)) : False := by
  rcases List.mem_cons.mp hm with hm | hm
  · exact n.1.1 hm
  rcases List.mem_cons.mp hm with hm | hm
  · exact n.1.2 hm
  rcases List.mem_cons.mp hm with hm | hm
  · exact n.2.1 hm
  · exact n.2.2 (List.mem_singleton.mp hm)
theorem rec_tab {h : Heap} {p : Array Value} {c : Addr} {o : Obj} {t : Addr} {ln col : Nat} {q : PySem.Str} (x : Rec p c o t ln col q) (h1 : h.get? t = some (tabObj p)) (h2 : h.get? c = some o) : TabSt h t ln col q := by
  refine ⟨p, h1, ?_⟩
  rcases x with ⟨rfl, _⟩ | ⟨rfl, _, vs, tk, d1, d2⟩
  · exact .inl rfl
  · exact .inr ⟨c, rfl, c, o, vs, tk, rfl, h2, d1, d2⟩
/- one run of a table's def, at the level of its record -/
theorem rec_new {h h' : Heap} {p : Array Value} {c : Addr} {o : Obj} {t : Addr} {ln col : Nat} {q : PySem.Str} (x : Rec p c o t ln col q) (h1 : h.get? t = some (tabObj p)) (h2 : h.get? c = some o) (k : ∀ b o, b ≠ t → h.get? b = some o → h'.get? b = some o) (y : TabNew h h' t ln col q) :
    ∃ p' c' o', Rec p' c' o' t ln col q ∧ h'.get? t = some (tabObj p') ∧ h'.get? c' = some o' ∧ New1 h t c c' o o' ∧ (h.get? c' = none ∨ c' = c) := by
  obtain ⟨c', oc, vs, tk, e1, e2, d1, d2, hn⟩ := y
  have nt : c' ≠ t := fun e => by
    rw [e, e1] at e2
    cases e2
    cases d1
    simp [rawInt] at d2
  refine ⟨_, c', oc, .inr ⟨rfl, nt, vs, tk, d1, d2⟩, e1, e2, ?_⟩
  rcases hn with ⟨a, b⟩ | b
  · rw [h1] at b
    rcases x with ⟨rfl, ct⟩ | ⟨rfl, _⟩
    · exact ⟨.inr (.inl ⟨ct, nt, a⟩), .inl a⟩
    · cases b
  · rw [h1] at b
    rcases x with ⟨rfl, ct⟩ | ⟨rfl, n, _⟩
    · cases b
    · have e3 : c' = c := by cases b; rfl
      subst e3
      refine ⟨.inl ⟨rfl, ?_⟩, .inr rfl⟩
      have e4 := k _ _ n h2
      rw [e2] at e4; exact Option.some.inj e4

noncomputable def MeetsT (w : World) (H : Heap) (f : Addr) (args : List Value) (d u : Nat) (Pre : Heap → Prop) (Post : Heap → Value → Heap → Prop) : Prop :=
  ∀ (dp un : Nat) (fr : Option (List Env)) (gd : Option (List Code)) (s : Shared) (R : Result → Shared → Prop) (q : TabP), dp + d < recursionLimit → un + u < cLine → Keep H s.heap → TabsAt9 H s.heap q → Pre s.heap →
    (∀ v h' tk' q', KeepT s.heap h' → TabsAt9 H h' q' → NewT s.heap q q' → Post s.heap v h' → R (.ok (.ret v)) { s with heap := h', toks := tk' }) → codeAny (model prg w) (Arnd dp un fr gd) (.call (.ref f) ⟨args, []⟩) R s
theorem none_keep {H s : Heap} (kp : Keep H s) {a : Addr} (e : s.get? a = none) : H.get? a = none := h_none kp e

inductive DigPost (a n : Int) (h : Heap) (v : Value) (h' : Heap) : Prop
  | mk (al : Addr) (vs : List Value) (j : Nat) (e : List Int) (ev : v = .ref al) (g : h'.get? al = some (W.listOf (List.toArray vs) j)) (f : h.get? al = none) (I : IntsAre vs e) (hv : val (2 ^ n.toNat) e = a) (hb : ∀ d ∈ e, 0 ≤ d ∧ d < 2 ^ n.toNat)
      (hl : (e.length : Int) = ((Builtin.Int.intBits a : Int) + n - 1).fdiv n) : DigPost a n h v h'
theorem i2d_T {w : World} {H : Heap} (G : Gnd w H) (CH : CodeHd H 50 46) {a n : Int} {ta tn : Tok} (ha : 0 ≤ a) (ha2 : a < 2 ^ 20) (hn : 1 ≤ n) (hn2 : n ≤ 20) :
    MeetsT w H 51 [.int a ta, .int n tn] 60 300 (fun _ => True) (fun h v h' => DigPost a n h v h') := by
  intro dp un fr gd s R q hd hu kp hT _ ret
  have t1 := hT.2 _ (.head _)
  have t2 := hT.2 _ (.tail _ (.head _))
  have t3 := hT.2 _ (.tail _ (.tail _ (.head _)))
  have t4 := hT.2 _ (.tail _ (.tail _ (.tail _ (.head _))))
  refine i2d_meets G CH t1.2 ha ha2 hn hn2 hd hu kp (rec_tab hT.1.1 t1.1 t3.1) fun al vs j e h' tk' k g f I v b l tn => ?_
  obtain ⟨p', c', o', r, e1, e2, n1, n2⟩ := rec_new hT.1.1 t1.1 t3.1 k tn
  have c53 : c' ≠ 53 := by
    rcases n2 with n2 | rfl
    · intro q; rw [q, t2.1] at n2; cases n2
    · exact hT.1.2.2.1
  refine ret (.ref al) h' tk' ⟨p', q.p2, c', q.c2, o', q.o2⟩ (fun b o h1 _ e => k b o h1 e) ⟨⟨r, hT.1.2.1, c53, hT.1.2.2.2⟩, List.forall_mem_cons.mpr ⟨⟨e1, t1.2⟩, List.forall_mem_cons.mpr ⟨⟨k _ _ (show (53 : Nat) ≠ 46 by decide) t2.1, t2.2⟩, List.forall_mem_cons.mpr ⟨⟨e2, ?_⟩, List.forall_mem_cons.mpr ⟨⟨k _ _ hT.1.2.2.2 t4.1, t4.2⟩, List.forall_mem_nil _⟩⟩⟩⟩⟩ ⟨n1, .inl ⟨rfl, rfl⟩⟩ ⟨al, vs, j, e, rfl, g, f, I, v, b, l⟩
  rcases n2 with n2 | rfl
  · exact none_keep kp n2
  · exact t3.2
theorem d2i_T {w : World} {H : Heap} (G : Gnd w H) (CH : CodeHd H 57 53) {l : Addr} {vs : List Value} {ds : List Int} {j : Nat} {n : Int} {tn : Tok} (hI : IntsAre vs ds) (hds : ds.length ≤ 40) (hd0 : ∀ d ∈ ds, 0 ≤ d) (hv : val (2 ^ n.toNat) ds < 2 ^ 20) (hn : 1 ≤ n) (hn2 : n ≤ 20) :
    MeetsT w H 58 [.ref l, .int n tn] 60 300 (fun h => h.get? l = some (W.listOf vs.toArray j) ∧ H.get? l = none) (fun h v h' => ∃ t, v = .int (val (2 ^ n.toNat) ds) t) := by
  intro dp un fr gd s R q hd hu kp hT hp ret
  have t1 := hT.2 _ (.head _)
  have t2 := hT.2 _ (.tail _ (.head _))
  have t3 := hT.2 _ (.tail _ (.tail _ (.head _)))
  have t4 := hT.2 _ (.tail _ (.tail _ (.tail _ (.head _))))
  refine d2i_meets G CH t2.2 hI hds hd0 hv hn hn2 hd hu kp (rec_tab hT.1.2.1 t2.1 t4.1) hp.1 hp.2 fun t h' tk' k tn => ?_
  obtain ⟨p', c', o', r, e1, e2, n1, n2⟩ := rec_new hT.1.2.1 t2.1 t4.1 k tn
  have c46 : c' ≠ 46 := by
    rcases n2 with n2 | rfl
    · intro q; rw [q, t1.1] at n2; cases n2
    · exact hT.1.2.2.2
  refine ret _ h' tk' ⟨q.p1, p', q.c1, c', q.o1, o'⟩ (fun b o _ h1 e => k b o h1 e) ⟨⟨hT.1.1, r, hT.1.2.2.1, c46⟩, List.forall_mem_cons.mpr ⟨⟨k _ _ (show (46 : Nat) ≠ 53 by decide) t1.1, t1.2⟩, List.forall_mem_cons.mpr ⟨⟨e1, t2.2⟩, List.forall_mem_cons.mpr ⟨⟨k _ _ hT.1.2.2.1 t3.1, t3.2⟩, List.forall_mem_cons.mpr ⟨⟨e2, ?_⟩, List.forall_mem_nil _⟩⟩⟩⟩⟩ ⟨.inl ⟨rfl, rfl⟩, n1⟩ ⟨t, rfl⟩
  rcases n2 with n2 | rfl
  · exact none_keep kp n2
  · exact t4.2
section
variable {w : World} {H g : Heap} {L : Addr} {m : Str → Option Value} {news : List (Addr × Obj)} {s : Shared} {Q E : Value → Shared → Prop} {dp un : Nat} {fr : Option (List Env)} {gd : Option (List Code)} {q : TabP}
theorem useT {f : Addr} {args : List Value} {d u : Nat} {Pre : Heap → Prop} {Post : Heap → Value → Heap → Prop} (C : MeetsT w H f args d u Pre Post) (kg : Keep H g) (F : Fr g L s.heap m) (N : News g L s.heap news) (hm : ∀ p ∈ tabOwn q, p ∈ news) (ok : TabsOk q)
    (hd : dp + d < recursionLimit) (hu : un + u < cLine) (hp : Pre s.heap) (r : List (Addr × Obj)) (hr : ∀ p ∈ r, p ∈ news ∧ @Ne Nat p.1 46 ∧ @Ne Nat p.1 53 ∧ @Ne Nat p.1 q.c1 ∧ @Ne Nat p.1 q.c2)
    (h : ∀ v h' tk' q', Fr g L h' m → News g L h' (tabOwn q' ++ r) → TabsOk q' → (∀ p ∈ r, p.1 ≠ q'.c1 ∧ p.1 ≠ q'.c2) → Post s.heap v h' → KeepT s.heap h' → NewT s.heap q q' → Q v { s with heap := h', toks := tk' }) : wpAny (model prg w) (Arnd dp un fr gd) (call (.ref f) args) Q E s := by
  have e46 := N _ (hm _ (.head _))
  have e53 := N _ (hm _ (.tail _ (.head _)))
  refine wpAny_call (C dp un fr gd s _ q hd hu (fun b o e => F.keep b o (kg b o e)) ⟨ok, fun p hp => ⟨(N p (hm p hp)).1, h_none kg (N p (hm p hp)).2.2⟩⟩ hp fun v h' tk' q' k T nt post => ?_)
  obtain ⟨oL, a1, a2, hL', a3⟩ := id F.ns
  refine h v h' tk' q' ⟨⟨oL, a1, a2, k _ _ (Ne.symm e46.2.1) (Ne.symm e53.2.1) hL', a3⟩, fun b o e => k b o (fun q => by rw [q, e46.2.2] at e; cases e) (fun q => by rw [q, e53.2.2] at e; cases e) (F.keep b o e), F.above⟩ (fun p hp => ?_) T.1 (fun p hp => ⟨nt.1.ne (N p (hr p hp).1).1 (hr p hp).2.2.2.1, nt.2.ne (N p (hr p hp).1).1 (hr p hp).2.2.2.2⟩) post k nt
  have fin : ∀ {t c c' : Addr} {o o' : Obj}, New1 s.heap t c c' o o' → (c ≠ L ∧ g.get? c = none) → (t ≠ L ∧ g.get? t = none) → c' ≠ L ∧ g.get? c' = none := by
    rintro t c c' o o' (⟨rfl, _⟩ | ⟨_, _, e⟩ | ⟨_, rfl⟩) hc ht
    · exact hc
    · refine ⟨fun q => (by rw [q, hL'] at e; cases e), ?_⟩
      cases x : g.get? c' with
      | none => rfl
      | some o9 => rw [F.keep _ _ x] at e; cases e
    · exact ht
  rcases List.mem_append.mp hp with hp | hp
  · refine ⟨(T.2 p hp).1, ?_⟩
    rcases List.mem_cons.mp hp with rfl | hp
    · exact e46.2
    rcases List.mem_cons.mp hp with rfl | hp
    · exact e53.2
    rcases List.mem_cons.mp hp with rfl | hp
    · exact fin nt.1 (N _ (hm _ (.tail _ (.tail _ (.head _))))).2 e46.2
    rw [List.mem_singleton.mp hp]
    exact fin nt.2 (N _ (hm _ (.tail _ (.tail _ (.tail _ (.head _)))))).2 e53.2
  · exact ⟨k _ _ (hr p hp).2.1 (hr p hp).2.2.1 (N p (hr p hp).1).1, (N p (hr p hp).1).2⟩
end
theorem keepT_of {s h' g : Heap} {L' : Addr} {m : Str → Option Value} {own news : List (Addr × Obj)} {q q' : TabP} (ko : ∀ b o, s.get? b = some o → b ∉ (tabOwn q ++ own).map (·.1) → g.get? b = some o)
    (F : Fr g L' h' m) (N : News g L' h' news) (hm : ∀ p ∈ tabOwn q', p ∈ news) (nt : NewT s q q') (hs : ∀ p ∈ own, p ∈ news) (hown : ∀ p ∈ tabOwn q ++ own, s.get? p.1 = some p.2) : KeepT s h' := fun b o h1 h2 e => by
  by_cases hq : b ∈ (tabOwn q ++ own).map (·.1)
  · obtain ⟨p, hp, rfl⟩ := List.mem_map.mp hq
    have h2' := hown p hp
    rw [e] at h2'
    rw [Option.some.inj h2']
    rcases List.mem_append.mp hp with hp | hp
    · rcases List.mem_cons.mp hp with rfl | hp
      · exact absurd rfl h1
      rcases List.mem_cons.mp hp with rfl | hp
      · exact absurd rfl h2
      rcases List.mem_cons.mp hp with rfl | hp
      · rcases nt.1 with ⟨e1, e2⟩ | ⟨e1, _⟩ | ⟨e1, _⟩
        · have := (N _ (hm _ (.tail _ (.tail _ (.head _))))).1
          rw [e1, e2] at this; exact this
        · exact absurd e1 h1
        · exact absurd e1 h1
      rw [List.mem_singleton.mp hp] at h1 h2 ⊢
      rcases nt.2 with ⟨e1, e2⟩ | ⟨e1, _⟩ | ⟨e1, _⟩
      · have := (N _ (hm _ (.tail _ (.tail _ (.tail _ (.head _)))))).1
        rw [e1, e2] at this; exact this
      · exact absurd e1 h2
      · exact absurd e1 h2
    · exact (N p (hs p hp)).1
  · exact F.keep b o (ko b o e hq)
end Mine
end

/- part Rev -/
section
example : True := by
  k_with_none
  w_top off
  trivial
open PySem PySem.W PyProof.Rows PySem.Calls PySem.Spec
set_option maxRecDepth 100000
namespace Mine
section
variable {prog : Program} {w : World} {A : Around} {E : Value → Shared → Prop} {s : Shared} {env : Env} {h₀ : Heap} {x : Str} {body : List Stmt} {Q : Flow → Shared → Prop}
theorem for_rev {l I : Addr} {lo : Obj} {its : Array Value} {z : Int} {k : Nat} {m : Str → Option Value} {all : List (Addr × Obj)} (news : List (Addr × Obj)) (J : Nat → (Str → Option Value) → List (Addr × Obj) → Prop) (hh : A.handled = none)
    (F : Fr h₀ env.locals s.heap m) (N : News h₀ env.locals s.heap all) (hI : (I, revObj l z) ∈ all) (hz : z = (its.size : Int) - 1) (hn : ∀ p ∈ news, p ∈ all) (hoff : ∀ p ∈ news, p.1 ≠ I) (hlo : lo = { cls := .type "list", data := .seq its k }) (hl : (l, lo) ∈ news) (hj : J 0 m news)
    (hJl : ∀ i m nx, J i m nx → (l, lo) ∈ nx)
    (turn : ∀ i v m₁ nx h tk oI, i < its.size → its[its.size - 1 - i]? = some v → J i m₁ nx → (∀ p ∈ nx, p.1 ≠ I) → Fr h₀ env.locals h (fun y => if y = x then some v else m₁ y) → News h₀ env.locals h ((I, oI) :: nx) →
      wpAny (model prog w) A (execs body env) (TurnPost h₀ env.locals I oI (J (i + 1)) { s with heap := h, toks := tk } Q) E { s with heap := h, toks := tk })
    (done : ∀ m₁ nx h tk, J its.size m₁ nx → Fr h₀ env.locals h m₁ → News h₀ env.locals h nx → Q .next { s with heap := h, toks := tk }) :
    wpAny (model prog w) A (pyIter (.ref I)) (fun it s₂ => LoopAtV prog w A h₀ env x body Q E it s₂) E s := by
  subst hz
  have hls : s.heap.IsList l its := ⟨lo, (N _ (hn _ hl)).1, by rw [hlo], k, by rw [hlo]⟩
  have hit : s.heap.IsRevIter I l ((its.size : Int) - 1) := ⟨_, (N _ hI).1, rfl, rfl⟩
  refine wpAny_pyIter_revIter hit ?_
  refine loopAt_of (s₂ := s) (Walks.listRev hh I l (hoff _ hl) its) (fun h => ?_) (N _ hI).2.2
    ⟨Nat.zero_le _, by simpa using hit, hls⟩ F (fun p hp => N p (hn p hp)) hoff
    (fun i h st => ⟨_, st.2.1.choose_spec.1⟩) J hj [(l, lo)] (fun b hb => ?_) (fun i m nx j p hp => ?_) ?_ done
  · rcases List.mem_cons.mp h with h | h
    · exact (N _ hI).2.1 h.symm
    · exact (N _ (hn _ hl)).2.1 (List.mem_singleton.mp h).symm
  · rcases List.mem_cons.mp hb with h | h
    · exact .inl h
    · exact .inr (.inr ⟨lo, by rw [List.mem_singleton.mp h]; exact .head _⟩)
  · rw [List.mem_singleton.mp hp]; exact hJl i m nx j
  · rintro i v m₁ nx h tk oI hi hP hJ off F₁ N₁
    exact turn i v m₁ nx h tk oI hi hP hJ off F₁ N₁
end
/- one digit of the long division -/
theorem div_step {B b V d : Int} (hb : 1 ≤ b) (hB : b ≤ B) (hd : 0 ≤ d) (hd2 : d < B) (hV : 0 ≤ V) :
    (d + B * V).fdiv b = ((V.fmod b) * B + d).fdiv b + B * V.fdiv b ∧ (d + B * V).fmod b = ((V.fmod b) * B + d).fmod b ∧ 0 ≤ ((V.fmod b) * B + d).fdiv b ∧ ((V.fmod b) * B + d).fdiv b < B := by
  rw [Int.fdiv_eq_ediv_of_nonneg _ (by lia), Int.fdiv_eq_ediv_of_nonneg _ (by lia), Int.fdiv_eq_ediv_of_nonneg _ (by lia), Int.fmod_eq_emod_of_nonneg _ (by lia), Int.fmod_eq_emod_of_nonneg _ (by lia), Int.fmod_eq_emod_of_nonneg _ (by lia)]
  have h1 := Int.emod_add_mul_ediv V b
  have h2 := Int.emod_nonneg V (show b ≠ 0 by lia)
  have h3 := Int.emod_lt_of_pos V (show 0 < b by lia)
  have e : d + B * V = (V % b * B + d) + b * (B * (V / b)) := by
    have : B * V = B * (V % b) + B * (b * (V / b)) := by rw [← Int.mul_add, h1]
    rw [this, Int.mul_comm (V % b) B, Int.mul_left_comm b B]; lia
  have h4 : 0 ≤ V % b * B := Int.mul_nonneg h2 (by lia)
  refine ⟨?_, ?_, Int.ediv_nonneg (by lia) (by lia), ?_⟩
  · rw [e, Int.add_mul_ediv_left _ _ (by lia)]
  · rw [e, Int.add_mul_emod_self_left]
  · refine Int.ediv_lt_of_lt_mul (by lia) ?_
    have h5 : (V % b + 1) * B ≤ b * B := Int.mul_le_mul_of_nonneg_right (by lia) (by lia)
    rw [Int.add_mul, Int.one_mul] at h5
    rw [Int.mul_comm B b]
    lia
end Mine
end

/- part W10 -/
section
example : True := by
  k_with_none
  w_top off
  trivial
open PySem PySem.W PyProof.Rows PySem.Calls PySem.Spec
set_option maxRecDepth 100000
set_option rowWalk.seconds 0
namespace Mine
example : hd.heap_1 = hd.heap_1 ∧ PySem.Challenge.rw_pg0285_01 = PySem.Challenge.rw_pg0285_01 := by
  k_fill
  exact ⟨rfl, rfl⟩
set_option pp.maxSteps 100000
set_option pp.deepTerms false
set_option pp.deepTerms.threshold 4

example : True := by
  k_with_none
  k_with "call ref" => (k_here; refine Hold.out ?_)
  k_with "exec For Name Call cons nil" => (k_here; (rename Fr _ _ _ _ => lF'); (with_unfolding_all refine' For_invVF lF' ?k1 ?k2 ?_; (case k1 => exact rfl); (case k2 => exact rfl); k_whole))
  k_with "pyIter ref" => refine Hold.out ?_
  k_with "call builtin:list.reverse" => (k_here; refine Hold.out ?_)
  trivial
theorem tab_ne {H h : Heap} {q : TabP} {D : Addr} {o : Obj} (T : TabsAt9 H h q) (e : h.get? D = some o) (ho : ∀ vs, o.data ≠ .fields vs) : (@Ne Nat D 46 ∧ @Ne Nat D 53) ∧ @Ne Nat D q.c1 ∧ @Ne Nat D q.c2 := by
  have n1 : D ≠ 46 := fun x => by
    have := (T.2 _ (.head _)).1
    rw [← x, e] at this; cases this; exact ho _ rfl
  have n2 : D ≠ 53 := fun x => by
    have := (T.2 _ (.tail _ (.head _))).1
    rw [← x, e] at this; cases this; exact ho _ rfl
  refine ⟨⟨n1, n2⟩, ?_, ?_⟩
  · rcases T.1.1 with ⟨_, c⟩ | ⟨_, _, vs, _, d, _⟩
    · intro x; exact n1 (x.trans c)
    · intro x
      have := (T.2 _ (.tail _ (.tail _ (.head _)))).1
      rw [← x, e] at this; cases this; exact ho _ d
  · rcases T.1.2.1 with ⟨_, c⟩ | ⟨_, _, vs, _, d, _⟩
    · intro x; exact n2 (x.trans c)
    · intro x
      have := (T.2 _ (.tail _ (.tail _ (.tail _ (.head _))))).1
      rw [← x, e] at this; cases this; exact ho _ d
/- where the loop over the digits stands -/
inductive DivLoop (b : Int) (tb : Tok) (qd al : Addr) (vs : List Value) (j : Nat) (q2 : TabP) (e : List Int) (i : Nat) (m : Str → Option Value) (nx : List (Addr × Obj)) : Prop
  | mk (ws : List Value) (dq : List Int) (k : Nat) (r : Int) (tr tn : Tok)
      (hm : ∀ p ∈ [(Str.ofString "b", Value.int b tb), (Str.ofString "n", .int (Builtin.Int.intBits b : Int) tn), (Str.ofString "r", .int r tr), (Str.ofString "q_digits", .ref qd)], m p.1 = some p.2)
      (hnx : ∀ p ∈ [(qd, W.listOf ws.toArray k), (al, W.listOf vs.toArray j), (46, tabObj q2.p1), (53, tabObj q2.p2), (q2.c1, q2.o1), (q2.c2, q2.o2)], p ∈ nx) (hI : IntsAre ws dq) (hq : dq.length = i)
      (hr : r = (val (2 ^ ((Builtin.Int.intBits b : Int)).toNat) (e.drop (e.length - i))).fmod b) (hv : val (2 ^ ((Builtin.Int.intBits b : Int)).toNat) dq.reverse = (val (2 ^ ((Builtin.Int.intBits b : Int)).toNat) (e.drop (e.length - i))).fdiv b) (hd : ∀ d ∈ dq, 0 ≤ d) : DivLoop b tb qd al vs j q2 e i m nx
theorem DivLoop.has {b : Int} {tb : Tok} {qd al : Addr} {vs : List Value} {j : Nat} {q2 : TabP} {e : List Int} {i : Nat} {m : Str → Option Value} {nx : List (Addr × Obj)} (I : DivLoop b tb qd al vs j q2 e i m nx) : (al, W.listOf vs.toArray j) ∈ nx := by
  obtain ⟨_, _, _, _, _, _, _, h, _⟩ := I
  exact h _ (.tail _ (.head _))
set_option maxHeartbeats 8000000 in
theorem divpos_T {w : World} {H : Heap} (G : Gnd w H) (CH : CodeHd H 50 46) (CH2 : CodeHd H 57 53) {a b : Int} {ta tb : Tok} (ha : 0 ≤ a) (ha2 : a < 2 ^ 20) (hb : 1 ≤ b) (hb2 : b < 2 ^ 10) :
    MeetsT w H 65 [.int a ta, .int b tb] 80 400 (fun _ => True) (fun h v h' => PairAt h v h' (a.fdiv b) (a.fmod b)) := by
  intro dp un fr gd s R q hd hu kp hT _ ret
  have hn1 : Builtin.Int.intBits b ≤ 10 := intBits_le_iff.mpr (by lia)
  have hn0 : 1 ≤ Builtin.Int.intBits b := by
    cases hz : Builtin.Int.intBits b with
    | zero => have := intBits_le_iff.mp (Nat.le_of_eq hz); rw [Nat.pow_zero] at this; lia
    | succ k => lia
  have hbB : b.natAbs < 2 ^ Builtin.Int.intBits b := intBits_le_iff.mp (Nat.le_refl _)
  k_dflt (refine' enter (tabOwn q) G kp ?k6 ?k7 ?k8 ?k9 ?kB (hT.2) ?_ ?c2 ?c3 ?c4 ?c5)
  case k6 => k_is
  case k7 => k_is
  case k8 => lia
  case k9 => k_dflt (exact BindsTo.of_eq rfl)
  case kB => exact locs rfl
  case c2 => exact rfl
  case c3 => exact rfl
  case c4 => exact rfl
  case c5 => decide
  intro g L' h₁ p loose mean mg mb kg kgs ko ksz F N hlt X T
  k_fold
  simp only [tabOwn, List.cons_append, List.nil_append] at N
  have hltA := allLt_of hlt
  simp only [tabOwn, AllLt, and_true] at hltA
  k_steps
  rename Fr _ _ _ _ => F1
  rename News _ _ _ _ => N1
  unfold Hold
  have kA : Keep s.heap _ := keep_of ko F1 N1 (fun p hp => hp) (fun p hp => (hT.2 p hp).1)
  refine useT (q := q) (i2d_T G CH ha ha2 (by lia) (by lia)) kg F1 N1 (fun p hp => hp) hT.1 (by lia) (by lia) trivial [] (List.forall_mem_nil _) ?_
  rintro v h2 tk2 q2 F2 N2 ok2 - ⟨al, vs, j, e, rfl, g2, f2, I2, v2, b2, l2⟩ k2 nt2
  have T2 : TabsAt9 H h2 q2 := ⟨ok2, fun p hp => ⟨(N2 p (List.mem_append_left _ hp)).1, h_none kg (N2 p (List.mem_append_left _ hp)).2.2⟩⟩
  have n2 := tab_ne T2 g2 (fun _ h => nomatch h)
  replace N2 := news_add (D := al) (oD := W.listOf vs.toArray j) F1 F2 N2 g2 f2
  simp only [List.append_nil, tabOwn] at N2
  have nt := nt2.of_keep kA
  clear F1 N1
  k_steps
  rename_i a1 a2 a3 qd a5 l9 a7 D9 a9 F1 N1 l10
  unfold Hold
  have hlen := I2.length
  have hel : e.length ≤ 40 := by
    have hba : Builtin.Int.intBits a ≤ 20 := intBits_le_iff.mpr (by lia)
    have hk := fdiv_bd (x := (Builtin.Int.intBits a : Int) + (Builtin.Int.intBits b : Int) - 1) (n := (Builtin.Int.intBits b : Int)) (by lia) (by lia)
    lia
  have hB1 : b ≤ 2 ^ ((Builtin.Int.intBits b : Int)).toNat := by
    rw [Int.toNat_natCast]
    have h : ((b.natAbs : Nat) : Int) < ((2 ^ Builtin.Int.intBits b : Nat) : Int) := Int.ofNat_lt.mpr hbB
    rw [Int.natAbs_of_nonneg (by lia)] at h
    push_cast at h
    exact Int.le_of_lt h
  have hB2 : (2 : Int) ^ ((Builtin.Int.intBits b : Int)).toNat ≤ 2 ^ 10 := by
    rw [Int.toNat_natCast]
    exact_mod_cast Nat.pow_le_pow_right (show 0 < 2 by decide) hn1
  k_dflt (refine for_rev (its := vs.toArray) (lo := W.listOf vs.toArray j) [(qd, _), (al, W.listOf vs.toArray j), (46, tabObj q2.p1), (53, tabObj q2.p2), (q2.c1, q2.o1), (q2.c2, q2.o2)]
             (fun i m nx => DivLoop b tb qd al vs j q2 e i m nx)
             rfl F1 N1 (by k_mem) (by simp) (by repeat' (first | exact List.forall_mem_nil _ | refine all_cons (by k_mem) ?_)) (by repeat' (first | exact List.forall_mem_nil _ | refine all_cons (by first | assumption | k_ne) ?_)) rfl (by k_mem) ⟨[], [], 0, 0, _, _, (by repeat' (first | exact List.forall_mem_nil _ | refine all_cons rfl ?_)), fun _ h => h, .nil, rfl, by simp [val, Int.zero_fmod], by simp [val, Int.zero_fdiv], List.forall_mem_nil _⟩ (fun i m nx I => I.has) ?turn ?done)
  case turn =>
    rintro i v m₁ nx h tk oI hi hv ⟨ws, dq, k, r, tr, tn, hm, hnx, hI, hq, hr, hval, hd0⟩ off F N
    obtain ⟨d, td, rfl, hd⟩ := I2.at _ v (by simpa using hv)
    k_fold
    replace F := bnd_fr1 F hm
    have o2 := OffN.of fun p hp => off p (hnx p hp)
    simp only [OffN, and_true] at o2
    replace N := news_sub (b := (D9, oI) :: [(qd, W.listOf ws.toArray k), (al, W.listOf vs.toArray j), (46, tabObj q2.p1), (53, tabObj q2.p2), (q2.c1, q2.o1), (q2.c2, q2.o2)]) N (fun p hp => (List.mem_cons.mp hp).elim (fun e => e ▸ .head _) fun h => .tail _ (hnx p h))
    clear F1 N1 off
    have hi' : i < e.length := by have := hi; simp only [List.size_toArray] at this; lia
    have hdb := b2 d (List.mem_of_getElem? hd)
    have hV0 : 0 ≤ val (2 ^ ((Builtin.Int.intBits b : Int)).toNat) (e.drop (e.length - i)) := val_nonneg (by lia) fun x hx => (b2 x (List.mem_of_mem_drop hx)).1
    obtain ⟨s1, s2, s3, s4⟩ := div_step hb hB1 hdb.1 hdb.2 hV0
    rw [← hr] at s1 s2 s3 s4
    rw [← hval] at s1
    have hr0 : 0 ≤ r ∧ r < b := by
      rw [hr, Int.fmod_eq_emod_of_nonneg _ (by lia)]
      exact ⟨Int.emod_nonneg _ (by lia), Int.emod_lt_of_pos _ (by lia)⟩
    have hV1 : val (2 ^ ((Builtin.Int.intBits b : Int)).toNat) (e.drop (e.length - (i + 1))) = d + 2 ^ ((Builtin.Int.intBits b : Int)).toNat * val (2 ^ ((Builtin.Int.intBits b : Int)).toNat) (e.drop (e.length - i)) := by
      have hd' : e[e.length - (i + 1)]? = some d := by rw [← hd]; congr 1; lia
      obtain ⟨hlt9, hd9⟩ := List.getElem?_eq_some_iff.mp hd'
      rw [List.drop_eq_getElem_cons hlt9, hd9, show e.length - (i + 1) + 1 = e.length - i by lia]; rfl
    have hrB : 0 ≤ r * 2 ^ ((Builtin.Int.intBits b : Int)).toNat ∧ r * 2 ^ ((Builtin.Int.intBits b : Int)).toNat ≤ 1023 * 2 ^ 10 :=
      ⟨Int.mul_nonneg hr0.1 (by lia), Int.mul_le_mul (by lia) hB2 (by lia) (by lia)⟩
    have hlw := hI.length
    have hlw2 : ws.length ≤ 40 := by lia
    have hrA : r.natAbs < 2 ^ 64 := by lia
    k_steps
    rename Fr _ _ _ _ => F9
    rename News _ _ _ _ => N9
    unfold Hold
    refine use0 (div2_meets G (by lia) (by lia) hb (by lia) (by lia) (by lia)) kg F9 N9 (by lia) (by lia) trivial ?_
    rintro v h3 tk3 F3 N3 ⟨qa, t1, t2, rfl, g3, f3⟩
    have o3 := OffN.of fun p hp => fresh_ne N9 f3 p hp
    simp only [OffN, and_true] at o3
    have q92 := o3.2.1
    have s92 := Ne.symm o3.2.1
    replace N3 := news_add (D := qa) (oD := tupOf [.int _ t1, .int _ t2]) F9 F3 N3 g3 f3
    clear F9 N9
    k_steps
    rename Fr _ _ _ _ => F8
    rename News _ _ _ _ => N8
    try simp only [List.push_toArray] at N8
    show TurnEnd _ _ _ _ _ _ _
    refine TurnEnd.auto (by assumption) (by assumption) (by k_mem) ⟨_, dq ++ [(r * 2 ^ ((Builtin.Int.intBits b : Int)).toNat + d).fdiv b], _, _, _, _, (by repeat' (first | exact List.forall_mem_nil _ | refine all_cons rfl ?_)), offI_has (by repeat' (first | exact List.forall_mem_nil _ | refine all_cons (by k_mem) ?_)) (by repeat' (first | exact List.forall_mem_nil _ | refine all_cons (by first | assumption | k_ne) ?_)), hI.append (.cons _ _ .nil), by rw [List.length_append, hq]; rfl, ?_, ?_, ?_⟩
    · rw [hV1, s2]
    · rw [hV1, s1, List.reverse_append]; rfl
    · exact fun x hx => (List.mem_append.mp hx).elim (hd0 x) fun h => by rw [List.mem_singleton.mp h]; exact s3
  case done =>
    rintro m₁ nx h tk ⟨ws, dq, k, r, tr, tn, hm, hnx, hI, hq, hr, hval, hd0⟩ F N
    dsimp only
    replace F := bnd_fr F hm
    replace N := news_sub (b := [(qd, W.listOf ws.toArray k), (al, W.listOf vs.toArray j), (46, tabObj q2.p1), (53, tabObj q2.p2), (q2.c1, q2.o1), (q2.c2, q2.o2)]) N hnx
    clear F1 N1
    k_steps
    rename Fr _ _ _ _ => F9
    rename News _ _ _ _ => N9
    unfold Hold
    have hlw := hI.length
    have hlw2 : dq.length ≤ 40 := by rw [hq, List.size_toArray]; lia
    show wpAny _ _ (call (.builtin "list.reverse") [.ref qd]) _ _ _
    k_dflt (refine' kl_reverse (l := ws.reverse) ?rF ?rN ?re ?rU ?rz ?_; (case rF => exact F9); (case rN => exact N9); (case rU => k_upd); (case re => rfl); (case rz => simp only [sizeLine_eq]; lia))
    intro h4 F4 N4
    clear F9 N9
    k_steps
    unfold Hold
    have e0 : e.drop (e.length - vs.toArray.size) = e := by rw [List.size_toArray, hlen, Nat.sub_self, List.drop_zero]
    rw [e0, v2] at hr hval
    have hvb := fdiv_bd ha hb
    have kB : KeepT s.heap h4 := keepT_of (own := []) ko F4 N4 (by repeat' (first | exact List.forall_mem_nil _ | refine all_cons (by k_mem) ?_)) nt (List.forall_mem_nil _) (fun p hp => (hT.2 p hp).1)
    have T4 : TabsAt9 H h4 q2 := ⟨ok2, fun p hp => ⟨(N4 p (((by repeat' (first | exact List.forall_mem_nil _ | refine all_cons (by k_mem) ?_)) : ∀ p ∈ tabOwn _, p ∈ _) p hp)).1, h_none kg (N4 p (((by repeat' (first | exact List.forall_mem_nil _ | refine all_cons (by k_mem) ?_)) : ∀ p ∈ tabOwn _, p ∈ _) p hp)).2.2⟩⟩
    refine useT (q := q2) (d2i_T G CH2 (ds := dq.reverse) (hI.reverse) (by rw [List.length_reverse]; exact hlw2) (fun d hd => hd0 d (List.mem_reverse.mp hd)) (by lia) (by lia) (by lia)) kg F4 N4 (by repeat' (first | exact List.forall_mem_nil _ | refine all_cons (by k_mem) ?_)) ok2 (by lia) (by lia) ⟨(N4 (qd, _) (by k_mem)).1, h_none kg (N4 (qd, _) (by k_mem)).2.2⟩ [] (List.forall_mem_nil _) ?_
    rintro v h5 tk5 q5 F5 N5 ok5 - ⟨t5, rfl⟩ k5 nt5
    have nt6 := nt.trans kB T4 nt5
    simp only [List.append_nil, tabOwn] at N5
    clear F4 N4
    k_steps
    rename Fr _ _ _ _ => F9
    rename News _ _ _ _ => N9
    try dsimp only
    rename_i h9a D9' h9b l9'
    try k_unfold
    try dsimp only
    rw [hval, hr] at *
    refine ret _ _ _ q5 (keepT_of (own := []) ko F9 N9 (by repeat' (first | exact List.forall_mem_nil _ | refine all_cons (by k_mem) ?_)) nt6 (List.forall_mem_nil _) (fun p hp => (hT.2 p hp).1)) ⟨ok5, fun p hp => ⟨(N9 p (((by repeat' (first | exact List.forall_mem_nil _ | refine all_cons (by k_mem) ?_)) : ∀ p ∈ tabOwn _, p ∈ _) p hp)).1, h_none kg (N9 p (((by repeat' (first | exact List.forall_mem_nil _ | refine all_cons (by k_mem) ?_)) : ∀ p ∈ tabOwn _, p ∈ _) p hp)).2.2⟩⟩ nt6 ⟨_, _, _, rfl, (N9 _ (.head _)).1, ?_⟩
    refine none_own ko (N9 _ (.head _)).2.2 fun hm => ?_
    have q1 := nt6.1.lt (D := D9') (by lia) (by lia)
    have q2' := nt6.2.lt (D := D9') (by lia) (by lia)
    exact tab_off (D := D9') (by lia) (by lia) q1 q2' hm
end Mine
end

/- part W11 -/
section
example : True := by
  k_with_none
  w_top off
  trivial
open PySem PySem.W PyProof.Rows PySem.Calls PySem.Spec
set_option maxRecDepth 100000
set_option rowWalk.seconds 0
namespace Mine
example : hd.heap_1 = hd.heap_1 ∧ PySem.Challenge.rw_pg0285_01 = PySem.Challenge.rw_pg0285_01 := by
  k_fill
  exact ⟨rfl, rfl⟩
set_option pp.maxSteps 100000
set_option pp.deepTerms false
set_option pp.deepTerms.threshold 4

example : True := by
  k_with_none
  k_with "call ref" => (k_here; refine Hold.out ?_)
  trivial

set_option maxHeartbeats 8000000 in
theorem idm_pos {w : World} {H : Heap} (G : Gnd w H) (CH : CodeHd H 50 46) (CH2 : CodeHd H 57 53) {a b : Int} {ta tb : Tok} (ha : 0 ≤ a) (ha2 : a < 2 ^ 20) (hb : 1 ≤ b) (hb2 : b < 2 ^ 10) :
    MeetsT w H 72 [.int a ta, .int b tb] 85 410 (fun _ => True) (fun h v h' => PairAt h v h' (a.fdiv b) (a.fmod b)) := by
  intro dp un fr gd s R q hd hu kp hT _ ret
  k_dflt (refine' enter (tabOwn q) G kp ?k6 ?k7 ?k8 ?k9 ?kB (hT.2) ?_ ?c2 ?c3 ?c4 ?c5)
  case k6 => k_is
  case k7 => k_is
  case k8 => lia
  case k9 => k_dflt (exact BindsTo.of_eq rfl)
  case kB => exact locs rfl
  case c2 => exact rfl
  case c3 => exact rfl
  case c4 => exact rfl
  case c5 => decide
  intro g L' h₁ p loose mean mg mb kg kgs ko ksz F N hlt X T
  k_fold
  simp only [tabOwn] at N
  have hltA := allLt_of hlt
  simp only [AllLt, and_true] at hltA
  k_steps
  · exfalso; lia
  rename Fr _ _ _ _ => F1
  rename News _ _ _ _ => N1
  unfold Hold
  have kA : Keep s.heap _ := keep_of ko F1 N1 (fun p hp => hp) (fun p hp => (hT.2 p hp).1)
  refine useT (q := q) (divpos_T G CH CH2 ha ha2 hb hb2) kg F1 N1 (fun p hp => hp) hT.1 (by lia) (by lia) trivial [] (List.forall_mem_nil _) ?_
  rintro v h2 tk2 q2 F2 N2 ok2 - ⟨qa, t1, t2, rfl, g2, f2⟩ k2 nt2
  have nt := nt2.of_keep kA
  simp only [List.append_nil, tabOwn] at N2
  clear F1 N1
  try k_steps
  try dsimp only
  try k_unfold
  try dsimp only
  refine ret _ _ _ q2 (keepT_of (own := []) ko F2 N2 (by repeat' (first | exact List.forall_mem_nil _ | refine all_cons (by k_mem) ?_)) nt (List.forall_mem_nil _) (fun p hp => (hT.2 p hp).1)) ⟨ok2, fun p hp => ⟨(N2 p hp).1, h_none kg (N2 p hp).2.2⟩⟩ nt ⟨qa, _, _, rfl, g2, ?_⟩
  exact none_keep kA f2

theorem neg_div {a b : Int} (hb : 1 ≤ b) : a.fdiv b = -((-a - 1).fdiv b) - 1 ∧ a.fmod b = b + (-((-a - 1).fmod b) - 1) := by
  rw [Int.fdiv_eq_ediv_of_nonneg _ (by lia), Int.fdiv_eq_ediv_of_nonneg _ (by lia), Int.fmod_eq_emod_of_nonneg _ (by lia), Int.fmod_eq_emod_of_nonneg _ (by lia)]
  have h1 := Int.emod_add_mul_ediv (-a - 1) b
  have h2 := Int.emod_nonneg (-a - 1) (show b ≠ 0 by lia)
  have h3 := Int.emod_lt_of_pos (-a - 1) (show 0 < b by lia)
  have e : a = (b + (-((-a - 1) % b) - 1)) + b * (-((-a - 1) / b) - 1) := by
    rw [Int.mul_sub, Int.mul_neg, Int.mul_one]; lia
  have key := Int.ediv_emod_unique (a := a) (b := b) (r := b + (-((-a - 1) % b) - 1)) (q := -((-a - 1) / b) - 1) (by lia)
  exact ⟨(key.mpr ⟨by lia, by lia, by lia⟩).1, (key.mpr ⟨by lia, by lia, by lia⟩).2⟩

set_option maxHeartbeats 8000000 in
theorem idm_neg {w : World} {H : Heap} (G : Gnd w H) (CH : CodeHd H 50 46) (CH2 : CodeHd H 57 53) {a b : Int} {ta tb : Tok} (ha : a < 0) (ha2 : -(2 ^ 20) < a) (hb : 1 ≤ b) (hb2 : b < 2 ^ 10) :
    MeetsT w H 72 [.int a ta, .int b tb] 95 420 (fun _ => True) (fun h v h' => PairAt h v h' (a.fdiv b) (a.fmod b)) := by
  intro dp un fr gd s R q hd hu kp hT _ ret
  k_dflt (refine' enter (tabOwn q) G kp ?k6 ?k7 ?k8 ?k9 ?kB (hT.2) ?_ ?c2 ?c3 ?c4 ?c5)
  case k6 => k_is
  case k7 => k_is
  case k8 => lia
  case k9 => k_dflt (exact BindsTo.of_eq rfl)
  case kB => exact locs rfl
  case c2 => exact rfl
  case c3 => exact rfl
  case c4 => exact rfl
  case c5 => decide
  intro g L' h₁ p loose mean mg mb kg kgs ko ksz F N hlt X T
  k_fold
  simp only [tabOwn] at N
  have hltA := allLt_of hlt
  simp only [AllLt, and_true] at hltA
  k_steps
  · exfalso; lia
  rename Fr _ _ _ _ => F1
  rename News _ _ _ _ => N1
  unfold Hold
  have kA : Keep s.heap _ := keep_of ko F1 N1 (fun p hp => hp) (fun p hp => (hT.2 p hp).1)
  have eN : Builtin.bitNot a = -a - 1 := rfl
  refine useT (q := q) (idm_pos G CH CH2 (by lia) (by lia) hb hb2) kg F1 N1 (fun p hp => hp) hT.1 (by lia) (by lia) trivial [] (List.forall_mem_nil _) ?_
  rintro v h2 tk2 q2 F2 N2 ok2 - ⟨qa, t1, t2, rfl, g2, f2⟩ k2 nt2
  have nt := nt2.of_keep kA
  have T2 : TabsAt9 H h2 q2 := ⟨ok2, fun p hp => ⟨(N2 p (List.mem_append_left _ hp)).1, h_none kg (N2 p (List.mem_append_left _ hp)).2.2⟩⟩
  have n2 := tab_ne T2 g2 (fun _ h => nomatch h)
  replace N2 := news_add F1 F2 N2 g2 f2
  simp only [List.append_nil, tabOwn] at N2
  clear F1 N1
  k_steps
  rename Fr _ _ _ _ => F9
  rename News _ _ _ _ => N9
  try dsimp only
  rename_i h9b D9' h9c l9'
  try k_unfold
  try dsimp only
  have e1 := (neg_div (a := a) hb).1
  have e2 := (neg_div (a := a) hb).2
  rw [e1, e2] at ret
  refine ret _ _ _ q2 (keepT_of (own := []) ko F9 N9 (by repeat' (first | exact List.forall_mem_nil _ | refine all_cons (by k_mem) ?_)) nt (List.forall_mem_nil _) (fun p hp => (hT.2 p hp).1)) ⟨ok2, fun p hp => ⟨(N9 p (((by repeat' (first | exact List.forall_mem_nil _ | refine all_cons (by k_mem) ?_)) : ∀ p ∈ tabOwn _, p ∈ _) p hp)).1, h_none kg (N9 p (((by repeat' (first | exact List.forall_mem_nil _ | refine all_cons (by k_mem) ?_)) : ∀ p ∈ tabOwn _, p ∈ _) p hp)).2.2⟩⟩ nt ⟨_, _, _, rfl, (N9 _ (.head _)).1, ?_⟩
  refine none_own ko (N9 _ (.head _)).2.2 fun hm => ?_
  exact tab_off (D := D9') (by lia) (by lia) (nt.1.lt (D := D9') (by lia) (by lia)) (nt.2.lt (D := D9') (by lia) (by lia)) hm

theorem idm_T {w : World} {H : Heap} (G : Gnd w H) (CH : CodeHd H 50 46) (CH2 : CodeHd H 57 53) {a b : Int} {ta tb : Tok} (ha : -(2 ^ 20) < a) (ha2 : a < 2 ^ 20) (hb : 1 ≤ b) (hb2 : b < 2 ^ 10) :
    MeetsT w H 72 [.int a ta, .int b tb] 95 420 (fun _ => True) (fun h v h' => PairAt h v h' (a.fdiv b) (a.fmod b)) := by
  by_cases h : a < 0
  · exact idm_neg G CH CH2 h ha hb hb2
  · intro dp un fr gd s R q hd hu
    exact idm_pos G CH CH2 (by lia) ha2 hb hb2 dp un fr gd s R q (by lia) (by lia)
end Mine
end

/- part W5 -/
section
example : True := by
  k_with_none
  w_top off
  trivial
open PySem PySem.W PyProof.Rows PySem.Calls PySem.Spec
set_option maxRecDepth 100000
set_option rowWalk.seconds 0
namespace Mine
example : hd.heap_1 = hd.heap_1 ∧ PySem.Challenge.rw_pg0285_01 = PySem.Challenge.rw_pg0285_01 := by
  k_fill
  exact ⟨rfl, rfl⟩
set_option pp.maxSteps 100000
set_option pp.deepTerms false
set_option pp.deepTerms.threshold 4

section
variable {w : World} {H g : Heap} {L : Addr} {m : Str → Option Value} {news : List (Addr × Obj)} {s : Shared} {Q E : Value → Shared → Prop} {dp un : Nat} {fr : Option (List Env)} {gd : Option (List Code)}
theorem WsAt.of_news {h : Heap} {x : Addr} {q : WsP} {vs : List Value} {cnt : List Int} {b nt : Int} (kg : Keep H g) (N : News g L h news) (hm : ∀ p ∈ wsOwn x q vs b nt, p ∈ news) (hI : IntsAre vs cnt) : WsAt H h x q vs cnt b nt :=
  ⟨fun p hp => ⟨(N p (hm p hp)).1, h_none kg (N p (hm p hp)).2.2⟩, hI⟩
theorem longest_call {x : Addr} {q : WsP} {vs : List Value} {cnt : List Int} {b nt : Int} (G : Gnd w H) (kg : Keep H g) (F : Fr g L s.heap m) (N : News g L s.heap news) (hm : ∀ p ∈ wsOwn x q vs b nt, p ∈ news) (hI : IntsAre vs cnt) (hc : cnt.length ≤ 60) (hb : 0 ≤ b) (hb2 : b ≤ 60)
    (hd : dp + 10 < recursionLimit) (hu : un + 10 < cLine) (h : ∀ t h' tk', Fr g L h' m → News g L h' news → Q (.int (max ((cnt.length : Int) - 1) b) t) { s with heap := h', toks := tk' }) : wpAny (model prg w) (Arnd dp un fr gd) (call (.ref 96) [.ref x]) Q E s :=
  use0 (longest_meets G hc hb hb2) kg F N hd hu (WsAt.of_news kg N hm hI) fun v h' tk' F' N' post => by
    obtain ⟨t, rfl⟩ := post
    exact h t h' tk' F' N'
theorem indent_call {x : Addr} {q : WsP} {vs : List Value} {cnt : List Int} {b nt ts : Int} {tt : Tok} (G : Gnd w H) (kg : Keep H g) (F : Fr g L s.heap m) (N : News g L s.heap news) (hm : ∀ p ∈ wsOwn x q vs b nt, p ∈ news) (hI : IntsAre vs cnt) (hc : cnt.length ≤ 60) (hb : 0 ≤ b) (hb2 : b ≤ 60)
    (hc0 : ∀ c ∈ cnt, 0 ≤ c ∧ c ≤ 60) (hn0 : 0 ≤ nt) (hn1 : nt ≤ 60) (ht : 1 ≤ ts) (ht1 : ts ≤ 61)
    (hd : dp + 10 < recursionLimit) (hu : un + 10 < cLine) (h : ∀ t h' tk', Fr g L h' m → News g L h' news → Q (.int (indentF ts cnt b nt) t) { s with heap := h', toks := tk' }) : wpAny (model prg w) (Arnd dp un fr gd) (call (.ref 103) [.ref x, .int ts tt]) Q E s :=
  use0 (indent_meets G hc hb hb2 hc0 hn0 hn1 ht ht1) kg F N hd hu (WsAt.of_news kg N hm hI) fun v h' tk' F' N' post => by
    obtain ⟨t, rfl⟩ := post
    exact h t h' tk' F' N'
end

example : True := by
  k_with_none
  k_with "call ref" => (k_here; (with_reducible show wpAny _ _ (call (Value.ref 96) _) _ _ _); k_dflt (refine longest_call (by assumption) (by assumption) (by k_asm) (by k_asm) (by repeat' (first | exact List.forall_mem_nil _ | refine all_cons (by k_mem) ?_)) (by assumption) (by omega) (by omega) (by omega) (by omega) (by omega) ?_; intro t' h' tk' F' N'; (try k_sweep)))
  k_with "call ref" => (k_here; (with_reducible show wpAny _ _ (call (Value.ref 103) _) _ _ _); k_dflt (refine indent_call (by assumption) (by assumption) (by k_asm) (by k_asm) (by repeat' (first | exact List.forall_mem_nil _ | refine all_cons (by k_mem) ?_)) (by assumption) (by omega) (by omega) (by omega) (by assumption) (by omega) (by omega) (by lia) (by lia) (by lia) (by lia) ?_; intro t' h' tk' F' N'; (try k_sweep)))
  k_with "exec For Name Call cons nil" => (k_here; (rename Fr _ _ _ _ => lF'); (with_unfolding_all refine' For_invVF lF' ?k1 ?k2 ?_; (case k1 => exact rfl); (case k2 => exact rfl); k_whole))
  k_with "pyIter ref" => refine Hold.out ?_
  trivial
noncomputable def witOf (cnt : List Int) (b nt : Int) (dnt : List Int) (c mt : Int) (ts : Int) : Option (Int × Int × Int) :=
  if indentF ts cnt b nt = indentF ts dnt c mt then none else some (ts, indentF ts cnt b nt, indentF ts dnt c mt)
noncomputable def witF (cnt : List Int) (b nt : Int) (dnt : List Int) (c mt : Int) (n : Nat) : List (Int × Int × Int) := (List.range n).filterMap fun (i : Nat) => witOf cnt b nt dnt c mt (1 + (i : Int))
noncomputable def witN (cnt : List Int) (b : Int) (dnt : List Int) (c : Int) : Nat := (max (max ((cnt.length : Int) - 1) b) (max ((dnt.length : Int) - 1) c) + 1).toNat
inductive TupsIn (tl : List (Addr × Obj)) : List Value → List (Int × Int × Int) → Prop
  | nil : TupsIn tl [] []
  | cons {a : Addr} {ta tb tc : Tok} {t : Int × Int × Int} {vs : List Value} {ts : List (Int × Int × Int)} : (a, tupOf [.int t.1 ta, .int t.2.1 tb, .int t.2.2 tc]) ∈ tl → TupsIn tl vs ts → TupsIn tl (.ref a :: vs) (t :: ts)
theorem TupsIn.mono {tl tl' : List (Addr × Obj)} {vs : List Value} {ts : List (Int × Int × Int)} (h : TupsIn tl vs ts) (k : ∀ p ∈ tl, p ∈ tl') : TupsIn tl' vs ts := by
  induction h with
  | nil => exact .nil
  | cons hm _ ih => exact .cons (k _ hm) ih
theorem TupsIn.snoc {tl : List (Addr × Obj)} {vs : List Value} {ts : List (Int × Int × Int)} {a : Addr} {ta tb tc : Tok} {t : Int × Int × Int} (h : TupsIn tl vs ts) :
    TupsIn ((a, tupOf [.int t.1 ta, .int t.2.1 tb, .int t.2.2 tc]) :: tl) (vs ++ [.ref a]) (ts ++ [t]) := by
  induction h with
  | nil => exact .cons (.head _) .nil
  | cons hm _ ih => exact .cons (.tail _ hm) ih
theorem TupsIn.pure {tl : List (Addr × Obj)} {vs : List Value} {ts : List (Int × Int × Int)} (h : TupsIn tl vs ts) : ∃ tl' : List (Addr × Obj), (∀ p ∈ tl', p ∈ tl) ∧ TupsIn tl' vs ts ∧ ∀ p ∈ tl', ∃ its, p.2 = tupOf its := by
  induction h with
  | nil => exact ⟨[], fun _ h => h |> fun x => (nomatch x), .nil, List.forall_mem_nil _⟩
  | cons hm _ ih =>
    obtain ⟨tl', h1, h2, h3⟩ := ih
    exact ⟨_ :: tl', List.forall_mem_cons.mpr ⟨hm, h1⟩, .cons (.head _) (h2.mono fun p hp => .tail _ hp), List.forall_mem_cons.mpr ⟨⟨_, rfl⟩, h3⟩⟩
theorem TupsIn.at {tl : List (Addr × Obj)} {vs : List Value} {ts : List (Int × Int × Int)} (h : TupsIn tl vs ts) : ∀ (i : Nat) (v : Value), vs[i]? = some v → ∃ a ta tb tc t, v = .ref a ∧ ts[i]? = some t ∧ (a, tupOf [.int t.1 ta, .int t.2.1 tb, .int t.2.2 tc]) ∈ tl := by
  induction h with
  | nil => intro i v e; simp at e
  | cons hm _ ih =>
    intro i v e
    cases i with
    | zero => simp at e; exact ⟨_, _, _, _, _, e.symm, rfl, hm⟩
    | succ i => simp at e; obtain ⟨a, ta, tb, tc, t, h1, h2, h3⟩ := ih i v e; exact ⟨a, ta, tb, tc, t, h1, by simpa using h2, h3⟩
theorem TupsIn.length {tl : List (Addr × Obj)} {vs : List Value} {ts : List (Int × Int × Int)} (h : TupsIn tl vs ts) : vs.length = ts.length := by
  induction h with
  | nil => rfl
  | cons _ _ ih => rw [List.length_cons, List.length_cons, ih]
theorem witF_succ_none {cnt : List Int} {b nt : Int} {dnt : List Int} {c mt : Int} {i : Nat} (h : indentF (1 + (i : Int)) cnt b nt = indentF (1 + (i : Int)) dnt c mt) : witF cnt b nt dnt c mt (i + 1) = witF cnt b nt dnt c mt i := by
  unfold witF
  rw [List.range_succ, List.filterMap_append]
  simp [witOf, h]
theorem witF_succ_some {cnt : List Int} {b nt : Int} {dnt : List Int} {c mt : Int} {i : Nat} (h : ¬ indentF (1 + (i : Int)) cnt b nt = indentF (1 + (i : Int)) dnt c mt) :
    witF cnt b nt dnt c mt (i + 1) = witF cnt b nt dnt c mt i ++ [(1 + (i : Int), indentF (1 + (i : Int)) cnt b nt, indentF (1 + (i : Int)) dnt c mt)] := by
  unfold witF
  rw [List.range_succ, List.filterMap_append]
  simp [witOf, h]
theorem wit_e {cnt dnt : List Int} {b c : Int} (hb : 0 ≤ b) : ((if max ((dnt.length : Int) - 1) c > max ((cnt.length : Int) - 1) b then max ((dnt.length : Int) - 1) c else max ((cnt.length : Int) - 1) b) + 1 + 1 : Int) = 1 + (witN cnt b dnt c : Int) := by
  have hA : 0 ≤ max ((cnt.length : Int) - 1) b := Int.le_trans hb (Int.le_max_right _ _)
  unfold witN
  generalize max ((cnt.length : Int) - 1) b = A at *
  generalize max ((dnt.length : Int) - 1) c = B at *
  split <;> omega
theorem wit_le {cnt dnt : List Int} {b c : Int} (hc : cnt.length ≤ 60) (hb : b ≤ 60) (hdd : dnt.length ≤ 60) (hc2 : c ≤ 60) : witN cnt b dnt c ≤ 61 := by
  have h1 : max ((cnt.length : Int) - 1) b ≤ 60 := Int.max_le.mpr ⟨by lia, hb⟩
  have h2 : max ((dnt.length : Int) - 1) c ≤ 60 := Int.max_le.mpr ⟨by lia, hc2⟩
  unfold witN
  exact Int.toNat_le.mpr (by have := Int.max_le.mpr ⟨h1, h2⟩; lia)
inductive WitPost (ls : List (Int × Int × Int)) (h : Heap) (v : Value) (h' : Heap) : Prop
  | mk (al : Addr) (ws : List Value) (k : Nat) (tl : List (Addr × Obj)) (e : v = .ref al) (g : h'.get? al = some (W.listOf (List.toArray ws) k)) (ht : ∀ p ∈ tl, h'.get? p.1 = some p.2 ∧ h.get? p.1 = none) (hT : TupsIn tl ws ls) (f : h.get? al = none) : WitPost ls h v h'
/- where the loop over the tab sizes stands -/
inductive WitLoop (x y : Addr) (q r : WsP) (vs us : List Value) (cnt dnt : List Int) (b c nt mt : Int) (i : Nat) (m : Str → Option Value) (nx : List (Addr × Obj)) : Prop
  | mk (al : Addr) (ws : List Value) (k : Nat) (tl : List (Addr × Obj)) (hm : ∀ p ∈ [(Str.ofString "self", Value.ref x), (Str.ofString "other", .ref y), (Str.ofString "a", .ref al)], m p.1 = some p.2)
      (hnx : ∀ p ∈ (al, W.listOf ws.toArray k) :: (wsOwn x q vs b nt ++ wsOwn y r us c mt), p ∈ nx) (htl : ∀ p ∈ tl, p ∈ nx) (hT : TupsIn tl ws (witF cnt b nt dnt c mt i)) (hk : ws.length ≤ i)
      (hal : AllLt al (wsOwn x q vs b nt ++ wsOwn y r us c mt)) (hat : ∀ p ∈ tl, al < p.1) : WitLoop x y q r vs us cnt dnt b c nt mt i m nx
set_option maxHeartbeats 8000000 in
theorem wit_meets {w : World} {H : Heap} (G : Gnd w H) {x y : Addr} {q r : WsP} {vs us : List Value} {cnt dnt : List Int} {b c nt mt : Int} 
    (hc : cnt.length ≤ 60) (hb : 0 ≤ b) (hb2 : b ≤ 60) (hc0 : ∀ c ∈ cnt, 0 ≤ c ∧ c ≤ 60) (hn0 : 0 ≤ nt) (hn1 : nt ≤ 60) 
    (hdd : dnt.length ≤ 60) (hcc : 0 ≤ c) (hcc2 : c ≤ 60) (hd0 : ∀ c ∈ dnt, 0 ≤ c ∧ c ≤ 60) (hm0 : 0 ≤ mt) (hm1 : mt ≤ 60) :
    Meets w H 117 [.ref x, .ref y] 30 30 (fun h => WsAt H h x q vs cnt b nt ∧ WsAt H h y r us dnt c mt) (fun h v h' => WitPost (witF cnt b nt dnt c mt (witN cnt b dnt c)) h v h') := by
  intro dp un fr gd s R hd hu kp hW ret
  have hI := hW.1.2
  have hJ := hW.2.2
  have hlen := hI.length
  k_dflt (refine' enter (wsOwn x q vs b nt ++ wsOwn y r us c mt) G kp ?k6 ?k7 ?k8 ?k9 ?kB ((fun p hp => (List.mem_append.mp hp).elim (hW.1.1 p) (hW.2.1 p))) ?_ ?c2 ?c3 ?c4 ?c5)
  case k6 => k_is
  case k7 => k_is
  case k8 => omega
  case k9 => k_dflt (exact BindsTo.of_eq rfl)
  case kB => exact locs rfl
  case c2 => exact rfl
  case c3 => exact rfl
  case c4 => exact rfl
  case c5 => decide
  intro g L' h₁ p loose mean mg mb kg kgs ko ksz F N hlt X T
  k_fold
  simp only [wsOwn, List.cons_append, List.nil_append] at N
  k_steps
  rename IsRange _ _ _ _ _ _ _ _ => R1
  rename Fr _ _ _ _ => F1
  rename News _ _ _ _ => N1
  unfold Hold
  rw [wit_e hb] at R1
  have hn1 := wit_le (cnt := cnt) (dnt := dnt) hc hb2 hdd hcc2
  k_dflt (refine for_range (n := witN cnt b dnt c) (fun i m nx => WitLoop x y q r vs us cnt dnt b c nt mt i m nx) rfl R1 (small_one (by decide) (by decide) (by lia) (by omega)) (by rw [rangeSize_nat]; lia) F1 N1 ⟨_, [], 0, [], (by repeat' (first | exact List.forall_mem_nil _ | refine all_cons rfl ?_)), fun _ h => h, List.forall_mem_nil _, TupsIn.nil, Nat.le_refl _, (by (simp only [wsOwn, List.cons_append, List.nil_append, AllLt, and_true]); assumption), List.forall_mem_nil _⟩ ?turn ?done)
  case turn =>
    rintro i t m₁ nx h tk I oI hi ⟨al, ws, k, tl, hm, hnx, htl, hT, hk, hal, hat⟩ off F N
    k_fold
    replace F := bnd_fr1 F hm
    have o1 : ∀ p ∈ tl, p.1 ≠ I := fun p hp => off p (htl p hp)
    have o2 := OffN.of fun p hp => off p (hnx p hp)
    simp only [wsOwn, List.cons_append, List.nil_append, OffN, and_true] at o2
    obtain ⟨i91, i92, i93, i94, i95, i96, i97, i98, i99⟩ := o2
    have hIA9 : @Ne Nat I al := Ne.symm i91
    have kOff : OwnOff tl [al] := fun p hp b hb => by rw [List.mem_singleton.mp hb]; exact Nat.ne_of_gt (hat p hp)
    have kMark := kstMark
    simp only [wsOwn, List.cons_append, List.nil_append, AllLt, and_true] at hal
    replace N := news_sub (b := (I, oI) :: (al, W.listOf ws.toArray k) :: (wsOwn x q vs b nt ++ wsOwn y r us c mt) ++ tl) N (fun p hp => (List.mem_cons.mp hp).elim (fun e => e ▸ .head _) fun h => .tail _ ((List.mem_append.mp h).elim (hnx p) (htl p)))
    simp only [wsOwn, List.cons_append, List.nil_append] at N
    clear F1 N1 off
    k_steps
    · rename (¬ _ = _) => q9
      simp only [List.push_toArray] at *
      show TurnEnd _ _ _ _ _ _ _
      refine TurnEnd.auto (by assumption) (by assumption) (by k_mem) ⟨al, _, _, _ :: tl, (by repeat' (first | exact List.forall_mem_nil _ | refine all_cons rfl ?_)), offI_has (by repeat' (first | exact List.forall_mem_nil _ | refine all_cons (by k_mem) ?_ | (intro p hp; repeat' (first | exact hp | refine List.Mem.tail _ ?_)))) (by repeat' (first | exact List.forall_mem_nil _ | refine all_cons (by first | assumption | k_ne) ?_)), offI_has (by repeat' (first | exact List.forall_mem_nil _ | refine all_cons (by k_mem) ?_ | (intro p hp; repeat' (first | exact hp | refine List.Mem.tail _ ?_)))) (fun p hp => (List.mem_cons.mp hp).elim (fun e => by rw [e]; k_ne) (o1 p)), by rw [witF_succ_some q9]; exact hT.snoc (t := (_, _, _)), by simp; omega, by (simp only [wsOwn, List.cons_append, List.nil_append, AllLt, and_true]); assumption, fun p hp => (List.mem_cons.mp hp).elim (fun e => by rw [e]; refine ltN ?_; dsimp only; omega) (hat p)⟩
    · rename (_ = _) => q9
      show TurnEnd _ _ _ _ _ _ _
      refine TurnEnd.auto (by assumption) (by assumption) (by k_mem) ⟨al, _, _, tl, (by repeat' (first | exact List.forall_mem_nil _ | refine all_cons rfl ?_)), offI_has (by repeat' (first | exact List.forall_mem_nil _ | refine all_cons (by k_mem) ?_ | (intro p hp; repeat' (first | exact hp | refine List.Mem.tail _ ?_)))) (by repeat' (first | exact List.forall_mem_nil _ | refine all_cons (by first | assumption | k_ne) ?_)), offI_has (by repeat' (first | exact List.forall_mem_nil _ | refine all_cons (by k_mem) ?_ | (intro p hp; repeat' (first | exact hp | refine List.Mem.tail _ ?_)))) o1, by rw [witF_succ_none q9]; exact hT, by lia, by (simp only [wsOwn, List.cons_append, List.nil_append, AllLt, and_true]); assumption, hat⟩
  case done =>
    rintro m₁ nx h tk ⟨al, ws, k, tl, hm, hnx, htl, hT, hk, hal, hat⟩ F N
    dsimp only
    replace F := bnd_fr F hm
    clear F1 N1
    k_steps
    dsimp only
    k_unfold
    dsimp only
    have lt9 : ∀ a, (∀ p ∈ wsOwn x q vs b nt ++ wsOwn y r us c mt, @LT.lt Nat _ p.1 a) → g.get? a = none → s.heap.get? a = none := fun a ha e => none_own ko e fun hm => by
      obtain ⟨p, hp, e2⟩ := List.mem_map.mp hm
      exact absurd (ha p hp) (by rw [e2]; exact Nat.lt_irrefl _)
    have hal' : ∀ p ∈ wsOwn x q vs b nt ++ wsOwn y r us c mt, @LT.lt Nat _ p.1 al := kst_ltOf hal
    exact ret _ _ _ (keep_of ko F N (fun p hp => hnx p (.tail _ hp)) (fun p hp => ((List.mem_append.mp hp).elim (hW.1.1 p) (hW.2.1 p)).1))
      ⟨al, ws, k, tl, rfl, (N _ (hnx _ (.head _))).1, fun p hp => ⟨(N _ (htl p hp)).1, lt9 _ (fun p' hp' => Nat.lt_trans (hal' p' hp') (hat p hp)) (N _ (htl p hp)).2.2⟩, hT, lt9 _ hal' (N _ (hnx _ (.head _))).2.2⟩
end Mine
end

/- part LoopT -/
section
example : True := by
  k_with_none
  w_top off
  trivial
open PySem PySem.W PyProof.Rows PySem.Calls PySem.Spec
set_option maxRecDepth 100000
namespace Mine
section
variable {prog : Program} {w : World} {A : Around} {E : Value → Shared → Prop} {s : Shared} {env : Env} {h₀ : Heap} {target : Expr} {body : List Stmt} {Q : Flow → Shared → Prop}
noncomputable def TurnPostT (h₀ : Heap) (L : Addr) (I : Addr) (oI : Obj) (J : (Str → Option Value) → List (Addr × Obj) → Prop) (s₁ : Shared) (f : Flow) (s₂ : Shared) : Prop := f = .next ∧ TurnEnd h₀ L I oI J s₁ s₂
/- over a list that the ledger bears, the turn's value taken apart -/
theorem for_listT {l : Addr} {lo : Obj} {its : Array Value} {k : Nat} {m : Str → Option Value} {news : List (Addr × Obj)} (J : Nat → (Str → Option Value) → List (Addr × Obj) → Prop) (hh : A.handled = none)
    (F : Fr h₀ env.locals s.heap m) (N : News h₀ env.locals s.heap news) (hlo : lo = { cls := .type "list", data := .seq its k }) (hl : (l, lo) ∈ news) (hj : J 0 m news)
    (hJl : ∀ i m nx, J i m nx → (l, lo) ∈ nx)
    (turn : ∀ i v m₁ nx (s₁ : Shared) I oI, its[i]? = some v → J i m₁ nx → (∀ p ∈ nx, p.1 ≠ I) → Fr h₀ env.locals s₁.heap m₁ → News h₀ env.locals s₁.heap ((I, oI) :: nx) →
      wpAny (model prog w) A (assign target env v) (fun _ s₃ => wpAny (model prog w) A (execs body env) (TurnPostT h₀ env.locals I oI (J (i + 1)) s₁) E s₃) E s₁)
    (done : ∀ m₁ nx h tk, J its.size m₁ nx → Fr h₀ env.locals h m₁ → News h₀ env.locals h nx → Q .next { s with heap := h, toks := tk }) :
    wpAny (model prog w) A (pyIter (.ref l)) (fun it s₂ => LoopAtT prog w A h₀ env target body Q E it s₂) E s := by
  have hls : s.heap.IsList l its := ⟨lo, (N _ hl).1, by rw [hlo], k, by rw [hlo]⟩
  have hlt : l < s.heap.objs.size := Heap.lt_size (N _ hl).1
  have hIL : env.locals ≠ s.heap.objs.size := Nat.ne_of_lt F.ns.lt
  have hlL : env.locals ≠ l := (N _ hl).2.1.symm
  refine wpAny_pyIter_list hls ?_
  have W := Walks.list (prog := prog) (w := w) hh s.heap.objs.size l (Nat.ne_of_lt hlt) its
  have hI₀ : h₀.get? s.heap.objs.size = none := next_is_new F
  have noff : ∀ p ∈ news, p.1 ≠ s.heap.objs.size := fun p hp => Nat.ne_of_lt (Heap.lt_size (N p hp).1)
  refine ⟨s.heap.objs.size, _, _, its.size, _, _, m, news, J, rfl, W, fun h => ?_, fun b hb => by rw [List.mem_singleton.mp hb]; exact hI₀, fun p hp q => noff p hp (List.mem_singleton.mp q),
    ⟨⟨_, Heap.get?_push_size _ rfl, rfl, rfl⟩, hls.at fun o e => Heap.get?_push_of_some _ e⟩, F.push _, fun p hp => ⟨Heap.get?_push_of_some _ (N p hp).1, (N p hp).2⟩, fun i s' v Q' st hQ' => letGo_listiter st.1 hQ', hj, ?_, fun h' tk m' news' F' N' _ j => done m' news' h' tk j F' N'⟩
  · rcases List.mem_cons.mp h with h | h
    · exact hIL h
    · exact hlL (List.mem_singleton.mp h)
  · intro i v m₁ nx s₁ own hi hP hJ hoff hof hown hall hst₁ F₁ N₁
    have heI : ∃ oI, s₁.heap.get? s.heap.objs.size = some oI := ⟨_, hst₁.1.choose_spec.1⟩
    obtain ⟨oI, heI⟩ := heI
    have hmI : (s.heap.objs.size, oI) ∈ own := hall _ (.head _) hI₀ oI heI
    have N₂ : News h₀ env.locals s₁.heap ((s.heap.objs.size, oI) :: nx) := fun p hp => by
      refine mem_cons_elim hp ?_ fun hp => ?_
      · exact N₁ _ (List.mem_append_left _ hmI)
      · exact N₁ _ (List.mem_append_right _ hp)
    refine wpAny_mono (turn i v m₁ nx s₁ _ oI hP hJ (fun p hp q => hoff p hp (List.mem_singleton.mpr q)) F₁ N₂) (fun _ s₃ h₃ => wpAny_mono h₃ (fun f s₄ h₄ => ?_) fun _ _ e => e) fun _ _ e => e
    obtain ⟨rfl, h', tk', m', nx', rfl, F', N', off', j⟩ := h₄
    refine ⟨rfl, h', tk', m', nx', rfl, F', fun p hp => ?_, fun p hp q => off' p hp (List.mem_singleton.mp q), j⟩
    rcases List.mem_append.mp hp with hp | hp
    · have e1 := hown p hp
      rcases List.mem_cons.mp (hof p hp) with q | q
      · have : p = (s.heap.objs.size, oI) := Prod.ext q (by rw [q, heI] at e1; exact (Option.some.inj e1).symm)
        rw [this]; exact N' _ (.head _)
      · have q := List.mem_singleton.mp q
        have : p = (l, lo) := Prod.ext q (by
          have e2 := (N₁ _ (List.mem_append_right own (hJl _ _ _ hJ))).1
          rw [q] at e1
          dsimp only at e2
          rw [e1] at e2; exact Option.some.inj e2)
        rw [this]; exact N' _ (List.mem_cons_of_mem _ (hJl _ _ _ j))
    · exact N' p (List.mem_cons_of_mem _ hp)
end
end Mine
end

/- part CompX -/
section
example : True := by
  k_with_none
  w_top off
  trivial
open PySem PySem.W PyProof.Rows PySem.Calls PySem.Spec
set_option maxRecDepth 100000
namespace Mine
section
variable {prog : Program} {w : World} {A : Around} {E : Value → Shared → Prop} {s : Shared} {h₀ : Heap} {L : Addr} {m : Str → Option Value} {env : Env}
theorem compEnd_mono {I C D : Addr} {oI oC oD : Obj} {s₁ s₂ : Shared} {S : List (Addr × Obj) → Prop} {r r' : Value → List (Addr × Obj) → Prop} {y : Value} (x : LCg.CompEnd h₀ L m s₁ I oI C oC D oD S r y s₂) (h : ∀ nw, r y nw → r' y nw) : LCg.CompEnd h₀ L m s₁ I oI C oC D oD S r' y s₂ := by
  obtain ⟨h', tk, nw, e, F, N, o, hS, hr⟩ := x
  exact ⟨h', tk, nw, e, F, N, o, hS, h nw hr⟩
noncomputable def InL (news0 : List (Addr × Obj)) (P : Value → Prop) (y : Value) (news' : List (Addr × Obj)) : Prop := news' = news0 ∧ P y
/- a comprehension with a test that gathers ints, the ledger standing -/
theorem compT_ints {ct elt : Expr} {x : Str} {scope : Scope} {cl : List (Str × Addr)} {S : List (Addr × Obj) → Prop} {P : Nat → Value → Prop} {Fin : List Value → List (Addr × Obj) → Prop} {n : Nat} {news0 : List (Addr × Obj)} (ns : Nat → List Int) (h0 : ns 0 = [])
    (step : ∀ i v I oI C oC D m₂ ys h tk (E' : Value → Shared → Prop), i < n → P i v → IntsAre ys (ns i) → LCg.NsObj oC m₂ → m₂ x = some v → Fr h₀ L h m → News h₀ L h ((I, oI) :: (C, oC) :: (D, LCg.lst ys) :: news0) → LCg.Off3 I C D news0 → ((@Ne Nat I C) ∧ (@Ne Nat I D) ∧ (@Ne Nat C D)) →
      wpAny (model prog w) A (isTrue ct (compEnvC scope cl C env) (eval ct (compEnvC scope cl C env))) (fun ok s' => if ok = true then
        wpAny (model prog w) A (eval elt (compEnvC scope cl C env)) (LCg.CompEnd h₀ L m { s with heap := h, toks := tk } I oI C oC D (LCg.lst ys) S (InL news0 fun y => ∃ a t, y = .int a t ∧ ns (i + 1) = ns i ++ [a])) E' s'
        else LCg.CompEnd h₀ L m { s with heap := h, toks := tk } I oI C oC D (LCg.lst ys) S (InL news0 fun _ => ns (i + 1) = ns i) Value.none s') E' { s with heap := h, toks := tk })
    (fin : ∀ ys, IntsAre ys (ns n) → Fin ys news0) : LCt.CompRestT prog w A h₀ L m env ct elt x scope cl s S P Fin n 0 [] news0 := by
  have key : ∀ (j i : Nat) (ys : List Value), i + j = n → IntsAre ys (ns i) → LCt.CompRestT prog w A h₀ L m env ct elt x scope cl s S P Fin j i ys news0 := by
    intro j
    induction j with
    | zero =>
      intro i ys hi hI
      refine LCt.CompRestT.zero (fin ys ?_)
      rw [show i = n by lia] at hI; exact hI
    | succ j ih =>
      intro i ys hi hI
      refine LCt.CompRestT.succ fun v I oI C oC D m₂ h tk E' hP hC hx F N off ne => ?_
      refine wpAny_mono (step i v I oI C oC D m₂ ys h tk E' (by lia) hP hI hC hx F N off ne) (fun ok s' h' => ?_) fun _ _ e => e
      by_cases hok : ok = true
      · rw [if_pos hok] at h' ⊢
        refine wpAny_mono h' (fun y s₂ h₂ => compEnd_mono h₂ fun nw hr => ?_) fun _ _ e => e
        obtain ⟨rfl, a, t, rfl, e⟩ := hr
        exact ih (i + 1) _ (by lia) (by rw [e]; exact hI.append (.cons _ _ .nil))
      · rw [if_neg hok] at h' ⊢
        refine compEnd_mono h' fun nw hr => ?_
        obtain ⟨rfl, e⟩ := hr
        exact ih (i + 1) _ (by lia) (by rw [e]; exact hI)
  exact key n 0 [] (by lia) (by rw [h0]; exact .nil)
/- a comprehension without a test, the ledger standing -/
theorem comp_rest {elt : Expr} {x : Str} {scope : Scope} {cl : List (Str × Addr)} {S : List (Addr × Obj) → Prop} {P : Nat → Value → Prop} {Fin : List Value → List (Addr × Obj) → Prop} {n : Nat} (J : Nat → List Value → List (Addr × Obj) → Prop) {news0 : List (Addr × Obj)} (h0 : J 0 [] news0)
    (step : ∀ i v I oI C oC D m₂ ys nw h tk (E' : Value → Shared → Prop), i < n → P i v → J i ys nw → LCg.NsObj oC m₂ → m₂ x = some v → Fr h₀ L h m → News h₀ L h ((I, oI) :: (C, oC) :: (D, LCg.lst ys) :: nw) → LCg.Off3 I C D nw → ((@Ne Nat I C) ∧ (@Ne Nat I D) ∧ (@Ne Nat C D)) →
      wpAny (model prog w) A (eval elt (compEnvC scope cl C env)) (LCg.CompEnd h₀ L m { s with heap := h, toks := tk } I oI C oC D (LCg.lst ys) S (fun y nw' => J (i + 1) (ys ++ [y]) nw')) E' { s with heap := h, toks := tk })
    (fin : ∀ ys nw, J n ys nw → Fin ys nw) : LCg.CompRest prog w A h₀ L m env elt x scope cl s S P Fin n 0 [] news0 := by
  have key : ∀ (j i : Nat) (ys : List Value) (nw : List (Addr × Obj)), i + j = n → J i ys nw → LCg.CompRest prog w A h₀ L m env elt x scope cl s S P Fin j i ys nw := by
    intro j
    induction j with
    | zero =>
      intro i ys nw hi hI
      refine LCg.CompRest.zero (fin ys nw ?_)
      rw [show i = n by lia] at hI; exact hI
    | succ j ih =>
      intro i ys nw hi hI
      refine LCg.CompRest.succ fun v I oI C oC D m₂ h tk E' hP hC hx F N off ne => ?_
      refine wpAny_mono (step i v I oI C oC D m₂ ys nw h tk E' (by lia) hP hI hC hx F N off ne) (fun y s₂ h₂ => compEnd_mono h₂ fun nw' hr => ?_) fun _ _ e => e
      exact ih (i + 1) _ _ (by lia) hr
  exact key n 0 [] _ (by lia) h0
end
end Mine
end

/- part Plain1 -/
section
example : True := by
  k_with_none
  w_top off
  trivial
open PySem PySem.W PyProof.Rows PySem.Calls PySem.Spec
set_option maxRecDepth 100000
namespace Mine
noncomputable def tri (P : Int → Int → Int → Bool) : Bool := (List.range 7).all fun a => (List.range 7).all fun b => (List.range 7).all fun c => !(decide (a + b + c ≤ 6)) || P a b c
theorem tri_at {P : Int → Int → Int → Bool} (h : tri P = true) {a b c : Int} (ha : 0 ≤ a) (hb : 0 ≤ b) (hc : 0 ≤ c) (hs : a + b + c ≤ 6) : P a b c = true := by
  obtain ⟨a, rfl⟩ := Int.eq_ofNat_of_zero_le ha
  obtain ⟨b, rfl⟩ := Int.eq_ofNat_of_zero_le hb
  obtain ⟨c, rfl⟩ := Int.eq_ofNat_of_zero_le hc
  unfold tri at h
  have h1 := List.all_eq_true.mp h a (List.mem_range.mpr (by omega))
  have h2 := List.all_eq_true.mp h1 b (List.mem_range.mpr (by omega))
  have h3 := List.all_eq_true.mp h2 c (List.mem_range.mpr (by omega))
  have e : decide (a + b + c ≤ 6) = true := decide_eq_true (by omega)
  rw [e] at h3
  simpa using h3
noncomputable def lw (ns : List Int) : List Int × Int × Int := wsOf (leadStr ns).cps.toList
noncomputable def okWs (w : List Int × Int × Int) : Bool := decide (w.1.length ≤ 60) && (w.1.all fun c => decide (0 ≤ c) && decide (c ≤ 60)) && decide (0 ≤ w.2.1) && decide (w.2.1 ≤ 60) && decide (0 ≤ w.2.2) && decide (w.2.2 ≤ 60)
noncomputable def okLead (ns : List Int) : Bool := decide ((leadStr ns).cps.size ≤ 60) && okWs (lw ns)
noncomputable def wits (a b c : Int) : List (Int × Int × Int) :=
  let x := lw [a + b + c, 0, 0]
  let y := lw [a, b, c]
  witF x.1 x.2.1 x.2.2 y.1 y.2.1 y.2.2 (witN x.1 x.2.1 y.1 y.2.1)
theorem leads_ok : (tri fun a b c => okLead [a + b + c, 0, 0] && okLead [a, b, c]) = true := by decide +kernel
noncomputable def okWit (p : Int × Int × Int) : Bool := decide (2 ≤ p.1) && decide (p.1 ≤ 7) && decide (-1000 ≤ p.2.1 - p.2.2) && decide (p.2.1 - p.2.2 ≤ 1000) && decide (0 ≤ (p.2.1 - p.2.2).fdiv p.1) && decide ((p.2.1 - p.2.2).fdiv p.1 ≤ 20)
theorem wits_ok : (tri fun a b c => (wits a b c).all okWit && decide ((wits a b c).length ≤ 10)) = true := by decide +kernel
noncomputable def pOf (n : Int) : Int := if n = 2 ∨ n = 4 then 2 else if n = 6 then 1 else n
noncomputable def waysStep (x : Int) (p : Int × Int × Int) : Int := x * pOf p.1 ^ ((p.2.1 - p.2.2).fdiv p.1).toNat
noncomputable def waysF (a b c : Int) : Int := (wits a b c).foldl waysStep 1
theorem ways_ok : (tri fun a b c => (List.range 11).all fun k => decide (1 ≤ ((wits a b c).take k).foldl waysStep 1) && decide (((wits a b c).take k).foldl waysStep 1 ≤ 1000)) = true := by decide +kernel
end Mine
end

/- part Bod -/
section
example : True := by
  k_with_none
  w_top off
  trivial
open PySem PySem.W PyProof.Rows PySem.Calls PySem.Spec
set_option maxRecDepth 100000
set_option rowWalk.seconds 0
namespace Mine
example : hd.heap_1 = hd.heap_1 ∧ PySem.Challenge.rw_pg0285_01 = PySem.Challenge.rw_pg0285_01 := by
  k_fill
  exact ⟨rfl, rfl⟩
/- a def's body and scope, read off the head -/
noncomputable def DefAt (f : Addr) (nm : PySem.Str) (B : List Stmt) (Sc : Scope) (cdv : Value) : Prop :=
  ∀ w : World, ∃ qual params dV kV doc pm an ct oc od osl, (hd.heap_1 w.params).lookup f = some ⟨oc, od, .func (fnOf nm qual params B Sc dV kV doc pm an cdv ct), osl⟩
noncomputable def waysDef : Σ' (nm : PySem.Str) (B : List Stmt) (Sc : Scope) (cdv : Value), DefAt 148 nm B Sc cdv := ⟨_, _, _, _, fun w => ⟨_, _, _, _, _, _, _, _, _, _, _, by k_is⟩⟩
noncomputable def ordersDef : Σ' (nm : PySem.Str) (B : List Stmt) (Sc : Scope) (cdv : Value), DefAt 153 nm B Sc cdv := ⟨_, _, _, _, fun w => ⟨_, _, _, _, _, _, _, _, _, _, _, by k_is⟩⟩
noncomputable def lawDef : Σ' (nm : PySem.Str) (B : List Stmt) (Sc : Scope) (cdv : Value), DefAt 158 nm B Sc cdv := ⟨_, _, _, _, fun w => ⟨_, _, _, _, _, _, _, _, _, _, _, by k_is⟩⟩
noncomputable def forBody : List Stmt → List Stmt
  | [] => []
  | .For _ _ b _ _ :: _ => b
  | _ :: r => forBody r
noncomputable def waysE (L : Addr) : Env := envOfC waysDef.1 waysDef.2.2.1 L 148 waysDef.2.2.2.1
/- what a call leaves of the tables: a record stays, or the table was empty -/
noncomputable def Same1 (t c c' : Addr) (o o' : Obj) : Prop := (c' = c ∧ o' = o) ∨ c = t
noncomputable def SameT (q q' : TabP) : Prop := Same1 46 q.c1 q'.c1 q.o1 q'.o1 ∧ Same1 53 q.c2 q'.c2 q.o2 q'.o2
theorem Same1.trans {t c c' c'' : Addr} {o o' o'' : Obj} (a : Same1 t c c' o o') (b : Same1 t c' c'' o' o'') : Same1 t c c'' o o'' := by
  rcases a with ⟨rfl, rfl⟩ | a
  · exact b
  · exact .inr a
theorem SameT.refl (q : TabP) : SameT q q := ⟨.inl ⟨rfl, rfl⟩, .inl ⟨rfl, rfl⟩⟩
theorem SameT.trans {q q' q'' : TabP} (a : SameT q q') (b : SameT q' q'') : SameT q q'' := ⟨a.1.trans b.1, a.2.trans b.2⟩
theorem New1.same {h : Heap} {t c c' : Addr} {o o' : Obj} (x : New1 h t c c' o o') : Same1 t c c' o o' := by
  rcases x with x | ⟨x, _⟩ | ⟨x, _⟩
  · exact .inl x
  · exact .inr x
  · exact .inr x
theorem NewT.same {h : Heap} {q q' : TabP} (x : NewT h q q') : SameT q q' := ⟨x.1.same, x.2.same⟩
theorem qI2D_ne : qI2D ≠ qD2I := by decide +kernel
theorem rec_ne {q : TabP} (ok : TabsOk q) (h1 : q.c1 ≠ 46) (h2 : q.c2 ≠ 53) (h : Heap) (e1 : h.get? q.c1 = some q.o1) (e2 : h.get? q.c2 = some q.o2) : q.c1 ≠ q.c2 := by
  intro e
  rcases ok.1 with ⟨_, a⟩ | ⟨_, _, vs, tk, d1, d2⟩
  · exact h1 a
  rcases ok.2.1 with ⟨_, a⟩ | ⟨_, _, vs', tk', d1', d2'⟩
  · exact h2 a
  rw [e, e2] at e1
  have := Option.some.inj e1
  rw [this, d1] at d1'
  cases d1'
  rw [d2] at d2'
  injection d2' with d2'
  injection d2' with d2'
  exact qI2D_ne d2'
theorem newT_of {H h' s g : Heap} {q q' : TabP} (ok : TabsOk q) (T' : TabsAt9 H h' q') (sm : SameT q q') (hn : ∀ a, a ∉ (tabOwn q).map (·.1) → g.get? a = none → s.get? a = none) (hg1 : g.get? q'.c1 = none) (hg2 : g.get? q'.c2 = none) : NewT s q q' := by
  have ok' := T'.1
  have g1 := (T'.2 _ (.tail _ (.tail _ (.head _)))).1
  have g2 := (T'.2 _ (.tail _ (.tail _ (.tail _ (.head _))))).1
  have ne : q'.c1 ≠ 46 → q'.c2 ≠ 53 → q'.c1 ≠ q'.c2 := fun a b => rec_ne ok' a b h' g1 g2
  constructor
  · rcases sm.1 with x | x
    · exact .inl x
    by_cases y : q'.c1 = 46
    · exact .inr (.inr ⟨x, y⟩)
    refine .inr (.inl ⟨x, y, hn _ (fun hm => ?_) hg1⟩)
    rcases List.mem_cons.mp hm with hm | hm
    · exact y hm
    rcases List.mem_cons.mp hm with hm | hm
    · exact ok'.2.2.1 hm
    rcases List.mem_cons.mp hm with hm | hm
    · exact y (hm.trans x)
    have hm := List.mem_singleton.mp hm
    rcases sm.2 with ⟨z, _⟩ | z
    · by_cases y2 : q'.c2 = 53
      · exact ok'.2.2.1 (hm.trans (z.symm.trans y2))
      · exact ne y y2 (hm.trans z.symm)
    · exact ok'.2.2.1 (hm.trans z)
  · rcases sm.2 with x | x
    · exact .inl x
    by_cases y : q'.c2 = 53
    · exact .inr (.inr ⟨x, y⟩)
    refine .inr (.inl ⟨x, y, hn _ (fun hm => ?_) hg2⟩)
    rcases List.mem_cons.mp hm with hm | hm
    · exact ok'.2.2.2 hm
    rcases List.mem_cons.mp hm with hm | hm
    · exact y hm
    rcases List.mem_cons.mp hm with hm | hm
    · rcases sm.1 with ⟨z, _⟩ | z
      · by_cases y2 : q'.c1 = 46
        · exact ok'.2.2.2 (hm.trans (z.symm.trans y2))
        · exact ne y2 y (z.trans hm.symm)
      · exact ok'.2.2.2 (hm.trans z)
    have hm := List.mem_singleton.mp hm
    exact y (hm.trans x)
end Mine
end

/- part W12t -/
section
example : True := by
  k_with_none
  w_top off
  trivial
open PySem PySem.W PyProof.Rows PySem.Calls PySem.Spec
set_option maxRecDepth 100000
set_option rowWalk.seconds 0
namespace Mine
example : hd.heap_1 = hd.heap_1 ∧ PySem.Challenge.rw_pg0285_01 = PySem.Challenge.rw_pg0285_01 := by
  k_fill
  exact ⟨rfl, rfl⟩
set_option pp.maxSteps 100000
set_option pp.deepTerms false
set_option pp.deepTerms.threshold 4

structure Wrap (P : Prop) : Prop where out : P
noncomputable def parts (sz : Int) (i : Nat) : List Int := ((List.range i).map fun (j : Nat) => 2 + (j : Int)).filter fun p => decide (sz.fmod p = 0)
theorem parts_in {sz : Int} {i : Nat} (h : sz.fmod (2 + (i : Int)) = 0) : parts sz (i + 1) = parts sz i ++ [2 + (i : Int)] := by
  unfold parts
  rw [List.range_succ, List.map_append, List.filter_append]
  simp [h]
theorem parts_out {sz : Int} {i : Nat} (h : ¬ sz.fmod (2 + (i : Int)) = 0) : parts sz (i + 1) = parts sz i := by
  unfold parts
  rw [List.range_succ, List.map_append, List.filter_append]
  simp [h]
theorem rng_facts {sz : Int} (w1 : 2 ≤ sz) (w2 : sz ≤ 7) : Builtin.Range.small 2 (sz + 1) 1 = true ∧ Builtin.Range.rangeSize 2 (sz + 1) 1 = (((sz - 1).toNat : Nat) : Int) ∧ (sz - 1).toNat ≤ sizeLine ∧ Wrap (sz = 2 ∨ sz = 3 ∨ sz = 4 ∨ sz = 5 ∨ sz = 6 ∨ sz = 7) :=
  ⟨small_one (by decide) (by decide) (by lia) (by lia), by rw [rangeSize_nat]; lia, by rw [sizeLine_eq]; lia, ⟨by lia⟩⟩
theorem pow_fits {x p : Int} (h : Wrap (0 ≤ x ∧ x ≤ 1000)) : IntMulOk x p := have := h.out; IntMulOk.of_left (intBits_le_64 (by lia) (by lia))
theorem pow_w {prog : Program} {w : World} {A : Around} {E : Value → Shared → Prop} {s : Shared} {a n : Int} {t u : Tok} {Q : Value → Shared → Prop} (hw : Wrap (0 ≤ n ∧ n ≤ 20)) (ha : a.natAbs < 2 ^ 64) (h : Q (.int (a ^ n.toNat) s.toks) { s with toks := s.toks + 1 }) :
    wpAny (model prog w) A (binaryOp .Pow (.int a t) (.int n u)) Q E s := pow_int_small hw.out.1 (Int.le_trans hw.out.2 (by decide)) ha h
theorem step6 {x a b : Int} : waysStep x (6, a, b) = x := by unfold waysStep; rw [show pOf 6 = 1 from rfl, Int.one_pow, Int.mul_one]
example : True := by
  k_with_none
  k_with "call ref" => (k_here; refine Hold.out ?_)
  k_with "eval ListComp" => (k_here; k_dflt (refine LCt.ListComp_T (F₀ := by k_asm) (by with_unfolding_all rfl) (by decide) (by rfl) (by decide) (by rfl) ?_))
  k_with "CompSrcT" => refine Hold.out ?_
  k_with "call type:range" => (k_here; refine Hold.out ?_)
  k_with "call builtin:min" => (k_here; refine Hold.out ?_)
  k_with "binaryOp Pow int int" => (k_here; k_dflt (refine pow_w (by assumption) (by decide) ?_))
  k_with "binaryOp Mult int int" => (k_here; k_dflt (refine mul_int ?_ (pow_fits (by assumption))))
  trivial
set_option maxHeartbeats 8000000 in
theorem ways_turn {w : World} {H g : Heap} (G : Gnd w H) (CH : CodeHd H 50 46) (CH2 : CodeHd H 57 53) {L' : Addr} {m : Str → Option Value} {s : Shared} {dp un : Nat} {fr : Option (List Env)} {gd : Option (List Code)} {q : TabP} {oC : Obj} {rest : List (Addr × Obj)}
    {sz far near xw : Int} {tt1 tt2 tt3 txw : Tok} {p : Program} {loose : List Str} {mean : ExcName → Option Value} {mg mb : Str → Option Value} {Q : Flow → Shared → Prop}
    (kg : Keep H g) (X : (hd.heap_1 w.params).In g) (T : Top p loose mean mg mb g)
    (F : Fr g L' s.heap (bnd m [(Str.ofString "near", Value.int near tt3), (Str.ofString "far", Value.int far tt2), (Str.ofString "ways", Value.int xw txw)]))
    (N : News g L' s.heap ((L' + 1, oC) :: (46, tabObj q.p1) :: (53, tabObj q.p2) :: (q.c1, q.o1) :: (q.c2, q.o2) :: rest))
    (hC : oC.data = .cell (some (.int sz tt1))) (ok : TabsOk q) (hr : ∀ p ∈ (L' + 1, oC) :: rest, @Ne Nat p.1 46 ∧ @Ne Nat p.1 53 ∧ @Ne Nat p.1 q.c1 ∧ @Ne Nat p.1 q.c2)
    (w1 : 2 ≤ sz) (w2 : sz ≤ 7) (w3 : -1000 ≤ far - near) (w4 : far - near ≤ 1000) (hw5 : Wrap (0 ≤ (far - near).fdiv sz ∧ (far - near).fdiv sz ≤ 20)) (hx : Wrap (0 ≤ xw ∧ xw ≤ 1000))
    (hd9 : dp + 95 < recursionLimit) (hu9 : un + 420 < cLine)
    (h : ∀ h' tk' m' q' t', Fr g L' h' m' → News g L' h' (tabOwn q' ++ (L' + 1, oC) :: rest) → TabsOk q' → (∀ p ∈ (L' + 1, oC) :: rest, p.1 ≠ q'.c1 ∧ p.1 ≠ q'.c2) → m' (Str.ofString "ways") = some (.int (waysStep xw (sz, far, near)) t') → SameT q q' → Q .next { s with heap := h', toks := tk' }) :
    wpAny (model prg w) (Arnd dp un fr gd) (execs (forBody waysDef.2.1) (waysE L')) Q (fun _ _ => False) s := by
  unfold waysE waysDef
  dsimp only [forBody]
  obtain ⟨hR1, hR2, hR3, hsz⟩ := rng_facts w1 w2
  have tab9 : ∀ p ∈ tabOwn q, p ∈ (L' + 1, oC) :: (46, tabObj q.p1) :: (53, tabObj q.p2) :: (q.c1, q.o1) :: (q.c2, q.o2) :: rest := (by repeat' (first | exact List.forall_mem_nil _ | refine all_cons (by k_mem) ?_))
  have mem9 : ∀ p ∈ (L' + 1, oC) :: rest, p ∈ (L' + 1, oC) :: (46, tabObj q.p1) :: (53, tabObj q.p2) :: (q.c1, q.o1) :: (q.c2, q.o2) :: rest := fun p hp => by
    refine mem_cons_elim hp ?_ fun hp => ?_
    · exact .head _
    · exact .tail _ (.tail _ (.tail _ (.tail _ (.tail _ hp))))
  k_steps
  rename Fr _ _ _ _ => F1
  rename News _ _ _ _ => N1
  unfold Hold
  with_unfolding_all refine range2_rows F1 N1 ?_
  clear F1 N1
  intro _ _ _ _ _ R1 F1 N1 _
  k_steps
  unfold Hold
  refine LCt.CompSrcT.range (n := (sz - 1).toNat) rfl F1 N1 R1 hR1 hR2 hR3 fun g' => ?_
  refine compT_ints (parts sz) rfl (fun i v I2 oI2 C oC D m₂ ys h tk E' hi hP hI2 hC hx2 F N off ne => ?_) ?fin
  · obtain ⟨t9, rfl⟩ := hP
    have off0 : Wrap _ := ⟨off⟩
    clear F1 N1 off hsz
    k_steps
    · exact LCg.CompEnd.intro (by assumption) (by assumption) _ (fun p hp => hp) off0.out trivial ⟨rfl, _, _, rfl, parts_in (by assumption)⟩
    · exact LCg.CompEnd.intro (by assumption) (by assumption) _ (fun p hp => hp) off0.out trivial ⟨rfl, parts_out (by assumption)⟩
  case fin =>
    intro ys hI9 D h9 tk F9 N9 off1
    clear F1 N1 R1 off1
    show wpAny _ _ _ _ _ _
    k_steps
    rename Fr _ _ _ _ => F1
    rename News _ _ _ _ => N1
    unfold Hold
    have wI : Wrap (IntsAre ys (parts sz (sz - 1).toNat)) := ⟨hI9⟩
    clear hI9
    rcases hsz.out with rfl | rfl | rfl | rfl | rfl | rfl
    · have hI9 : IntsAre ys [2] := wI.out
      refine kso_min F1 N1 ⟨_, (N1 _ (.head _)).1, rfl, _, rfl⟩ hI9 (by decide) rfl ?_
      clear F1 N1
      intro hM M tM tkM F1 N1 hM1 hM2
      obtain rfl : M = 2 := by
        simp only [List.mem_cons, List.not_mem_nil, or_false, forall_eq_or_imp, forall_eq] at hM1 hM2
        lia
      clear hM1 hM2 hI9 wI
      k_steps
      rename Fr _ _ _ _ => F1
      rename News _ _ _ _ => N1
      unfold Hold
      replace N1 := news_sub (b := (L' + 1, oC) :: (46, tabObj q.p1) :: (53, tabObj q.p2) :: (q.c1, q.o1) :: (q.c2, q.o2) :: rest) N1 (by intro p hp; repeat' (first | exact hp | refine List.Mem.tail _ ?_))
      refine useT (q := q) (idm_T G CH CH2 (a := far - near) (by lia) (by lia) (by decide) (by decide)) kg F1 N1 tab9 ok (by lia) (by lia) trivial ((L' + 1, oC) :: rest) (fun p hp => ⟨mem9 p hp, hr p hp⟩) ?_
      rintro v h2 tk2 q2 F2 N2 ok2 off2 ⟨al9, t1, t2, rfl, g2, f2⟩ k2 nt2
      have N3 := news_add F1 F2 N2 g2 f2
      clear F1 N1 g2 f2 k2
      simp only [tabOwn, List.cons_append, List.nil_append] at N3
      k_steps
      rename Fr _ _ _ _ => F1
      try dsimp only
      rename News _ _ _ _ => N9
      exact h _ _ _ q2 _ F1 (fun p hp => N9 p (.tail _ hp)) ok2 off2 (by rfl) nt2.same
    · have hI9 : IntsAre ys [3] := wI.out
      refine kso_min F1 N1 ⟨_, (N1 _ (.head _)).1, rfl, _, rfl⟩ hI9 (by decide) rfl ?_
      clear F1 N1
      intro hM M tM tkM F1 N1 hM1 hM2
      obtain rfl : M = 3 := by
        simp only [List.mem_cons, List.not_mem_nil, or_false, forall_eq_or_imp, forall_eq] at hM1 hM2
        lia
      clear hM1 hM2 hI9 wI
      k_steps
      rename Fr _ _ _ _ => F1
      rename News _ _ _ _ => N1
      unfold Hold
      replace N1 := news_sub (b := (L' + 1, oC) :: (46, tabObj q.p1) :: (53, tabObj q.p2) :: (q.c1, q.o1) :: (q.c2, q.o2) :: rest) N1 (by intro p hp; repeat' (first | exact hp | refine List.Mem.tail _ ?_))
      refine useT (q := q) (idm_T G CH CH2 (a := far - near) (by lia) (by lia) (by decide) (by decide)) kg F1 N1 tab9 ok (by lia) (by lia) trivial ((L' + 1, oC) :: rest) (fun p hp => ⟨mem9 p hp, hr p hp⟩) ?_
      rintro v h2 tk2 q2 F2 N2 ok2 off2 ⟨al9, t1, t2, rfl, g2, f2⟩ k2 nt2
      have N3 := news_add F1 F2 N2 g2 f2
      clear F1 N1 g2 f2 k2
      simp only [tabOwn, List.cons_append, List.nil_append] at N3
      k_steps
      rename Fr _ _ _ _ => F1
      try dsimp only
      rename News _ _ _ _ => N9
      exact h _ _ _ q2 _ F1 (fun p hp => N9 p (.tail _ hp)) ok2 off2 (by rfl) nt2.same
    · have hI9 : IntsAre ys [2, 4] := wI.out
      refine kso_min F1 N1 ⟨_, (N1 _ (.head _)).1, rfl, _, rfl⟩ hI9 (by decide) rfl ?_
      clear F1 N1
      intro hM M tM tkM F1 N1 hM1 hM2
      obtain rfl : M = 2 := by
        simp only [List.mem_cons, List.not_mem_nil, or_false, forall_eq_or_imp, forall_eq] at hM1 hM2
        lia
      clear hM1 hM2 hI9 wI
      k_steps
      rename Fr _ _ _ _ => F1
      rename News _ _ _ _ => N1
      unfold Hold
      replace N1 := news_sub (b := (L' + 1, oC) :: (46, tabObj q.p1) :: (53, tabObj q.p2) :: (q.c1, q.o1) :: (q.c2, q.o2) :: rest) N1 (by intro p hp; repeat' (first | exact hp | refine List.Mem.tail _ ?_))
      refine useT (q := q) (idm_T G CH CH2 (a := far - near) (by lia) (by lia) (by decide) (by decide)) kg F1 N1 tab9 ok (by lia) (by lia) trivial ((L' + 1, oC) :: rest) (fun p hp => ⟨mem9 p hp, hr p hp⟩) ?_
      rintro v h2 tk2 q2 F2 N2 ok2 off2 ⟨al9, t1, t2, rfl, g2, f2⟩ k2 nt2
      have N3 := news_add F1 F2 N2 g2 f2
      clear F1 N1 g2 f2 k2
      simp only [tabOwn, List.cons_append, List.nil_append] at N3
      k_steps
      rename Fr _ _ _ _ => F1
      try dsimp only
      rename News _ _ _ _ => N9
      exact h _ _ _ q2 _ F1 (fun p hp => N9 p (.tail _ hp)) ok2 off2 (by rfl) nt2.same
    · have hI9 : IntsAre ys [5] := wI.out
      refine kso_min F1 N1 ⟨_, (N1 _ (.head _)).1, rfl, _, rfl⟩ hI9 (by decide) rfl ?_
      clear F1 N1
      intro hM M tM tkM F1 N1 hM1 hM2
      obtain rfl : M = 5 := by
        simp only [List.mem_cons, List.not_mem_nil, or_false, forall_eq_or_imp, forall_eq] at hM1 hM2
        lia
      clear hM1 hM2 hI9 wI
      k_steps
      rename Fr _ _ _ _ => F1
      rename News _ _ _ _ => N1
      unfold Hold
      replace N1 := news_sub (b := (L' + 1, oC) :: (46, tabObj q.p1) :: (53, tabObj q.p2) :: (q.c1, q.o1) :: (q.c2, q.o2) :: rest) N1 (by intro p hp; repeat' (first | exact hp | refine List.Mem.tail _ ?_))
      refine useT (q := q) (idm_T G CH CH2 (a := far - near) (by lia) (by lia) (by decide) (by decide)) kg F1 N1 tab9 ok (by lia) (by lia) trivial ((L' + 1, oC) :: rest) (fun p hp => ⟨mem9 p hp, hr p hp⟩) ?_
      rintro v h2 tk2 q2 F2 N2 ok2 off2 ⟨al9, t1, t2, rfl, g2, f2⟩ k2 nt2
      have N3 := news_add F1 F2 N2 g2 f2
      clear F1 N1 g2 f2 k2
      simp only [tabOwn, List.cons_append, List.nil_append] at N3
      k_steps
      rename Fr _ _ _ _ => F1
      try dsimp only
      rename News _ _ _ _ => N9
      exact h _ _ _ q2 _ F1 (fun p hp => N9 p (.tail _ hp)) ok2 off2 (by rfl) nt2.same
    · have hI9 : IntsAre ys [2, 3, 6] := wI.out
      refine kso_min F1 N1 ⟨_, (N1 _ (.head _)).1, rfl, _, rfl⟩ hI9 (by decide) rfl ?_
      clear F1 N1
      intro hM M tM tkM F1 N1 hM1 hM2
      obtain rfl : M = 2 := by
        simp only [List.mem_cons, List.not_mem_nil, or_false, forall_eq_or_imp, forall_eq] at hM1 hM2
        lia
      clear hM1 hM2 hI9 wI
      k_steps
      rename Fr _ _ _ _ => F1
      rename News _ _ _ _ => N9
      try dsimp only
      refine h _ _ _ q _ F1 (news_sub N9 fun p hp => ?_) ok (fun p hp => (hr p hp).2.2) (by rw [step6]; rfl) (SameT.refl q)
      have hp9 : p ∈ (L' + 1, oC) :: (46, tabObj q.p1) :: (53, tabObj q.p2) :: (q.c1, q.o1) :: (q.c2, q.o2) :: rest := (List.mem_append.mp hp).elim (tab9 p) (mem9 p)
      revert hp9
      intro hp
      repeat' (first | exact hp | refine List.Mem.tail _ ?_)
    · have hI9 : IntsAre ys [7] := wI.out
      refine kso_min F1 N1 ⟨_, (N1 _ (.head _)).1, rfl, _, rfl⟩ hI9 (by decide) rfl ?_
      clear F1 N1
      intro hM M tM tkM F1 N1 hM1 hM2
      obtain rfl : M = 7 := by
        simp only [List.mem_cons, List.not_mem_nil, or_false, forall_eq_or_imp, forall_eq] at hM1 hM2
        lia
      clear hM1 hM2 hI9 wI
      k_steps
      rename Fr _ _ _ _ => F1
      rename News _ _ _ _ => N1
      unfold Hold
      replace N1 := news_sub (b := (L' + 1, oC) :: (46, tabObj q.p1) :: (53, tabObj q.p2) :: (q.c1, q.o1) :: (q.c2, q.o2) :: rest) N1 (by intro p hp; repeat' (first | exact hp | refine List.Mem.tail _ ?_))
      refine useT (q := q) (idm_T G CH CH2 (a := far - near) (by lia) (by lia) (by decide) (by decide)) kg F1 N1 tab9 ok (by lia) (by lia) trivial ((L' + 1, oC) :: rest) (fun p hp => ⟨mem9 p hp, hr p hp⟩) ?_
      rintro v h2 tk2 q2 F2 N2 ok2 off2 ⟨al9, t1, t2, rfl, g2, f2⟩ k2 nt2
      have N3 := news_add F1 F2 N2 g2 f2
      clear F1 N1 g2 f2 k2
      simp only [tabOwn, List.cons_append, List.nil_append] at N3
      k_steps
      rename Fr _ _ _ _ => F1
      try dsimp only
      rename News _ _ _ _ => N9
      exact h _ _ _ q2 _ F1 (fun p hp => N9 p (.tail _ hp)) ok2 off2 (by rfl) nt2.same
end Mine
end

/- part W12 -/
section
example : True := by
  k_with_none
  w_top off
  trivial
open PySem PySem.W PyProof.Rows PySem.Calls PySem.Spec
set_option maxRecDepth 100000
set_option rowWalk.seconds 0
namespace Mine
example : hd.heap_1 = hd.heap_1 ∧ PySem.Challenge.rw_pg0285_01 = PySem.Challenge.rw_pg0285_01 := by
  k_fill
  exact ⟨rfl, rfl⟩
set_option pp.maxSteps 100000
set_option pp.deepTerms false
set_option pp.deepTerms.threshold 4

example : True := by
  k_with_none
  k_with "call ref" => (k_here; refine Hold.out ?_)
  k_with "pyIter ref" => refine Hold.out ?_
  k_with "exec For Tuple Call cons nil" => (k_here; (rename Fr _ _ _ _ => lF'); (with_unfolding_all refine' For_invTF lF' ?_ ?ks; (case ks => exact (fun _ => rfl)); k_whole))
  k_with "execs cons" => ((with_reducible show wpAny _ _ (execs (Stmt.Assign [Expr.Name (PySem.Str.ofString "prime") _] _ _ :: _) _) _ _ _); refine Hold.out ?_)
  trivial
theorem ne_data {h : Heap} {a b : Addr} {o1 o2 : Obj} (e1 : h.get? a = some o1) (e2 : h.get? b = some o2) (hn : o1.data ≠ o2.data) : @Ne Nat a b := fun q => by
  have q : a = b := q
  rw [q, e2] at e1; cases e1; exact hn rfl
theorem sum3 (x y z : Int) : [x, y, z].sum = x + y + z := by simp only [List.sum_cons, List.sum_nil]; lia
theorem tab_neA {H h : Heap} {q : TabP} {D : Addr} {o : Obj} (T : TabsAt9 H h q) (e : h.get? D = some o) (ho : ∀ vs, o.data ≠ .fields vs) : @Ne Nat D 46 ∧ @Ne Nat D 53 ∧ @Ne Nat D q.c1 ∧ @Ne Nat D q.c2 :=
  have x := tab_ne T e ho
  ⟨x.1.1, x.1.2, x.2.1, x.2.2⟩
theorem foldl_take {α β : Type} {f : β → α → β} {b : β} {l : List α} {i : Nat} {a : α} (h : l[i]? = some a) : (l.take (i + 1)).foldl f b = f ((l.take i).foldl f b) a := by
  rw [List.take_add_one, h, List.foldl_append]; rfl
/- where the loop over the witnesses stands -/
inductive WaysLoop (al : Addr) (ws : List Value) (k : Nat) (L' : Addr) (q : TabP) (tl : List (Addr × Obj)) (a b c : Int) (i : Nat) (m : Str → Option Value) (nx : List (Addr × Obj)) : Prop
  | mk (q2 : TabP) (o : Obj) (vo : Option Value) (x : Int) (tx : Tok) (hm : ∀ p ∈ [(Str.ofString "ways", Value.int x tx)], m p.1 = some p.2)
      (hnx : ∀ p ∈ [(al, W.listOf ws.toArray k), (L' + 1, o), (46, tabObj q2.p1), (53, tabObj q2.p2), (q2.c1, q2.o1), (q2.c2, q2.o2)], p ∈ nx) (htx : ∀ p ∈ tl, p ∈ nx) (ok : TabsOk q2) (nt : SameT q q2) (ho : o.data = .cell vo)
      (hx : x = ((wits a b c).take i).foldl waysStep 1) : WaysLoop al ws k L' q tl a b c i m nx
theorem WaysLoop.has {al : Addr} {ws : List Value} {k : Nat} {L' : Addr} {q : TabP} {tl : List (Addr × Obj)} {a b c : Int} {i : Nat} {m : Str → Option Value} {nx : List (Addr × Obj)} (I : WaysLoop al ws k L' q tl a b c i m nx) : (al, W.listOf ws.toArray k) ∈ nx := by
  obtain ⟨_, _, _, _, _, _, h, _⟩ := I
  exact h _ (.head _)
set_option maxHeartbeats 8000000 in
theorem ways_T {w : World} {H : Heap} (G : Gnd w H) (CH : CodeHd H 50 46) (CH2 : CodeHd H 57 53) {l : Addr} {vs : List Value} {a b c : Int} (hI : IntsAre vs [a, b, c]) (ha : 0 ≤ a) (hb : 0 ≤ b) (hc : 0 ≤ c) (hs : a + b + c ≤ 6) :
    MeetsT w H 148 [.ref l] 130 500 (fun h => h.IsList l vs.toArray) (fun h v h' => ∃ t, v = .int (waysF a b c) t) := by
  intro dp un fr gd s R q hd hu kp hT hl ret
  have hlen := hI.length
  k_dflt (refine' enterC (tabOwn q) G kp ?k6 ?k7 ?k8 ?k9 ?kB ?kD hT.2 ?_ ?c2 ?c3 ?c4)
  case k6 => k_is
  case k7 => k_is
  case k8 => lia
  case k9 => k_dflt (exact BindsTo.of_eq rfl)
  case kB => exact rfl
  case kD => decide +kernel
  case c2 => exact rfl
  case c3 => exact rfl
  case c4 => exact rfl
  intro g L' h₁ tk₁ cells p loose mean mg mb kg kgs ko ksz F N Y hlt X T
  k_cells Y
  show wpAny _ _ _ _ _ _
  k_fold
  simp only [tabOwn, List.cons_append, List.nil_append] at N
  have hltA := allLt_of hlt
  simp only [AllLt, and_true] at hltA
  have hlg : g.IsList l vs.toArray := by
    obtain ⟨o, e, c, n, d⟩ := hl
    exact ⟨o, ko _ _ e fun hm => tab_no (tab_ne hT e (fun _ x => by rw [d] at x; cases x)) hm, c, n, d⟩
  k_steps
  rename_i oS dS a1 a2 t1 l3 a3 l4 l5 a4 l6 D1 a5 i1 n1 s1 e1 e2 e3 l7 D2 a6 F1 N1 l8
  unfold Hold
  obtain ⟨k1, k2⟩ := Bool.and_eq_true_iff.mp (tri_at leads_ok ha hb hc hs)
  have i2 : IntsAre _ [[a, b, c].sum, 0, 0] := (IntsAre.cons ([a, b, c].sum) t1 .nil).append i1
  clear e2 e3 s1 e1 l4 l6 l7 l8
  replace i2 := Eq.mp (congrArg (IntsAre _) (show [[a, b, c].sum, (0 : Int), 0] = [a + b + c, 0, 0] by rw [sum3])) i2
  refine use0 (lead_meets G i2 (show 3 ≤ 60 by decide) (List.forall_mem_cons.mpr ⟨⟨by lia, by lia⟩, List.forall_mem_cons.mpr ⟨⟨by lia, by lia⟩, List.forall_mem_cons.mpr ⟨⟨by lia, by lia⟩, List.forall_mem_nil _⟩⟩⟩)) kg F1 N1 (by lia) (by lia) ⟨_, (N1 _ (List.Mem.head _)).1, rfl, _, rfl⟩ ?_
  rintro v h2 tk2 F2 N2 ⟨t2, rfl⟩
  replace N2 := news_sub (b := [(46, tabObj q.p1), (53, tabObj q.p2), (q.c1, q.o1), (q.c2, q.o2), (L' + 1, oS)]) N2 (by repeat' (first | exact List.forall_mem_nil _ | refine all_cons (by k_mem) ?_))
  clear F1 N1 i1 i2
  k_steps
  rename Fr _ _ _ _ => F1
  rename News _ _ _ _ => N1
  unfold Hold
  obtain ⟨k3, k4⟩ := Bool.and_eq_true_iff.mp k1
  obtain ⟨k5, k6⟩ := Bool.and_eq_true_iff.mp k2
  refine ws_call G kg F1 N1 (by lia) (by lia) (of_decide_eq_true k3) fun x qx vx h3 tk3 F3 N3 l3 l4 l5 l6 Ix => ?_
  have l3 := allLt_of l3
  simp only [AllLt, and_true] at l3
  simp only [List.cons_append, List.nil_append] at N3
  clear F1 N1
  k_steps
  rename Fr _ _ _ _ => F1
  rename News _ _ _ _ => N1
  unfold Hold
  refine use0 (lead_meets G hI (show 3 ≤ 60 by decide) (List.forall_mem_cons.mpr ⟨⟨by lia, by lia⟩, List.forall_mem_cons.mpr ⟨⟨by lia, by lia⟩, List.forall_mem_cons.mpr ⟨⟨by lia, by lia⟩, List.forall_mem_nil _⟩⟩⟩)) kg F1 N1 (by lia) (by lia) (hlg.at fun o e => F1.keep l o e) ?_
  rintro v h4 tk4 F4 N4 ⟨t4, rfl⟩
  clear F1 N1
  k_steps
  rename Fr _ _ _ _ => F1
  rename News _ _ _ _ => N1
  unfold Hold
  refine ws_call G kg F1 N1 (by lia) (by lia) (of_decide_eq_true k5) fun y qy vy h5 tk5 F5 N5 m3 m4 m5 m6 Iy => ?_
  clear m3 m4 m5 m6 l3 l4 l5 l6
  simp only [List.cons_append, List.nil_append] at N5
  clear F1 N1
  k_steps
  rename Fr _ _ _ _ => F1
  rename News _ _ _ _ => N1
  unfold Hold
  simp only [okWs, Bool.and_eq_true_iff, decide_eq_true_eq, List.all_eq_true] at k4 k6
  obtain ⟨⟨⟨⟨⟨u1, u2⟩, u3⟩, u4⟩, u5⟩, u6⟩ := k4
  obtain ⟨⟨⟨⟨⟨v1, v2⟩, v3⟩, v4⟩, v5⟩, v6⟩ := k6
  refine use0 (wit_meets (q := qx) (r := qy) (vs := vx) (us := vy) G u1 u3 u4 u2 u5 u6 v1 v3 v4 v2 v5 v6) kg F1 N1 (by lia) (by lia) ⟨WsAt.of_news kg N1 (by repeat' (first | exact List.forall_mem_nil _ | refine all_cons (by k_mem) ?_)) Ix, WsAt.of_news kg N1 (by repeat' (first | exact List.forall_mem_nil _ | refine all_cons (by k_mem) ?_)) Iy⟩ ?_
  rintro v h6 tk6 F6 N6 ⟨al, ws, k, tl, rfl, g6, htl, hT6, f6⟩
  obtain ⟨tl, htl2, hT7, hpure⟩ := hT6.pure
  have g6' : (W.listOf ws.toArray k : Obj) = { cls := .type "list", data := .seq ws.toArray k } := rfl
  replace N6 := news_adds F1 F6 (news_add (D := al) (oD := W.listOf ws.toArray k) F1 F6 N6 g6 f6) (fun p hp => htl p (htl2 p hp))
  change TupsIn tl ws (wits a b c) at hT7
  have hwl := hT7.length
  clear u1 u2 u3 u4 u5 u6 v1 v2 v3 v4 v5 v6 k1 k2 k3 k5 hT6
  obtain ⟨wk1, wk2⟩ := Bool.and_eq_true_iff.mp (tri_at wits_ok ha hb hc hs)
  have wk2 := of_decide_eq_true wk2
  have T6 : TabsAt9 H h6 q := ⟨hT.1, fun p hp => ⟨(N6 p (by revert p; exact (by repeat' (first | exact List.forall_mem_nil _ | refine all_cons (by k_mem) ?_)))).1, h_none kg (N6 p (by revert p; exact (by repeat' (first | exact List.forall_mem_nil _ | refine all_cons (by k_mem) ?_)))).2.2⟩⟩
  k_dflt (refine for_listT (its := ws.toArray) (lo := W.listOf ws.toArray k) (k := k)
             (fun i m nx => WaysLoop al ws k L' q tl a b c i m nx)
             rfl F6 N6 g6' (by k_mem) ⟨q, oS, _, 1, _, (by repeat' (first | exact List.forall_mem_nil _ | refine all_cons rfl ?_)), (by repeat' (first | exact List.forall_mem_nil _ | refine all_cons (by k_mem) ?_)), (fun p hp => List.mem_append_right _ hp), hT.1, SameT.refl _, dS, rfl⟩ (fun i m nx I => I.has) ?turn ?done)
  case turn =>
    rintro i v m₁ nx s₁ I oI hv ⟨q2, o, vo, xw, txw, hm, hnx, htx, ok2, nt2, ho, hx⟩ off F N
    obtain ⟨ta9, tt1, tt2, tt3, ⟨sz, far, near⟩, rfl, hti, htm⟩ := hT7.at i v (by simpa using hv)
    have hw := List.all_eq_true.mp wk1 _ (List.mem_of_getElem? hti)
    simp only [okWit, Bool.and_eq_true_iff, decide_eq_true_eq] at hw
    obtain ⟨⟨⟨⟨⟨w1, w2⟩, w3⟩, w4⟩, w5⟩, w6⟩ := hw
    have hw5 : Wrap (0 ≤ (far - near).fdiv sz ∧ (far - near).fdiv sz ≤ 20) := ⟨⟨w5, w6⟩⟩
    have hlt9 : i < (wits a b c).length := (List.getElem?_eq_some_iff.mp hti).1
    have hxw : Wrap (0 ≤ xw ∧ xw ≤ 1000) := by
      have z := List.all_eq_true.mp (tri_at ways_ok ha hb hc hs) i (List.mem_range.mpr (by lia))
      simp only [Bool.and_eq_true_iff, decide_eq_true_eq] at z
      rw [← hx] at z
      exact ⟨by lia, z.2⟩
    have hd9 : dp + 1 + 95 < recursionLimit := by lia
    have hu9 : un + 3 + 420 < cLine := by lia
    clear w5 w6 wk1 wk2 hwl hT7 hlt9
    have Ns : ∀ p ∈ nx, s₁.heap.get? p.1 = some p.2 := fun p hp => (N p (.tail _ hp)).1
    have eC := Ns _ (hnx _ (.tail _ (.head _)))
    have eA := Ns _ (hnx _ (.head _))
    have T1 : TabsAt9 H s₁.heap q2 := ⟨ok2, fun p hp => ⟨Ns p (hnx p (.tail _ (.tail _ hp))), h_none kg (N p (.tail _ (hnx p (.tail _ (.tail _ hp))))).2.2⟩⟩
    have nC := tab_neA T1 eC (fun vs e => by dsimp only at e; rw [ho] at e; cases e)
    have nA := tab_neA T1 eA (fun vs e => nomatch e)
    have nCA := ne_data eC eA (fun e => by dsimp only at e; rw [ho] at e; cases e)
    have nCI : @Ne Nat I (L' + 1) := (off _ (hnx _ (.tail _ (.head _)))).symm
    have hit : ∀ p ∈ tabOwn q2, p ∈ nx := fun p hp => hnx p (.tail _ (.tail _ hp))
    have nCt : ∀ p ∈ tl, @Ne Nat p.1 (L' + 1) := fun p hp => by
      obtain ⟨its, e⟩ := hpure p hp
      refine Ne.symm (ne_data eC (Ns _ (htx p hp)) fun e2 => ?_)
      rw [e] at e2; dsimp only at e2; rw [ho] at e2; cases e2
    have nTt : ∀ p ∈ tl, @Ne Nat p.1 46 ∧ @Ne Nat p.1 53 ∧ @Ne Nat p.1 q2.c1 ∧ @Ne Nat p.1 q2.c2 := fun p hp => by
      obtain ⟨its, e⟩ := hpure p hp
      exact tab_neA T1 (Ns _ (htx p hp)) fun vs e2 => by rw [e] at e2; cases e2
    have hR9 : ∀ o' : Obj, ∀ p ∈ (L' + 1, o') :: (I, oI) :: (al, W.listOf ws.toArray k) :: tl, @Ne Nat p.1 46 ∧ @Ne Nat p.1 53 ∧ @Ne Nat p.1 q2.c1 ∧ @Ne Nat p.1 q2.c2 := fun o' p hp => by
      refine mem_cons_elim hp ?_ fun hp => ?_
      · exact nC
      refine mem_cons_elim hp ?_ fun hp => ?_
      · exact ⟨(off _ (hit _ (.head _))).symm, (off _ (hit _ (.tail _ (.head _)))).symm, (off _ (hit _ (.tail _ (.tail _ (.head _))))).symm, (off _ (hit _ (.tail _ (.tail _ (.tail _ (.head _)))))).symm⟩
      refine mem_cons_elim hp ?_ fun hp => ?_
      · exact nA
      · exact nTt p hp
    have kOff : OwnOff ((46, tabObj q2.p1) :: (53, tabObj q2.p2) :: (q2.c1, q2.o1) :: (q2.c2, q2.o2) :: (I, oI) :: (al, W.listOf ws.toArray k) :: tl) [L' + 1] := fun p hp b hb => by
      rw [List.mem_singleton.mp hb]
      refine mem_cons_elim hp ?_ fun hp => ?_
      · exact Ne.symm nC.1
      refine mem_cons_elim hp ?_ fun hp => ?_
      · exact Ne.symm nC.2.1
      refine mem_cons_elim hp ?_ fun hp => ?_
      · exact Ne.symm nC.2.2.1
      refine mem_cons_elim hp ?_ fun hp => ?_
      · exact Ne.symm nC.2.2.2
      refine mem_cons_elim hp ?_ fun hp => ?_
      · exact nCI
      refine mem_cons_elim hp ?_ fun hp => ?_
      · exact Ne.symm nCA
      · exact nCt p hp
    replace F := bnd_fr F hm
    have N9 := news_sub (b := (ta9, tupOf [.int sz tt1, .int far tt2, .int near tt3]) :: (L' + 1, o) :: (46, tabObj q2.p1) :: (53, tabObj q2.p2) :: (q2.c1, q2.o1) :: (q2.c2, q2.o2) :: (I, oI) :: (al, W.listOf ws.toArray k) :: tl) N (fun p hp => by
      refine mem_cons_elim hp ?_ fun hp => ?_
      · exact .tail _ (htx _ htm)
      refine mem_cons_elim hp ?_ fun hp => ?_
      · exact .tail _ (hnx _ (.tail _ (.head _)))
      rcases List.mem_append.mp (show p ∈ tabOwn q2 ++ (I, oI) :: (al, W.listOf ws.toArray k) :: tl from hp) with hp | hp
      · exact .tail _ (hit p hp)
      refine mem_cons_elim hp ?_ fun hp => ?_
      · exact .head _
      refine mem_cons_elim hp ?_ fun hp => ?_
      · exact .tail _ (hnx _ (.head _))
      · exact .tail _ (htx p hp))
    have nCT : @Ne Nat ta9 (L' + 1) := nCt _ htm
    have keep9 : ∃ z, z = (46, tabObj q2.p1) :: (53, tabObj q2.p2) :: (q2.c1, q2.o1) :: (q2.c2, q2.o2) :: (I, oI) :: (al, W.listOf ws.toArray k) :: tl := ⟨_, rfl⟩
    obtain ⟨z9, hz9⟩ := keep9
    rw [← hz9] at N9 kOff
    have kMark := kstMark
    clear F1 N1 F6 N6 T6 N
    have wA := Wrap.mk nC
    have wB := Wrap.mk nA
    clear nC nA nCA
    show wpAny _ _ _ _ _ _
    k_fold
    k_steps
    rename Fr _ _ _ _ => F1
    rename News _ _ _ _ => N1
    unfold Hold
    rename_i h9 o9 d9 ha9 hb9
    rw [hz9] at N1
    refine ways_turn (m := _) (rest := (I, oI) :: (al, W.listOf ws.toArray k) :: tl) (tt1 := tt1) G CH CH2 kg X T (bnd_fr F1 (ps := [(Str.ofString "near", Value.int near tt3), (Str.ofString "far", Value.int far tt2), (Str.ofString "ways", Value.int xw txw)]) (by repeat' (first | exact List.forall_mem_nil _ | refine all_cons rfl ?_))) (fun p hp => N1 p (.tail _ hp)) d9 ok2 (hR9 _) w1 w2 w3 w4 hw5 hxw hd9 hu9 ?_
    intro h' tk' m' q' t' F' N' ok' off' hm' sm'
    have hI9 : (I, oI) ∈ tabOwn q' ++ (L' + 1, o9) :: (I, oI) :: (al, W.listOf ws.toArray k) :: tl := List.mem_append_right _ (.tail _ (.head _))
    refine ⟨rfl, TurnEnd.intro (tabOwn q' ++ (L' + 1, o9) :: (al, W.listOf ws.toArray k) :: tl) F' N' (fun p hp => ?_) (fun p hp => ?_) ⟨q', o9, _, _, _, List.forall_mem_cons.mpr ⟨hm', List.forall_mem_nil _⟩, (by repeat' (first | exact List.forall_mem_nil _ | refine all_cons (by k_mem) ?_)), fun p hp => List.mem_append_right _ (.tail _ (.tail _ hp)), ok', nt2.trans sm', d9, ?_⟩⟩
    · refine mem_cons_elim hp ?_ fun hp => ?_
      · exact hI9
      rcases List.mem_append.mp hp with hp | hp
      · exact List.mem_append_left _ hp
      refine mem_cons_elim hp ?_ fun hp => ?_
      · exact List.mem_append_right _ (.head _)
      · exact List.mem_append_right _ (.tail _ (.tail _ hp))
    · have oI := off' _ (.tail _ (.head _))
      rcases List.mem_append.mp hp with hp | hp
      · refine mem_cons_elim hp ?_ fun hp => ?_
        · exact off (46, tabObj q2.p1) (hit _ (.head _))
        refine mem_cons_elim hp ?_ fun hp => ?_
        · exact off (53, tabObj q2.p2) (hit _ (.tail _ (.head _)))
        refine mem_cons_elim hp ?_ fun hp => ?_
        · exact oI.1.symm
        · rw [List.mem_singleton.mp hp]; exact oI.2.symm
      refine mem_cons_elim hp ?_ fun hp => ?_
      · exact nCI.symm
      refine mem_cons_elim hp ?_ fun hp => ?_
      · exact off _ (hnx _ (.head _))
      · exact off _ (htx _ hp)
    · rw [foldl_take hti, ← hx]
  case done =>
    rintro m₁ nx h tk ⟨q2, o, vo, x9, tx, hm, hnx, htx, ok2, sm, ho, hx⟩ F N
    dsimp only
    replace F := bnd_fr F hm
    have hit : ∀ p ∈ tabOwn q2, p ∈ nx := fun p hp => hnx p (.tail _ (.tail _ hp))
    clear F1 N1 F6 N6
    k_steps
    dsimp only
    k_unfold
    dsimp only
    have T9 : TabsAt9 H h q2 := ⟨ok2, fun p hp => ⟨(N p (hit p hp)).1, h_none kg (N p (hit p hp)).2.2⟩⟩
    have nt : NewT s.heap q q2 := newT_of hT.1 T9 sm (fun a ha e => none_own ko e ha) (N _ (hit _ (.tail _ (.tail _ (.head _))))).2.2 (N _ (hit _ (.tail _ (.tail _ (.tail _ (.head _)))))).2.2
    refine ret _ _ _ q2 (keepT_of (own := []) ko F N hit nt (List.forall_mem_nil _) (fun p hp => (hT.2 p hp).1)) T9 nt ⟨tx, ?_⟩
    rw [hx, List.take_of_length_le (by rw [List.size_toArray, hwl]; exact Nat.le_refl _)]
    rfl
end Mine
end

/- part Cmp2 -/
section
example : True := by
  k_with_none
  w_top off
  trivial
open PySem PySem.W PyProof.Rows PySem.Calls PySem.Spec
set_option maxRecDepth 100000
namespace Mine
/- a comprehension of two clauses, no tests -/
noncomputable abbrev lc2 (elt : Expr) (x1 : Str) (p1 : Pos) (it1 : Expr) (x2 : Str) (p2 : Pos) (it2 : Expr) (scope : Scope) (pos : Pos) : Expr := .ListComp elt [⟨.Name x1 p1, it1, [], 0⟩, ⟨.Name x2 p2, it2, [], 0⟩] scope pos
section
variable {elt it1 it2 : Expr} {x1 x2 : Str} {p1 p2 pos : Pos} {scope : Scope}
theorem turn_in (it acc : Value) (env : Env) : compTurn (lc2 elt x1 p1 it1 x2 p2 it2 scope pos) 1 it acc env = (standAt it2.pos >>= fun _ => pyNext it >>= fun r => match r with
      | none => pure (.done .next)
      | some v => letOwnedTupleGo (.Name x2 p2) it v >>= fun _ => assign (.Name x2 p2) env v >>= fun _ =>
        (eval elt env >>= fun x => call (.builtin "list.append") [acc, x] >>= fun _ => pure ()) >>= fun _ =>
          again (.compLoop (lc2 elt x1 p1 it1 x2 p2 it2 scope pos) 1 it acc env)) := by rfl
theorem turn_out (it acc : Value) (env : Env) : compTurn (lc2 elt x1 p1 it1 x2 p2 it2 scope pos) 0 it acc env = (standAt it1.pos >>= fun _ => pyNext it >>= fun r => match r with
      | none => pure (.done .next)
      | some v => letOwnedTupleGo (.Name x1 p1) it v >>= fun _ => assign (.Name x1 p1) env v >>= fun _ =>
        (eval it2 env >>= fun x => standAt it2.pos >>= fun _ => foldedSetIterable it2 env x >>= fun x => holding [x] (pyIter x) >>= fun j =>
          runOwn (.compStart (lc2 elt x1 p1 it1 x2 p2 it2 scope pos) 1 j acc env) env >>= fun _ => again (.compLoop (lc2 elt x1 p1 it1 x2 p2 it2 scope pos) 0 it acc env))) := by rfl
variable {prog : Program} {w : World} {A : Around} {R : Result → Shared → Prop} {s : Shared} {it acc : Value} {env : Env}
theorem loop_in (I : Nat → Shared → Prop)
    (turn : ∀ n s, I n s → wpAny (model prog w) A (pyNext it) (fun r s₁ => match r with
      | none => R (.ok .next) s₁
      | some v => wpAny (model prog w) A (assign (.Name x2 p2) env v) (fun _ s₂ => wpAny (model prog w) A (eval elt env) (fun x s₃ =>
          wpAny (model prog w) A (call (.builtin "list.append") [acc, x]) (fun _ s₄ => ∃ m, m < n ∧ I m s₄) (notedBy (model prog w) A env fun e s' => R (.error e) s') s₃) (notedBy (model prog w) A env fun e s' => R (.error e) s') s₂) (notedBy (model prog w) A env fun e s' => R (.error e) s') s₁) (notedBy (model prog w) A env fun e s' => R (.error e) s') s)
    (n : Nat) (h : I n s) : codeAny (model prog w) A (.compLoop (lc2 elt x1 p1 it1 x2 p2 it2 scope pos) 1 it acc env) R s := by
  refine codeAny_loop rfl I (fun n s hI => ?_) n h
  show wpAny _ A ((compTurn (lc2 elt x1 p1 it1 x2 p2 it2 scope pos) 1 it acc env).onRaise (fun x => do noteFrame x env; theTreesLotGoes x)) _ _ s
  refine wpAny_noted ?_
  rw [turn_in]
  refine wpAny_bind (wpAny_standAt (wpAny_bind (wpAny_mono (turn n s hI) (fun r s₁ h₁ => ?_) fun _ _ h' => h')))
  cases r with
  | none => exact wpAny_pure h₁
  | some v =>
    refine wpAny_bind (wpAny_pure (wpAny_bind (wpAny_mono h₁ (fun _ s₂ h₂ => ?_) fun _ _ h' => h')))
    exact wpAny_bind (wpAny_bind (wpAny_mono h₂ (fun x s₄ h₄ => wpAny_bind (wpAny_mono h₄ (fun _ s₅ h₅ => wpAny_pure (wpAny_pure ⟨rfl, h₅⟩)) fun _ _ h' => h')) fun _ _ h' => h'))
theorem loop_out (I : Nat → Shared → Prop) (hs : ∀ x, foldedSetIterable it2 env x = pure x)
    (turn : ∀ n s, I n s → wpAny (model prog w) A (pyNext it) (fun r s₁ => match r with
      | none => R (.ok .next) s₁
      | some v => wpAny (model prog w) A (assign (.Name x1 p1) env v) (fun _ s₂ => wpAny (model prog w) A (eval it2 env) (fun x s₃ =>
          wpAny (model prog w) A (pyIter x) (fun j s₄ => codeAny (model prog w) A (.compStart (lc2 elt x1 p1 it1 x2 p2 it2 scope pos) 1 j acc env) (fun r s₅ => match r with
            | .ok _ => ∃ m, m < n ∧ I m s₅
            | .error e => cameBackBy (model prog w) A env (notedBy (model prog w) A env fun e s' => R (.error e) s') e s₅) s₄) (notedBy (model prog w) A env fun e s' => R (.error e) s') s₃) (notedBy (model prog w) A env fun e s' => R (.error e) s') s₂) (notedBy (model prog w) A env fun e s' => R (.error e) s') s₁) (notedBy (model prog w) A env fun e s' => R (.error e) s') s)
    (n : Nat) (h : I n s) : codeAny (model prog w) A (.compLoop (lc2 elt x1 p1 it1 x2 p2 it2 scope pos) 0 it acc env) R s := by
  refine codeAny_loop rfl I (fun n s hI => ?_) n h
  show wpAny _ A ((compTurn (lc2 elt x1 p1 it1 x2 p2 it2 scope pos) 0 it acc env).onRaise (fun x => do noteFrame x env; theTreesLotGoes x)) _ _ s
  refine wpAny_noted ?_
  rw [turn_out]
  refine wpAny_bind (wpAny_standAt (wpAny_bind (wpAny_mono (turn n s hI) (fun r s₁ h₁ => ?_) fun _ _ h' => h')))
  cases r with
  | none => exact wpAny_pure h₁
  | some v =>
    refine wpAny_bind (wpAny_pure (wpAny_bind (wpAny_mono h₁ (fun _ s₂ h₂ => ?_) fun _ _ h' => h')))
    refine wpAny_bind (wpAny_mono h₂ (fun x s₃ h₃ => ?_) fun _ _ h' => h')
    refine wpAny_bind (wpAny_standAt (wpAny_bind (wpAny_of_eq (hs x) (wpAny_bind (wpAny_holding (wpAny_mono h₃ (fun j s₄ h₄ => ?_) fun _ _ h' => h'))))))
    refine wpAny_bind (wpAny_runOwn (codeAny_mono h₄ fun r s₅ h₅ => ?_))
    cases r with
    | ok f => exact wpAny_pure ⟨rfl, h₅⟩
    | error e => exact h₅
theorem start_in (h0 : codeAny (model prog w) A (.compLoop (lc2 elt x1 p1 it1 x2 p2 it2 scope pos) 1 it acc env) R s)
    (h : wpAny (model prog w) A (pyIter it) (fun it' s' => codeAny (model prog w) A (.compLoop (lc2 elt x1 p1 it1 x2 p2 it2 scope pos) 1 it' acc env) R s')
      (notedBy (model prog w) A env fun x s' => R (.error x) s') s) :
    codeAny (model prog w) A (.compStart (lc2 elt x1 p1 it1 x2 p2 it2 scope pos) 1 it acc env) R s := by
  refine codeAny_of_tree ?_
  show wpAny _ _ ((compStart (lc2 elt x1 p1 it1 x2 p2 it2 scope pos) 1 it acc env).onRaise (fun x => do noteFrame x env; standAt theWindowsPlace)) _ _ s
  refine wpAny_notedAt ?_
  unfold compStart
  show wpAny _ _ (ask >>= _) _ _ s
  refine wpAny_bind (wpAny_askSetting (wpAny_ite ?_))
  split
  · first
      | exact wpAny_bind (wpAny_pure (wpAny_pure (And.intro rfl h0)))
      | exact wpAny_pure (And.intro rfl h0)
  · refine wpAny_bind (wpAny_rule ?_)
    show wpAny _ _ (standAt it2.pos >>= _) _ _ s
    exact wpAny_bind (wpAny_standAt (wpAny_bind (wpAny_mono h (fun it' s' h' => wpAny_pure (And.intro rfl h')) fun _ _ x => x)))
end
end Mine
end

/- part Cmp3 -/
section
example : True := by
  k_with_none
  w_top off
  trivial
open PySem PySem.W PyProof.Rows PySem.Calls PySem.Spec PyProof.Rows.LCg
set_option maxRecDepth 100000
namespace Mine
noncomputable def inAll (f : Str → Nat → Str) (x : Str) : List Str := (List.range (x.length + 1)).map (f x)
noncomputable def allIn (f : Str → Nat → Str) (xs : List Str) : List Str := xs.flatMap (inAll f)
theorem allIn_snoc {f : Str → Nat → Str} {xs : List Str} {i : Nat} {x : Str} (h : xs[i]? = some x) : allIn f (xs.take (i + 1)) = allIn f (xs.take i) ++ inAll f x := by
  unfold allIn
  rw [List.take_add_one, h, List.flatMap_append]; simp
theorem StrsAre.append9 {vs us : List Value} {xs ys : List Str} (a : StrsAre vs xs) (b : StrsAre us ys) : StrsAre (vs ++ us) (xs ++ ys) := by
  induction a with
  | nil => exact b
  | cons x t _ ih => exact .cons x t ih
section
variable {elt it1 it2 : Expr} {x1 x2 : Str} {p1 p2 pos : Pos} {scope : Scope}
variable {prog : Program} {w : World} {A : Around} {R : Result → Shared → Prop} {s s₁ : Shared} {env : Env} {E : Value → Shared → Prop} {h₀ : Heap} {L : Addr} {m : Str → Option Value} {news : List (Addr × Obj)} {cl : List (Str × Addr)} {f : Str → Nat → Str}
/- the element of the comprehension -/
noncomputable abbrev EltStep (prog : Program) (w : World) (A : Around) (h₀ : Heap) (L : Addr) (m : Str → Option Value) (news : List (Addr × Obj)) (env : Env) (elt : Expr) (x1 x2 : Str) (scope : Scope) (cl : List (Str × Addr)) (s₁ : Shared) (f : Str → Nat → Str) (xs : List Str) : Prop :=
  ∀ x t (k : Nat) tk0 J oJ I oI C oC D m₂ ys h tk (E' : Value → Shared → Prop), x ∈ xs → k ≤ x.length → NsObj oC m₂ → m₂ x1 = some (.str x t) → m₂ x2 = some (.int k tk0) → Fr h₀ L h m → News h₀ L h ((J, oJ) :: (I, oI) :: (C, oC) :: (D, lst ys) :: news) →
    wpAny (model prog w) A (eval elt (compEnvC scope cl C env)) (fun y s' => ∃ h' tk' t', y = .str (f x k) t' ∧ s' = { s₁ with heap := h', toks := tk' } ∧ Fr h₀ L h' m ∧ News h₀ L h' ((J, oJ) :: (I, oI) :: (C, oC) :: (D, lst ys) :: news)) E' { s₁ with heap := h, toks := tk }
noncomputable abbrev RngStep (prog : Program) (w : World) (A : Around) (h₀ : Heap) (L : Addr) (m : Str → Option Value) (news : List (Addr × Obj)) (env : Env) (it2 : Expr) (x1 : Str) (scope : Scope) (cl : List (Str × Addr)) (s₁ : Shared) (xs : List Str) : Prop :=
  ∀ x t I oI C oC D m₂ ys h tk (E' : Value → Shared → Prop), x ∈ xs → NsObj oC m₂ → m₂ x1 = some (.str x t) → Fr h₀ L h m → News h₀ L h ((I, oI) :: (C, oC) :: (D, lst ys) :: news) →
    wpAny (model prog w) A (eval it2 (compEnvC scope cl C env)) (fun v s' => ∃ r h' tk' a b c, v = .ref r ∧ s' = { s₁ with heap := h', toks := tk' } ∧ IsRange h' r 0 ((x.length : Int) + 1) 1 a b c ∧ Fr h₀ L h' m ∧ News h₀ L h' ((I, oI) :: (C, oC) :: (D, lst ys) :: news)) E' { s₁ with heap := h, toks := tk }
/- where the inner loop stands -/
inductive InSt (h₀ : Heap) (L : Addr) (m : Str → Option Value) (news : List (Addr × Obj)) (s₁ : Shared) (f : Str → Nat → Str) (x1 x : Str) (t : Tok) (I C D J : Addr) (oI : Obj) (ys0 : List Value) (ss0 : List Str) (n : Nat) (s' : Shared) : Prop
  | mk (h' : Heap) (tk' j : Nat) (ys : List Value) (m' : Str → Option Value) (e : s' = { s₁ with heap := h', toks := tk' }) (hj : j ≤ x.length + 1) (hn : n = x.length + 1 + 1 - j) (hit : IsRangeIter h' J (0 + (j : Int) * 1) (((x.length + 1 : Nat) : Int) - (j : Int)) 1) (F : Fr h₀ L h' m) (hN : h'.Ns C m')
      (hm : m' x1 = some (.str x t)) (N : News h₀ L h' ((I, oI) :: (D, lst ys) :: news)) (hy : ys.length = ys0.length + j) (hS : StrsAre ys (ss0 ++ (List.range j).map (f x))) : InSt h₀ L m news s₁ f x1 x t I C D J oI ys0 ss0 n s'
theorem comp2_in (hh : A.handled = none) (hkind : scope.kind = .function) (hx2 : scope.names.lookup x2 = some .local) (hne : x1 ≠ x2) {xs : List Str} (step : EltStep prog w A h₀ L m news env elt x1 x2 scope cl s₁ f xs)
    {x : Str} {t : Tok} (hx : x ∈ xs) {I C D J : Addr} {oI : Obj} (hJ : J ≠ I ∧ J ≠ C ∧ J ≠ D ∧ J ≠ L ∧ h₀.get? J = none) (hI : I ≠ C ∧ I ≠ D ∧ I ≠ L ∧ h₀.get? I = none) (hC : C ≠ D ∧ C ≠ L ∧ h₀.get? C = none) (hD : D ≠ L ∧ h₀.get? D = none) (off : ∀ p ∈ news, p.1 ≠ J ∧ p.1 ≠ I ∧ p.1 ≠ C ∧ p.1 ≠ D) {ys0 : List Value} {ss0 : List Str} (h0 : StrsAre ys0 ss0) (hlen : ys0.length + x.length + 1 ≤ 100000)
    {h : Heap} {tk : Nat} {m' : Str → Option Value} (hm' : m' x1 = some (.str x t)) (hit : IsRangeIter h J (0 + ((0 : Nat) : Int) * 1) (((x.length + 1 : Nat) : Int) - ((0 : Nat) : Int)) 1) (F : Fr h₀ L h m) (hn : h.Ns C m') (N : News h₀ L h ((I, oI) :: (D, lst ys0) :: news))
    (hR : ∀ h' tk' m' ys, Fr h₀ L h' m → h'.Ns C m' → News h₀ L h' ((I, oI) :: (D, lst ys) :: news) → StrsAre ys (ss0 ++ inAll f x) → R (.ok .next) { s₁ with heap := h', toks := tk' }) :
    codeAny (model prog w) A (.compLoop (lc2 elt x1 p1 it1 x2 p2 it2 scope pos) 1 (.ref J) (.ref D) (compEnvC scope cl C env)) R { s₁ with heap := h, toks := tk } := by
  obtain ⟨j1, j2, j3, j4, j5⟩ := hJ
  obtain ⟨i1, i2, i3, i4⟩ := hI
  obtain ⟨c1, c2, c3⟩ := hC
  have W := range_walks (prog := prog) (w := w) (A := A) (I := J) hh 0 (x.length + 1)
  refine loop_in (fun n s' => InSt h₀ L m news s₁ f x1 x t I C D J oI ys0 ss0 n s') ?_ (x.length + 1 + 1)
    ⟨h, tk, 0, ys0, m', rfl, Nat.zero_le _, rfl, hit, F, hn, hm', N, rfl, by simpa using h0⟩
  rintro n s' ⟨h', tk', j, ys, m', rfl, hj, rfl, hit', F', hn', hm', N', hy, hS⟩
  by_cases hlt : j < x.length + 1
  · refine W.item j _ _ _ hlt hit' fun v h₂ tk₂ hP hit₂ hk₂ => ?_
    obtain ⟨tv, rfl⟩ := hP
    refine wpAny_assign_Name (wpAny_storeName_local (lookup_relabel_local hx2) (hn'.at' fun o e => hk₂ _ o (by simpa using j2.symm) e) (fun h₃ hn₃ hs₃ => ?_) (by simp [compEnvC, relabel, hkind]))
    obtain ⟨oC, heC, hoC⟩ := ns_obj hn₃
    have F₃ : Fr h₀ L h₃ m := (fr_but F' hk₂ (Ne.symm j4) j5).change hs₃ c2 c3
    have hit₃ : IsRangeIter h₃ J (0 + ((j + 1 : Nat) : Int) * 1) (((x.length + 1 : Nat) : Int) - ((j + 1 : Nat) : Int)) 1 := hs₃.extBut _ _ j2 hit₂
    have N₃ : News h₀ L h₃ ((J, _) :: (I, oI) :: (C, oC) :: (D, lst ys) :: news) := fun p hp => by
      refine mem_cons_elim hp ?_ fun hp => ?_
      · exact ⟨hit₃, j4, j5⟩
      refine mem_cons_elim hp ?_ fun hp => ?_
      · have z := N' _ (.head _)
        exact ⟨hs₃.extBut _ _ i1 (hk₂ _ _ (by simpa using j1.symm) z.1), z.2⟩
      refine mem_cons_elim hp ?_ fun hp => ?_
      · exact ⟨heC, c2, c3⟩
      have z := N' p (.tail _ hp)
      refine ⟨hs₃.extBut _ _ ?_ (hk₂ _ _ ?_ z.1), z.2⟩
      · refine mem_cons_elim hp ?_ fun hp => ?_
        · exact c1.symm
        · exact (off p hp).2.2.1
      · refine mem_cons_elim hp ?_ fun hp => ?_
        · simpa using j3.symm
        · simpa using (off p hp).1
    refine wpAny_mono (step x t j tv J _ I oI C oC D _ ys h₃ _ _ hx (by lia) hoC (by rw [if_neg hne]; exact hm') (by rw [if_pos rfl]; simp) F₃ N₃) (fun y s₄ h₄ => ?_) fun _ _ e => e
    obtain ⟨h₄, tk₄, t', rfl, rfl, F₄, N₄⟩ := h₄
    have zJ := (N₄ _ (.head _)).1
    have zC := (N₄ (C, oC) (.tail _ (.tail _ (.head _)))).1
    have zD := (N₄ (D, lst ys) (.tail _ (.tail _ (.tail _ (.head _))))).1
    refine append_at (hsz := by show ys.toArray.size ≤ sizeLine; rw [List.size_toArray, hy, sizeLine_eq]; lia) zD fun h₅ hs₅ hD₅ => ?_
    refine ⟨x.length + 1 + 1 - (j + 1), by lia, h₅, tk₄, j + 1, ys ++ [.str (f x j) t'], _, rfl, hlt, rfl, hs₅.extBut _ _ j3 zJ, F₄.change hs₅ hD.1 hD.2, (hoC.ns zC).sameBut hs₅ c1, ?_, fun p hp => ?_, by rw [List.length_append, hy]; rfl, ?_⟩
    · rw [if_neg hne]; exact hm'
    · refine mem_cons_elim hp ?_ fun hp => ?_
      · have z := N₄ (I, oI) (.tail _ (.head _))
        exact ⟨hs₅.extBut _ _ i2 z.1, z.2⟩
      refine mem_cons_elim hp ?_ fun hp => ?_
      · exact ⟨hD₅.trans (congrArg some (lst_snoc ys _)), hD.1, hD.2⟩
      · have z := N₄ p (.tail _ (.tail _ (.tail _ (.tail _ hp))))
        exact ⟨hs₅.extBut _ _ (off p hp).2.2.2 z.1, z.2⟩
    · rw [List.range_succ, List.map_append, ← List.append_assoc]
      exact StrsAre.append9 hS (.cons _ _ .nil)
  · obtain rfl : j = x.length + 1 := by lia
    refine W.done _ _ _ hit' fun h₂ tk₂ hk₂ => ?_
    refine hR h₂ tk₂ m' ys (fr_but F' hk₂ (Ne.symm j4) j5) (hn'.at' fun o e => hk₂ _ o (by simpa using j2.symm) e) (news_but N' hk₂ fun p hp => ?_) hS
    refine mem_cons_elim hp ?_ fun hp => ?_
    · exact j1.symm
    refine mem_cons_elim hp ?_ fun hp => ?_
    · exact j3.symm
    · exact (off p hp).1
end
end Mine
end

/- part Cmp4 -/
section
example : True := by
  k_with_none
  w_top off
  trivial
open PySem PySem.W PyProof.Rows PySem.Calls PySem.Spec PyProof.Rows.LCg
set_option maxRecDepth 100000
namespace Mine
section
variable {elt it1 it2 : Expr} {x1 x2 : Str} {p1 p2 pos : Pos} {scope : Scope}
variable {prog : Program} {w : World} {A : Around} {s : Shared} {env : Env} {E : Value → Shared → Prop} {h₀ : Heap} {L : Addr} {m : Str → Option Value} {cl : List (Str × Addr)}
/- what the first clause's source must bring -/
noncomputable def Src2 (prog : Program) (w : World) (A : Around) (h₀ : Heap) (L : Addr) (m : Str → Option Value) (env : Env) (elt it2 : Expr) (x1 x2 : Str) (scope : Scope) (cl : List (Str × Addr)) (f : Str → Nat → Str) (Q : Value → Shared → Prop) (xv : Value) (s₁ : Shared) : Prop :=
  ∃ l k its xs news, xv = .ref l ∧ A.handled = none ∧ Fr h₀ L s₁.heap m ∧ News h₀ L s₁.heap news ∧ (l, ({ cls := .type "list", data := .seq its k } : Obj)) ∈ news ∧ StrsAre its.toList xs ∧ xs.length ≤ 1000 ∧ (∀ x ∈ xs, x.length ≤ 50) ∧
    RngStep prog w A h₀ L m news env it2 x1 scope cl s₁ xs ∧ EltStep prog w A h₀ L m news env elt x1 x2 scope cl s₁ f xs ∧
    ∀ D h tk vs, StrsAre vs (allIn f xs) → Fr h₀ L h m → News h₀ L h ((D, lst vs) :: news) → (∀ p ∈ news, p.1 < D) → Q (.ref D) { s₁ with heap := h, toks := tk }
theorem allIn_len {f : Str → Nat → Str} {xs : List Str} (h : ∀ x ∈ xs, x.length ≤ 50) : (allIn f xs).length ≤ 51 * xs.length := by
  unfold allIn
  induction xs with
  | nil => exact Nat.le_refl _
  | cons x r ih =>
    rw [List.flatMap_cons, List.length_append, List.length_cons]
    have h1 := h x (.head _)
    have h2 := ih fun y hy => h y (.tail _ hy)
    have h3 : (inAll f x).length = x.length + 1 := by unfold inAll; rw [List.length_map, List.length_range]
    lia
/- where the outer loop stands -/
inductive OutSt (h₀ : Heap) (L : Addr) (m : Str → Option Value) (news : List (Addr × Obj)) (s₁ : Shared) (f : Str → Nat → Str) (xs : List Str) (l I D C : Addr) (n : Nat) (s' : Shared) : Prop
  | mk (h' : Heap) (tk i : Nat) (ys : List Value) (m' : Str → Option Value) (e : s' = { s₁ with heap := h', toks := tk }) (hi : i ≤ xs.length) (hn : n = xs.length + 1 - i) (hit : h'.IsListIter I l i) (F : Fr h₀ L h' m) (hN : h'.Ns C m')
      (N : News h₀ L h' ((D, lst ys) :: news)) (hS : StrsAre ys (allIn f (xs.take i))) : OutSt h₀ L m news s₁ f xs l I D C n s'
theorem comp2_eval {Q : Value → Shared → Prop} (_F₀ : Fr h₀ L s.heap m) (f : Str → Nat → Str) (hclos : closureFor scope env = pure cl) (hcell : ∀ y ∈ scope.names, y.2 ≠ .cell) (hkind : scope.kind = .function)
    (hnames : ∀ y ∈ scope.names, y.2 = .local → scope.names.lookup y.1 = some .local) (hx1 : scope.names.lookup x1 = some .local) (hx2 : scope.names.lookup x2 = some .local) (hne : x1 ≠ x2)
    (h : wpAny (model prog w) A (eval it1 env) (Src2 prog w A h₀ L m env elt it2 x1 x2 scope cl f Q) E s)
    (hs : ∀ x, foldedSetIterable it1 env x = pure x) (hs2 : ∀ C x, foldedSetIterable it2 (compEnvC scope cl C env) x = pure x) :
    wpAny (model prog w) A (eval (lc2 elt x1 p1 it1 x2 p2 it2 scope pos) env) Q E s := by
  rw [eval_ListComp]
  refine wpAny_comprehension_free (use := none) rfl hs hclos hkind hnames (wpAny_mono h (fun xv s₁ h₁ => ?_) fun _ _ e => e)
  obtain ⟨l, k, its, xs, news, rfl, hh, F, N, hl, hI, hxs, hxl, rng, stp, fin⟩ := h₁
  have hlen : its.size = xs.length := by rw [← Array.length_toList]; exact hI.length
  have hli : s₁.heap.IsList l its := ⟨_, (N _ hl).1, rfl, _, rfl⟩
  refine wpAny_pyIter_list hli ?_
  refine wpAny_newObj_type (wpAny_newFunctionEnv hcell (by intro y hy; simp at hy) (fun h₁ hns₁ hsb₁ => ?_) hkind)
  dsimp only at hns₁ hsb₁ ⊢
  have zI : (s₁.heap.push { cls := .type "list_iterator", data := .fields #[.ref l, .int 0 0] }).objs.size = s₁.heap.objs.size + 1 := Heap.size_push _ _
  generalize hH1 : s₁.heap.push { cls := .type "list_iterator", data := .fields #[.ref l, .int 0 0] } = H1 at hns₁ hsb₁ zI ⊢
  have zD : (H1.push { cls := .type "list", dict := none, data := .seq ([] : List Value).toArray }).objs.size = H1.objs.size + 1 := Heap.size_push _ _
  generalize hH2 : H1.push { cls := .type "list", dict := none, data := .seq ([] : List Value).toArray } = H2 at hns₁ hsb₁ zD ⊢
  have up1 : ∀ b o, s₁.heap.get? b = some o → H1.get? b = some o := fun b o e => by rw [← hH1]; exact Heap.get?_push_of_some _ e
  have up2 : ∀ b o, H1.get? b = some o → H2.get? b = some o := fun b o e => by rw [← hH2]; exact Heap.get?_push_of_some _ e
  have nI : H1.get? s₁.heap.objs.size = some { cls := .type "list_iterator", data := .fields #[.ref l, .int 0 0] } := by rw [← hH1]; exact Heap.get?_push_size _ rfl
  have nD : H2.get? H1.objs.size = some (lst []) := by rw [← hH2]; exact Heap.get?_push_size _ rfl
  have up : ∀ b o, s₁.heap.get? b = some o → h₁.get? b = some o := fun b o e => by
    have hb := Heap.lt_size e
    refine hsb₁.extBut b o ?_ (Heap.get?_push_of_some _ (up2 _ _ (up1 _ _ e)))
    show b ≠ H2.objs.size
    rw [zD, zI]; exact Nat.ne_of_lt (Nat.lt_trans hb (Nat.lt_trans (Nat.lt_succ_self _) (Nat.lt_succ_self _)))
  have fresh₀ : ∀ a, s₁.heap.objs.size ≤ a → h₀.get? a = none := fun a ha => by
    cases e : h₀.get? a with
    | none => rfl
    | some o' => exact absurd (Heap.lt_size (F.keep a o' e)) (Nat.not_lt.mpr ha)
  have hLlt : L < s₁.heap.objs.size := F.ns.lt
  have nlt : ∀ p ∈ news, p.1 < s₁.heap.objs.size := fun p hp => Heap.lt_size (N p hp).1
  -- the three new ones
  have cI : @Ne Nat s₁.heap.objs.size H1.objs.size := by rw [zI]; exact Nat.ne_of_lt (Nat.lt_succ_self _)
  have cIC : @Ne Nat s₁.heap.objs.size H2.objs.size := by rw [zD, zI]; exact Nat.ne_of_lt (Nat.lt_trans (Nat.lt_succ_self _) (Nat.lt_succ_self _))
  have cDC : @Ne Nat H1.objs.size H2.objs.size := by rw [zD]; exact Nat.ne_of_lt (Nat.lt_succ_self _)
  have I₀ : h₀.get? s₁.heap.objs.size = none := fresh₀ _ (Nat.le_refl _)
  have D₀ : h₀.get? H1.objs.size = none := fresh₀ _ (by rw [zI]; exact Nat.le_succ _)
  have C₀ : h₀.get? H2.objs.size = none := fresh₀ _ (by rw [zD, zI]; exact Nat.le_trans (Nat.le_succ _) (Nat.le_succ _))
  have eI : s₁.heap.objs.size ≠ L := Ne.symm (Nat.ne_of_lt hLlt)
  have eD : H1.objs.size ≠ L := by rw [zI]; exact Ne.symm (Nat.ne_of_lt (Nat.lt_succ_of_lt hLlt))
  have eC : H2.objs.size ≠ L := by rw [zD, zI]; exact Ne.symm (Nat.ne_of_lt (Nat.lt_succ_of_lt (Nat.lt_succ_of_lt hLlt)))
  have off : ∀ p ∈ news, p.1 ≠ s₁.heap.objs.size ∧ p.1 ≠ H2.objs.size ∧ p.1 ≠ H1.objs.size := fun p hp => by
    have := nlt p hp
    refine ⟨Nat.ne_of_lt this, ?_, ?_⟩
    · rw [zD, zI]; exact Nat.ne_of_lt (Nat.lt_succ_of_lt (Nat.lt_succ_of_lt this))
    · rw [zI]; exact Nat.ne_of_lt (Nat.lt_succ_of_lt this)
  have gI : h₁.get? s₁.heap.objs.size = some { cls := .type "list_iterator", data := .fields #[.ref l, .int 0 0] } :=
    hsb₁.extBut _ _ cIC (Heap.get?_push_of_some _ (up2 _ _ nI))
  have gD : h₁.get? H1.objs.size = some (lst []) := hsb₁.extBut _ _ cDC (Heap.get?_push_of_some _ nD)
  have loop : ∀ s₃ : Shared, s₃ = { s₁ with heap := h₁, toks := s₁.toks + ([] : List (Str × Value)).length } →
      codeAny (model prog w) A (.compLoop (lc2 elt x1 p1 it1 x2 p2 it2 scope pos) 0 (.ref s₁.heap.objs.size) (.ref H1.objs.size) (compEnvC scope cl H2.objs.size env)) (compPost (model prog w) A E none Q (.ref H1.objs.size) H2.objs.size) s₃ := by
    rintro s₃ rfl
    refine loop_out (fun n s' => OutSt h₀ L m news s₁ f xs l s₁.heap.objs.size H1.objs.size H2.objs.size n s')
      (hs2 _) ?_ (xs.length + 1) ⟨h₁, _, 0, [], _, rfl, Nat.zero_le _, rfl, ⟨_, gI, rfl, rfl⟩, F.keeps up, hns₁, fun p hp => ?_, .nil⟩
    · rintro n s' ⟨h', tk, i, ys, m', rfl, hi, rfl, hit, F', hn', N', hS⟩
      have hli' : h'.IsList l its := ⟨_, (N' _ (.tail _ hl)).1, rfl, _, rfl⟩
      have hlI : l ≠ s₁.heap.objs.size := (off _ hl).1
      by_cases hlt : i < xs.length
      · obtain ⟨v, hv⟩ : ∃ v, its[i]? = some v := ⟨its[i]'(by lia), by simp⟩
        obtain ⟨x, t, rfl, hx⟩ := strsAre_at hI i v (by rw [Array.getElem?_toList]; exact hv)
        have hxm : x ∈ xs := List.mem_of_getElem? hx
        refine wpAny_pyNext_list_item hit hli' hv fun h₂ hit₂ hs₂ => ?_
        refine wpAny_assign_Name (wpAny_storeName_local (lookup_relabel_local hx1) (hn'.sameBut hs₂ (Ne.symm cIC)) (fun h₃ hn₃ hs₃ => ?_) (by simp [compEnvC, relabel, hkind]))
        obtain ⟨oC, heC, hoC⟩ := ns_obj hn₃
        have F₃ : Fr h₀ L h₃ m := (F'.change hs₂ eI I₀).change hs₃ eC C₀
        have hit₃ : h₃.IsListIter s₁.heap.objs.size l (i + 1) := hit₂.extBut hs₃.extBut cIC
        obtain ⟨oI, heI, hcI, hdI⟩ := id hit₃
        have N₃ : News h₀ L h₃ ((s₁.heap.objs.size, oI) :: (H2.objs.size, oC) :: (H1.objs.size, lst ys) :: news) := fun p hp => by
          refine mem_cons_elim hp ?_ fun hp => ?_
          · exact ⟨heI, eI, I₀⟩
          refine mem_cons_elim hp ?_ fun hp => ?_
          · exact ⟨heC, eC, C₀⟩
          have z := N' p hp
          refine ⟨hs₃.extBut _ _ ?_ (hs₂.extBut _ _ ?_ z.1), z.2⟩
          · refine mem_cons_elim hp ?_ fun hp => ?_
            · exact cDC
            · exact (off p hp).2.1
          · refine mem_cons_elim hp ?_ fun hp => ?_
            · exact Ne.symm cI
            · exact (off p hp).1
        refine wpAny_mono (rng x t _ oI _ oC _ _ ys h₃ _ _ hxm hoC (by rw [if_pos rfl]) F₃ N₃) (fun rv s₄ h₄ => ?_) fun _ _ e => e
        obtain ⟨r, h₄, tk₄, a, b, c, rfl, rfl, hr, F₄, N₄⟩ := h₄
        have e9 : Builtin.Range.rangeSize 0 ((x.length : Int) + 1) 1 = ((x.length + 1 : Nat) : Int) := by
          have := rangeSize_nat (b := (x.length : Int) + 1) (a := 0)
          rw [this]; lia
        have hx50 := hxl x hxm
        refine wpAny_pyIter_range hr (small_one (by decide) (by decide) (by lia) (by lia)) ?_
        rw [e9]
        have oC4 := (N₄ _ (.tail _ (.head _))).1
        have oI4 := (N₄ _ (.head _)).1
        have lt4 : ∀ p ∈ (s₁.heap.objs.size, oI) :: (H2.objs.size, oC) :: (H1.objs.size, lst ys) :: news, p.1 < h₄.objs.size := fun p hp => Heap.lt_size (N₄ p hp).1
        have gJ : (h₄.push { cls := .type "range_iterator", data := .fields #[rawInt 0, rawInt ((x.length + 1 : Nat) : Int), rawInt 1] }).get? h₄.objs.size = some { cls := .type "range_iterator", data := .fields #[rawInt 0, rawInt ((x.length + 1 : Nat) : Int), rawInt 1] } := Heap.get?_push_size _ rfl
        have hitJ : IsRangeIter (h₄.push { cls := .type "range_iterator", data := .fields #[rawInt 0, rawInt ((x.length + 1 : Nat) : Int), rawInt 1] }) h₄.objs.size (0 + ((0 : Nat) : Int) * 1) (((x.length + 1 : Nat) : Int) - ((0 : Nat) : Int)) 1 := by
          show _ = some _
          rw [gJ]; simp
        have hylen : ys.length ≤ 51 * 1000 := by
          have := hS.length
          have h2 := allIn_len (f := f) (xs := xs.take i) fun y hy => hxl y (List.mem_of_mem_take hy)
          have h3 := List.length_take_le i xs
          have h4 : (xs.take i).length ≤ xs.length := by rw [List.length_take]; lia
          lia
        have inner := comp2_in (it1 := it1) (p1 := p1) (p2 := p2) (it2 := it2) (pos := pos) (R := fun r s₅ => match r with
            | .ok _ => ∃ m_1, m_1 < xs.length + 1 - i ∧ OutSt h₀ L m news s₁ f xs l s₁.heap.objs.size H1.objs.size H2.objs.size m_1 s₅
            | .error e => cameBackBy (model prog w) A (compEnvC scope cl H2.objs.size env) (notedBy (model prog w) A (compEnvC scope cl H2.objs.size env) fun e s' => compPost (model prog w) A E none Q (.ref H1.objs.size) H2.objs.size (.error e) s') e s₅)
          (tk := tk₄) hh hkind hx2 hne stp (t := t) hxm (I := s₁.heap.objs.size) (C := H2.objs.size) (D := H1.objs.size) (J := h₄.objs.size) (oI := oI)
          ⟨Nat.ne_of_gt (lt4 _ (.head _)), Nat.ne_of_gt (lt4 _ (.tail _ (.head _))), Nat.ne_of_gt (lt4 _ (.tail _ (.tail _ (.head _)))), Nat.ne_of_gt F₄.ns.lt, next_is_new F₄⟩ ⟨cIC, cI, eI, I₀⟩ ⟨Ne.symm cDC, eC, C₀⟩ ⟨eD, D₀⟩
          (fun p hp => ⟨Nat.ne_of_lt (lt4 _ (.tail _ (.tail _ (.tail _ hp)))), off p hp⟩) hS (by lia) (by rw [if_pos rfl]) hitJ (F₄.push _) ((hoC.ns oC4).at' fun o e => Heap.get?_push_of_some _ e)
          (fun p hp => by
            refine mem_cons_elim hp ?_ fun hp => ?_
            · have z := N₄ _ (.head _)
              exact ⟨Heap.get?_push_of_some _ z.1, z.2⟩
            · have z := N₄ p (.tail _ (.tail _ hp))
              exact ⟨Heap.get?_push_of_some _ z.1, z.2⟩)
          (fun h5 tk5 m5 ys5 F5 hn5 N5 S5 => ⟨xs.length + 1 - (i + 1), by lia, h5, tk5, i + 1, ys5, m5, rfl, hlt, rfl, ⟨oI, (N5 _ (.head _)).1, hcI, hdI⟩, F5, hn5, fun p hp => N5 p (.tail _ hp), by rw [allIn_snoc hx]; exact S5⟩)
        exact start_in inner (wpAny_pyIter_rangeiter hitJ inner)
      · obtain rfl : i = xs.length := by lia
        refine wpAny_pyNext_list_end hh hit hli' (by simp; lia) fun h₂ he₂ => ?_
        rw [List.take_length] at hS
        refine ⟨m', hn'.at' fun o e => he₂ _ o (Ne.symm cIC) e, fun h₃ hs₃ => ?_⟩
        refine fin _ h₃ _ ys hS ((fr_but F' (I := s₁.heap.objs.size) (fun b o hb e => he₂ b o (by simpa using hb) e) (Ne.symm eI) I₀).change hs₃ eC C₀) (fun p hp => ?_) (fun p hp => by rw [zI]; exact Nat.lt_succ_of_lt (nlt p hp))
        have z := N' p hp
        refine ⟨hs₃.extBut _ _ ?_ (he₂ _ _ ?_ z.1), z.2⟩
        · refine mem_cons_elim hp ?_ fun hp => ?_
          · exact cDC
          · exact (off p hp).2.1
        · refine mem_cons_elim hp ?_ fun hp => ?_
          · exact Ne.symm cI
          · exact (off p hp).1
    · refine mem_cons_elim hp ?_ fun hp => ?_
      · exact ⟨gD, eD, D₀⟩
      · exact ⟨up _ _ (N p hp).1, (N p hp).2⟩
  exact codeAny_compStart_list (loop _ rfl) (wpAny_pyIter_listiter (l := l) (i := 0) ⟨_, gI, rfl, rfl⟩ (loop _ rfl))
end
end Mine
end

/- part LoopD -/
section
example : True := by
  k_with_none
  w_top off
  trivial
open PySem PySem.W PyProof.Rows PySem.Calls PySem.Spec
set_option maxRecDepth 100000
namespace Mine
section
variable {prog : Program} {w : World} {A : Around} {E : Value → Shared → Prop} {s : Shared} {env : Env} {h₀ : Heap} {target iter : Expr} {body : List Stmt} {Q : Flow → Shared → Prop} {pos : Pos}
inductive TurnN (h₀ : Heap) (L I : Addr) (oI : Obj) (J : (Str → Option Value) → List (Addr × Obj) → Prop) (s s₂ : Shared) : Prop
  | mk (h' : Heap) (tk : Nat) (dr : Drawn) (m' : Str → Option Value) (nx : List (Addr × Obj)) (e : s₂ = { s with heap := h', toks := tk, drawn := dr }) (F : Fr h₀ L h' m') (N : News h₀ L h' ((I, oI) :: nx)) (off : ∀ p ∈ nx, p.1 ≠ I) (j : J m' nx) : TurnN h₀ L I oI J s s₂
/- a turn's end, the draws of the world moved on -/
noncomputable def TurnD (h₀ : Heap) (L I : Addr) (oI : Obj) (J : (Str → Option Value) → List (Addr × Obj) → Prop) (s : Shared) (Qr : Value → Shared → Prop) (f : Flow) (s₂ : Shared) : Prop :=
  match f with
  | .next => TurnN h₀ L I oI J s s₂
  | .ret v => Qr v s₂
  | _ => False
inductive LoopD (prog : Program) (w : World) (A : Around) (h₀ : Heap) (env : Env) (target : Expr) (body : List Stmt) (Q : Flow → Shared → Prop) (E : Value → Shared → Prop) (it : Value) (s₂ : Shared) : Prop
  | mk (I l : Addr) (its : Array Value) (m : Str → Option Value) (news : List (Addr × Obj)) (J : Nat → (Str → Option Value) → List (Addr × Obj) → Prop)
    (f0 : it = .ref I) (f1 : A.handled = none) (f2 : s₂.heap.IsListIter I l 0) (f3 : h₀.IsList l its) (f4 : env.locals ≠ I) (f5 : h₀.get? I = none) (f6 : Fr h₀ env.locals s₂.heap m) (f7 : News h₀ env.locals s₂.heap news) (f8 : (∀ p ∈ news, p.1 ≠ I)) (f9 : J 0 m news) (f10 : (∀ i v m₁ nx h tk dr oI, its[i]? = some v → J i m₁ nx → (∀ p ∈ nx, p.1 ≠ I) → Fr h₀ env.locals h m₁ → News h₀ env.locals h ((I, oI) :: nx) →
      wpAny (model prog w) A (assign target env v) (fun _ s₃ => wpAny (model prog w) A (execs body env) (TurnD h₀ env.locals I oI (J (i + 1)) s₂ (fun v s' => Q (.ret v) s')) E s₃) E { s₂ with heap := h, toks := tk, drawn := dr })) (f11 : ∀ m₁ nx h tk dr, J its.size m₁ nx → Fr h₀ env.locals h m₁ → News h₀ env.locals h nx → Q .next { s₂ with heap := h, toks := tk, drawn := dr }) : LoopD prog w A h₀ env target body Q E it s₂
inductive ForSt (h₀ : Heap) (L : Addr) (s₂ : Shared) (I l : Addr) (its : Array Value) (J : Nat → (Str → Option Value) → List (Addr × Obj) → Prop) (n : Nat) (s' : Shared) : Prop
  | mk (h : Heap) (tk : Nat) (dr : Drawn) (i : Nat) (m' : Str → Option Value) (nx : List (Addr × Obj)) (e : s' = { s₂ with heap := h, toks := tk, drawn := dr }) (hi : i ≤ its.size) (hn : n = its.size + 1 - i) (hit : h.IsListIter I l i) (F : Fr h₀ L h m') (N : News h₀ L h nx)
    (off : ∀ p ∈ nx, p.1 ≠ I) (j : J i m' nx) : ForSt h₀ L s₂ I l its J n s'
theorem for_D {m : Str → Option Value} (_F : Fr h₀ env.locals s.heap m) (h : wpAny (model prog w) A (eval iter env) (fun xv s₁ => wpAny (model prog w) A (pyIter xv) (fun it s₂ => LoopD prog w A h₀ env target body Q E it s₂) E s₁) E s)
    (hs : ∀ x, foldedSetIterable iter env x = pure x) (ht : ∀ it v, letOwnedTupleGo target it v = pure ()) (hE : PassesOwn (model prog w) A env E) :
    wpAny (model prog w) A (exec (.For target iter body [] pos) env) Q E s := by
  refine wpAny_For (wpAny_mono h (fun xv s₁ h₁ => wpAny_mono h₁ (fun it s₂ h₂ => ?_) fun _ _ e => e) fun _ _ e => e) hs
  obtain ⟨I, l, its, m, news, J, rfl, hh, hit, hl, hLI, hI₀, F, N, off, hj, turn, done⟩ := h₂
  have hlI : l ≠ I := fun e => by obtain ⟨o, ho, _⟩ := hl; rw [e, hI₀] at ho; cases ho
  refine codeAny_forLoop (R := fun r s' => match r with | .ok f => Q f s' | .error e => cameBackBy (model prog w) A env E e s')
    (fun n s' => ForSt h₀ env.locals s₂ I l its J n s') ?_ (its.size + 1)
    ⟨s₂.heap, s₂.toks, s₂.drawn, 0, m, news, rfl, Nat.zero_le _, rfl, hit, F, N, off, hj⟩ (ht _)
  rintro n s' ⟨h, tk, dr, i, m', nx, rfl, hi, rfl, hit', F', N', off', hj'⟩
  have hli : h.IsList l its := hl.at fun o e => F'.keep l o e
  by_cases hlt : i < its.size
  · have hv : its[i]? = some its[i] := by simp [hlt]
    refine wpAny_pyNext_list_item hit' hli hv fun h₁ hit₁ hs₁ => ?_
    have F₁ : Fr h₀ env.locals h₁ m' := F'.change hs₁ (Ne.symm hLI) hI₀
    obtain ⟨oI, heI, hcI, hdI⟩ := id hit₁
    have N₁ : News h₀ env.locals h₁ ((I, oI) :: nx) := fun p hp => by
      refine mem_cons_elim hp ?_ fun hp => ?_
      · exact ⟨heI, Ne.symm hLI, hI₀⟩
      · exact ⟨hs₁.extBut _ _ (off' p hp) (N' p hp).1, (N' p hp).2⟩
    refine wpAny_mono (turn i _ m' nx h₁ tk dr oI hv hj' off' F₁ N₁) (fun _ s₃ h₃ => wpAny_mono h₃ (fun f s₄ h₄ => ?_) fun e s' he => hE e s' he) fun e s' he => hE e s' he
    cases f with
    | next =>
      obtain ⟨h', tk', dr', m₂, nx₂, rfl, F₂, N₂, off₂, j₂⟩ := h₄
      exact ⟨its.size + 1 - (i + 1), by omega, h', tk', dr', i + 1, m₂, nx₂, rfl, hlt, rfl, ⟨oI, (N₂ _ (.head _)).1, hcI, hdI⟩, F₂, fun p hp => N₂ p (.tail _ hp), off₂, j₂⟩
    | ret v => exact h₄
    | cont => exact h₄.elim
    | brk => exact h₄.elim
  · obtain rfl : i = its.size := by omega
    refine wpAny_pyNext_list_end hh hit' hli (by simp) fun h₁ he₁ => wpAny_execs_nil ?_
    exact done m' nx h₁ tk dr hj' (LCg.fr_but F' (I := I) (fun b o hb e => he₁ b o (by simpa using hb) e) hLI hI₀) (LCg.news_but N' (I := I) (fun b o hb e => he₁ b o (by simpa using hb) e) off')
theorem for_listD {l : Addr} {its : Array Value} {m : Str → Option Value} {news : List (Addr × Obj)} (J : Nat → (Str → Option Value) → List (Addr × Obj) → Prop) (hh : A.handled = none)
    (F : Fr h₀ env.locals s.heap m) (N : News h₀ env.locals s.heap news) (hl : h₀.IsList l its) (hj : J 0 m news)
    (turn : ∀ i v m₁ nx g h tk dr I oI, its[i]? = some v → J i m₁ nx → (∀ p ∈ nx, p.1 ≠ I) → Fr h₀ env.locals h m₁ → News h₀ env.locals h ((I, oI) :: nx) →
      wpAny (model prog w) A (assign target env v) (fun _ s₃ => wpAny (model prog w) A (execs body env) (TurnD h₀ env.locals I oI (J (i + 1)) { s with heap := g } (fun v s' => Q (.ret v) s')) E s₃) E { s with heap := h, toks := tk, drawn := dr })
    (done : ∀ m₁ nx h tk dr, J its.size m₁ nx → Fr h₀ env.locals h m₁ → News h₀ env.locals h nx → Q .next { s with heap := h, toks := tk, drawn := dr }) :
    wpAny (model prog w) A (pyIter (.ref l)) (fun it s₂ => LoopD prog w A h₀ env target body Q E it s₂) E s := by
  have hls : s.heap.IsList l its := hl.at fun o e => F.keep l o e
  refine wpAny_pyIter_list hls ?_
  exact ⟨_, l, its, m, news, J, rfl, hh, ⟨_, Heap.get?_push_size _ rfl, rfl, rfl⟩, hl, Nat.ne_of_lt F.ns.lt, next_is_new F, F.push _, fun p hp => ⟨Heap.get?_push_of_some _ (N p hp).1, (N p hp).2⟩, fun p hp => Nat.ne_of_lt (Heap.lt_size (N p hp).1), hj,
    fun i v m₁ nx h tk dr oI hv hj' off F' N' => turn i v m₁ nx _ h tk dr _ oI hv hj' off F' N', fun m₁ nx h tk dr hj' F' N' => done m₁ nx h tk dr hj' F' N'⟩
end
end Mine
end

/- part W13t -/
section
example : True := by
  k_with_none
  w_top off
  trivial
open PySem PySem.W PyProof.Rows PySem.Calls PySem.Spec
set_option maxRecDepth 100000
set_option rowWalk.seconds 0
namespace Mine
example : hd.heap_1 = hd.heap_1 ∧ PySem.Challenge.rw_pg0285_01 = PySem.Challenge.rw_pg0285_01 := by
  k_fill
  exact ⟨rfl, rfl⟩
set_option pp.maxSteps 100000
set_option pp.deepTerms false
set_option pp.deepTerms.threshold 4

noncomputable def ordE (L : Addr) : Env := envOfC ordersDef.1 ordersDef.2.2.1 L 153 ordersDef.2.2.2.1
noncomputable def insAt (r : Int) (x : Str) (k : Nat) : Str := (Txt.slice x none (some (k : Int)) ++ Str.ofString (toString r)) ++ Txt.slice x (some (k : Int)) none
theorem digLen {r : Int} (h0 : 0 ≤ r) (h2 : r ≤ 2) : (Str.ofString (toString r)).length = 1 := by
  have : r = 0 ∨ r = 1 ∨ r = 2 := by lia
  rcases this with rfl | rfl | rfl <;> decide +kernel
theorem set_N {prog : Program} {w : World} {A : Around} {E : Value → Shared → Prop} {s : Shared} {h₀ : Heap} {L : Addr} {m : Str → Option Value} {news : List (Addr × Obj)} {l : Addr} {items : Array Value} {xs : List Str} {Q : Value → Shared → Prop} (hh : A.handled = none) (F : Fr h₀ L s.heap m) (N : News h₀ L s.heap news) (hl : s.heap.IsList l items) (hi : StrsAre items.toList xs) (hb : xs.length + 1 < scanBound)
    (h : ∀ S h' tk, Fr h₀ L h' m → News h₀ L h' news → StrSet prog w h' S (dedS xs) → Q (.ref S) { s with heap := h', toks := tk }) : wpAny (model prog w) A (call (.type "set") [.ref l]) Q E s :=
  set_of_strs hh hl hi hb fun h' tk hS k => h _ h' tk (F.keeps fun b o e => k b o (Heap.lt_size e) e) (N.grown fun b o e => k b o (Heap.lt_size e) e) hS
example : True := by
  k_with_none
  k_with "eval ListComp" => (k_here; refine Hold.out ?_)
  k_with "binaryOp Add str str" => (k_here; refine Hold.out ?_)
  k_with "call type:set" => (k_here; refine Hold.out ?_)
  k_with "call type:set cons nil" => (k_here; refine Hold.out ?_)
  k_with "call builtin:sorted" => (k_here; refine Hold.out ?_)
  trivial
set_option maxHeartbeats 8000000 in
theorem ord_turn (S90 : Sort90) {w : World} {H g : Heap} (G : Gnd w H) {L' : Addr} {m : Str → Option Value} {s : Shared} {dp un : Nat} {fr : Option (List Env)} {gd : Option (List Code)} {oC : Obj} {rest : List (Addr × Obj)} {D0 : Addr} {its : Array Value} {kD : Nat} {xs : List Str}
    {r : Int} {tr : Tok} {p : Program} {loose : List Str} {mean : ExcName → Option Value} {mg mb : Str → Option Value} {Q : Flow → Shared → Prop}
    (kg : Keep H g) (X : (hd.heap_1 w.params).In g) (T : Top p loose mean mg mb g)
    (F : Fr g L' s.heap (bnd m [(Str.ofString "words", Value.ref D0)]))
    (N : News g L' s.heap ((L' + 1, oC) :: (D0, { cls := .type "list", data := .seq its kD }) :: rest))
    (hC : oC.data = .cell (some (.int r tr))) (hS : StrsAre its.toList xs) (hxs : xs.length ≤ 1000) (hxl : ∀ x ∈ xs, x.length ≤ 50) (hr0 : 0 ≤ r) (hr2 : r ≤ 2) (hall : (allIn (insAt r) xs).length ≤ 4000)
    (hne : dedS (allIn (insAt r) xs) ≠ []) (hz : (dedS (allIn (insAt r) xs)).length < 64 ∨ (dedS (allIn (insAt r) xs)).length = 90)
    (h : ∀ h' tk' dr m' D vs ss e, Fr g L' h' m' → News g L' h' ((D, seqObj "list" (List.toArray vs) e) :: (L' + 1, oC) :: rest) → (∀ p ∈ (L' + 1, oC) :: rest, p.1 < D) → m' (Str.ofString "words") = some (.ref D) → StrsAre vs ss → ss.Perm (dedS (allIn (insAt r) xs)) → sortedS ss = true → Q .next { s with heap := h', toks := tk', drawn := dr }) :
    wpAny (model prg w) (Arnd dp un fr gd) (execs (forBody ordersDef.2.1) (ordE L')) Q (fun _ _ => False) s := by
  unfold ordE ordersDef
  dsimp only [forBody]
  k_steps
  rename Fr _ _ _ _ => F1
  rename News _ _ _ _ => N1
  unfold Hold
  k_dflt (refine comp2_eval F1 (insAt r) (by with_unfolding_all rfl) (by decide) (by rfl) (by decide) (by rfl) (by rfl) (by decide) ?_ (by intro _; rfl) (by intro _ _; rfl))
  k_steps
  refine ⟨_, kD, its, xs, _, rfl, rfl, by assumption, by assumption, by k_mem, hS, hxs, hxl, ?rng, ?elt, ?fin⟩
  case rng =>
    intro x t I oI C oC D m₂ ys h tk E' hx hoC hm2 F2 N2
    clear F1 N1
    k_steps
    all_goals assumption
  case elt =>
    intro x t k tk0 J oJ I oI C oC D m₂ ys h tk E' hx hk hoC hm1 hm2 F2 N2
    clear F1 N1
    have hd1 := digLen hr0 hr2
    have hx5 := hxl x hx
    k_steps
    unfold Hold
    refine SB.add (fun t2 k2 => ?_) (by rw [sizeLine_eq]; lia)
    have l1 := Str.length_append (Txt.slice x none (some (k : Int))) (Str.ofString (toString r))
    k_steps
    unfold Hold
    refine SB.add (fun t3 k3 => ?_) (by rw [sizeLine_eq]; lia)
    k_steps
    all_goals assumption
  case fin =>
    intro D h2 tk vs hV F2 N2 hD
    clear F1 N1
    have hD := allLt_of hD
    simp only [AllLt, and_true] at hD
    k_steps
    rename Fr _ _ _ _ => F1
    rename News _ _ _ _ => N1
    unfold Hold
    refine set_N rfl F1 N1 ⟨_, (N1 _ (.head _)).1, rfl, _, rfl⟩ hV (by unfold scanBound; lia) fun S h3 tk3 F3 N3 hS3 => ?_
    clear F1 N1
    k_steps
    rename Fr _ _ _ _ => F1
    rename News _ _ _ _ => N1
    unfold Hold
    refine sorted_set S90 rfl F1 N1 hS3 hne hz fun h4 dr D4 vs4 ss4 e4 F4 N4 lt4 hV4 hp4 hs4 => ?_
    clear F1 N1
    k_steps
    rename Fr _ _ _ _ => F1
    rename News _ _ _ _ => N1
    refine h _ _ dr _ D4 vs4 ss4 e4 F1 (fun p hp => ?_) (fun p hp => ?_) (by rfl) hV4 hp4 hs4
    · refine mem_cons_elim hp ?_ fun hp => ?_
      · exact N1 _ (.head _)
      refine mem_cons_elim hp ?_ fun hp => ?_
      · exact N1 _ (.tail _ (.tail _ (.head _)))
      · exact N1 _ (.tail _ (.tail _ (.tail _ (.tail _ hp))))
    · refine mem_cons_elim hp ?_ fun hp => ?_
      · exact lt4 _ (.tail _ (.head _))
      · exact lt4 _ (.tail _ (.tail _ (.tail _ hp)))
end Mine
end

/- part Plain2 -/
section
example : True := by
  k_with_none
  w_top off
  trivial
open PySem PySem.W PyProof.Rows PySem.Calls PySem.Spec
set_option maxRecDepth 100000
namespace Mine
/- all words with so many of each sign, in order -/
noncomputable def wordsOf : Nat → Nat → Nat → Nat → List (List Nat)
  | 0, _, _, _ => [[]]
  | n + 1, a, b, c => (if a = 0 then [] else (wordsOf n (a - 1) b c).map (48 :: ·)) ++ ((if b = 0 then [] else (wordsOf n a (b - 1) c).map (49 :: ·)) ++ (if c = 0 then [] else (wordsOf n a b (c - 1)).map (50 :: ·)))
theorem mem_words (n : Nat) : ∀ (a b c : Nat), a + b + c = n → ∀ w : List Nat, w ∈ wordsOf n a b c ↔ w.length = n ∧ w.count 48 = a ∧ w.count 49 = b ∧ w.count 50 = c := by
  induction n with
  | zero =>
    intro a b c h w
    obtain rfl : a = 0 := by lia
    obtain rfl : b = 0 := by lia
    obtain rfl : c = 0 := by lia
    simp only [wordsOf, List.mem_singleton]
    constructor
    · rintro rfl; simp
    · intro h; exact List.length_eq_zero_iff.mp h.1
  | succ n ih =>
    intro a b c h w
    simp only [wordsOf, List.mem_append]
    constructor
    · rintro (hm | hm | hm)
      · split at hm
        · cases hm
        · obtain ⟨v, hv, rfl⟩ := List.mem_map.mp hm
          have := (ih (a - 1) b c (by lia) v).mp hv
          simp [List.count_cons]; lia
      · split at hm
        · cases hm
        · obtain ⟨v, hv, rfl⟩ := List.mem_map.mp hm
          have := (ih a (b - 1) c (by lia) v).mp hv
          simp [List.count_cons]; lia
      · split at hm
        · cases hm
        · obtain ⟨v, hv, rfl⟩ := List.mem_map.mp hm
          have := (ih a b (c - 1) (by lia) v).mp hv
          simp [List.count_cons]; lia
    · rintro ⟨h1, h2, h3, h4⟩
      cases w with
      | nil => simp at h1
      | cons d v =>
        simp only [List.length_cons, Nat.add_right_cancel_iff] at h1
        have tot : ∀ v : List Nat, v.count 48 + v.count 49 + v.count 50 ≤ v.length := by
          intro v
          induction v with
          | nil => simp
          | cons e v ih =>
            simp only [List.count_cons, List.length_cons]
            by_cases e1 : e = 48
            · subst e1; simp; lia
            by_cases e2 : e = 49
            · subst e2; simp; lia
            by_cases e3 : e = 50
            · subst e3; simp; lia
            · simp [e1, e2, e3]; lia
        have ht := tot v
        simp only [List.count_cons] at h2 h3 h4
        by_cases e1 : d = 48
        · subst e1
          simp at h2 h3 h4
          left
          rw [if_neg (by lia)]
          exact List.mem_map.mpr ⟨v, (ih (a - 1) b c (by lia) v).mpr ⟨h1, by lia, by lia, by lia⟩, rfl⟩
        by_cases e2 : d = 49
        · subst e2
          simp at h2 h3 h4
          right; left
          rw [if_neg (by lia)]
          exact List.mem_map.mpr ⟨v, (ih a (b - 1) c (by lia) v).mpr ⟨h1, by lia, by lia, by lia⟩, rfl⟩
        by_cases e3 : d = 50
        · subst e3
          simp at h2 h3 h4
          right; right
          rw [if_neg (by lia)]
          exact List.mem_map.mpr ⟨v, (ih a b (c - 1) (by lia) v).mpr ⟨h1, by lia, by lia, by lia⟩, rfl⟩
        · simp [e1, e2, e3] at h2 h3 h4
          lia
theorem words_up (n : Nat) : ∀ (a b c : Nat), (wordsOf n a b c).Pairwise (· < ·) := by
  induction n with
  | zero => exact fun _ _ _ => List.pairwise_singleton _ _
  | succ n ih =>
    intro a b c
    have up : ∀ (d : Nat) (l : List (List Nat)), l.Pairwise (· < ·) → (l.map (d :: ·)).Pairwise (· < ·) := fun d l h => by
      rw [List.pairwise_map]
      exact h.imp fun hab => List.cons_lt_cons_self.mpr hab
    have across : ∀ (d e : Nat) (l l' : List (List Nat)), d < e → ∀ x ∈ l.map (d :: ·), ∀ y ∈ l'.map (e :: ·), x < y := fun d e l l' h x hx y hy => by
      obtain ⟨u, _, rfl⟩ := List.mem_map.mp hx
      obtain ⟨v, _, rfl⟩ := List.mem_map.mp hy
      exact List.cons_lt_cons_iff.mpr (.inl h)
    simp only [wordsOf]
    refine List.pairwise_append.mpr ⟨?_, List.pairwise_append.mpr ⟨?_, ?_, ?_⟩, ?_⟩
    · split
      · exact .nil
      · exact up _ _ (ih _ _ _)
    · split
      · exact .nil
      · exact up _ _ (ih _ _ _)
    · split
      · exact .nil
      · exact up _ _ (ih _ _ _)
    · intro x hx y hy
      split at hx
      · cases hx
      split at hy
      · cases hy
      exact across 49 50 _ _ (by decide) x hx y hy
    · intro x hx y hy
      split at hx
      · cases hx
      rcases List.mem_append.mp hy with hy | hy
      · split at hy
        · cases hy
        exact across 48 49 _ _ (by decide) x hx y hy
      · split at hy
        · cases hy
        exact across 48 50 _ _ (by decide) x hx y hy
theorem up_unique : ∀ (l l' : List (List Nat)), l.Pairwise (· < ·) → l'.Pairwise (· < ·) → (∀ x, x ∈ l ↔ x ∈ l') → l = l'
  | [], [], _, _, _ => rfl
  | [], y :: r, _, _, h => absurd ((h y).mpr (.head _)) (by simp)
  | x :: r, [], _, _, h => absurd ((h x).mp (.head _)) (by simp)
  | x :: r, y :: r', h1, h2, h => by
    obtain ⟨a1, a2⟩ := List.pairwise_cons.mp h1
    obtain ⟨b1, b2⟩ := List.pairwise_cons.mp h2
    have e : x = y := by
      rcases List.mem_cons.mp ((h x).mp (.head _)) with q | q
      · exact q
      rcases List.mem_cons.mp ((h y).mpr (.head _)) with p | p
      · exact p.symm
      exact absurd (List.lt_trans (b1 _ q) (a1 _ p)) (List.lt_irrefl _)
    subst e
    refine congrArg _ (up_unique r r' a2 b2 fun z => ?_)
    constructor
    · intro hz
      rcases List.mem_cons.mp ((h z).mp (.tail _ hz)) with q | q
      · subst q; exact absurd (a1 _ hz) (List.lt_irrefl _)
      · exact q
    · intro hz
      rcases List.mem_cons.mp ((h z).mpr (.tail _ hz)) with q | q
      · subst q; exact absurd (b1 _ hz) (List.lt_irrefl _)
      · exact q
end Mine
end

/- part Plain3 -/
section
example : True := by
  k_with_none
  w_top off
  trivial
open PySem PySem.W PyProof.Rows PySem.Calls PySem.Spec
set_option maxRecDepth 100000
namespace Mine
noncomputable def cpsL (x : Str) : List Nat := x.cps.toList
theorem cpsL_inj {x y : Str} (h : cpsL x = cpsL y) : x = y := by
  obtain ⟨⟨a⟩⟩ := x; obtain ⟨⟨b⟩⟩ := y
  have : a = b := h
  rw [this]
theorem digCps {r : Int} (h0 : 0 ≤ r) (h2 : r ≤ 2) : cpsL (Str.ofString (toString r)) = [48 + r.toNat] := by
  have : r = 0 ∨ r = 1 ∨ r = 2 := by lia
  rcases this with rfl | rfl | rfl <;> decide +kernel
theorem slice_to {x : Str} {k : Nat} (h : k ≤ (cpsL x).length) : cpsL (Txt.slice x none (some (k : Int))) = (cpsL x).take k := by
  have := beq_iff_eq.mp (slice_closes_to (x := x) (j := (k : Int)) ⟨by lia, by unfold cpsL at h; lia⟩)
  rw [this]
  simp [cpsL]
theorem slice_from {x : Str} {k : Nat} (h : k ≤ (cpsL x).length) : cpsL (Txt.slice x (some (k : Int)) none) = (cpsL x).drop k := by
  have := beq_iff_eq.mp (slice_closes_from (x := x) (i := (k : Int)) ⟨by lia, by unfold cpsL at h; lia⟩)
  rw [this]
  show (((cpsL x).drop (k : Int).toNat).take (((cpsL x).length : Int) - (k : Int)).toNat).toArray.toList = _
  rw [List.toList_toArray, List.take_of_length_le (by rw [List.length_drop]; lia)]
  rfl
theorem cpsL_append (x y : Str) : cpsL (x ++ y) = cpsL x ++ cpsL y := by
  show (x.cps ++ y.cps).toList = _
  rw [Array.toList_append]; rfl
theorem ins_cps {r : Int} (h0 : 0 ≤ r) (h2 : r ≤ 2) {x : Str} {k : Nat} (h : k ≤ (cpsL x).length) : cpsL (insAt r x k) = (cpsL x).take k ++ (48 + r.toNat) :: (cpsL x).drop k := by
  unfold insAt
  rw [cpsL_append, cpsL_append, slice_to h, slice_from h, digCps h0 h2, List.append_assoc]; rfl
theorem cpsL_length (x : Str) : (cpsL x).length = x.length := by show x.cps.toList.length = x.cps.size; exact Array.length_toList
theorem mem_insS {ss : List Str} {x y : Str} : y ∈ insS ss x ↔ y ∈ ss ∨ y = x := by
  unfold insS
  split
  · constructor
    · exact .inl
    · rintro (h | rfl)
      · exact h
      · assumption
  · rw [List.mem_append, List.mem_singleton]
theorem nodup_insS {ss : List Str} {x : Str} (h : ss.Nodup) : (insS ss x).Nodup := by
  unfold insS
  split
  · exact h
  · rename_i hx
    refine List.nodup_append.mpr ⟨h, by simp, fun a ha b hb => ?_⟩
    rw [List.mem_singleton.mp hb]
    intro e; exact hx (e ▸ ha)
theorem mem_foldl : ∀ (xs ss : List Str) (y : Str), y ∈ xs.foldl insS ss ↔ y ∈ ss ∨ y ∈ xs
  | [], ss, y => by simp
  | x :: r, ss, y => by
    rw [List.foldl_cons, mem_foldl r, mem_insS, List.mem_cons]
    constructor
    · rintro ((h | h) | h)
      · exact .inl h
      · exact .inr (.inl h)
      · exact .inr (.inr h)
    · rintro (h | h | h)
      · exact .inl (.inl h)
      · exact .inl (.inr h)
      · exact .inr h
theorem nodup_foldl : ∀ (xs ss : List Str), ss.Nodup → (xs.foldl insS ss).Nodup
  | [], _, h => h
  | _ :: r, _, h => nodup_foldl r _ (nodup_insS h)
theorem mem_ded {xs : List Str} {y : Str} : y ∈ dedS xs ↔ y ∈ xs := by
  unfold dedS; rw [mem_foldl]; simp
theorem nodup_ded (xs : List Str) : (dedS xs).Nodup := nodup_foldl xs [] (by simp)
theorem pair_of_rising : ∀ (p : Str) (l : List Str), risingS p l = true → (p :: l).Pairwise (fun a b => ¬ cpsL b < cpsL a)
  | p, [], _ => List.pairwise_singleton _ _
  | p, x :: r, h => by
    have h' : (!ltCps x.cps.toList p.cps.toList && risingS x r) = true := h
    rw [Bool.and_eq_true, ltCps_eq, Bool.not_eq_true', decide_eq_false_iff_not] at h'
    have ih := pair_of_rising x r h'.2
    refine List.pairwise_cons.mpr ⟨fun y hy => ?_, ih⟩
    rcases List.mem_cons.mp hy with rfl | hy
    · exact h'.1
    · have h2 := (List.pairwise_cons.mp ih).1 y hy
      intro hlt
      by_cases hq : p.cps.toList < x.cps.toList
      · exact h2 (List.lt_trans hlt hq)
      · have e : p.cps.toList = x.cps.toList := List.le_antisymm (List.not_lt.mp h'.1) (List.not_lt.mp hq)
        exact h2 (by show cpsL y < x.cps.toList; rw [← e]; exact hlt)
theorem pair_of_sorted {l : List Str} (h : sortedS l = true) : l.Pairwise (fun a b => ¬ cpsL b < cpsL a) := by
  cases l with
  | nil => exact .nil
  | cons x r => exact pair_of_rising x r h
theorem up_of_sorted {l : List Str} (h : sortedS l = true) (hn : l.Nodup) : (l.map cpsL).Pairwise (· < ·) := by
  rw [List.pairwise_map]
  refine List.Pairwise.imp (R := fun a b => a ≠ b ∧ ¬ cpsL b < cpsL a) (fun {a b} hab => ?_) (hn.and (pair_of_sorted h))
  by_cases q : cpsL a < cpsL b
  · exact q
  · exact absurd (cpsL_inj (List.le_antisymm (List.not_lt.mp hab.2) (List.not_lt.mp q))) hab.1
noncomputable def cnt (d : Int) (ns : List Int) : Nat := ns.count d
noncomputable def wordsN (ns : List Int) : List (List Nat) := wordsOf ns.length (cnt 0 ns) (cnt 1 ns) (cnt 2 ns)
noncomputable def OrdOk (ns : List Int) (ss : List Str) : Prop := ss.map cpsL = wordsN ns
theorem cnt_sum : ∀ {ns : List Int}, (∀ n ∈ ns, 0 ≤ n ∧ n ≤ 2) → cnt 0 ns + cnt 1 ns + cnt 2 ns = ns.length
  | [], _ => rfl
  | n :: r, h => by
    have ih := cnt_sum (ns := r) fun m hm => h m (.tail _ hm)
    have hn := h n (.head _)
    unfold cnt at ih ⊢
    have : n = 0 ∨ n = 1 ∨ n = 2 := by lia
    simp only [List.count_cons, List.length_cons]
    rcases this with rfl | rfl | rfl <;> simp <;> lia
theorem ord_mem {ns : List Int} (hb : ∀ n ∈ ns, 0 ≤ n ∧ n ≤ 2) {ss : List Str} (h : OrdOk ns ss) (w : List Nat) : (∃ x ∈ ss, cpsL x = w) ↔ w.length = ns.length ∧ w.count 48 = cnt 0 ns ∧ w.count 49 = cnt 1 ns ∧ w.count 50 = cnt 2 ns := by
  rw [← mem_words _ _ _ _ (cnt_sum hb)]
  show _ ↔ w ∈ wordsN ns
  rw [← h, List.mem_map]
theorem ord_ins {ns : List Int} (hb : ∀ n ∈ ns, 0 ≤ n ∧ n ≤ 2) {r : Int} (h0 : 0 ≤ r) (h2 : r ≤ 2) {ss : List Str} (h : OrdOk ns ss) (w : List Nat) :
    (∃ x ∈ allIn (insAt r) ss, cpsL x = w) ↔ w.length = (ns ++ [r]).length ∧ w.count 48 = cnt 0 (ns ++ [r]) ∧ w.count 49 = cnt 1 (ns ++ [r]) ∧ w.count 50 = cnt 2 (ns ++ [r]) := by
  have cs : ∀ d : Int, cnt d (ns ++ [r]) = cnt d ns + if r = d then 1 else 0 := fun d => by
    unfold cnt; rw [List.count_append, List.count_singleton]
    by_cases e : r = d <;> simp [e]
  have cw : ∀ (e : Nat) (p q : List Nat) (d : Nat), (p ++ d :: q).count e = (p ++ q).count e + if d = e then 1 else 0 := fun e p q d => by
    rw [List.count_append, List.count_append, List.count_cons]
    by_cases e' : d = e <;> simp [e'] <;> lia
  have hdig : ∀ d : Nat, d ≤ 2 → ((48 + r.toNat = 48 + d) ↔ (r = (d : Int))) := fun d hd => by lia
  have k0 : (if 48 + r.toNat = 48 then 1 else 0) = if r = 0 then 1 else 0 := by have := hdig 0 (by decide); simp only [Nat.add_zero] at this; simp only [this]; rfl
  have k1 : (if 48 + r.toNat = 49 then 1 else 0) = if r = 1 then 1 else 0 := by have := hdig 1 (by decide); simp only [this]; rfl
  have k2 : (if 48 + r.toNat = 50 then 1 else 0) = if r = 2 then 1 else 0 := by have := hdig 2 (by decide); simp only [this]; rfl
  rw [cs, cs, cs, List.length_append, List.length_singleton]
  constructor
  · rintro ⟨x, hx, rfl⟩
    obtain ⟨y, hy, hx⟩ := List.mem_flatMap.mp hx
    obtain ⟨k, hk, rfl⟩ := List.mem_map.mp hx
    have hk := List.mem_range.mp hk
    have hyl := (ord_mem hb h (cpsL y)).mp ⟨y, hy, rfl⟩
    have hkl : k ≤ (cpsL y).length := by rw [cpsL_length]; lia
    rw [ins_cps h0 h2 hkl, cw, cw, cw, List.take_append_drop, k0, k1, k2]
    refine ⟨?_, by lia, by lia, by lia⟩
    rw [List.length_append, List.length_cons, List.length_take, List.length_drop]; lia
  · rintro ⟨e1, e2, e3, e4⟩
    have hin : (48 + r.toNat) ∈ w := by
      rw [← List.count_pos_iff]
      have : r = 0 ∨ r = 1 ∨ r = 2 := by lia
      rcases this with rfl | rfl | rfl
      · show 0 < w.count 48; rw [e2]; simp
      · show 0 < w.count 49; rw [e3]; simp
      · show 0 < w.count 50; rw [e4]; simp
    obtain ⟨p, q, rfl⟩ := List.append_of_mem hin
    rw [cw, k0] at e2
    rw [cw, k1] at e3
    rw [cw, k2] at e4
    rw [List.length_append, List.length_cons] at e1
    obtain ⟨y, hy, hyc⟩ := (ord_mem hb h (p ++ q)).mpr ⟨by rw [List.length_append]; lia, by lia, by lia, by lia⟩
    have hpl : p.length ≤ (cpsL y).length := by rw [hyc, List.length_append]; lia
    refine ⟨insAt r y p.length, List.mem_flatMap.mpr ⟨y, hy, List.mem_map.mpr ⟨p.length, List.mem_range.mpr (by rw [cpsL_length] at hpl; lia), rfl⟩⟩, ?_⟩
    rw [ins_cps h0 h2 hpl, hyc]
    simp
theorem words_len_ok : ((List.range 7).all fun a => (List.range 7).all fun b => (List.range 7).all fun c => decide (6 < a + b + c) || (decide ((wordsOf (a + b + c) a b c).length < 64) || decide ((wordsOf (a + b + c) a b c).length = 90)) && decide (0 < (wordsOf (a + b + c) a b c).length)) = true := by decide +kernel
theorem words_len {n a b c : Nat} (h : a + b + c = n) (hn : n ≤ 6) : ((wordsOf n a b c).length < 64 ∨ (wordsOf n a b c).length = 90) ∧ 0 < (wordsOf n a b c).length := by
  subst h
  have h1 := List.all_eq_true.mp words_len_ok a (List.mem_range.mpr (by lia))
  have h2 := List.all_eq_true.mp h1 b (List.mem_range.mpr (by lia))
  have h3 := List.all_eq_true.mp h2 c (List.mem_range.mpr (by lia))
  rw [decide_eq_false (by lia), Bool.false_or, Bool.and_eq_true, Bool.or_eq_true, decide_eq_true_eq, decide_eq_true_eq, decide_eq_true_eq] at h3
  exact h3
theorem ord_len {ns : List Int} {ss : List Str} (h : OrdOk ns ss) : ss.length = (wordsN ns).length := by rw [← h, List.length_map]
theorem ord_step {ns : List Int} (hb : ∀ n ∈ ns, 0 ≤ n ∧ n ≤ 2) (hn : ns.length ≤ 5) {r : Int} (h0 : 0 ≤ r) (h2 : r ≤ 2) {ss : List Str} (h : OrdOk ns ss) :
    ss.length ≤ 1000 ∧ (∀ x ∈ ss, x.length ≤ 50) ∧ (allIn (insAt r) ss).length ≤ 4000 ∧ dedS (allIn (insAt r) ss) ≠ [] ∧ ((dedS (allIn (insAt r) ss)).length < 64 ∨ (dedS (allIn (insAt r) ss)).length = 90) ∧
    ∀ ss' : List Str, ss'.Perm (dedS (allIn (insAt r) ss)) → sortedS ss' = true → OrdOk (ns ++ [r]) ss' := by
  have hb' : ∀ n ∈ ns ++ [r], 0 ≤ n ∧ n ≤ 2 := fun n hm => by
    rcases List.mem_append.mp hm with hm | hm
    · exact hb n hm
    · rw [List.mem_singleton.mp hm]; exact ⟨h0, h2⟩
  have hlen := words_len (cnt_sum hb) (by lia)
  have hlen' := words_len (cnt_sum hb') (by rw [List.length_append, List.length_singleton]; lia)
  have hsl : ss.length = (wordsOf ns.length (cnt 0 ns) (cnt 1 ns) (cnt 2 ns)).length := ord_len h
  have hxl : ∀ x ∈ ss, x.length = ns.length := fun x hx => by
    have := (ord_mem hb h (cpsL x)).mp ⟨x, hx, rfl⟩
    rw [← cpsL_length]; exact this.1
  -- the sorted list, whatever its maker
  have key : ∀ ss' : List Str, ss'.Nodup → (∀ y, y ∈ ss' ↔ y ∈ allIn (insAt r) ss) → (ss'.map cpsL).Nodup ∧ ∀ w, w ∈ ss'.map cpsL ↔ w ∈ wordsN (ns ++ [r]) := fun ss' hnd hm => by
    refine ⟨?_, fun w => ?_⟩
    · exact List.pairwise_map.mpr (hnd.imp fun hab e => hab (cpsL_inj e))
    · show _ ↔ w ∈ wordsOf _ _ _ _
      rw [mem_words _ _ _ _ (cnt_sum hb'), ← ord_ins hb h0 h2 h, List.mem_map]
      constructor
      · rintro ⟨x, hx, e⟩; exact ⟨x, (hm x).mp hx, e⟩
      · rintro ⟨x, hx, e⟩; exact ⟨x, (hm x).mpr hx, e⟩
  have hded := key (dedS (allIn (insAt r) ss)) (nodup_ded _) fun y => mem_ded
  have hperm : ((dedS (allIn (insAt r) ss)).map cpsL).Perm (wordsN (ns ++ [r])) :=
    (List.perm_ext_iff_of_nodup hded.1 (List.Pairwise.imp (S := fun a b => a ≠ b) (fun {a b} (hab : a < b) (e : a = b) => List.lt_irrefl b (e ▸ hab)) (words_up _ _ _ _))).mpr hded.2
  have hdl : (dedS (allIn (insAt r) ss)).length = (wordsOf (ns ++ [r]).length (cnt 0 (ns ++ [r])) (cnt 1 (ns ++ [r])) (cnt 2 (ns ++ [r]))).length := by
    have := hperm.length_eq
    rw [List.length_map] at this; exact this
  refine ⟨by lia, fun x hx => by rw [hxl x hx]; lia, ?_, ?_, by lia, fun ss' hp hs => ?_⟩
  · have : (allIn (insAt r) ss).length ≤ 6 * ss.length := by
      unfold allIn
      have hx5 : ∀ x ∈ ss, x.length ≤ 5 := fun x hx => by rw [hxl x hx]; exact hn
      clear hdl hperm hded key hxl hsl h
      induction ss with
      | nil => exact Nat.le_refl _
      | cons x q ih =>
        have := ih fun y hy => hx5 y (.tail _ hy)
        have h9 := hx5 x (.head _)
        rw [List.flatMap_cons, List.length_append, List.length_cons]
        have h3 : (inAll (insAt r) x).length = x.length + 1 := by unfold inAll; rw [List.length_map, List.length_range]
        lia
    lia
  · intro e
    rw [e, List.length_nil] at hdl
    lia
  · have hnd : ss'.Nodup := hp.nodup_iff.mpr (nodup_ded _)
    have hk := key ss' hnd fun y => (hp.mem_iff).trans mem_ded
    exact up_unique _ _ (up_of_sorted hs hnd) (words_up _ _ _ _) hk.2
theorem ord_nil : OrdOk [] [Str.ofString ""] := by
  show [cpsL (Str.ofString "")] = wordsOf 0 0 0 0
  decide +kernel
end Mine
end

/- part W13 -/
section
example : True := by
  k_with_none
  w_top off
  trivial
open PySem PySem.W PyProof.Rows PySem.Calls PySem.Spec
set_option maxRecDepth 100000
set_option rowWalk.seconds 0
namespace Mine
example : hd.heap_1 = hd.heap_1 ∧ PySem.Challenge.rw_pg0285_01 = PySem.Challenge.rw_pg0285_01 := by
  k_fill
  exact ⟨rfl, rfl⟩
set_option pp.maxSteps 100000
set_option pp.deepTerms false
set_option pp.deepTerms.threshold 4

example : True := by
  k_with_none
  k_with "pyIter ref" => refine Hold.out ?_
  k_with "exec For Name Name cons nil" => (k_here; (rename Fr _ _ _ _ => lF'); (with_unfolding_all refine' for_D lF' ?_ ?k1 ?k2 (by passes_own); (case k1 => exact (fun _ => rfl)); (case k2 => exact (fun _ _ => rfl)); k_whole))
  k_with "execs cons" => ((with_reducible show wpAny _ _ (execs (Stmt.Assign [Expr.Name (PySem.Str.ofString "words") _] (Expr.Call _ _ _ _) _ :: _) _) _ _ _); refine Hold.out ?_)
  trivial
/- a def's contract, the draws of the world free -/
noncomputable def MeetsD (w : World) (H : Heap) (f : Addr) (args : List Value) (d u : Nat) (Pre : Heap → Prop) (Post : Heap → Value → Heap → Prop) : Prop :=
  ∀ (dp un : Nat) (fr : Option (List Env)) (gd : Option (List Code)) (s : Shared) (R : Result → Shared → Prop), dp + d < recursionLimit → un + u < cLine → Keep H s.heap → Pre s.heap →
    (∀ v h' tk' dr, Keep s.heap h' → Post s.heap v h' → R (.ok (.ret v)) { s with heap := h', toks := tk', drawn := dr }) → codeAny (model prg w) (Arnd dp un fr gd) (.call (.ref f) ⟨args, []⟩) R s
theorem at_take {ns : List Int} {i : Nat} {n : Int} (h : ns[i]? = some n) : ns.take (i + 1) = ns.take i ++ [n] := by
  rw [List.take_add_one, h]; rfl
inductive OrdPost (ns : List Int) (h : Heap) (v : Value) (h' : Heap) : Prop
  | mk (D : Addr) (us : List Value) (ss : List Str) (e : Nat) (ev : v = .ref D) (g : h'.get? D = some (seqObj "list" (List.toArray us) e)) (f : h.get? D = none) (hU : StrsAre us ss) (hO : OrdOk ns ss) : OrdPost ns h v h'
/- where the loop over the runs stands -/
inductive OrdLoop (L' : Addr) (ns : List Int) (i : Nat) (m : Str → Option Value) (nx : List (Addr × Obj)) : Prop
  | mk (D0 : Addr) (us : List Value) (kD : Nat) (ss : List Str) (o : Obj) (vo : Option Value) (hm : ∀ p ∈ [(Str.ofString "words", Value.ref D0)], m p.1 = some p.2) (hnx : (L' + 1, o) ∈ nx ∧ (D0, seqObj "list" us.toArray kD) ∈ nx)
      (ho : o.data = .cell vo) (hU : StrsAre us ss) (hO : OrdOk (ns.take i) ss) : OrdLoop L' ns i m nx
set_option maxHeartbeats 8000000 in
theorem orders_D (S90 : Sort90) {w : World} {H : Heap} (G : Gnd w H) {l : Addr} {vs : List Value} {ns : List Int} (hI : IntsAre vs ns) (hb : ∀ n ∈ ns, 0 ≤ n ∧ n ≤ 2) (hn : ns.length ≤ 6) :
    MeetsD w H 153 [.ref l] 40 40 (fun h => h.IsList l vs.toArray) (fun h v h' => OrdPost ns h v h') := by
  intro dp un fr gd s R hd hu kp hl ret
  have hlen := hI.length
  k_dflt (refine' enterC (([] : List (Addr × Obj))) G kp ?k6 ?k7 ?k8 ?k9 ?kB ?kD (List.forall_mem_nil _) ?_ ?c2 ?c3 ?c4)
  case k6 => k_is
  case k7 => k_is
  case k8 => lia
  case k9 => k_dflt (exact BindsTo.of_eq rfl)
  case kB => exact rfl
  case kD => decide +kernel
  case c2 => exact rfl
  case c3 => exact rfl
  case c4 => exact rfl
  intro g L' h₁ tk₁ cells p loose mean mg mb kg kgs ko ksz F N Y hlt X T
  k_cells Y
  show wpAny _ _ _ _ _ _
  k_fold
  simp only [List.append_nil] at N
  have hlg : g.IsList l vs.toArray := by
    obtain ⟨o, e, c, n, d⟩ := hl
    exact ⟨o, ko _ _ e (by simp), c, n, d⟩
  k_steps
  rename Fr _ _ _ _ => F1
  rename News _ _ _ _ => N1
  rename Obj => oS
  unfold Hold
  rename_i dS D1 ha9 l9 hb9
  k_dflt (refine for_listD (fun i m nx => OrdLoop L' ns i m nx)
             rfl F1 N1 hlg ⟨D1, [_], 0, [Str.ofString ""], oS, _, (by repeat' (first | exact List.forall_mem_nil _ | refine all_cons rfl ?_)), ⟨.tail _ (.head _), .head _⟩, dS, .cons _ _ .nil, ord_nil⟩ ?turn ?done)
  case turn =>
    rintro i v m₁ nx g9 h tk dr I oI hv ⟨D0, us, kD, ss, o, vo, hm, hnx, ho, hU, hO⟩ off F N
    obtain ⟨tr, rfl⟩ := PyProof.Rows.IntsAre.int_at hI i v (by simpa using hv)
    have hil : i < ns.length := by
      have := (Array.getElem?_eq_some_iff.mp hv).1
      rw [List.size_toArray] at this; lia
    have hr : ns[i]? = some (ns.getD i 0) := by rw [List.getD_eq_getElem?_getD, List.getElem?_eq_getElem hil]; rfl
    generalize ns.getD i 0 = r at hr F N ⊢
    have hr02 := hb r (List.mem_of_getElem? hr)
    obtain ⟨s1, s2, s3, s4, s5, s6⟩ := ord_step (ns := ns.take i) (fun n hn => hb n (List.mem_of_mem_take hn)) (by rw [List.length_take]; lia) hr02.1 hr02.2 hO
    have eC := (N _ (.tail _ hnx.1)).1
    have eD := (N _ (.tail _ hnx.2)).1
    have nCD := ne_data eC eD (fun e => by dsimp only at e; rw [ho] at e; cases e)
    have nCI : @Ne Nat I (L' + 1) := (off _ hnx.1).symm
    have nDI : @Ne Nat I D0 := (off _ hnx.2).symm
    replace F := bnd_fr F hm
    replace N := news_sub (b := [(L' + 1, o), (D0, seqObj "list" us.toArray kD), (I, oI)]) N (List.forall_mem_cons.mpr ⟨.tail _ hnx.1, List.forall_mem_cons.mpr ⟨.tail _ hnx.2, List.forall_mem_cons.mpr ⟨.head _, List.forall_mem_nil _⟩⟩⟩)
    clear F1 N1
    show wpAny _ _ _ _ _ _
    k_fold
    k_steps
    rename Fr _ _ _ _ => F1
    rename News _ _ _ _ => N1
    unfold Hold
    rename_i h9 o9 d9
    refine ord_turn (m := _) (rest := [(I, oI)]) S90 G kg X T (by exact F1) (by exact N1) d9 hU s1 s2 hr02.1 hr02.2 s3 s4 s5 ?_
    intro h' tk' dr' m' D vs' ss' e' F' N' lt' hm' hV' hp' hs'
    refine ⟨h', tk', dr', m', [(L' + 1, o9), (D, seqObj "list" vs'.toArray e')], rfl, F', fun p hp => ?_, fun p hp => ?_, ⟨D, vs', e', ss', o9, _, List.forall_mem_cons.mpr ⟨hm', List.forall_mem_nil _⟩, ⟨.head _, .tail _ (.head _)⟩, d9, hV', ?_⟩⟩
    · refine mem_cons_elim hp ?_ fun hp => ?_
      · exact N' _ (.tail _ (.tail _ (.head _)))
      refine mem_cons_elim hp ?_ fun hp => ?_
      · exact N' _ (.tail _ (.head _))
      · rw [List.mem_singleton.mp hp]; exact N' _ (.head _)
    · refine mem_cons_elim hp ?_ fun hp => ?_
      · exact nCI.symm
      · rw [List.mem_singleton.mp hp]
        exact Ne.symm (Nat.ne_of_lt (lt' _ (.tail _ (.head _))))
    · rw [at_take hr]; exact s6 ss' hp' hs'
  case done =>
    rintro m₁ nx h tk dr ⟨D0, us, kD, ss, o, vo, hm, hnx, ho, hU, hO⟩ F N
    dsimp only
    replace F := bnd_fr F hm
    clear F1 N1
    k_steps
    dsimp only
    k_unfold
    dsimp only
    rw [List.take_of_length_le (by rw [List.size_toArray]; lia)] at hO
    have eD := N _ hnx.2
    exact ret _ _ _ dr (keep_of ko F N (List.forall_mem_nil _) (List.forall_mem_nil _)) ⟨D0, us, ss, kD, rfl, eD.1, none_own ko eD.2.2 (by simp), hU, hO⟩
end Mine
end

/- part LawB -/
section
example : True := by
  k_with_none
  w_top off
  trivial
open PySem PySem.W PyProof.Rows PySem.Calls PySem.Spec
set_option maxRecDepth 100000
set_option rowWalk.seconds 0
namespace Mine
example : hd.heap_1 = hd.heap_1 ∧ PySem.Challenge.rw_pg0285_01 = PySem.Challenge.rw_pg0285_01 := by
  k_fill
  exact ⟨rfl, rfl⟩
set_option pp.maxSteps 100000
set_option pp.deepTerms false
set_option pp.deepTerms.threshold 4

noncomputable def lawE (L fa : Addr) (cd : Value) : Env := envOfC lawDef.1 lawDef.2.2.1 L fa cd
/- the n-th statement of the law's loop -/
noncomputable def nth (n : Nat) (b : List Stmt) : Stmt := match b.drop n with
  | s :: _ => s
  | [] => .Pass default
noncomputable def OffT (q : TabP) (l : List (Addr × Obj)) : Prop := ∀ p ∈ l, @Ne Nat p.1 46 ∧ @Ne Nat p.1 53 ∧ @Ne Nat p.1 q.c1 ∧ @Ne Nat p.1 q.c2
theorem OffT.sub {q : TabP} {a b : List (Addr × Obj)} (h : OffT q a) (hs : ∀ p ∈ b, p ∈ a) : OffT q b := fun p hp => h p (hs p hp)
theorem OffT.next {q q' : TabP} {a : List (Addr × Obj)} (h : OffT q a) (o : ∀ p ∈ a, p.1 ≠ q'.c1 ∧ p.1 ≠ q'.c2) : OffT q' a := fun p hp => ⟨(h p hp).1, (h p hp).2.1, (o p hp).1, (o p hp).2⟩
theorem tabs_at {H g h : Heap} {L : Addr} {news : List (Addr × Obj)} {q : TabP} (kg : Keep H g) (N : News g L h news) (hm : ∀ p ∈ tabOwn q, p ∈ news) (ok : TabsOk q) : TabsAt9 H h q := ⟨ok, fun p hp => ⟨(N p (hm p hp)).1, h_none kg (N p (hm p hp)).2.2⟩⟩
/- pairs that the ledger bears -/
inductive PairsIn (tl : List (Addr × Obj)) : List Value → List (Int × Int) → Prop
  | nil : PairsIn tl [] []
  | cons {a : Addr} {ta tb : Tok} {t : Int × Int} {vs : List Value} {ts : List (Int × Int)} : (a, tupOf [.int t.1 ta, .int t.2 tb]) ∈ tl → PairsIn tl vs ts → PairsIn tl (.ref a :: vs) (t :: ts)
theorem PairsIn.snoc {tl : List (Addr × Obj)} {vs : List Value} {ts : List (Int × Int)} {a : Addr} {ta tb : Tok} {t : Int × Int} (h : PairsIn tl vs ts) :
    PairsIn ((a, tupOf [.int t.1 ta, .int t.2 tb]) :: tl) (vs ++ [.ref a]) (ts ++ [t]) := by
  induction h with
  | nil => exact .cons (.head _) .nil
  | cons hm _ ih => exact .cons (.tail _ hm) ih
theorem ints_at : ∀ {vs : List Value} {ns : List Int}, IntsAre vs ns → ∀ (i : Nat) (v : Value), vs[i]? = some v → ∃ n t, v = .int n t ∧ ns[i]? = some n
  | _, _, .nil, i, v, h => by simp at h
  | _, _, .cons n t _, 0, v, h => by simp at h; exact ⟨n, t, h.symm, rfl⟩
  | _, _, .cons _ _ hr, i + 1, v, h => by
    rw [List.getElem?_cons_succ] at h
    obtain ⟨n, t, e1, e2⟩ := ints_at hr i v h
    exact ⟨n, t, e1, by rw [List.getElem?_cons_succ]; exact e2⟩
theorem pairs3 {tl : List (Addr × Obj)} {vs : List Value} {x y z : Int × Int} (h : PairsIn tl vs [x, y, z]) : ∃ p0 p1 p2 t0 u0 t1 u1 t2 u2, vs = [.ref p0, .ref p1, .ref p2] ∧ (p0, tupOf [.int x.1 t0, .int x.2 u0]) ∈ tl ∧ (p1, tupOf [.int y.1 t1, .int y.2 u1]) ∈ tl ∧ (p2, tupOf [.int z.1 t2, .int z.2 u2]) ∈ tl := by
  cases h with
  | cons h0 h =>
    cases h with
    | cons h1 h =>
      cases h with
      | cons h2 h =>
        cases h
        exact ⟨_, _, _, _, _, _, _, _, _, rfl, h0, h1, h2⟩
noncomputable def NoCell (l : List (Addr × Obj)) : Prop := ∀ p ∈ l, ∀ v, p.2.data ≠ .cell v
theorem off_cell {g h : Heap} {L a : Addr} {all l : List (Addr × Obj)} {o : Obj} {v : Option Value} (N : News g L h all) (ha : (a, o) ∈ all) (ho : o.data = .cell v) (hs : ∀ p ∈ l, p ∈ all) (hc : NoCell l) : OwnOff l [a] := fun p hp b hb => by
  rw [List.mem_singleton.mp hb]
  exact ne_data (N p (hs p hp)).1 (N _ ha).1 fun e => hc p hp v (e.trans ho)
theorem NoCell.tabs {H h : Heap} {q : TabP} (T : TabsAt9 H h q) : NoCell (tabOwn q) := fun p hp v e => by
  rcases List.mem_cons.mp hp with rfl | hp
  · cases e
  rcases List.mem_cons.mp hp with rfl | hp
  · cases e
  rcases List.mem_cons.mp hp with rfl | hp
  · rcases T.1.1 with ⟨_, c⟩ | ⟨_, _, vs, _, d, _⟩
    · have x1 := (T.2 _ (.tail _ (.tail _ (.head _)))).1
      have x2 := (T.2 _ (.head _)).1
      dsimp only at x1 x2 e
      rw [c, x2] at x1
      rw [← Option.some.inj x1] at e; cases e
    · dsimp only at e; rw [d] at e; cases e
  · rw [List.mem_singleton.mp hp] at e
    rcases T.1.2.1 with ⟨_, c⟩ | ⟨_, _, vs, _, d, _⟩
    · have x1 := (T.2 _ (.tail _ (.tail _ (.tail _ (.head _))))).1
      have x2 := (T.2 _ (.tail _ (.head _))).1
      dsimp only at x1 x2 e
      rw [c, x2] at x1
      rw [← Option.some.inj x1] at e; cases e
    · dsimp only at e; rw [d] at e; cases e
noncomputable def shareOf (ways tot : Int) (c : Int) : Int × Int := ((ways * c).fdiv tot, (ways * c).fmod tot)
example : True := by
  k_with_none
  k_with "call ref" => (k_here; refine Hold.out ?_)
  k_with "eval ListComp" => (k_here; k_dflt (refine LCg.ListComp_U (F₀ := by k_asm) (by with_unfolding_all rfl) (by decide) (by rfl) (by decide) (by rfl) ?_))
  k_with "CompSrc" => refine Hold.out ?_
  k_with "binaryOp Mult int int" => (k_here; k_dflt (refine mul_int ?_ (pow_fits (by assumption))))
  trivial
/- where the comprehension of the shares stands -/
inductive ShLoop (L' : Addr) (o1 o2 o3 : Obj) (Dc : Addr) (kc : Nat) (a b c : Int) (t1 t2 t3 : Tok) (q : TabP) (rest : List (Addr × Obj)) (ways : Int) (i : Nat) (ys : List Value) (nw : List (Addr × Obj)) : Prop
  | mk (q' : TabP) (ps : List (Addr × Obj)) (hnw : nw = tabOwn q' ++ (((L' + 1, o1) :: (L' + 2, o2) :: (L' + 3, o3) :: (Dc, seqObj "list" #[.int a t1, .int b t2, .int c t3] kc) :: rest) ++ ps)) (ok : TabsOk q') (sm : SameT q q')
      (off : OffT q' (((L' + 1, o1) :: (L' + 2, o2) :: (L' + 3, o3) :: (Dc, seqObj "list" #[.int a t1, .int b t2, .int c t3] kc) :: rest) ++ ps)) (hP : PairsIn ps ys ((([a, b, c] : List Int).take i).map (shareOf ways (a + b + c)))) (hpu : ∀ p ∈ ps, ∃ its, p.2 = tupOf its) :
      ShLoop L' o1 o2 o3 Dc kc a b c t1 t2 t3 q rest ways i ys nw
set_option maxHeartbeats 8000000 in
theorem law_shares {w : World} {H g : Heap} (G : Gnd w H) (CH : CodeHd H 50 46) (CH2 : CodeHd H 57 53) {L' fa : Addr} {cd : Value} {m : Str → Option Value} {s : Shared} {dp un : Nat} {fr : Option (List Env)} {gd : Option (List Code)} {q : TabP} {o1 o2 o3 : Obj} {rest : List (Addr × Obj)} {Dc : Addr} {kc : Nat}
    {a b c ways : Int} {t1 t2 t3 tw : Tok} {v3 : Option Value} {p : Program} {loose : List Str} {mean : ExcName → Option Value} {mg mb : Str → Option Value} {Q : Flow → Shared → Prop}
    (kg : Keep H g) (X : (hd.heap_1 w.params).In g) (T : Top p loose mean mg mb g)
    (F : Fr g L' s.heap m)
    (N : News g L' s.heap ((L' + 1, o1) :: (L' + 2, o2) :: (L' + 3, o3) :: (Dc, seqObj "list" #[.int a t1, .int b t2, .int c t3] kc) :: (46, tabObj q.p1) :: (53, tabObj q.p2) :: (q.c1, q.o1) :: (q.c2, q.o2) :: rest))
    (h1 : o1.data = .cell (some (.ref Dc))) (h2 : o2.data = .cell (some (.int ways tw))) (h3 : o3.data = .cell v3) (ok : TabsOk q) (hr : OffT q rest) (hnc : OwnOff rest [L' + 3])
    (ha : 0 ≤ a) (hb : 0 ≤ b) (hc : 0 ≤ c) (hs : a + b + c ≤ 6) (hs1 : 1 ≤ a + b + c) (hw : 0 ≤ ways) (hw2 : ways ≤ 1000)
    (hd9 : dp + 110 < recursionLimit) (hu9 : un + 450 < cLine)
    (h : ∀ h' tk' q' D o3' p0 p1 p2 y0 z0 y1 z1 y2 z2, Fr g L' h' m → News g L' h' ((D, LCg.lst [.ref p0, .ref p1, .ref p2]) :: (p0, tupOf [.int (shareOf ways (a + b + c) a).1 y0, .int (shareOf ways (a + b + c) a).2 z0]) :: (p1, tupOf [.int (shareOf ways (a + b + c) b).1 y1, .int (shareOf ways (a + b + c) b).2 z1]) :: (p2, tupOf [.int (shareOf ways (a + b + c) c).1 y2, .int (shareOf ways (a + b + c) c).2 z2]) ::
        (L' + 1, o1) :: (L' + 2, o2) :: (L' + 3, o3') :: (Dc, seqObj "list" #[.int a t1, .int b t2, .int c t3] kc) :: (46, tabObj q'.p1) :: (53, tabObj q'.p2) :: (q'.c1, q'.o1) :: (q'.c2, q'.o2) :: rest) →
      o3'.data = .cell (some (.ref D)) → TabsOk q' → SameT q q' → OffT q' rest → Q .next { s with heap := h', toks := tk' }) :
    wpAny (model prg w) (Arnd dp un fr gd) (exec (nth 0 (forBody lawDef.2.1)) (lawE L' fa cd)) Q (fun _ _ => False) s := by
  unfold lawE lawDef
  dsimp only [forBody, nth, List.drop]
  k_steps
  rename Fr _ _ _ _ => F1
  rename News _ _ _ _ => N1
  unfold Hold
  have hnl : (L' + 1, o1) ∈ (L' + 1, o1) :: (L' + 2, o2) :: (L' + 3, o3) :: (Dc, seqObj "list" #[.int a t1, .int b t2, .int c t3] kc) :: (46, tabObj q.p1) :: (53, tabObj q.p2) :: (q.c1, q.o1) :: (q.c2, q.o2) :: rest := .head _
  have htabs : ∀ p ∈ tabOwn q, p ∈ (L' + 1, o1) :: (L' + 2, o2) :: (L' + 3, o3) :: (Dc, seqObj "list" #[.int a t1, .int b t2, .int c t3] kc) :: (46, tabObj q.p1) :: (53, tabObj q.p2) :: (q.c1, q.o1) :: (q.c2, q.o2) :: rest := (by repeat' (first | exact List.forall_mem_nil _ | refine all_cons (by k_mem) ?_))
  have hbase : ∀ p ∈ (L' + 1, o1) :: (L' + 2, o2) :: (L' + 3, o3) :: (Dc, seqObj "list" #[.int a t1, .int b t2, .int c t3] kc) :: rest, p ∈ (L' + 1, o1) :: (L' + 2, o2) :: (L' + 3, o3) :: (Dc, seqObj "list" #[.int a t1, .int b t2, .int c t3] kc) :: (46, tabObj q.p1) :: (53, tabObj q.p2) :: (q.c1, q.o1) :: (q.c2, q.o2) :: rest := fun p hp => by
    refine mem_cons_elim hp ?_ fun hp => ?_
    · exact .head _
    refine mem_cons_elim hp ?_ fun hp => ?_
    · exact .tail _ (.head _)
    refine mem_cons_elim hp ?_ fun hp => ?_
    · exact .tail _ (.tail _ (.head _))
    refine mem_cons_elim hp ?_ fun hp => ?_
    · exact .tail _ (.tail _ (.tail _ (.head _)))
    · exact .tail _ (.tail _ (.tail _ (.tail _ (.tail _ (.tail _ (.tail _ (.tail _ hp)))))))
  have T0 := tabs_at kg N1 htabs ok
  have hoff : OffT q ((L' + 1, o1) :: (L' + 2, o2) :: (L' + 3, o3) :: (Dc, seqObj "list" #[.int a t1, .int b t2, .int c t3] kc) :: rest) := fun p hp => by
    refine mem_cons_elim hp ?_ fun hp => ?_
    · exact tab_neA T0 (N1 _ (hbase _ (.head _))).1 fun vs e => by dsimp only at e; rw [h1] at e; cases e
    refine mem_cons_elim hp ?_ fun hp => ?_
    · exact tab_neA T0 (N1 _ (hbase _ (.tail _ (.head _)))).1 fun vs e => by dsimp only at e; rw [h2] at e; cases e
    refine mem_cons_elim hp ?_ fun hp => ?_
    · exact tab_neA T0 (N1 _ (hbase _ (.tail _ (.tail _ (.head _))))).1 fun vs e => by dsimp only at e; rw [h3] at e; cases e
    refine mem_cons_elim hp ?_ fun hp => ?_
    · exact tab_neA T0 (N1 _ (hbase _ (.tail _ (.tail _ (.tail _ (.head _)))))).1 fun vs e => nomatch e
    · exact hr p hp
  replace N1 := news_sub (b := tabOwn q ++ (((L' + 1, o1) :: (L' + 2, o2) :: (L' + 3, o3) :: (Dc, seqObj "list" #[.int a t1, .int b t2, .int c t3] kc) :: rest) ++ [])) N1 (fun p hp => by
    rw [List.append_nil] at hp
    exact (List.mem_append.mp hp).elim (htabs p) (hbase p))
  have wW : Wrap (0 ≤ ways ∧ ways ≤ 1000) := ⟨⟨hw, hw2⟩⟩
  refine LCg.CompSrc.ledger (its := #[.int a t1, .int b t2, .int c t3]) (k := kc) rfl F1 N1 (List.mem_append_right _ (.tail _ (.tail _ (.tail _ (.head _))))) (by rw [sizeLine_eq]; simp) fun g' => ?_
  refine comp_rest (fun i ys nw => ShLoop L' o1 o2 o3 Dc kc a b c t1 t2 t3 q rest ways i ys nw)
    ⟨q, [], rfl, ok, SameT.refl q, by rw [List.append_nil]; exact hoff, .nil, List.forall_mem_nil _⟩ ?step ?fin
  case step =>
    rintro i v I oI C oC D m₂ ys nw h tk E' hi hv ⟨q', ps, rfl, ok', sm', off', hP, hpu⟩ hoC hm2 F2 N2 off ne
    obtain ⟨n, tn, rfl, hn⟩ := ints_at (IntsAre.cons a t1 (.cons b t2 (.cons c t3 .nil))) i v (by simpa using hv)
    have hn0 : 0 ≤ n ∧ n ≤ 6 := by
      have := List.mem_of_getElem? hn
      simp only [List.mem_cons, List.not_mem_nil, or_false] at this
      lia
    have hb1 := Int.mul_nonneg hw hn0.1
    have hb2 : ways * n ≤ 1000 * 6 := Int.mul_le_mul hw2 hn0.2 hn0.1 (by decide)
    obtain ⟨z, hz⟩ : ∃ z, z = tabOwn q' ++ (rest ++ ps) := ⟨_, rfl⟩
    have N3 := news_sub (b := (I, oI) :: (C, oC) :: (D, LCg.lst ys) :: (L' + 1, o1) :: (L' + 2, o2) :: (L' + 3, o3) :: (Dc, seqObj "list" #[.int a t1, .int b t2, .int c t3] kc) :: z) N2 (fun p hp => by
      refine mem_cons_elim hp ?_ fun hp => ?_
      · exact .head _
      refine mem_cons_elim hp ?_ fun hp => ?_
      · exact .tail _ (.head _)
      refine mem_cons_elim hp ?_ fun hp => ?_
      · exact .tail _ (.tail _ (.head _))
      refine .tail _ (.tail _ (.tail _ ?_))
      refine mem_cons_elim hp ?_ fun hp => ?_
      · exact List.mem_append_right _ (.head _)
      refine mem_cons_elim hp ?_ fun hp => ?_
      · exact List.mem_append_right _ (.tail _ (.head _))
      refine mem_cons_elim hp ?_ fun hp => ?_
      · exact List.mem_append_right _ (.tail _ (.tail _ (.head _)))
      refine mem_cons_elim hp ?_ fun hp => ?_
      · exact List.mem_append_right _ (.tail _ (.tail _ (.tail _ (.head _))))
      rw [hz] at hp
      rcases List.mem_append.mp hp with hp | hp
      · exact List.mem_append_left _ hp
      rcases List.mem_append.mp hp with hp | hp
      · exact List.mem_append_right _ (List.mem_append_left _ (.tail _ (.tail _ (.tail _ (.tail _ hp)))))
      · exact List.mem_append_right _ (List.mem_append_right _ hp))
    have oT := off.mem
    clear F1 N1 N2
    k_steps
    rename Fr _ _ _ _ => F1
    rename News _ _ _ _ => N1
    unfold Hold
    rw [hz] at N1
    -- all but the tables
    have hall : ∀ p ∈ (I, oI) :: (C, oC) :: (D, LCg.lst ys) :: (((L' + 1, o1) :: (L' + 2, o2) :: (L' + 3, o3) :: (Dc, seqObj "list" #[.int a t1, .int b t2, .int c t3] kc) :: rest) ++ ps), p ∈ (I, oI) :: (C, oC) :: (D, LCg.lst ys) :: (L' + 1, o1) :: (L' + 2, o2) :: (L' + 3, o3) :: (Dc, seqObj "list" #[.int a t1, .int b t2, .int c t3] kc) :: (tabOwn q' ++ (rest ++ ps)) := fun p hp => by
      refine mem_cons_elim hp ?_ fun hp => ?_
      · exact .head _
      refine mem_cons_elim hp ?_ fun hp => ?_
      · exact .tail _ (.head _)
      refine mem_cons_elim hp ?_ fun hp => ?_
      · exact .tail _ (.tail _ (.head _))
      refine .tail _ (.tail _ (.tail _ ?_))
      rcases List.mem_append.mp hp with hp | hp
      · refine mem_cons_elim hp ?_ fun hp => ?_
        · exact .head _
        refine mem_cons_elim hp ?_ fun hp => ?_
        · exact .tail _ (.head _)
        refine mem_cons_elim hp ?_ fun hp => ?_
        · exact .tail _ (.tail _ (.head _))
        refine mem_cons_elim hp ?_ fun hp => ?_
        · exact .tail _ (.tail _ (.tail _ (.head _)))
        · exact .tail _ (.tail _ (.tail _ (.tail _ (List.mem_append_right _ (List.mem_append_left _ hp)))))
      · exact .tail _ (.tail _ (.tail _ (.tail _ (List.mem_append_right _ (List.mem_append_right _ hp)))))
    have htab : ∀ p ∈ tabOwn q', p ∈ (I, oI) :: (C, oC) :: (D, LCg.lst ys) :: (L' + 1, o1) :: (L' + 2, o2) :: (L' + 3, o3) :: (Dc, seqObj "list" #[.int a t1, .int b t2, .int c t3] kc) :: (tabOwn q' ++ (rest ++ ps)) := fun p hp => .tail _ (.tail _ (.tail _ (.tail _ (.tail _ (.tail _ (.tail _ (List.mem_append_left _ hp)))))))
    have T1 := tabs_at kg N1 htab ok'
    have oA : OffT q' ((I, oI) :: (C, oC) :: (D, LCg.lst ys) :: (((L' + 1, o1) :: (L' + 2, o2) :: (L' + 3, o3) :: (Dc, seqObj "list" #[.int a t1, .int b t2, .int c t3] kc) :: rest) ++ ps)) := fun p hp => by
      refine mem_cons_elim hp ?_ fun hp => ?_
      · exact ⟨(oT _ (List.mem_append_left _ (.head _))).1.symm, (oT _ (List.mem_append_left _ (.tail _ (.head _)))).1.symm, (oT _ (List.mem_append_left _ (.tail _ (.tail _ (.head _))))).1.symm, (oT _ (List.mem_append_left _ (.tail _ (.tail _ (.tail _ (.head _)))))).1.symm⟩
      refine mem_cons_elim hp ?_ fun hp => ?_
      · exact ⟨(oT _ (List.mem_append_left _ (.head _))).2.1.symm, (oT _ (List.mem_append_left _ (.tail _ (.head _)))).2.1.symm, (oT _ (List.mem_append_left _ (.tail _ (.tail _ (.head _))))).2.1.symm, (oT _ (List.mem_append_left _ (.tail _ (.tail _ (.tail _ (.head _)))))).2.1.symm⟩
      refine mem_cons_elim hp ?_ fun hp => ?_
      · exact ⟨(oT _ (List.mem_append_left _ (.head _))).2.2.symm, (oT _ (List.mem_append_left _ (.tail _ (.head _)))).2.2.symm, (oT _ (List.mem_append_left _ (.tail _ (.tail _ (.head _))))).2.2.symm, (oT _ (List.mem_append_left _ (.tail _ (.tail _ (.tail _ (.head _)))))).2.2.symm⟩
      · exact off' p hp
    have es : a + (b + (c + 0)) = a + b + c := by lia
    rw [es]
    refine useT (q := q') (idm_T G CH CH2 (a := ways * n) (b := a + b + c) (by lia) (by lia) (by lia) (by lia)) kg F1 N1 htab ok' (by lia) (by lia) trivial _ (fun p hp => ⟨hall p hp, oA p hp⟩) ?_
    rintro v h2 tk2 q2 F2 N2 ok2 off2 ⟨al9, u1, u2, rfl, g2, f2⟩ k2 nt2
    have fr2 : ∀ p ∈ (I, oI) :: (C, oC) :: (D, LCg.lst ys) :: (((L' + 1, o1) :: (L' + 2, o2) :: (L' + 3, o3) :: (Dc, seqObj "list" #[.int a t1, .int b t2, .int c t3] kc) :: rest) ++ ps), p.1 ≠ al9 := fun p hp => fresh_ne N1 f2 p (hall p hp)
    have N3 := news_add F1 F2 N2 g2 f2
    have T2 := tabs_at kg N2 (fun p hp => List.mem_append_left _ hp) ok2
    have o9 := tab_neA T2 g2 (fun vs e => nomatch e)
    have oB := oA.next off2
    refine LCg.CompEnd.intro F2 N3 (tabOwn q2 ++ (((L' + 1, o1) :: (L' + 2, o2) :: (L' + 3, o3) :: (Dc, seqObj "list" #[.int a t1, .int b t2, .int c t3] kc) :: rest) ++ ((al9, tupOf [.int ((ways * n).fdiv (a + b + c)) u1, .int ((ways * n).fmod (a + b + c)) u2]) :: ps))) (fun p hp => ?_) (LCg.Off3.of fun p hp => ?_) ?_ ⟨q2, _, rfl, ok2, sm'.trans nt2.same, fun p hp => ?_, ?_, List.forall_mem_cons.mpr ⟨⟨_, rfl⟩, hpu⟩⟩
    · refine mem_cons_elim hp ?_ fun hp => ?_
      · exact .tail _ (List.mem_append_right _ (.head _))
      refine mem_cons_elim hp ?_ fun hp => ?_
      · exact .tail _ (List.mem_append_right _ (.tail _ (.head _)))
      refine mem_cons_elim hp ?_ fun hp => ?_
      · exact .tail _ (List.mem_append_right _ (.tail _ (.tail _ (.head _))))
      rcases List.mem_append.mp hp with hp | hp
      · exact .tail _ (List.mem_append_left _ hp)
      rcases List.mem_append.mp hp with hp | hp
      · exact .tail _ (List.mem_append_right _ (.tail _ (.tail _ (.tail _ (List.mem_append_left _ hp)))))
      refine mem_cons_elim hp ?_ fun hp => ?_
      · exact .head _
      · exact .tail _ (List.mem_append_right _ (.tail _ (.tail _ (.tail _ (List.mem_append_right _ hp)))))
    · rcases List.mem_append.mp hp with hp | hp
      · have zI := oB _ (.head _)
        have zC := oB _ (.tail _ (.head _))
        have zD := oB _ (.tail _ (.tail _ (.head _)))
        refine mem_cons_elim hp ?_ fun hp => ?_
        · exact ⟨zI.1.symm, zC.1.symm, zD.1.symm⟩
        refine mem_cons_elim hp ?_ fun hp => ?_
        · exact ⟨zI.2.1.symm, zC.2.1.symm, zD.2.1.symm⟩
        refine mem_cons_elim hp ?_ fun hp => ?_
        · exact ⟨zI.2.2.1.symm, zC.2.2.1.symm, zD.2.2.1.symm⟩
        · rw [List.mem_singleton.mp hp]; exact ⟨zI.2.2.2.symm, zC.2.2.2.symm, zD.2.2.2.symm⟩
      rcases List.mem_append.mp hp with hp | hp
      · exact oT p (List.mem_append_right _ (List.mem_append_left _ hp))
      refine mem_cons_elim hp ?_ fun hp => ?_
      · exact ⟨(fr2 _ (.head _)).symm, (fr2 _ (.tail _ (.head _))).symm, (fr2 _ (.tail _ (.tail _ (.head _)))).symm⟩
      · exact oT p (List.mem_append_right _ (List.mem_append_right _ hp))
    · exact .inr ⟨_, List.mem_append_right _ (.tail _ (.tail _ (.tail _ (.head _)))), rfl, _, rfl⟩
    · rcases List.mem_append.mp hp with hp | hp
      · exact oB p (.tail _ (.tail _ (.tail _ (List.mem_append_left _ hp))))
      refine mem_cons_elim hp ?_ fun hp => ?_
      · exact o9
      · exact oB p (.tail _ (.tail _ (.tail _ (List.mem_append_right _ hp))))
    · rw [List.take_add_one, hn, List.map_append]
      exact hP.snoc (t := shareOf ways (a + b + c) n)
  case fin =>
    rintro ys nw ⟨q', ps, rfl, ok', sm', off', hP, hpu⟩ D h9 tk9 F2 N2 o1d
    change PairsIn ps ys [shareOf ways (a + b + c) a, shareOf ways (a + b + c) b, shareOf ways (a + b + c) c] at hP
    obtain ⟨p0, p1, p2, y0, z0, y1, z1, y2, z2, rfl, m0, m1, m2⟩ := pairs3 hP
    obtain ⟨z, hz⟩ : ∃ z, z = tabOwn q' ++ (rest ++ ps) := ⟨_, rfl⟩
    have hT9 := tabs_at kg N2 (fun p hp => .tail _ (List.mem_append_left _ hp)) ok'
    have hsub : ∀ p ∈ (D, LCg.lst [.ref p0, .ref p1, .ref p2]) :: (L' + 1, o1) :: (L' + 2, o2) :: (L' + 3, o3) :: (Dc, seqObj "list" #[.int a t1, .int b t2, .int c t3] kc) :: z, p ∈ (D, LCg.lst [.ref p0, .ref p1, .ref p2]) :: (tabOwn q' ++ (((L' + 1, o1) :: (L' + 2, o2) :: (L' + 3, o3) :: (Dc, seqObj "list" #[.int a t1, .int b t2, .int c t3] kc) :: rest) ++ ps)) := fun p hp => by
      refine mem_cons_elim hp ?_ fun hp => ?_
      · exact .head _
      refine .tail _ ?_
      refine mem_cons_elim hp ?_ fun hp => ?_
      · exact List.mem_append_right _ (.head _)
      refine mem_cons_elim hp ?_ fun hp => ?_
      · exact List.mem_append_right _ (.tail _ (.head _))
      refine mem_cons_elim hp ?_ fun hp => ?_
      · exact List.mem_append_right _ (.tail _ (.tail _ (.head _)))
      refine mem_cons_elim hp ?_ fun hp => ?_
      · exact List.mem_append_right _ (.tail _ (.tail _ (.tail _ (.head _))))
      rw [hz] at hp
      rcases List.mem_append.mp hp with hp | hp
      · exact List.mem_append_left _ hp
      rcases List.mem_append.mp hp with hp | hp
      · exact List.mem_append_right _ (List.mem_append_left _ (.tail _ (.tail _ (.tail _ (.tail _ hp)))))
      · exact List.mem_append_right _ (List.mem_append_right _ hp)
    have N3 := news_sub N2 hsub
    have mC : (L' + 3, o3) ∈ (D, LCg.lst [.ref p0, .ref p1, .ref p2]) :: (L' + 1, o1) :: (L' + 2, o2) :: (L' + 3, o3) :: (Dc, seqObj "list" #[.int a t1, .int b t2, .int c t3] kc) :: z := .tail _ (.tail _ (.tail _ (.head _)))
    have kOff : OwnOff z [L' + 3] := fun p hp => by
      have hz2 : ∀ p ∈ tabOwn q' ++ (rest ++ ps), p ∈ (D, LCg.lst [.ref p0, .ref p1, .ref p2]) :: (L' + 1, o1) :: (L' + 2, o2) :: (L' + 3, o3) :: (Dc, seqObj "list" #[.int a t1, .int b t2, .int c t3] kc) :: z := fun p hp => by
        rw [hz]; exact .tail _ (.tail _ (.tail _ (.tail _ (.tail _ hp))))
      rw [hz] at hp
      rcases List.mem_append.mp hp with hp' | hp'
      · exact off_cell (l := tabOwn q') N3 mC h3 (fun p hp => hz2 p (List.mem_append_left _ hp)) (NoCell.tabs hT9) p hp'
      rcases List.mem_append.mp hp' with hp'' | hp''
      · exact hnc p hp''
      · exact off_cell (l := ps) N3 mC h3 (fun p hp => hz2 p (List.mem_append_right _ (List.mem_append_right _ hp))) (fun p hp v e2 => by obtain ⟨its, e⟩ := hpu p hp; rw [e] at e2; cases e2) p hp''
    have nD : @Ne Nat D (L' + 3) := ne_data (N3 _ (.head _)).1 (N3 _ mC).1 (fun e => by dsimp only at e; rw [h3] at e; cases e)
    have nDc : @Ne Nat Dc (L' + 3) := ne_data (N3 _ (.tail _ (.tail _ (.tail _ (.tail _ (.head _)))))).1 (N3 _ mC).1 (fun e => by dsimp only at e; rw [h3] at e; cases e)
    have kMark := kstMark
    clear F1 N1 N2
    show wpAny _ _ _ _ _ _
    k_steps
    rename Fr _ _ _ _ => F1
    rename News _ _ _ _ => N1
    rename_i o9 d9
    rw [hz] at N1
    refine h _ _ q' D o9 p0 p1 p2 y0 z0 y1 z1 y2 z2 F1 (fun p hp => N1 p ?_) d9 ok' sm' (off'.sub fun p hp => List.mem_append_left _ (.tail _ (.tail _ (.tail _ (.tail _ hp)))))
    refine mem_cons_elim hp ?_ fun hp => ?_
    · exact .head _
    refine .tail _ ?_
    have inP : ∀ p ∈ ps, p ∈ (L' + 1, o1) :: (L' + 2, o2) :: (L' + 3, o9) :: (Dc, seqObj "list" #[.int a t1, .int b t2, .int c t3] kc) :: (tabOwn q' ++ (rest ++ ps)) := fun p hp => .tail _ (.tail _ (.tail _ (.tail _ (List.mem_append_right _ (List.mem_append_right _ hp)))))
    refine mem_cons_elim hp ?_ fun hp => ?_
    · exact inP _ m0
    refine mem_cons_elim hp ?_ fun hp => ?_
    · exact inP _ m1
    refine mem_cons_elim hp ?_ fun hp => ?_
    · exact inP _ m2
    refine mem_cons_elim hp ?_ fun hp => ?_
    · exact .head _
    refine .tail _ ?_
    refine mem_cons_elim hp ?_ fun hp => ?_
    · exact .head _
    refine .tail _ ?_
    refine mem_cons_elim hp ?_ fun hp => ?_
    · exact .head _
    refine .tail _ ?_
    refine mem_cons_elim hp ?_ fun hp => ?_
    · exact .head _
    refine .tail _ ?_
    rcases List.mem_append.mp (show p ∈ tabOwn q' ++ rest from hp) with hp | hp
    · exact List.mem_append_left _ hp
    · exact List.mem_append_right _ (List.mem_append_left _ hp)
end Mine
end

/- part LawC -/
section
example : True := by
  k_with_none
  w_top off
  trivial
open PySem PySem.W PyProof.Rows PySem.Calls PySem.Spec
set_option maxRecDepth 100000
set_option rowWalk.seconds 0
namespace Mine
example : hd.heap_1 = hd.heap_1 ∧ PySem.Challenge.rw_pg0285_01 = PySem.Challenge.rw_pg0285_01 := by
  k_fill
  exact ⟨rfl, rfl⟩
set_option pp.maxSteps 100000
set_option pp.deepTerms false
set_option pp.deepTerms.threshold 4

example : True := by
  k_with_none
  k_with "eval ListComp" => (k_here; k_dflt (refine LCg.ListComp_U (F₀ := by k_asm) (by with_unfolding_all rfl) (by decide) (by rfl) (by decide) (by rfl) ?_))
  k_with "exec Assign cons ListComp" => (k_here; k_dflt (refine LCg.Assign_ListComp_U (F₀ := by k_asm) (by rfl) (by with_unfolding_all rfl) (by with_unfolding_all rfl) (by decide) (by rfl) (by decide) (by rfl) (by rfl) (by rfl) ?_))
  k_with "CompSrc" => (k_dflt (first
      | (refine LCg.CompSrc.ledger (by rfl) (by k_asm) (by k_asm) (by k_mem) (by first | size_fits | exact Nat.le_of_ble_eq_true rfl) ?_; intro g'; lcg_lit)
      | (refine LCg.CompSrc.range (by rfl) (by k_asm) (by k_asm) (by assumption) (by first | decide | rfl) (by first | rfl | decide) (by first | size_fits | exact Nat.le_of_ble_eq_true rfl) ?_; intro g'; lcg_lit)))
  k_with "compareOp NotEq ref ref" => (k_here; refine Hold.out ?_)
  k_with "CompEnd" => (k_dflt (refine LCg.CompEnd.intro (by assumption) (by assumption) _ (by first | exact fun _ hp => hp | exact fun _ hp => List.Mem.tail _ hp | exact fun _ hp => List.Mem.tail _ (List.Mem.tail _ hp) | exact fun _ hp => List.Mem.tail _ (List.Mem.tail _ (List.Mem.tail _ hp)) | exact fun _ hp => List.Mem.tail _ (List.Mem.tail _ (List.Mem.tail _ (List.Mem.tail _ hp)))) (by assumption) (by first | exact Or.inr ⟨_, by k_mem, rfl, _, rfl⟩ | trivial) ?_))
  trivial

set_option maxHeartbeats 8000000 in
theorem law_rests {w : World} {H g : Heap} (G : Gnd w H) {L' fa : Addr} {cd : Value} {m : Str → Option Value} {s : Shared} {dp un : Nat} {fr : Option (List Env)} {gd : Option (List Code)} {o1 o2 o3 : Obj} {z : List (Addr × Obj)}
    {p : Program} {loose : List Str} {mean : ExcName → Option Value} {mg mb : Str → Option Value} {Q : Flow → Shared → Prop}
    (kg : Keep H g) (X : (hd.heap_1 w.params).In g) (T : Top p loose mean mg mb g) {D p0 p1 p2 : Addr} {x0 x1 x2 : Int} {y0 z0 y1 z1 y2 z2 : Tok}
    (F : Fr g L' s.heap m)
    (N : News g L' s.heap ((D, LCg.lst [.ref p0, .ref p1, .ref p2]) :: (p0, tupOf [.int x0 y0, .int 0 z0]) :: (p1, tupOf [.int x1 y1, .int 0 z1]) :: (p2, tupOf [.int x2 y2, .int 0 z2]) ::
        (L' + 1, o1) :: (L' + 2, o2) :: (L' + 3, o3) :: z))
    (h3 : o3.data = .cell (some (.ref D))) (hu9 : un + 70 < cLine)
    (h : ∀ h' tk', Fr g L' h' m → News g L' h' ((D, LCg.lst [.ref p0, .ref p1, .ref p2]) :: (p0, tupOf [.int x0 y0, .int 0 z0]) :: (p1, tupOf [.int x1 y1, .int 0 z1]) :: (p2, tupOf [.int x2 y2, .int 0 z2]) ::
        (L' + 1, o1) :: (L' + 2, o2) :: (L' + 3, o3) :: z) → Q .next { s with heap := h', toks := tk' }) :
    wpAny (model prg w) (Arnd dp un fr gd) (exec (nth 1 (forBody lawDef.2.1)) (lawE L' fa cd)) Q (fun _ _ => False) s := by
  unfold lawE lawDef
  dsimp only [forBody, nth, List.drop]
  k_steps
  rename Fr _ _ _ _ => F1
  rename News _ _ _ _ => N1
  unfold Hold
  refine ke_ne_ints (ns := [0, 0, 0]) (ms := [0, 0, 0]) ⟨_, (N1 _ (.tail _ (.head _))).1, rfl, _, rfl⟩ ⟨_, (N1 _ (.head _)).1, rfl, _, rfl⟩ (.cons _ _ (.cons _ _ (.cons _ _ .nil))) (.cons _ _ (.cons _ _ (.cons _ _ .nil))) (show un + 64 < cLine by lia) ?_
  k_steps
  exact h _ _ F1 (fun p hp => N1 p (.tail _ (.tail _ hp)))

set_option maxHeartbeats 8000000 in
theorem law_marks {w : World} {H g : Heap} (G : Gnd w H) {L' fa : Addr} {cd : Value} {m : Str → Option Value} {s : Shared} {dp un : Nat} {fr : Option (List Env)} {gd : Option (List Code)} {o1 o2 o3 : Obj} {z : List (Addr × Obj)}
    {p : Program} {loose : List Str} {mean : ExcName → Option Value} {mg mb : Str → Option Value} {Q : Flow → Shared → Prop}
    (kg : Keep H g) (X : (hd.heap_1 w.params).In g) (T : Top p loose mean mg mb g) {D p0 p1 p2 : Addr} {x0 x1 x2 : Int} {y0 z0 y1 z1 y2 z2 : Tok}
    (F : Fr g L' s.heap m)
    (N : News g L' s.heap ((D, LCg.lst [.ref p0, .ref p1, .ref p2]) :: (p0, tupOf [.int x0 y0, .int 0 z0]) :: (p1, tupOf [.int x1 y1, .int 0 z1]) :: (p2, tupOf [.int x2 y2, .int 0 z2]) ::
        (L' + 1, o1) :: (L' + 2, o2) :: (L' + 3, o3) :: z))
    (h3 : o3.data = .cell (some (.ref D))) (hx0 : Wrap (0 ≤ x0 ∧ x0 ≤ 1000)) (hx1 : Wrap (0 ≤ x1 ∧ x1 ≤ 1000)) (hx2 : Wrap (0 ≤ x2 ∧ x2 ≤ 1000)) (hd9 : dp + 20 < recursionLimit) (hu9 : un + 70 < cLine)
    (h : ∀ h' tk' Dm km vm, Fr g L' h' (fun y => if y = Str.ofString "marks" then some (.ref Dm) else m y) → News g L' h' ((Dm, seqObj "list" (List.toArray vm) km) :: (D, LCg.lst [.ref p0, .ref p1, .ref p2]) :: (p0, tupOf [.int x0 y0, .int 0 z0]) :: (p1, tupOf [.int x1 y1, .int 0 z1]) :: (p2, tupOf [.int x2 y2, .int 0 z2]) ::
        (L' + 1, o1) :: (L' + 2, o2) :: (L' + 3, o3) :: z) → IntsAre vm [x0, x0 + x1, x0 + x1 + x2] → Q .next { s with heap := h', toks := tk' }) :
    wpAny (model prg w) (Arnd dp un fr gd) (exec (nth 2 (forBody lawDef.2.1)) (lawE L' fa cd)) Q (fun _ _ => False) s := by
  unfold lawE lawDef
  dsimp only [forBody, nth, List.drop]
  k_steps
  rename Fr _ _ _ _ => F1
  rename News _ _ _ _ => N1
  refine h _ _ _ _ [_, _, _] F1 N1 (Eq.mp (congrArg (IntsAre _) ?_) (IntsAre.cons _ _ (.cons _ _ (.cons _ _ .nil))))
  simp only [List.cons.injEq, and_true]
  lia
end Mine
end

/- part LawD -/
section
example : True := by
  k_with_none
  w_top off
  trivial
open PySem PySem.W PyProof.Rows PySem.Calls PySem.Spec
set_option maxRecDepth 100000
set_option rowWalk.seconds 0
namespace Mine
example : hd.heap_1 = hd.heap_1 ∧ PySem.Challenge.rw_pg0285_01 = PySem.Challenge.rw_pg0285_01 := by
  k_fill
  exact ⟨rfl, rfl⟩
set_option pp.maxSteps 100000
set_option pp.deepTerms false
set_option pp.deepTerms.threshold 4

example : True := by
  k_with_none
  k_with "eval ListComp" => (k_here; k_dflt (refine LCg.ListComp_U (F₀ := by k_asm) (by with_unfolding_all rfl) (by decide) (by rfl) (by decide) (by rfl) ?_))
  k_with "exec Assign cons ListComp" => (k_here; k_dflt (refine LCg.Assign_ListComp_U (F₀ := by k_asm) (by rfl) (by with_unfolding_all rfl) (by with_unfolding_all rfl) (by decide) (by rfl) (by decide) (by rfl) (by rfl) (by rfl) ?_))
  k_with "CompSrc" => (k_dflt (first
      | (refine LCg.CompSrc.ledger (by rfl) (by k_asm) (by k_asm) (by k_mem) (by first | size_fits | exact Nat.le_of_ble_eq_true rfl) ?_; intro g'; lcg_lit)
      | (refine LCg.CompSrc.range (by rfl) (by k_asm) (by k_asm) (by assumption) (by first | decide | rfl) (by first | rfl | decide) (by first | size_fits | exact Nat.le_of_ble_eq_true rfl) ?_; intro g'; lcg_lit)))
  k_with "compareOp NotEq ref ref" => (k_here; refine Hold.out ?_)
  k_with "CompEnd" => (k_dflt (refine LCg.CompEnd.intro (by assumption) (by assumption) _ (by first | exact fun _ hp => hp | exact fun _ hp => List.Mem.tail _ hp | exact fun _ hp => List.Mem.tail _ (List.Mem.tail _ hp) | exact fun _ hp => List.Mem.tail _ (List.Mem.tail _ (List.Mem.tail _ hp)) | exact fun _ hp => List.Mem.tail _ (List.Mem.tail _ (List.Mem.tail _ (List.Mem.tail _ hp)))) (by assumption) (by first | exact Or.inr ⟨_, by k_mem, rfl, _, rfl⟩ | trivial) ?_))
  trivial

example : True := by
  k_with "call ref" => (k_here; refine Hold.out ?_)
  trivial

theorem news_keep {g h : Heap} {L : Addr} {x : Addr × Obj} {pre t : List (Addr × Obj)} (N : News g L h (x :: (pre ++ t))) : News g L h (x :: t) := news_sub N (fun p hp => by
  refine mem_cons_elim hp ?_ fun hp => ?_
  · exact .head _
  · exact .tail _ (List.mem_append_right _ hp))

set_option maxHeartbeats 8000000 in
theorem law_kind {w : World} {H g : Heap} (G : Gnd w H) {L' fa : Addr} {cd : Value} {m : Str → Option Value} {s : Shared} {dp un : Nat} {fr : Option (List Env)} {gd : Option (List Code)} {o1 o2 o3 : Obj} {z : List (Addr × Obj)}
    {p : Program} {loose : List Str} {mean : ExcName → Option Value} {mg mb : Str → Option Value} {Q : Flow → Shared → Prop}
    (kg : Keep H g) (X : (hd.heap_1 w.params).In g) (T : Top p loose mean mg mb g) {Dm : Addr} {vm : List Value} {km : Nat} {x0 x1 x2 lf : Int} {tl : Tok}
    (F : Fr g L' s.heap (bnd m [(Str.ofString "marks", Value.ref Dm), (Str.ofString "left", Value.int lf tl)]))
    (N : News g L' s.heap ((Dm, seqObj "list" vm.toArray km) :: z)) (hI : IntsAre vm [x0, x1, x2]) (hd9 : dp + 20 < recursionLimit) (hu9 : un + 70 < cLine)
    (h : ∀ h' tk' t', Fr g L' h' (fun y => if y = Str.ofString "kind" then some (.int (bis3 x0 x1 x2 lf) t') else bnd m [(Str.ofString "marks", Value.ref Dm), (Str.ofString "left", Value.int lf tl)] y) → News g L' h' ((Dm, seqObj "list" vm.toArray km) :: z) → Q .next { s with heap := h', toks := tk' }) :
    wpAny (model prg w) (Arnd dp un fr gd) (exec (nth 3 (forBody lawDef.2.1)) (lawE L' fa cd)) Q (fun _ _ => False) s := by
  unfold lawE lawDef
  dsimp only [forBody, nth, List.drop]
  k_steps
  rename Fr _ _ _ _ => F1
  rename News _ _ _ _ => N1
  unfold Hold
  refine use0 (bisect_meets G hI) kg F1 N1 (by omega) (by omega) ⟨_, (N1 _ (.head _)).1, rfl, _, rfl⟩ ?_
  rintro v h2 tk2 F2 N2 ⟨t2, rfl⟩
  clear F1 N1
  k_steps
  rename Fr _ _ _ _ => F1
  rename News _ _ _ _ => N1
  exact h _ _ _ F1 N1

set_option maxHeartbeats 8000000 in
theorem law_test {w : World} {H g : Heap} (G : Gnd w H) {L' fa : Addr} {cd : Value} {m : Str → Option Value} {s : Shared} {dp un : Nat} {fr : Option (List Env)} {gd : Option (List Code)} {o1 o2 o3 : Obj} {z : List (Addr × Obj)}
    {p : Program} {loose : List Str} {mean : ExcName → Option Value} {mg mb : Str → Option Value} {Q : Flow → Shared → Prop}
    (kg : Keep H g) (X : (hd.heap_1 w.params).In g) (T : Top p loose mean mg mb g) {Dc : Addr} {kc : Nat} {a b c kd : Int} {t1 t2 t3 tk : Tok}
    (F : Fr g L' s.heap (bnd m [(Str.ofString "kind", Value.int kd tk)]))
    (N : News g L' s.heap ((Dc, seqObj "list" #[.int a t1, .int b t2, .int c t3] kc) :: (L' + 1, o1) :: z))
    (h1 : o1.data = .cell (some (.ref Dc))) (hk : (kd = 0 ∧ a ≠ 0) ∨ (kd = 1 ∧ b ≠ 0) ∨ (kd = 2 ∧ c ≠ 0))
    (h : ∀ h' tk', Fr g L' h' (bnd m [(Str.ofString "kind", Value.int kd tk)]) → News g L' h' ((Dc, seqObj "list" #[.int a t1, .int b t2, .int c t3] kc) :: (L' + 1, o1) :: z) → Q .next { s with heap := h', toks := tk' }) :
    wpAny (model prg w) (Arnd dp un fr gd) (exec (nth 4 (forBody lawDef.2.1)) (lawE L' fa cd)) Q (fun _ _ => False) s := by
  unfold lawE lawDef
  dsimp only [forBody, nth, List.drop]
  rcases hk with ⟨rfl, hk⟩ | ⟨rfl, hk⟩ | ⟨rfl, hk⟩
  all_goals
    k_steps
    · exact absurd (by assumption) hk
    · exact h _ _ F N

set_option maxHeartbeats 8000000 in
theorem law_word {w : World} {H g : Heap} (G : Gnd w H) {L' fa : Addr} {cd : Value} {m : Str → Option Value} {s : Shared} {dp un : Nat} {fr : Option (List Env)} {gd : Option (List Code)} {o1 o2 o3 : Obj} {z : List (Addr × Obj)}
    {p : Program} {loose : List Str} {mean : ExcName → Option Value} {mg mb : Str → Option Value} {Q : Flow → Shared → Prop}
    (kg : Keep H g) (X : (hd.heap_1 w.params).In g) (T : Top p loose mean mg mb g) {Dw : Addr} {kw : Nat} {ws : List Value} {ks : List Int} {kd : Int} {tk : Tok}
    (F : Fr g L' s.heap (bnd m [(Str.ofString "kind", Value.int kd tk), (Str.ofString "word", Value.ref Dw)]))
    (N : News g L' s.heap ((Dw, seqObj "list" ws.toArray kw) :: z)) (hW : IntsAre ws ks) (hl : ks.length ≤ 10)
    (h : ∀ h' tk' Dn kn wn, Fr g L' h' (fun y => if y = Str.ofString "word" then some (.ref Dn) else bnd m [(Str.ofString "kind", Value.int kd tk), (Str.ofString "word", Value.ref Dw)] y) → News g L' h' ((Dn, seqObj "list" (List.toArray wn) kn) :: z) → IntsAre wn (ks ++ [kd]) → Q .next { s with heap := h', toks := tk' }) :
    wpAny (model prg w) (Arnd dp un fr gd) (exec (nth 5 (forBody lawDef.2.1)) (lawE L' fa cd)) Q (fun _ _ => False) s := by
  unfold lawE lawDef
  dsimp only [forBody, nth, List.drop]
  have hlen := hW.length
  k_steps
  rename Fr _ _ _ _ => F1
  rename News _ _ _ _ => N1
  rename IntsAre _ (ks ++ [kd]) => hI9
  exact h _ _ _ 0 _ F1 (news_keep (pre := [_, _]) N1) hI9
end Mine
end

/- part LawE -/
section
example : True := by
  k_with_none
  w_top off
  trivial
open PySem PySem.W PyProof.Rows PySem.Calls PySem.Spec
set_option maxRecDepth 100000
set_option rowWalk.seconds 0
namespace Mine
example : hd.heap_1 = hd.heap_1 ∧ PySem.Challenge.rw_pg0285_01 = PySem.Challenge.rw_pg0285_01 := by
  k_fill
  exact ⟨rfl, rfl⟩
set_option pp.maxSteps 100000
set_option pp.deepTerms false
set_option pp.deepTerms.threshold 4

example : True := by
  k_with_none
  k_with "eval ListComp" => (k_here; k_dflt (refine LCg.ListComp_U (F₀ := by k_asm) (by with_unfolding_all rfl) (by decide) (by rfl) (by decide) (by rfl) ?_))
  k_with "exec Assign cons ListComp" => (k_here; k_dflt (refine LCg.Assign_ListComp_U (F₀ := by k_asm) (by rfl) (by with_unfolding_all rfl) (by with_unfolding_all rfl) (by decide) (by rfl) (by decide) (by rfl) (by rfl) (by rfl) ?_))
  k_with "CompSrc" => (k_dflt (first
      | (refine LCg.CompSrc.ledger (by rfl) (by k_asm) (by k_asm) (by k_mem) (by first | size_fits | exact Nat.le_of_ble_eq_true rfl) ?_; intro g'; lcg_lit)
      | (refine LCg.CompSrc.range (by rfl) (by k_asm) (by k_asm) (by assumption) (by first | decide | rfl) (by first | rfl | decide) (by first | size_fits | exact Nat.le_of_ble_eq_true rfl) ?_; intro g'; lcg_lit)))
  k_with "compareOp NotEq ref ref" => (k_here; refine Hold.out ?_)
  k_with "CompEnd" => (k_dflt (refine LCg.CompEnd.intro (by assumption) (by assumption) _ (by first | exact fun _ hp => hp | exact fun _ hp => List.Mem.tail _ hp | exact fun _ hp => List.Mem.tail _ (List.Mem.tail _ hp) | exact fun _ hp => List.Mem.tail _ (List.Mem.tail _ (List.Mem.tail _ hp)) | exact fun _ hp => List.Mem.tail _ (List.Mem.tail _ (List.Mem.tail _ (List.Mem.tail _ hp)))) (by assumption) (by first | exact Or.inr ⟨_, by k_mem, rfl, _, rfl⟩ | trivial) ?_))
  trivial

example : True := by
  k_with "call ref" => (k_here; refine Hold.out ?_)
  trivial

set_option maxHeartbeats 8000000 in
theorem law_left {w : World} {H g : Heap} (G : Gnd w H) {L' fa : Addr} {cd : Value} {m : Str → Option Value} {s : Shared} {dp un : Nat} {fr : Option (List Env)} {gd : Option (List Code)} {o1 o2 o3 : Obj} {z : List (Addr × Obj)}
    {p : Program} {loose : List Str} {mean : ExcName → Option Value} {mg mb : Str → Option Value} {Q : Flow → Shared → Prop}
    (kg : Keep H g) (X : (hd.heap_1 w.params).In g) (T : Top p loose mean mg mb g) {D p0 p1 p2 : Addr} {x0 x1 x2 : Int} {y0 z0 y1 z1 y2 z2 : Tok}{kd lf : Int} {tk tl : Tok}
    (F : Fr g L' s.heap (bnd m [(Str.ofString "kind", Value.int kd tk), (Str.ofString "left", Value.int lf tl)]))
    (N : News g L' s.heap ((D, LCg.lst [.ref p0, .ref p1, .ref p2]) :: (p0, tupOf [.int x0 y0, .int 0 z0]) :: (p1, tupOf [.int x1 y1, .int 0 z1]) :: (p2, tupOf [.int x2 y2, .int 0 z2]) ::
        (L' + 1, o1) :: (L' + 2, o2) :: (L' + 3, o3) :: z))
    (h3 : o3.data = .cell (some (.ref D))) (hk : kd = 0 ∨ kd = 1 ∨ kd = 2) (hx0 : Wrap (0 ≤ x0 ∧ x0 ≤ 1000)) (hx1 : Wrap (0 ≤ x1 ∧ x1 ≤ 1000)) (hx2 : Wrap (0 ≤ x2 ∧ x2 ≤ 1000)) (hd9 : dp + 20 < recursionLimit) (hu9 : un + 70 < cLine)
    (h : ∀ h' tk' lf' tl', lf' = (lf - (if kd = 0 then 0 else if kd = 1 then x0 else x0 + x1)) → Fr g L' h' (fun y => if y = Str.ofString "left" then some (.int lf' tl') else bnd m [(Str.ofString "kind", Value.int kd tk), (Str.ofString "left", Value.int lf tl)] y) → News g L' h' ((D, LCg.lst [.ref p0, .ref p1, .ref p2]) :: (p0, tupOf [.int x0 y0, .int 0 z0]) :: (p1, tupOf [.int x1 y1, .int 0 z1]) :: (p2, tupOf [.int x2 y2, .int 0 z2]) ::
        (L' + 1, o1) :: (L' + 2, o2) :: (L' + 3, o3) :: z) → Q .next { s with heap := h', toks := tk' }) :
    wpAny (model prg w) (Arnd dp un fr gd) (exec (nth 6 (forBody lawDef.2.1)) (lawE L' fa cd)) Q (fun _ _ => False) s := by
  unfold lawE lawDef
  dsimp only [forBody, nth, List.drop]
  rcases hk with rfl | rfl | rfl
  all_goals
    k_steps
    rename Fr _ _ _ _ => F1
    rename News _ _ _ _ => N1
    refine h _ _ _ _ ?_ F1 (news_sub N1 fun p hp => .tail _ (.tail _ hp))
    simp

set_option maxHeartbeats 8000000 in
theorem law_ways8 {w : World} {H g : Heap} (G : Gnd w H) {L' fa : Addr} {cd : Value} {m : Str → Option Value} {s : Shared} {dp un : Nat} {fr : Option (List Env)} {gd : Option (List Code)} {o1 o2 o3 : Obj} {z : List (Addr × Obj)}
    {p : Program} {loose : List Str} {mean : ExcName → Option Value} {mg mb : Str → Option Value} {Q : Flow → Shared → Prop}
    (kg : Keep H g) (X : (hd.heap_1 w.params).In g) (T : Top p loose mean mg mb g) {D p0 p1 p2 : Addr} {x0 x1 x2 : Int} {y0 z0 y1 z1 y2 z2 : Tok}{kd : Int} {tk tw : Tok} {ways : Int}
    (F : Fr g L' s.heap (bnd m [(Str.ofString "kind", Value.int kd tk)]))
    (N : News g L' s.heap ((D, LCg.lst [.ref p0, .ref p1, .ref p2]) :: (p0, tupOf [.int x0 y0, .int 0 z0]) :: (p1, tupOf [.int x1 y1, .int 0 z1]) :: (p2, tupOf [.int x2 y2, .int 0 z2]) ::
        (L' + 1, o1) :: (L' + 2, o2) :: (L' + 3, o3) :: z))
    (h3 : o3.data = .cell (some (.ref D))) (h2 : o2.data = .cell (some (.int ways tw))) (kOff : OwnOff z [L' + 2]) (nD : @Ne Nat D (L' + 2)) (n0 : @Ne Nat p0 (L' + 2)) (n1 : @Ne Nat p1 (L' + 2)) (n2 : @Ne Nat p2 (L' + 2)) (hk : kd = 0 ∨ kd = 1 ∨ kd = 2)
    (h : ∀ h' tk' o2' tw', Fr g L' h' (bnd m [(Str.ofString "kind", Value.int kd tk)]) → News g L' h' ((D, LCg.lst [.ref p0, .ref p1, .ref p2]) :: (p0, tupOf [.int x0 y0, .int 0 z0]) :: (p1, tupOf [.int x1 y1, .int 0 z1]) :: (p2, tupOf [.int x2 y2, .int 0 z2]) ::
        (L' + 1, o1) :: (L' + 2, o2') :: (L' + 3, o3) :: z) → o2'.data = .cell (some (.int (if kd = 0 then x0 else if kd = 1 then x1 else x2) tw')) → Q .next { s with heap := h', toks := tk' }) :
    wpAny (model prg w) (Arnd dp un fr gd) (exec (nth 7 (forBody lawDef.2.1)) (lawE L' fa cd)) Q (fun _ _ => False) s := by
  unfold lawE lawDef
  dsimp only [forBody, nth, List.drop]
  have kMark := kstMark
  rcases hk with rfl | rfl | rfl
  all_goals
    k_steps
    rename Fr _ _ _ _ => F1
    rename News _ _ _ _ => N1
    exact h _ _ _ _ F1 N1 (by assumption)

set_option maxHeartbeats 8000000 in
theorem law_counts {w : World} {H g : Heap} (G : Gnd w H) {L' fa : Addr} {cd : Value} {m : Str → Option Value} {s : Shared} {dp un : Nat} {fr : Option (List Env)} {gd : Option (List Code)} {o1 o2 o3 : Obj} {z : List (Addr × Obj)}
    {p : Program} {loose : List Str} {mean : ExcName → Option Value} {mg mb : Str → Option Value} {Q : Flow → Shared → Prop}
    (kg : Keep H g) (X : (hd.heap_1 w.params).In g) (T : Top p loose mean mg mb g) {Dc : Addr} {kc : Nat} {a b c kd : Int} {t1 t2 t3 tk : Tok}
    (F : Fr g L' s.heap (bnd m [(Str.ofString "kind", Value.int kd tk)]))
    (N : News g L' s.heap ((Dc, seqObj "list" #[.int a t1, .int b t2, .int c t3] kc) :: (L' + 1, o1) :: z))
    (h1 : o1.data = .cell (some (.ref Dc))) (kOff : OwnOff z [L' + 1]) (nDc : @Ne Nat Dc (L' + 1)) (hk : kd = 0 ∨ kd = 1 ∨ kd = 2)
    (h : ∀ h' tk' o1' Dn kn un1 un2 un3 a' b' c', a' = (if kd = 0 then a - 1 else a) → b' = (if kd = 1 then b - 1 else b) → c' = (if kd = 2 then c - 1 else c) → Fr g L' h' (bnd m [(Str.ofString "kind", Value.int kd tk)]) → News g L' h' ((Dn, seqObj "list" #[.int a' un1, .int b' un2, .int c' un3] kn) :: (L' + 1, o1') :: z) → o1'.data = .cell (some (.ref Dn)) → Q .next { s with heap := h', toks := tk' }) :
    wpAny (model prg w) (Arnd dp un fr gd) (exec (nth 8 (forBody lawDef.2.1)) (lawE L' fa cd)) Q (fun _ _ => False) s := by
  unfold lawE lawDef
  dsimp only [forBody, nth, List.drop]
  have kMark := kstMark
  rcases hk with rfl | rfl | rfl
  all_goals
    k_steps
    rename Fr _ _ _ _ => F1
    rename News _ _ _ _ => N1
    refine h _ _ _ _ 0 _ _ _ _ _ _ ?_ ?_ ?_ F1 (news_keep (pre := [_, _, _, _, _]) N1) (by assumption)
    all_goals first | rfl | (simp; done)

set_option maxHeartbeats 8000000 in
theorem law_again {w : World} {H g : Heap} (G : Gnd w H) {L' fa : Addr} {cd : Value} {m : Str → Option Value} {s : Shared} {dp un : Nat} {fr : Option (List Env)} {gd : Option (List Code)} {o1 o2 o3 : Obj} {z : List (Addr × Obj)}
    {p : Program} {loose : List Str} {mean : ExcName → Option Value} {mg mb : Str → Option Value} {Q : Flow → Shared → Prop}
    (kg : Keep H g) (X : (hd.heap_1 w.params).In g) (T : Top p loose mean mg mb g) {q : TabP} {rest : List (Addr × Obj)} {Dc : Addr} {kc : Nat} {a b c ways : Int} {t1 t2 t3 tw : Tok}
    (CH : CodeHd H 50 46) (CH2 : CodeHd H 57 53) (F : Fr g L' s.heap m)
    (N : News g L' s.heap ((Dc, seqObj "list" #[.int a t1, .int b t2, .int c t3] kc) :: (L' + 1, o1) :: (L' + 2, o2) :: (L' + 3, o3) :: (46, tabObj q.p1) :: (53, tabObj q.p2) :: (q.c1, q.o1) :: (q.c2, q.o2) :: rest))
    (h1 : o1.data = .cell (some (.ref Dc))) (h2 : o2.data = .cell (some (.int ways tw))) {v3 : Option Value} (h3 : o3.data = .cell v3) (ok : TabsOk q) (hr : OffT q rest)
    (ha : 0 ≤ a) (hb : 0 ≤ b) (hc : 0 ≤ c) (hs : a + b + c ≤ 6) (hw : waysF a b c = ways)
    (hd9 : dp + 140 < recursionLimit) (hu9 : un + 520 < cLine)
    (h : ∀ h' tk' q', Fr g L' h' m → News g L' h' ((Dc, seqObj "list" #[.int a t1, .int b t2, .int c t3] kc) :: (L' + 1, o1) :: (L' + 2, o2) :: (L' + 3, o3) :: (46, tabObj q'.p1) :: (53, tabObj q'.p2) :: (q'.c1, q'.o1) :: (q'.c2, q'.o2) :: rest) → TabsOk q' → SameT q q' → OffT q' rest → Q .next { s with heap := h', toks := tk' }) :
    wpAny (model prg w) (Arnd dp un fr gd) (exec (nth 9 (forBody lawDef.2.1)) (lawE L' fa cd)) Q (fun _ _ => False) s := by
  unfold lawE lawDef
  dsimp only [forBody, nth, List.drop]
  k_steps
  rename Fr _ _ _ _ => F1
  rename News _ _ _ _ => N1
  unfold Hold
  have htabs : ∀ p ∈ tabOwn q, p ∈ (Dc, seqObj "list" #[.int a t1, .int b t2, .int c t3] kc) :: (L' + 1, o1) :: (L' + 2, o2) :: (L' + 3, o3) :: (46, tabObj q.p1) :: (53, tabObj q.p2) :: (q.c1, q.o1) :: (q.c2, q.o2) :: rest := (by repeat' (first | exact List.forall_mem_nil _ | refine all_cons (by k_mem) ?_))
  have hbase : ∀ p ∈ (Dc, seqObj "list" #[.int a t1, .int b t2, .int c t3] kc) :: (L' + 1, o1) :: (L' + 2, o2) :: (L' + 3, o3) :: rest, p ∈ (Dc, seqObj "list" #[.int a t1, .int b t2, .int c t3] kc) :: (L' + 1, o1) :: (L' + 2, o2) :: (L' + 3, o3) :: (46, tabObj q.p1) :: (53, tabObj q.p2) :: (q.c1, q.o1) :: (q.c2, q.o2) :: rest := fun p hp => by
    refine mem_cons_elim hp ?_ fun hp => ?_
    · exact .head _
    refine mem_cons_elim hp ?_ fun hp => ?_
    · exact .tail _ (.head _)
    refine mem_cons_elim hp ?_ fun hp => ?_
    · exact .tail _ (.tail _ (.head _))
    refine mem_cons_elim hp ?_ fun hp => ?_
    · exact .tail _ (.tail _ (.tail _ (.head _)))
    · exact .tail _ (.tail _ (.tail _ (.tail _ (.tail _ (.tail _ (.tail _ (.tail _ hp)))))))
  have T0 := tabs_at kg N1 htabs ok
  have hoff : OffT q ((Dc, seqObj "list" #[.int a t1, .int b t2, .int c t3] kc) :: (L' + 1, o1) :: (L' + 2, o2) :: (L' + 3, o3) :: rest) := fun p hp => by
    refine mem_cons_elim hp ?_ fun hp => ?_
    · exact tab_neA T0 (N1 _ (hbase _ (.head _))).1 fun vs e => nomatch e
    refine mem_cons_elim hp ?_ fun hp => ?_
    · exact tab_neA T0 (N1 _ (hbase _ (.tail _ (.head _)))).1 fun vs e => by dsimp only at e; rw [h1] at e; cases e
    refine mem_cons_elim hp ?_ fun hp => ?_
    · exact tab_neA T0 (N1 _ (hbase _ (.tail _ (.tail _ (.head _))))).1 fun vs e => by dsimp only at e; rw [h2] at e; cases e
    refine mem_cons_elim hp ?_ fun hp => ?_
    · exact tab_neA T0 (N1 _ (hbase _ (.tail _ (.tail _ (.tail _ (.head _)))))).1 fun vs e => by dsimp only at e; rw [h3] at e; cases e
    · exact hr p hp
  refine useT (q := q) (ways_T G CH CH2 (.cons a t1 (.cons b t2 (.cons c t3 .nil))) ha hb hc hs) kg F1 N1 htabs ok (by lia) (by lia) ⟨_, (N1 _ (.head _)).1, rfl, _, rfl⟩ _ (fun p hp => ⟨hbase p hp, hoff p hp⟩) ?_
  rintro v h2' tk2 q2 F2 N2 ok2 off2 ⟨tv, rfl⟩ k2 nt2
  rw [hw]
  have N3 := news_sub (b := (Dc, seqObj "list" #[.int a t1, .int b t2, .int c t3] kc) :: (L' + 1, o1) :: (L' + 2, o2) :: (L' + 3, o3) :: (46, tabObj q2.p1) :: (53, tabObj q2.p2) :: (q2.c1, q2.o1) :: (q2.c2, q2.o2) :: rest) N2 (fun p hp => by
    refine mem_cons_elim hp ?_ fun hp => ?_
    · exact List.mem_append_right _ (.head _)
    refine mem_cons_elim hp ?_ fun hp => ?_
    · exact List.mem_append_right _ (.tail _ (.head _))
    refine mem_cons_elim hp ?_ fun hp => ?_
    · exact List.mem_append_right _ (.tail _ (.tail _ (.head _)))
    refine mem_cons_elim hp ?_ fun hp => ?_
    · exact List.mem_append_right _ (.tail _ (.tail _ (.tail _ (.head _))))
    rcases List.mem_append.mp (show p ∈ tabOwn q2 ++ rest from hp) with hp | hp
    · exact List.mem_append_left _ hp
    · exact List.mem_append_right _ (.tail _ (.tail _ (.tail _ (.tail _ hp)))))
  have hr2 := (hoff.next off2).sub (b := rest) (fun p hp => .tail _ (.tail _ (.tail _ (.tail _ hp))))
  obtain ⟨z, hz⟩ : ∃ z, z = (46, tabObj q2.p1) :: (53, tabObj q2.p2) :: (q2.c1, q2.o1) :: (q2.c2, q2.o2) :: rest := ⟨_, rfl⟩
  rw [← hz] at N3
  clear F1 N1 N2
  k_steps
  · exact absurd rfl (by assumption)
  · rw [hz] at N3
    exact h _ _ q2 (by assumption) N3 ok2 nt2.same hr2
end Mine
end

/- part PlainT -/
section
example : True := by
  k_with_none
  w_top off
  trivial
open PySem PySem.W PyProof.Rows PySem.Calls PySem.Spec
set_option maxRecDepth 100000
namespace Mine
/- the ways are the number of words; each share is the number of words that open with the sign -/
theorem ways_len : (tri fun a b c => decide (waysF a b c = ((wordsOf (a + b + c).toNat a.toNat b.toNat c.toNat).length : Int))) = true := by decide +kernel
noncomputable def shL (n : Nat) (x a b c : Nat) : Nat := if x = 0 then 0 else (wordsOf n a b c).length
theorem share_ok : (tri fun a b c => decide (a + b + c = 0) ||
    (decide (shareOf (waysF a b c) (a + b + c) a = (((shL (a + b + c - 1).toNat a.toNat (a - 1).toNat b.toNat c.toNat : Nat) : Int), 0)) &&
     decide (shareOf (waysF a b c) (a + b + c) b = (((shL (a + b + c - 1).toNat b.toNat a.toNat (b - 1).toNat c.toNat : Nat) : Int), 0)) &&
     decide (shareOf (waysF a b c) (a + b + c) c = (((shL (a + b + c - 1).toNat c.toNat a.toNat b.toNat (c - 1).toNat : Nat) : Int), 0)))) = true := by decide +kernel
theorem wordsOf_succ (n a b c : Nat) : wordsOf (n + 1) a b c = (if a = 0 then [] else (wordsOf n (a - 1) b c).map (48 :: ·)) ++ ((if b = 0 then [] else (wordsOf n a (b - 1) c).map (49 :: ·)) ++ (if c = 0 then [] else (wordsOf n a b (c - 1)).map (50 :: ·))) := rfl
/- where a word of so many signs opens with which sign -/
theorem word_at {n a b c : Nat} {i : Nat} {w : List Nat} (h : (wordsOf (n + 1) a b c)[i]? = some w) {x0 x1 x2 : Nat}
    (h0 : x0 = shL n a (a - 1) b c) (h1 : x1 = shL n b a (b - 1) c) (h2 : x2 = shL n c a b (c - 1)) :
    (i < x0 ∧ a ≠ 0 ∧ ∃ w', w = 48 :: w' ∧ (wordsOf n (a - 1) b c)[i]? = some w') ∨
    (x0 ≤ i ∧ i < x0 + x1 ∧ b ≠ 0 ∧ ∃ w', w = 49 :: w' ∧ (wordsOf n a (b - 1) c)[i - x0]? = some w') ∨
    (x0 + x1 ≤ i ∧ i < x0 + x1 + x2 ∧ c ≠ 0 ∧ ∃ w', w = 50 :: w' ∧ (wordsOf n a b (c - 1))[i - (x0 + x1)]? = some w') := by
  have part : ∀ (k d : Nat) (l : List (List Nat)) (j : Nat), (if k = 0 then ([] : List (List Nat)) else l.map (d :: ·))[j]? = some w → k ≠ 0 ∧ ∃ w', w = d :: w' ∧ l[j]? = some w' := by
    intro k d l j e
    by_cases hk : k = 0
    · rw [if_pos hk] at e; cases e
    · rw [if_neg hk, List.getElem?_map] at e
      obtain ⟨w', e1, e2⟩ := Option.map_eq_some_iff.mp e
      exact ⟨hk, w', e2.symm, e1⟩
  have len : ∀ (k d : Nat) (l : List (List Nat)), (if k = 0 then ([] : List (List Nat)) else l.map (d :: ·)).length = if k = 0 then 0 else l.length := by
    intro k d l
    by_cases hk : k = 0
    · rw [if_pos hk, if_pos hk]; rfl
    · rw [if_neg hk, if_neg hk, List.length_map]
  have l0 := len a 48 (wordsOf n (a - 1) b c)
  have l1 := len b 49 (wordsOf n a (b - 1) c)
  have l2 := len c 50 (wordsOf n a b (c - 1))
  rw [show (if a = 0 then 0 else (wordsOf n (a - 1) b c).length) = x0 from h0.symm] at l0
  rw [show (if b = 0 then 0 else (wordsOf n a (b - 1) c).length) = x1 from h1.symm] at l1
  rw [show (if c = 0 then 0 else (wordsOf n a b (c - 1)).length) = x2 from h2.symm] at l2
  rw [wordsOf_succ] at h
  by_cases c0 : i < x0
  · rw [List.getElem?_append_left (by rw [l0]; exact c0)] at h
    exact .inl ⟨c0, part _ _ _ _ h⟩
  · rw [List.getElem?_append_right (by rw [l0]; lia), l0] at h
    by_cases c1 : i < x0 + x1
    · rw [List.getElem?_append_left (by rw [l1]; lia)] at h
      exact .inr (.inl ⟨by lia, c1, part _ _ _ _ h⟩)
    · rw [List.getElem?_append_right (by rw [l1]; lia), l1] at h
      have hlt := (List.getElem?_eq_some_iff.mp h).1
      rw [l2] at hlt
      have e : i - x0 - x1 = i - (x0 + x1) := by lia
      rw [e] at h
      exact .inr (.inr ⟨by lia, by lia, part _ _ _ _ h⟩)
/- what a turn works upon: counts, ways, what is left, and the word still to come -/
structure TurnAt (a b c ways lf : Int) (w : List Nat) : Prop where
  ha : 0 ≤ a
  hb : 0 ≤ b
  hc : 0 ≤ c
  hs : a + b + c ≤ 6
  hw : ways = waysF a b c
  hl : 0 ≤ lf
  at_ : (wordsOf (a + b + c).toNat a.toNat b.toNat c.toNat)[lf.toNat]? = some w
noncomputable def lowA (kd a : Int) : Int := if kd = 0 then a - 1 else a
noncomputable def lowB (kd b : Int) : Int := if kd = 1 then b - 1 else b
noncomputable def lowC (kd c : Int) : Int := if kd = 2 then c - 1 else c
theorem ways_bd {a b c : Int} (ha : 0 ≤ a) (hb : 0 ≤ b) (hc : 0 ≤ c) (hs : a + b + c ≤ 6) : 1 ≤ waysF a b c ∧ waysF a b c ≤ 1000 := by
  have h1 := tri_at ways_ok ha hb hc hs
  have h2 := tri_at wits_ok ha hb hc hs
  have hl : (wits a b c).length ≤ 10 := by
    rw [Bool.and_eq_true] at h2
    exact of_decide_eq_true h2.2
  have h3 := List.all_eq_true.mp h1 10 (by decide)
  rw [Bool.and_eq_true, List.take_of_length_le hl] at h3
  exact ⟨of_decide_eq_true h3.1, of_decide_eq_true h3.2⟩
theorem bis_0 {x0 x1 x2 : Nat} {lf : Int} (hl : 0 ≤ lf) (h : lf.toNat < x0) : bis3 (x0 : Int) (x0 + x1) (x0 + x1 + x2) lf = 0 := by
  unfold bis3; rw [if_pos (by lia), if_pos (by lia)]
theorem bis_1 {x0 x1 x2 : Nat} {lf : Int} (hl : 0 ≤ lf) (h0 : x0 ≤ lf.toNat) (h : lf.toNat < x0 + x1) : bis3 (x0 : Int) (x0 + x1) (x0 + x1 + x2) lf = 1 := by
  unfold bis3; rw [if_pos (by lia), if_neg (by lia)]
theorem bis_2 {x0 x1 x2 : Nat} {lf : Int} (hl : 0 ≤ lf) (h0 : x0 + x1 ≤ lf.toNat) (h : lf.toNat < x0 + x1 + x2) : bis3 (x0 : Int) (x0 + x1) (x0 + x1 + x2) lf = 2 := by
  unfold bis3; rw [if_neg (by lia), if_pos (by lia)]
theorem lf_sub {x : Nat} {lf : Int} (hl : 0 ≤ lf) (h : x ≤ lf.toNat) : 0 ≤ lf - x ∧ (lf - x).toNat = lf.toNat - x := by lia
set_option maxHeartbeats 4000000 in
theorem turn_plain {a b c ways lf : Int} {w : List Nat} (T : TurnAt a b c ways lf w) (h1 : 1 ≤ a + b + c) :
    ∃ x0 x1 x2 kd : Int, shareOf ways (a + b + c) a = (x0, 0) ∧ shareOf ways (a + b + c) b = (x1, 0) ∧ shareOf ways (a + b + c) c = (x2, 0) ∧
      (0 ≤ x0 ∧ x0 ≤ 1000) ∧ (0 ≤ x1 ∧ x1 ≤ 1000) ∧ (0 ≤ x2 ∧ x2 ≤ 1000) ∧ kd = bis3 x0 (x0 + x1) (x0 + x1 + x2) lf ∧
      ((kd = 0 ∧ a ≠ 0) ∨ (kd = 1 ∧ b ≠ 0) ∨ (kd = 2 ∧ c ≠ 0)) ∧
      ∃ w', w = (48 + kd.toNat) :: w' ∧ TurnAt (lowA kd a) (lowB kd b) (lowC kd c) (if kd = 0 then x0 else if kd = 1 then x1 else x2) (lf - (if kd = 0 then 0 else if kd = 1 then x0 else x0 + x1)) w' := by
  obtain ⟨ha, hb, hc, hs, rfl, hl, hat⟩ := T
  have ea : a.toNat - 1 = (a - 1).toNat := (Int.pred_toNat _).symm
  have eb : b.toNat - 1 = (b - 1).toNat := (Int.pred_toNat _).symm
  have ec : c.toNat - 1 = (c - 1).toNat := (Int.pred_toNat _).symm
  have hsh := tri_at share_ok ha hb hc hs
  rw [decide_eq_false (p := a + b + c = 0) (by lia), Bool.false_or, Bool.and_eq_true, Bool.and_eq_true] at hsh
  obtain ⟨⟨s0, s1⟩, s2⟩ := hsh
  have s0 := of_decide_eq_true s0
  have s1 := of_decide_eq_true s1
  have s2 := of_decide_eq_true s2
  have wl : ∀ {a b c : Int}, 0 ≤ a → 0 ≤ b → 0 ≤ c → a + b + c ≤ 6 → waysF a b c = ((wordsOf (a + b + c).toNat a.toNat b.toNat c.toNat).length : Int) := fun ha hb hc hs => of_decide_eq_true (tri_at ways_len ha hb hc hs)
  have sm : (a + b + c).toNat = (a + b + c - 1).toNat + 1 := by lia
  rw [sm] at hat
  obtain ⟨n, hn⟩ : ∃ n, n = (a + b + c - 1).toNat := ⟨_, rfl⟩
  rw [← hn] at hat s0 s1 s2
  have bd : ∀ {x a' b' c' : Int}, 0 ≤ a' → 0 ≤ b' → 0 ≤ c' → a' + b' + c' = a + b + c - 1 → 0 ≤ ((shL n x.toNat a'.toNat b'.toNat c'.toNat : Nat) : Int) ∧ ((shL n x.toNat a'.toNat b'.toNat c'.toNat : Nat) : Int) ≤ 1000 ∧ (x.toNat ≠ 0 → ((shL n x.toNat a'.toNat b'.toNat c'.toNat : Nat) : Int) = waysF a' b' c') := by
    intro x a' b' c' h0 h1 h2 h3
    have e := wl h0 h1 h2 (by lia)
    have e2 := ways_bd h0 h1 h2 (by lia)
    rw [h3, ← hn] at e
    unfold shL
    by_cases hx : x.toNat = 0
    · rw [if_pos hx]; exact ⟨by decide, by decide, fun h => absurd hx h⟩
    · rw [if_neg hx, ← e]; exact ⟨by lia, by lia, fun _ => rfl⟩
  have bz : ∀ {x a' b' c' : Nat}, x = 0 → ((shL n x a' b' c' : Nat) : Int) = 0 := by
    intro x a' b' c' hx; unfold shL; rw [if_pos hx]; rfl
  have B0 : 0 ≤ ((shL n a.toNat (a - 1).toNat b.toNat c.toNat : Nat) : Int) ∧ ((shL n a.toNat (a - 1).toNat b.toNat c.toNat : Nat) : Int) ≤ 1000 ∧ (a.toNat ≠ 0 → ((shL n a.toNat (a - 1).toNat b.toNat c.toNat : Nat) : Int) = waysF (a - 1) b c) := by
    by_cases hz : a = 0
    · rw [bz (by lia)]; exact ⟨by decide, by decide, fun h => absurd (by lia) h⟩
    · exact bd (by lia) hb hc (by lia)
  have B1 : 0 ≤ ((shL n b.toNat a.toNat (b - 1).toNat c.toNat : Nat) : Int) ∧ ((shL n b.toNat a.toNat (b - 1).toNat c.toNat : Nat) : Int) ≤ 1000 ∧ (b.toNat ≠ 0 → ((shL n b.toNat a.toNat (b - 1).toNat c.toNat : Nat) : Int) = waysF a (b - 1) c) := by
    by_cases hz : b = 0
    · rw [bz (by lia)]; exact ⟨by decide, by decide, fun h => absurd (by lia) h⟩
    · exact bd ha (by lia) hc (by lia)
  have B2 : 0 ≤ ((shL n c.toNat a.toNat b.toNat (c - 1).toNat : Nat) : Int) ∧ ((shL n c.toNat a.toNat b.toNat (c - 1).toNat : Nat) : Int) ≤ 1000 ∧ (c.toNat ≠ 0 → ((shL n c.toNat a.toNat b.toNat (c - 1).toNat : Nat) : Int) = waysF a b (c - 1)) := by
    by_cases hz : c = 0
    · rw [bz (by lia)]; exact ⟨by decide, by decide, fun h => absurd (by lia) h⟩
    · exact bd ha hb (by lia) (by lia)
  have W := word_at hat rfl rfl rfl
  rw [ea, eb, ec] at W
  obtain ⟨x0, hx0⟩ : ∃ x, x = shL n a.toNat (a - 1).toNat b.toNat c.toNat := ⟨_, rfl⟩
  obtain ⟨x1, hx1⟩ : ∃ x, x = shL n b.toNat a.toNat (b - 1).toNat c.toNat := ⟨_, rfl⟩
  obtain ⟨x2, hx2⟩ : ∃ x, x = shL n c.toNat a.toNat b.toNat (c - 1).toNat := ⟨_, rfl⟩
  rw [← hx0] at B0 s0
  rw [← hx1] at B1 s1
  rw [← hx2] at B2 s2
  rw [← hx0, ← hx1, ← hx2] at W
  refine ⟨x0, x1, x2, _, s0, s1, s2, ⟨B0.1, B0.2.1⟩, ⟨B1.1, B1.2.1⟩, ⟨B2.1, B2.2.1⟩, rfl, ?_⟩
  rcases W with ⟨g1, g2, w', g3, g4⟩ | ⟨g0, g1, g2, w', g3, g4⟩ | ⟨g0, g1, g2, w', g3, g4⟩
  · have hw9 := B0.2.2 g2
    clear B0 B1 B2 s0 s1 s2
    have e : bis3 (x0 : Int) (x0 + x1) (x0 + x1 + x2) lf = 0 := bis_0 hl g1
    rw [e]
    refine ⟨.inl ⟨rfl, by lia⟩, w', g3, ⟨by show 0 ≤ a - 1; lia, hb, hc, by show a - 1 + b + c ≤ 6; lia, hw9, (Int.sub_zero lf).symm ▸ hl, ?_⟩⟩
    show (wordsOf (a - 1 + b + c).toNat (a - 1).toNat b.toNat c.toNat)[(lf - 0).toNat]? = some w'
    rw [show (a - 1 + b + c).toNat = n by lia, Int.sub_zero lf]
    exact g4
  · have hw9 := B1.2.2 g2
    clear B0 B1 B2 s0 s1 s2
    have e : bis3 (x0 : Int) (x0 + x1) (x0 + x1 + x2) lf = 1 := bis_1 hl g0 g1
    rw [e]
    have ls := lf_sub hl g0
    refine ⟨.inr (.inl ⟨rfl, by lia⟩), w', g3, ⟨ha, by show 0 ≤ b - 1; lia, hc, by show a + (b - 1) + c ≤ 6; lia, hw9, ls.1, ?_⟩⟩
    show (wordsOf (a + (b - 1) + c).toNat a.toNat (b - 1).toNat c.toNat)[(lf - x0).toNat]? = some w'
    rw [show (a + (b - 1) + c).toNat = n by lia, ls.2]
    exact g4
  · have hw9 := B2.2.2 g2
    clear B0 B1 B2 s0 s1 s2
    have e : bis3 (x0 : Int) (x0 + x1) (x0 + x1 + x2) lf = 2 := bis_2 hl g0 g1
    rw [e]
    have ls := lf_sub hl g0
    rw [Int.natCast_add] at ls
    refine ⟨.inr (.inr ⟨rfl, by lia⟩), w', g3, ⟨ha, hb, by show 0 ≤ c - 1; lia, by show a + b + (c - 1) ≤ 6; lia, hw9, ls.1, ?_⟩⟩
    show (wordsOf (a + b + (c - 1)).toNat a.toNat b.toNat (c - 1).toNat)[(lf - (x0 + x1)).toNat]? = some w'
    rw [show (a + b + (c - 1)).toNat = n by lia, ls.2]
    exact g4
end Mine
end

/- part LawT -/
section
example : True := by
  k_with_none
  w_top off
  trivial
open PySem PySem.W PyProof.Rows PySem.Calls PySem.Spec
set_option maxRecDepth 100000
namespace Mine
noncomputable def Nw (g : Heap) (L : Addr) (h : Heap) (p : Addr × Obj) : Prop := h.get? p.1 = some p.2 ∧ p.1 ≠ L ∧ g.get? p.1 = none
theorem nw_cons {g h : Heap} {L : Addr} {x : Addr × Obj} {t : List (Addr × Obj)} : News g L h (x :: t) ↔ Nw g L h x ∧ News g L h t := List.forall_mem_cons
theorem fb_eq : forBody lawDef.2.1 = [nth 0 (forBody lawDef.2.1), nth 1 (forBody lawDef.2.1), nth 2 (forBody lawDef.2.1), nth 3 (forBody lawDef.2.1), nth 4 (forBody lawDef.2.1), nth 5 (forBody lawDef.2.1), nth 6 (forBody lawDef.2.1), nth 7 (forBody lawDef.2.1), nth 8 (forBody lawDef.2.1), nth 9 (forBody lawDef.2.1)] := rfl
theorem OffT.cons {q : TabP} {x : Addr × Obj} {l : List (Addr × Obj)} (a : @Ne Nat x.1 46 ∧ @Ne Nat x.1 53 ∧ @Ne Nat x.1 q.c1 ∧ @Ne Nat x.1 q.c2) (b : OffT q l) : OffT q (x :: l) := List.forall_mem_cons.mpr ⟨a, b⟩
theorem NoCell.cons {x : Addr × Obj} {l : List (Addr × Obj)} (a : ∀ v, x.2.data ≠ .cell v) (b : NoCell l) : NoCell (x :: l) := List.forall_mem_cons.mpr ⟨a, b⟩
theorem OwnOff.cons {x : Addr × Obj} {l : List (Addr × Obj)} {a : Addr} (h : @Ne Nat x.1 a) (b : OwnOff l [a]) : OwnOff (x :: l) [a] := List.forall_mem_cons.mpr ⟨fun b hb => by rw [List.mem_singleton.mp hb]; exact h, b⟩
theorem off_app {g h : Heap} {L a : Addr} {all A B : List (Addr × Obj)} {o : Obj} {v : Option Value} (N : News g L h all) (ha : (a, o) ∈ all) (ho : o.data = .cell v) (hs : ∀ p ∈ A, p ∈ all) (hc : NoCell A) (hB : OwnOff B [a]) : OwnOff (A ++ B) [a] := fun p hp =>
  (List.mem_append.mp hp).elim (off_cell N ha ho hs hc p) (hB p)
noncomputable def Agr (m m' : Str → Option Value) : Prop := ∀ y, y ≠ Str.ofString "marks" → y ≠ Str.ofString "kind" → y ≠ Str.ofString "left" → y ≠ Str.ofString "word" → m' y = m y
noncomputable def upd (m : Str → Option Value) (x : Str) (v : Value) : Str → Option Value := fun y => if y = x then some v else m y
theorem upd_at {m : Str → Option Value} {x : Str} {v : Value} : upd m x v x = some v := if_pos rfl
theorem upd_ne {m : Str → Option Value} {x y : Str} {v : Value} (h : y ≠ x) : upd m x v y = m y := if_neg h
theorem upd_k0 {m m0 : Str → Option Value} {k : Str} {v : Value} (h : m = upd m0 k v) : m k = some v := by rw [h, upd_at]
theorem upd_k1 {m m0 : Str → Option Value} {k y : Str} {v : Value} {x : Option Value} (h : m = upd m0 k v) (hne : y ≠ k) (e : m0 y = x) : m y = x := by rw [h, upd_ne hne, e]
theorem upd_k2 {m m0 : Str → Option Value} {k k2 y : Str} {v v2 : Value} {x : Option Value} (h : m = upd (upd m0 k v) k2 v2) (h2 : y ≠ k2) (h1 : y ≠ k) (e : m0 y = x) : m y = x := by rw [h, upd_ne h2, upd_ne h1, e]
theorem upd_k01 {m m0 : Str → Option Value} {k k2 : Str} {v v2 : Value} (h : m = upd (upd m0 k v) k2 v2) (h2 : k ≠ k2) : m k = some v := by rw [h, upd_ne h2, upd_at]
set_option maxHeartbeats 8000000 in
theorem law_turn {w : World} {H g : Heap} (G : Gnd w H) (CH : CodeHd H 50 46) (CH2 : CodeHd H 57 53) {L' fa : Addr} {cd : Value} {m : Str → Option Value} {s : Shared} {dp un : Nat} {fr : Option (List Env)} {gd : Option (List Code)} {q : TabP} {o1 o2 o3 : Obj} {rest : List (Addr × Obj)} {Dc Dw : Addr} {kc kw : Nat}
    {a b c ways lf : Int} {t1 t2 t3 tw tl : Tok} {v3 : Option Value} {p : Program} {loose : List Str} {mean : ExcName → Option Value} {mg mb : Str → Option Value} {Q : Flow → Shared → Prop} {ws : List Value} {ks : List Int} {wd : List Nat}
    (kg : Keep H g) (X : (hd.heap_1 w.params).In g) (T : Top p loose mean mg mb g)
    (F : Fr g L' s.heap m)
    (N : News g L' s.heap ((L' + 1, o1) :: (L' + 2, o2) :: (L' + 3, o3) :: (Dc, seqObj "list" #[.int a t1, .int b t2, .int c t3] kc) :: (46, tabObj q.p1) :: (53, tabObj q.p2) :: (q.c1, q.o1) :: (q.c2, q.o2) :: (Dw, seqObj "list" ws.toArray kw) :: rest))
    (hml : m (Str.ofString "left") = some (.int lf tl)) (hmw : m (Str.ofString "word") = some (.ref Dw))
    (h1 : o1.data = .cell (some (.ref Dc))) (h2 : o2.data = .cell (some (.int ways tw))) (h3 : o3.data = .cell v3) (ok : TabsOk q) (hr : OffT q rest) (hnc : OwnOff rest [L' + 1] ∧ OwnOff rest [L' + 2] ∧ OwnOff rest [L' + 3])
    (hW : IntsAre ws ks) (hkl : ks.length ≤ 10) (TA : TurnAt a b c ways lf wd) (hs1 : 1 ≤ a + b + c)
    (hd9 : dp + 140 < recursionLimit) (hu9 : un + 520 < cLine)
    (h : ∀ h' tk' m' q' o1' o2' o3' Dc' kc' a' b' c' u1 u2 u3 ways' tw' v3' lf' tl' Dw' kw' ws' kd wd',
      Fr g L' h' m' → News g L' h' ((L' + 1, o1') :: (L' + 2, o2') :: (L' + 3, o3') :: (Dc', seqObj "list" #[.int a' u1, .int b' u2, .int c' u3] kc') :: (46, tabObj q'.p1) :: (53, tabObj q'.p2) :: (q'.c1, q'.o1) :: (q'.c2, q'.o2) :: (Dw', seqObj "list" (List.toArray ws') kw') :: rest) →
      Agr m m' → m' (Str.ofString "left") = some (.int lf' tl') → m' (Str.ofString "word") = some (.ref Dw') →
      o1'.data = .cell (some (.ref Dc')) → o2'.data = .cell (some (.int ways' tw')) → o3'.data = .cell v3' → TabsOk q' → SameT q q' → OffT q' rest →
      IntsAre ws' (ks ++ [kd]) → (0 ≤ kd ∧ kd ≤ 2) → wd = (48 + Int.toNat kd) :: wd' → a' + b' + c' = a + b + c - 1 → TurnAt a' b' c' ways' lf' wd' → Q .next { s with heap := h', toks := tk' }) :
    wpAny (model prg w) (Arnd dp un fr gd) (execs (forBody lawDef.2.1) (lawE L' fa cd)) Q (fun _ _ => False) s := by
  have hps : ∀ {m : Str → Option Value} {ps : List (Str × Value)}, (∀ p ∈ ps, m p.1 = some p.2) → bnd m ps = m := fun h => bnd_eq h
  obtain ⟨x0, x1, x2, kd, e0, e1, e2, B0, B1, B2, hkd, hk, wd', hwd, TA'⟩ := turn_plain TA hs1
  obtain ⟨wb1, wb2⟩ := ways_bd TA.ha TA.hb TA.hc TA.hs
  rw [← TA.hw] at wb1 wb2
  have hk3 : kd = 0 ∨ kd = 1 ∨ kd = 2 := hk.imp And.left (Or.imp And.left And.left)
  have hEx : execs (forBody lawDef.2.1) (lawE L' fa cd) = execs [nth 0 (forBody lawDef.2.1), nth 1 (forBody lawDef.2.1), nth 2 (forBody lawDef.2.1), nth 3 (forBody lawDef.2.1), nth 4 (forBody lawDef.2.1), nth 5 (forBody lawDef.2.1), nth 6 (forBody lawDef.2.1), nth 7 (forBody lawDef.2.1), nth 8 (forBody lawDef.2.1), nth 9 (forBody lawDef.2.1)] (lawE L' fa cd) := congrArg (execs · (lawE L' fa cd)) fb_eq
  rw [hEx]
  clear hEx
  have T0 := tabs_at kg N (q := q) (by repeat' (first | exact List.forall_mem_nil _ | refine all_cons (by k_mem) ?_)) ok
  have oW := tab_neA T0 (N (Dw, seqObj "list" ws.toArray kw) (.tail _ (.tail _ (.tail _ (.tail _ (.tail _ (.tail _ (.tail _ (.tail _ (.head _)))))))))).1 (fun vs e => nomatch e)
  -- shares
  refine wpAny_execs_cons (law_shares G CH CH2 kg X T F N h1 h2 h3 ok (OffT.cons oW hr) (OwnOff.cons (ne_data (N (Dw, seqObj "list" ws.toArray kw) (by k_mem)).1 (N (L' + 3, o3) (by k_mem)).1 fun e => by dsimp only at e; rw [h3] at e; cases e) hnc.2.2) TA.ha TA.hb TA.hc TA.hs hs1 (by lia) wb2 (by lia) (by lia) ?_)
  intro h' tk' q' D o3' p0 p1 p2 y0 z0 y1 z1 y2 z2 F1 N1 d3 ok' sm' off'
  rw [e0, e1, e2] at N1
  dsimp only at N1 ⊢
  clear F N T0 oW
  -- rests
  refine wpAny_execs_cons (law_rests G kg X T F1 N1 d3 (by lia) ?_)
  intro h' tk' F2 N2
  dsimp only
  clear F1 N1
  -- marks
  refine wpAny_execs_cons (law_marks G kg X T F2 N2 d3 ⟨B0⟩ ⟨B1⟩ ⟨B2⟩ (by lia) (by lia) ?_)
  intro h' tk' Dm km vm F3 N3 hM
  dsimp only
  clear F2 N2
  replace F3 : Fr g L' h' (upd m (Str.ofString "marks") (.ref Dm)) := F3
  obtain ⟨m1, hm1⟩ : ∃ m1, m1 = upd m (Str.ofString "marks") (.ref Dm) := ⟨_, rfl⟩
  rw [← hm1] at F3
  have l1 : m1 (Str.ofString "left") = some (.int lf tl) := upd_k1 hm1 (by decide) hml
  have w1 : m1 (Str.ofString "word") = some (.ref Dw) := upd_k1 hm1 (by decide) hmw
  have k1 : m1 (Str.ofString "marks") = some (.ref Dm) := upd_k0 hm1
  -- kind
  have q1 : ∀ p ∈ [(Str.ofString "marks", Value.ref Dm), (Str.ofString "left", Value.int lf tl)], m1 p.1 = some p.2 := List.forall_mem_cons.mpr ⟨k1, List.forall_mem_cons.mpr ⟨l1, List.forall_mem_nil _⟩⟩
  refine wpAny_execs_cons (law_kind (o1 := o1) (o2 := o2) (o3 := o3) G kg X T (bnd_fr F3 q1) N3 hM (by lia) (by lia) ?_)
  intro h' tk' tkd F4 N4
  dsimp only
  rw [bnd_eq q1, ← hkd] at F4
  clear F3 N3
  replace F4 : Fr g L' h' (upd m1 (Str.ofString "kind") (.int kd tkd)) := F4
  obtain ⟨m2, hm2⟩ : ∃ m2, m2 = upd m1 (Str.ofString "kind") (.int kd tkd) := ⟨_, rfl⟩
  rw [← hm2] at F4
  have l2 : m2 (Str.ofString "left") = some (.int lf tl) := upd_k1 hm2 (by decide) l1
  have w2 : m2 (Str.ofString "word") = some (.ref Dw) := upd_k1 hm2 (by decide) w1
  have k2 : m2 (Str.ofString "kind") = some (.int kd tkd) := upd_k0 hm2
  -- test
  have q2 : ∀ p ∈ [(Str.ofString "kind", Value.int kd tkd)], m2 p.1 = some p.2 := List.forall_mem_cons.mpr ⟨k2, List.forall_mem_nil _⟩
  replace N4 : News g L' h' ((Dc, seqObj "list" #[.int a t1, .int b t2, .int c t3] kc) :: (L' + 1, o1) :: (D, LCg.lst [.ref p0, .ref p1, .ref p2]) :: (p0, tupOf [.int x0 y0, .int 0 z0]) :: (p1, tupOf [.int x1 y1, .int 0 z1]) :: (p2, tupOf [.int x2 y2, .int 0 z2]) :: (L' + 2, o2) :: (L' + 3, o3') :: (46, tabObj q'.p1) :: (53, tabObj q'.p2) :: (q'.c1, q'.o1) :: (q'.c2, q'.o2) :: (Dw, seqObj "list" ws.toArray kw) :: rest) := by
    simp only [nw_cons] at N4 ⊢
    simp only [N4, and_self]
  refine wpAny_execs_cons (law_test (o2 := o2) (o3 := o3) G kg X T (bnd_fr F4 q2) N4 h1 hk ?_)
  intro h' tk' F5 N5
  dsimp only
  rw [bnd_eq q2] at F5
  clear F4 N4
  -- word
  have q3 : ∀ p ∈ [(Str.ofString "kind", Value.int kd tkd), (Str.ofString "word", Value.ref Dw)], m2 p.1 = some p.2 := List.forall_mem_cons.mpr ⟨k2, List.forall_mem_cons.mpr ⟨w2, List.forall_mem_nil _⟩⟩
  replace N5 : News g L' h' ((Dw, seqObj "list" ws.toArray kw) :: (D, LCg.lst [.ref p0, .ref p1, .ref p2]) :: (p0, tupOf [.int x0 y0, .int 0 z0]) :: (p1, tupOf [.int x1 y1, .int 0 z1]) :: (p2, tupOf [.int x2 y2, .int 0 z2]) :: (L' + 1, o1) :: (L' + 2, o2) :: (L' + 3, o3') :: (Dc, seqObj "list" #[.int a t1, .int b t2, .int c t3] kc) :: (46, tabObj q'.p1) :: (53, tabObj q'.p2) :: (q'.c1, q'.o1) :: (q'.c2, q'.o2) :: rest) := by
    simp only [nw_cons] at N5 ⊢
    simp only [N5, and_self]
  refine wpAny_execs_cons (law_word (o1 := o1) (o2 := o2) (o3 := o3) G kg X T (bnd_fr F5 q3) N5 hW hkl ?_)
  intro h' tk' Dn kn wn F6 N6 hW'
  dsimp only
  rw [bnd_eq q3] at F6
  clear F5 N5
  replace F6 : Fr g L' h' (upd m2 (Str.ofString "word") (.ref Dn)) := F6
  obtain ⟨m3, hm3⟩ : ∃ m3, m3 = upd m2 (Str.ofString "word") (.ref Dn) := ⟨_, rfl⟩
  rw [← hm3] at F6
  have l3 : m3 (Str.ofString "left") = some (.int lf tl) := upd_k1 hm3 (by decide) l2
  have w3 : m3 (Str.ofString "word") = some (.ref Dn) := upd_k0 hm3
  have k3 : m3 (Str.ofString "kind") = some (.int kd tkd) := upd_k1 hm3 (by decide) k2
  -- left
  have q4 : ∀ p ∈ [(Str.ofString "kind", Value.int kd tkd), (Str.ofString "left", Value.int lf tl)], m3 p.1 = some p.2 := List.forall_mem_cons.mpr ⟨k3, List.forall_mem_cons.mpr ⟨l3, List.forall_mem_nil _⟩⟩
  replace N6 : News g L' h' ((D, LCg.lst [.ref p0, .ref p1, .ref p2]) :: (p0, tupOf [.int x0 y0, .int 0 z0]) :: (p1, tupOf [.int x1 y1, .int 0 z1]) :: (p2, tupOf [.int x2 y2, .int 0 z2]) :: (L' + 1, o1) :: (L' + 2, o2) :: (L' + 3, o3') :: (Dc, seqObj "list" #[.int a t1, .int b t2, .int c t3] kc) :: (46, tabObj q'.p1) :: (53, tabObj q'.p2) :: (q'.c1, q'.o1) :: (q'.c2, q'.o2) :: (Dn, seqObj "list" (List.toArray wn) kn) :: rest) := by
    simp only [nw_cons] at N6 ⊢
    simp only [N6, and_self]
  refine wpAny_execs_cons (law_left G kg X T (bnd_fr F6 q4) N6 d3 hk3 ⟨B0⟩ ⟨B1⟩ ⟨B2⟩ (by lia) (by lia) ?_)
  intro h' tk' lf' tl' hlf F7 N7
  dsimp only
  rw [bnd_eq q4] at F7
  clear F6 N6
  replace F7 : Fr g L' h' (upd m3 (Str.ofString "left") (.int lf' tl')) := F7
  obtain ⟨m4, hm4⟩ : ∃ m4, m4 = upd m3 (Str.ofString "left") (.int lf' tl') := ⟨_, rfl⟩
  rw [← hm4] at F7
  have l4 : m4 (Str.ofString "left") = some (.int lf' tl') := upd_k0 hm4
  have w4 : m4 (Str.ofString "word") = some (.ref Dn) := upd_k1 hm4 (by decide) w3
  have k4 : m4 (Str.ofString "kind") = some (.int kd tkd) := upd_k1 hm4 (by decide) k3
  have ag : Agr m m4 := fun y n1 n2 n3 n4 => by rw [hm4, upd_ne n3, hm3, upd_ne n4, hm2, upd_ne n2, hm1, upd_ne n1]
  -- ways
  have q5 : ∀ p ∈ [(Str.ofString "kind", Value.int kd tkd)], m4 p.1 = some p.2 := List.forall_mem_cons.mpr ⟨k4, List.forall_mem_nil _⟩
  have T7 := tabs_at kg N7 (q := q') (by repeat' (first | exact List.forall_mem_nil _ | refine all_cons (by k_mem) ?_)) ok'
  have oWn := tab_neA T7 (N7 (Dn, seqObj "list" (List.toArray wn) kn) (by k_mem)).1 (fun vs e => nomatch e)
  have nct : NoCell (tabOwn q') := NoCell.tabs T7
  have ncz : NoCell (tabOwn q' ++ [(Dn, seqObj "list" (List.toArray wn) kn)]) := fun p hp => by
    rcases List.mem_append.mp hp with hp | hp
    · exact nct p hp
    · rw [List.mem_singleton.mp hp]; exact fun v e => nomatch e
  have hin : ∀ p ∈ tabOwn q' ++ [(Dn, seqObj "list" (List.toArray wn) kn)], p ∈ (D, LCg.lst [.ref p0, .ref p1, .ref p2]) :: (p0, tupOf [.int x0 y0, .int 0 z0]) :: (p1, tupOf [.int x1 y1, .int 0 z1]) :: (p2, tupOf [.int x2 y2, .int 0 z2]) :: (L' + 1, o1) :: (L' + 2, o2) :: (L' + 3, o3') :: (Dc, seqObj "list" #[.int a t1, .int b t2, .int c t3] kc) :: (46, tabObj q'.p1) :: (53, tabObj q'.p2) :: (q'.c1, q'.o1) :: (q'.c2, q'.o2) :: (Dn, seqObj "list" (List.toArray wn) kn) :: rest :=
    fun p hp => .tail _ (.tail _ (.tail _ (.tail _ (.tail _ (.tail _ (.tail _ (.tail _ (List.mem_append_left rest hp))))))))
  have nDc2 := ne_data (N7 (Dc, seqObj "list" #[.int a t1, .int b t2, .int c t3] kc) (by k_mem)).1 (N7 (L' + 2, o2) (by k_mem)).1 fun e => by dsimp only at e; rw [h2] at e; cases e
  have off2 : OwnOff ((Dc, seqObj "list" #[.int a t1, .int b t2, .int c t3] kc) :: (46, tabObj q'.p1) :: (53, tabObj q'.p2) :: (q'.c1, q'.o1) :: (q'.c2, q'.o2) :: (Dn, seqObj "list" (List.toArray wn) kn) :: rest) [L' + 2] :=
    OwnOff.cons nDc2 (off_app N7 (a := L' + 2) (o := o2) (by k_mem) h2 hin ncz hnc.2.1)
  have m2' := (N7 (L' + 2, o2) (by k_mem)).1
  have m1' := (N7 (L' + 1, o1) (by k_mem)).1
  refine wpAny_execs_cons (law_ways8 G kg X T (bnd_fr F7 q5) N7 d3 h2 off2
    (ne_data (N7 _ (.head _)).1 m2' fun e => by dsimp only at e; rw [h2] at e; cases e)
    (ne_data (N7 _ (.tail _ (.head _))).1 m2' fun e => by dsimp only at e; rw [h2] at e; cases e)
    (ne_data (N7 _ (.tail _ (.tail _ (.head _)))).1 m2' fun e => by dsimp only at e; rw [h2] at e; cases e)
    (ne_data (N7 _ (.tail _ (.tail _ (.tail _ (.head _))))).1 m2' fun e => by dsimp only at e; rw [h2] at e; cases e) hk3 ?_)
  intro h' tk' o2' tw' F8 N8 d2
  dsimp only
  rw [bnd_eq q5] at F8
  -- counts
  have off1 : OwnOff ((L' + 2, o2') :: (L' + 3, o3') :: (46, tabObj q'.p1) :: (53, tabObj q'.p2) :: (q'.c1, q'.o1) :: (q'.c2, q'.o2) :: (Dn, seqObj "list" (List.toArray wn) kn) :: rest) [L' + 1] := fun p hp => by
    refine mem_cons_elim hp ?_ fun hp => ?_
    · intro b hb; rw [List.mem_singleton.mp hb]; exact (by lia : @Ne Nat (L' + 2) (L' + 1))
    refine mem_cons_elim hp ?_ fun hp => ?_
    · intro b hb; rw [List.mem_singleton.mp hb]; exact (by lia : @Ne Nat (L' + 3) (L' + 1))
    exact off_app N7 (a := L' + 1) (o := o1) (by k_mem) h1 hin ncz hnc.1 p hp
  have nDc := ne_data (N7 (Dc, seqObj "list" #[.int a t1, .int b t2, .int c t3] kc) (by k_mem)).1 m1' fun e => by dsimp only at e; rw [h1] at e; cases e
  clear F7 N7 m1' m2'
  replace N8 : News g L' h' ((Dc, seqObj "list" #[.int a t1, .int b t2, .int c t3] kc) :: (L' + 1, o1) :: (L' + 2, o2') :: (L' + 3, o3') :: (46, tabObj q'.p1) :: (53, tabObj q'.p2) :: (q'.c1, q'.o1) :: (q'.c2, q'.o2) :: (Dn, seqObj "list" (List.toArray wn) kn) :: rest) := by
    simp only [nw_cons] at N8 ⊢
    simp only [N8, and_self]
  refine wpAny_execs_cons (law_counts (o2 := o2) (o3 := o3) G kg X T (bnd_fr F8 q5) N8 h1 off1 nDc hk3 ?_)
  intro h' tk' o1' Dc' kc' u1 u2 u3 a' b' c' ha' hb' hc' F9 N9 d1
  dsimp only
  rw [bnd_eq q5] at F9
  clear F8 N8
  replace ha' : a' = lowA kd a := ha'
  replace hb' : b' = lowB kd b := hb'
  replace hc' : c' = lowC kd c := hc'
  rw [← ha', ← hb', ← hc', ← hlf] at TA'
  have hsum : a' + b' + c' = a + b + c - 1 := by
    rw [ha', hb', hc']
    rcases hk3 with rfl | rfl | rfl
    · show a - 1 + b + c = _; lia
    · show a + (b - 1) + c = _; lia
    · show a + b + (c - 1) = _; lia
  -- again
  refine wpAny_execs_cons (law_again (z := []) G kg X T CH CH2 F9 N9 d1 d2 d3 ok' (OffT.cons oWn fun p hp => off' p (.tail _ hp)) TA'.ha TA'.hb TA'.hc TA'.hs TA'.hw.symm (by lia) (by lia) ?_)
  intro h' tk' q3' F10 N10 ok3 sm3 off3
  dsimp only
  refine wpAny_execs_nil ?_
  refine h _ _ m4 q3' o1' o2' o3' Dc' kc' a' b' c' u1 u2 u3 _ tw' _ lf' tl' Dn kn wn kd wd' F10 ?_ ag l4 w4 d1 d2 d3 ok3 (sm'.trans sm3) (fun p hp => off3 p (.tail _ hp)) hW' (by lia) hwd hsum TA'
  simp only [nw_cons] at N10 ⊢
  simp only [N10, and_self]
end Mine
end

/- part PlainL -/
section
example : True := by
  k_with_none
  w_top off
  trivial
open PySem PySem.W PyProof.Rows PySem.Calls PySem.Spec
set_option maxRecDepth 100000
namespace Mine
theorem join_cps : ∀ l : List Str, cpsL (Txt.join (PySem.Str.ofString "") l) = l.flatMap cpsL := by
  have g : ∀ l : List Str, cpsL (Str.join (PySem.Str.ofString "") l) = l.flatMap cpsL := by
    intro l
    induction l with
    | nil => rfl
    | cons x r ih =>
      cases r with
      | nil => show cpsL x = _; simp
      | cons y r =>
        show cpsL (x ++ PySem.Str.ofString "" ++ Str.join (PySem.Str.ofString "") (y :: r)) = _
        rw [cpsL_append, cpsL_append, ih, List.flatMap_cons, show cpsL (PySem.Str.ofString "") = [] from by decide +kernel, List.append_nil, List.flatMap_cons, List.flatMap_cons]
  intro l
  show cpsL (Builtin.Str.glued (PySem.Str.ofString "") l) = _
  rw [StrLaws.glued_eq_join]
  exact g l
noncomputable def blk (n : Int) : List Nat := List.replicate n.toNat 32 ++ [9]
theorem one_cps {n : Int} (h : 0 ≤ n ∧ n ≤ 2) : cpsL (leadOne n) = blk n := by
  have : n = 0 ∨ n = 1 ∨ n = 2 := by omega
  rcases this with rfl | rfl | rfl <;> decide +kernel
theorem lead_cps {ns : List Int} (hb : ∀ n ∈ ns, 0 ≤ n ∧ n ≤ 2) : cpsL (leadStr ns) = ns.flatMap blk := by
  unfold leadStr
  rw [join_cps, List.flatMap_map]
  induction ns with
  | nil => rfl
  | cons a r ih =>
    rw [List.flatMap_cons, List.flatMap_cons, one_cps (hb a (.head _)), ih fun n hn => hb n (.tail _ hn)]
theorem blk_len {n : Int} (h : n ≤ 2) : (blk n).length ≤ 3 := by unfold blk; rw [List.length_append, List.length_replicate]; simp; omega
theorem lead_len {rs : List Int} (hn : rs.length ≤ 6) (hb : ∀ n ∈ rs, 0 ≤ n ∧ n ≤ 2) : (leadStr rs).length ≤ 40 := by
  rw [← cpsL_length, lead_cps hb]
  have g : ∀ l : List Int, (∀ n ∈ l, 0 ≤ n ∧ n ≤ 2) → (l.flatMap blk).length ≤ 3 * l.length := by
    intro l hb
    induction l with
    | nil => simp
    | cons a r ih =>
      rw [List.flatMap_cons, List.length_append, List.length_cons]
      have := blk_len (hb a (.head _)).2
      have := ih fun n hn => hb n (.tail _ hn)
      lia
  have := g rs hb
  lia
theorem blanks_cps {n : Int} (h : 0 ≤ n ∧ n ≤ 2) : cpsL (Txt.mul (PySem.Str.ofString " ") n) = List.replicate n.toNat 32 := by
  have : n = 0 ∨ n = 1 ∨ n = 2 := by omega
  rcases this with rfl | rfl | rfl <;> decide +kernel
/- what the blanks and tabs leave: the counts by run, the blanks behind, the tabs -/
noncomputable def Sh (k : Nat) (x y z : Int) : List Int := [x, y, z].take k
theorem run_blanks (st : List Int × Int × Int) : ∀ n : Nat, (List.replicate n 32).foldl wsStep st = (st.1, st.2.1 + n, st.2.2)
  | 0 => by simp
  | n + 1 => by
    rw [List.replicate_succ, List.foldl_cons]
    show (List.replicate n 32).foldl wsStep (st.1, st.2.1 + 1, st.2.2) = _
    rw [run_blanks _ n]
    simp; lia
theorem run_blk (cnt : List Int) (nt : Int) {n : Int} (h : 0 ≤ n) : (blk n).foldl wsStep (cnt, 0, nt) = (bump cnt n, 0, nt + 1) := by
  unfold blk
  rw [List.foldl_append, run_blanks]
  show wsStep (cnt, 0 + (n.toNat : Int), nt) 9 = _
  unfold wsStep
  rw [if_neg (by decide)]
  have : (0 : Int) + (n.toNat : Int) = n := by omega
  rw [this]
noncomputable def c1 (b : Bool) : Int := if b then 1 else 0
theorem bump_sh {k : Nat} {x y z : Int} (hk : k ≤ 3) (hx : k < 1 → x = 0) (hy : k < 2 → y = 0) (hz : k < 3 → z = 0) {n : Int} (h : 0 ≤ n ∧ n ≤ 2) :
    bump (Sh k x y z) n = Sh (max k (n.toNat + 1)) (x + c1 (n == 0)) (y + c1 (n == 1)) (z + c1 (n == 2)) := by
  have hn : n = 0 ∨ n = 1 ∨ n = 2 := by lia
  have hk : k = 0 ∨ k = 1 ∨ k = 2 ∨ k = 3 := by lia
  rcases hk with rfl | rfl | rfl | rfl
  · obtain rfl := hx (by decide); obtain rfl := hy (by decide); obtain rfl := hz (by decide)
    rcases hn with rfl | rfl | rfl <;> decide +kernel
  · obtain rfl := hy (by decide); obtain rfl := hz (by decide)
    rcases hn with rfl | rfl | rfl <;> simp [bump, padTo, Sh, c1, List.replicate]
  · obtain rfl := hz (by decide)
    rcases hn with rfl | rfl | rfl <;> simp [bump, padTo, Sh, c1, List.replicate]
  · rcases hn with rfl | rfl | rfl <;> simp [bump, padTo, Sh, c1, List.replicate]
theorem run_lead : ∀ (ns : List Int) (k : Nat) (x y z nt : Int), (∀ n ∈ ns, 0 ≤ n ∧ n ≤ 2) → k ≤ 3 → (k < 1 → x = 0) → (k < 2 → y = 0) → (k < 3 → z = 0) →
    ∃ k', k ≤ k' ∧ k' ≤ 3 ∧ ((2 : Int) ∈ ns → k' = 3) ∧ (ns.flatMap blk).foldl wsStep (Sh k x y z, 0, nt) = (Sh k' (x + cnt 0 ns) (y + cnt 1 ns) (z + cnt 2 ns), 0, nt + ns.length)
  | [], k, x, y, z, nt, _, hk, _, _, _ => by
    refine ⟨k, Nat.le_refl _, hk, fun h => absurd h (by simp), ?_⟩
    simp [cnt]
  | a :: r, k, x, y, z, nt, hb, hk, hx, hy, hz => by
    have ha := hb a (.head _)
    have e := bump_sh hk hx hy hz ha
    have m3 : max k (a.toNat + 1) ≤ 3 := by omega
    obtain ⟨k', h1, h2, h3, h4⟩ := run_lead r (max k (a.toNat + 1)) (x + c1 (a == 0)) (y + c1 (a == 1)) (z + c1 (a == 2)) (nt + 1) (fun n hn => hb n (.tail _ hn)) m3
      (fun h => by omega)
      (fun h => by have := hy (by omega); rw [this]; have : a = 0 := by omega
                   rw [this]; rfl)
      (fun h => by have := hz (by omega); rw [this]; have : a = 0 ∨ a = 1 := by omega
                   rcases this with rfl | rfl <;> rfl)
    refine ⟨k', by omega, h2, fun hm => ?_, ?_⟩
    · rcases List.mem_cons.mp hm with q | q
      · rw [← q] at h1; have : (2 : Int).toNat = 2 := rfl
        lia
      · exact h3 q
    · rw [List.flatMap_cons, List.foldl_append, run_blk _ _ ha.1, e, h4]
      have hc : ∀ (d : Int), (cnt d (a :: r) : Int) = c1 (a == d) + cnt d r := by
        intro d
        unfold cnt c1
        rw [List.count_cons]
        by_cases q : (a == d) = true
        · rw [if_pos q, if_pos q]; lia
        · rw [if_neg q, if_neg q]; lia
      rw [hc, hc, hc, List.length_cons]
      refine Prod.ext ?_ (Prod.ext rfl ?_)
      · dsimp only
        congr 1 <;> lia
      · dsimp only
        lia
/- a lead with a sign behind -/
theorem ws_lead {ns : List Int} (hb : ∀ n ∈ ns, 0 ≤ n ∧ n ≤ 2) (h2 : (2 : Int) ∈ ns) {bl : Int} (hbl : 0 ≤ bl ∧ bl ≤ 2) {tail : List Nat} {c : Nat} {t : Str} (ht : cpsL t = c :: tail) (hc : blank c = false) :
    wsOf (leadStr ns ++ Txt.mul (PySem.Str.ofString " ") bl ++ t).cps.toList = ([(cnt 0 ns : Int), (cnt 1 ns : Int), (cnt 2 ns : Int)], bl, (ns.length : Int)) := by
  show wsOf (cpsL (leadStr ns ++ Txt.mul (PySem.Str.ofString " ") bl ++ t)) = _
  rw [cpsL_append, cpsL_append, lead_cps hb, blanks_cps hbl, ht]
  have bA : ∀ c ∈ ns.flatMap blk, blank c = true := by
    intro c hc
    obtain ⟨n, _, hn⟩ := List.mem_flatMap.mp hc
    rcases List.mem_append.mp hn with h | h
    · rw [List.eq_of_mem_replicate h]; rfl
    · rw [List.mem_singleton.mp h]; rfl
  have bB : ∀ c ∈ List.replicate bl.toNat 32, blank c = true := fun c h => by rw [List.eq_of_mem_replicate h]; rfl
  unfold wsOf
  have tw : (ns.flatMap blk ++ List.replicate bl.toNat 32 ++ c :: tail).takeWhile blank = ns.flatMap blk ++ List.replicate bl.toNat 32 := by
    rw [List.takeWhile_append_of_pos (fun x hx => (List.mem_append.mp hx).elim (bA x) (bB x)), List.takeWhile_cons, hc]
    simp
  rw [tw]
  unfold wsRun
  obtain ⟨k', h1, h3, h4, h5⟩ := run_lead ns 0 0 0 0 0 hb (by decide) (fun _ => rfl) (fun _ => rfl) (fun _ => rfl)
  rw [List.foldl_append, show (([], 0, 0) : List Int × Int × Int) = (Sh 0 0 0 0, 0, 0) from rfl, h5, run_blanks, h4 h2]
  show ([0 + (cnt 0 ns : Int), 0 + (cnt 1 ns : Int), 0 + (cnt 2 ns : Int)], 0 + (bl.toNat : Int), 0 + (ns.length : Int)) = _
  rw [Int.zero_add, Int.zero_add, Int.zero_add, Int.zero_add, Int.zero_add, Int.toNat_of_nonneg hbl.1]
/- against an equal lead there is no witness -/
theorem wit_same {cntl : List Int} {b nt : Int} {n : Nat} : witF cntl b nt cntl b nt n = [] := by
  unfold witF
  rw [List.filterMap_eq_nil_iff]
  intro i _
  unfold witOf
  simp
end Mine
end

/- part PlainM -/
section
example : True := by
  k_with_none
  w_top off
  trivial
open PySem PySem.W PyProof.Rows PySem.Calls PySem.Spec
set_option maxRecDepth 100000
namespace Mine
noncomputable def runsOf (xs : List Int) : List Int := (xs.take 4).map (fun x => x.fmod 3) ++ [2, 0]
theorem runs_len (xs : List Int) : (runsOf xs).length ≤ 6 := by
  unfold runsOf; simp; lia
theorem runs_pos (xs : List Int) : 1 ≤ (runsOf xs).length := by
  unfold runsOf; simp
theorem runs_bd (xs : List Int) : ∀ n ∈ runsOf xs, 0 ≤ n ∧ n ≤ 2 := by
  intro n hn
  rcases List.mem_append.mp hn with h | h
  · obtain ⟨x, _, rfl⟩ := List.mem_map.mp h
    have := Int.fmod_nonneg_of_pos x (by decide : (0 : Int) < 3)
    have := Int.fmod_lt_of_pos x (by decide : (0 : Int) < 3)
    lia
  · simp at h; lia
theorem runs_two (xs : List Int) : (2 : Int) ∈ runsOf xs := List.mem_append_right _ (by simp)
theorem num_bd (x : Int) : -1000 ≤ x.fmod 2001 - 1000 ∧ x.fmod 2001 - 1000 ≤ 1000 := by
  have := Int.fmod_nonneg_of_pos x (by decide : (0 : Int) < 2001)
  have := Int.fmod_lt_of_pos x (by decide : (0 : Int) < 2001)
  lia
theorem third_bd (n : Nat) : 0 ≤ (n : Int).fmod 3 ∧ (n : Int).fmod 3 ≤ 2 := by
  have := Int.fmod_nonneg_of_pos (n : Int) (by decide : (0 : Int) < 3)
  have := Int.fmod_lt_of_pos (n : Int) (by decide : (0 : Int) < 3)
  lia
theorem dm_eq (x w : Int) : x.fdiv w * w + x.fmod w = x := by
  have := Int.mul_fdiv_add_fmod x w
  rw [Int.mul_comm] at this; exact this
noncomputable def digits (ks : List Int) : List Nat := ks.map (fun k => 48 + k.toNat)
theorem digits_cnt {d : Int} (hd : 0 ≤ d) : ∀ {ks : List Int}, (∀ k ∈ ks, 0 ≤ k ∧ k ≤ 2) → (digits ks).count (48 + d.toNat) = cnt d ks
  | [], _ => rfl
  | a :: r, hb => by
    have ih := digits_cnt hd (ks := r) fun k hk => hb k (.tail _ hk)
    have ha := hb a (.head _)
    show ((48 + a.toNat) :: digits r).count (48 + d.toNat) = (a :: r).count d
    rw [List.count_cons, List.count_cons, ih]
    show cnt d r + _ = cnt d r + _
    congr 1
    by_cases e : a = d
    · rw [e]; simp
    · have e2 : (48 + a.toNat == 48 + d.toNat) = false := by rw [beq_eq_false_iff_ne]; lia
      have e3 : (a == d) = false := by rw [beq_eq_false_iff_ne]; exact e
      rw [e2, e3]
theorem join_digits : ∀ {ks : List Int}, (∀ k ∈ ks, 0 ≤ k ∧ k ≤ 2) → cpsL (Txt.join (PySem.Str.ofString "") (ks.map fun k => PySem.Str.ofString (toString k))) = digits ks := by
  intro ks hb
  rw [join_cps, List.flatMap_map]
  induction ks with
  | nil => rfl
  | cons a r ih =>
    rw [List.flatMap_cons, digCps (hb a (.head _)).1 (hb a (.head _)).2, ih fun k hk => hb k (.tail _ hk)]
    rfl
/- the law's numbers, before the loop -/
theorem start_plain {rs : List Int} (hb : ∀ n ∈ rs, 0 ≤ n ∧ n ≤ 2) (hn : rs.length ≤ 6) {ss : List Str} (hO : OrdOk rs ss) :
    waysF (cnt 0 rs : Int) (cnt 1 rs) (cnt 2 rs) = (ss.length : Int) ∧ 1 ≤ ss.length ∧ ss.length ≤ 1000 ∧ (cnt 0 rs : Int) + cnt 1 rs + cnt 2 rs = rs.length := by
  have hc := cnt_sum hb
  have e : (cnt 0 rs : Int) + cnt 1 rs + cnt 2 rs = rs.length := by lia
  have w := of_decide_eq_true (tri_at ways_len (a := cnt 0 rs) (b := cnt 1 rs) (c := cnt 2 rs) (by lia) (by lia) (by lia) (by lia))
  have bd := ways_bd (a := cnt 0 rs) (b := cnt 1 rs) (c := cnt 2 rs) (by lia) (by lia) (by lia) (by lia)
  rw [e] at w
  have l : ss.length = (wordsOf rs.length (cnt 0 rs) (cnt 1 rs) (cnt 2 rs)).length := ord_len hO
  have w2 : waysF (cnt 0 rs : Int) (cnt 1 rs) (cnt 2 rs) = (ss.length : Int) := by rw [l]; exact w
  rw [w2] at bd
  exact ⟨w2, by lia, by lia, e⟩
theorem turn_start {rs : List Int} (hb : ∀ n ∈ rs, 0 ≤ n ∧ n ≤ 2) (hn : rs.length ≤ 6) {ss : List Str} (hO : OrdOk rs ss) {lf : Int} (h0 : 0 ≤ lf) (h1 : lf < ss.length) :
    ∃ W x, ss[lf.toNat]? = some x ∧ cpsL x = W ∧ TurnAt (cnt 0 rs) (cnt 1 rs) (cnt 2 rs) (waysF (cnt 0 rs) (cnt 1 rs) (cnt 2 rs)) lf W ∧ W.length = rs.length ∧ W.count 48 = cnt 0 rs ∧ W.count 49 = cnt 1 rs ∧ W.count 50 = cnt 2 rs := by
  have hc := cnt_sum hb
  have e : (cnt 0 rs : Int) + cnt 1 rs + cnt 2 rs = rs.length := by lia
  have hx : ss[lf.toNat]? = some ss[lf.toNat] := List.getElem?_eq_getElem (by lia)
  have hw : (wordsN rs)[lf.toNat]? = some (cpsL ss[lf.toNat]) := by rw [← hO, List.getElem?_map, hx]; rfl
  have hm := (ord_mem hb hO (cpsL ss[lf.toNat])).mp ⟨_, List.getElem_mem _, rfl⟩
  exact ⟨_, _, hx, rfl, ⟨by lia, by lia, by lia, by lia, rfl, h0, by
    rw [e]; exact hw⟩, hm.1, hm.2.1, hm.2.2.1, hm.2.2.2⟩
end Mine
end

/- part LawF -/
section
example : True := by
  k_with_none
  w_top off
  trivial
open PySem PySem.W PyProof.Rows PySem.Calls PySem.Spec
set_option maxRecDepth 100000
set_option rowWalk.seconds 0
namespace Mine
example : hd.heap_1 = hd.heap_1 ∧ PySem.Challenge.rw_pg0285_01 = PySem.Challenge.rw_pg0285_01 := by
  k_fill
  exact ⟨rfl, rfl⟩
set_option pp.maxSteps 100000
set_option pp.deepTerms false
set_option pp.deepTerms.threshold 4

example : True := by
  k_with_none
  k_with "call ref" => (k_here; refine Hold.out ?_)
  trivial

set_option maxHeartbeats 8000000 in
theorem law_runs {w : World} {H g : Heap} (G : Gnd w H) {L' fa : Addr} {cd : Value} {m : Str → Option Value} {s : Shared} {dp un : Nat} {fr : Option (List Env)} {gd : Option (List Code)} {o1 o2 o3 : Obj} {z : List (Addr × Obj)}
    {p : Program} {loose : List Str} {mean : ExcName → Option Value} {mg mb : Str → Option Value} {Q : Flow → Shared → Prop}
    (kg : Keep H g) (X : (hd.heap_1 w.params).In g) (T : Top p loose mean mg mb g) {ls : Addr} {vs : List Value} {xs : List Int}
    (F : Fr g L' s.heap (bnd m [(Str.ofString "script", Value.ref ls)])) (N : News g L' s.heap z)
    (hI : IntsAre vs xs) (hl : g.IsList ls vs.toArray) (hn : xs.length ≤ 63)
    (h : ∀ h' tk' Dr rv kr, Fr g L' h' (fun y => if y = Str.ofString "runs" then some (.ref Dr) else bnd m [(Str.ofString "script", Value.ref ls)] y) → News g L' h' ((Dr, seqObj "list" (List.toArray rv) kr) :: z) → IntsAre rv (runsOf xs) → Q .next { s with heap := h', toks := tk' }) :
    wpAny (model prg w) (Arnd dp un fr gd) (exec (nth 0 lawDef.2.1) (lawE L' fa cd)) Q (fun _ _ => False) s := by
  unfold lawE lawDef
  dsimp only [forBody, nth, List.drop]
  have hlen := hI.length
  k_steps
  rename Fr _ _ _ _ => F1
  rename News _ _ _ _ => N1
  rename IntsAre _ (_ ++ _) => hI9
  exact h _ _ _ _ 0 F1 (news_keep (pre := [_, _, _]) N1) hI9
section

example : True := by
  k_with "binaryOp Mult str int" => (refine SB.mul (mulOk_of 1 10 (by decide +kernel) (by lia) (by lia) (by decide) (by decide)) ?_; intro _ _)
  trivial

set_option maxHeartbeats 8000000 in
theorem law_behind {w : World} {H g : Heap} (G : Gnd w H) {L' fa : Addr} {cd : Value} {m : Str → Option Value} {s : Shared} {dp un : Nat} {fr : Option (List Env)} {gd : Option (List Code)} {o1 o2 o3 : Obj} {z : List (Addr × Obj)}
    {p : Program} {loose : List Str} {mean : ExcName → Option Value} {mg mb : Str → Option Value} {Q : Flow → Shared → Prop}
    (kg : Keep H g) (X : (hd.heap_1 w.params).In g) (T : Top p loose mean mg mb g) {ls : Addr} {vs : List Value} {xs : List Int}
    (F : Fr g L' s.heap (bnd m [(Str.ofString "script", Value.ref ls)])) (N : News g L' s.heap z)
    (hI : IntsAre vs xs) (hl : g.IsList ls vs.toArray) (hn : xs.length ≤ 63)
    (h : ∀ h' tk' tb, Fr g L' h' (fun y => if y = Str.ofString "behind" then some (.str (PySem.Txt.mul (PySem.Str.ofString " ") ((xs.length : Int).fmod 3)) tb) else bnd m [(Str.ofString "script", Value.ref ls)] y) → News g L' h' z → Q .next { s with heap := h', toks := tk' }) :
    wpAny (model prg w) (Arnd dp un fr gd) (exec (nth 1 lawDef.2.1) (lawE L' fa cd)) Q (fun _ _ => False) s := by
  unfold lawE lawDef
  dsimp only [forBody, nth, List.drop]
  have hlen := hI.length
  k_steps
  rename Fr _ _ _ _ => F1
  rename News _ _ _ _ => N1
  exact h _ _ _ F1 N1
end

set_option maxHeartbeats 8000000 in
theorem law_white {w : World} {H g : Heap} (G : Gnd w H) {L' fa : Addr} {cd : Value} {m : Str → Option Value} {s : Shared} {dp un : Nat} {fr : Option (List Env)} {gd : Option (List Code)} {o1 o2 o3 : Obj} {z : List (Addr × Obj)}
    {p : Program} {loose : List Str} {mean : ExcName → Option Value} {mg mb : Str → Option Value} {Q : Flow → Shared → Prop}
    (kg : Keep H g) (X : (hd.heap_1 w.params).In g) (T : Top p loose mean mg mb g) {Dr : Addr} {rv : List Value} {kr : Nat} {rs : List Int} {bs : Str} {tb : Tok}
    (F : Fr g L' s.heap (bnd m [(Str.ofString "runs", Value.ref Dr), (Str.ofString "behind", .str bs tb)])) (N : News g L' s.heap ((Dr, seqObj "list" rv.toArray kr) :: z))
    (hR : IntsAre rv rs) (hn : rs.length ≤ 6) (hb : ∀ n ∈ rs, 0 ≤ n ∧ n ≤ 2) (hbs : bs.length ≤ 3) (hd9 : dp + 60 < recursionLimit) (hu9 : un + 60 < cLine)
    (h : ∀ h' tk' x q vs, Fr g L' h' (fun y => if y = Str.ofString "white" then some (.ref x) else bnd m [(Str.ofString "runs", Value.ref Dr), (Str.ofString "behind", .str bs tb)] y) → News g L' h' (wsOwn x q vs (wsOf (leadStr rs ++ bs ++ Str.ofString "x\t").cps.toList).2.1 (wsOf (leadStr rs ++ bs ++ Str.ofString "x\t").cps.toList).2.2 ++ (Dr, seqObj "list" (List.toArray rv) kr) :: z) → IntsAre vs (wsOf (leadStr rs ++ bs ++ Str.ofString "x\t").cps.toList).1 → (∀ p ∈ (Dr, seqObj "list" (List.toArray rv) kr) :: z, p.1 < q.dx) → @LT.lt Nat _ q.dx x → @LT.lt Nat _ x q.ct → @LT.lt Nat _ q.ct q.nrm → Q .next { s with heap := h', toks := tk' }) :
    wpAny (model prg w) (Arnd dp un fr gd) (exec (nth 2 lawDef.2.1) (lawE L' fa cd)) Q (fun _ _ => False) s := by
  unfold lawE lawDef
  dsimp only [forBody, nth, List.drop]
  k_steps
  rename Fr _ _ _ _ => F1
  rename News _ _ _ _ => N1
  unfold Hold
  refine use0 (lead_meets G hR (by lia) (fun n hn => ⟨(hb n hn).1, Int.le_trans (hb n hn).2 (by decide)⟩)) kg F1 N1 (by lia) (by lia) ⟨_, (N1 _ (.head _)).1, rfl, _, rfl⟩ ?_
  rintro v h2 tk2 F2 N2 ⟨t2, rfl⟩
  clear F1 N1
  have hsz := lead_len hn hb
  k_steps
  rename Fr _ _ _ _ => F1
  rename News _ _ _ _ => N1
  unfold Hold
  refine ws_call G kg F1 N1 (by lia) (by lia) ?_ ?_
  · have hx : (Str.ofString "x\t").length = 2 := by decide +kernel
    refine (show (leadStr rs ++ bs ++ Str.ofString "x\t").length ≤ 60 from ?_)
    lia
  intro x9 q9 vs9 h3 tk3 F3 N3 l9 l10 l11 l12 i9
  clear F1 N1
  k_steps
  exact h _ _ _ _ _ (by assumption) (by assumption) i9 l9 l10 l11 l12

set_option maxHeartbeats 8000000 in
theorem law_number {w : World} {H g : Heap} (G : Gnd w H) {L' fa : Addr} {cd : Value} {m : Str → Option Value} {s : Shared} {dp un : Nat} {fr : Option (List Env)} {gd : Option (List Code)} {o1 o2 o3 : Obj} {z : List (Addr × Obj)}
    {p : Program} {loose : List Str} {mean : ExcName → Option Value} {mg mb : Str → Option Value} {Q : Flow → Shared → Prop}
    (kg : Keep H g) (X : (hd.heap_1 w.params).In g) (T : Top p loose mean mg mb g) {ls : Addr} {vs : List Value} {xs : List Int}
    (F : Fr g L' s.heap (bnd m [(Str.ofString "script", Value.ref ls)])) (N : News g L' s.heap z)
    (hI : IntsAre vs xs) (hl : g.IsList ls vs.toArray) (hn : xs.length ≤ 63)
    (h : ∀ h' tk' tb, Fr g L' h' (fun y => if y = Str.ofString "number" then some (.int (xs.sum.fmod 2001 - 1000) tb) else bnd m [(Str.ofString "script", Value.ref ls)] y) → News g L' h' z → Q .next { s with heap := h', toks := tk' }) :
    wpAny (model prg w) (Arnd dp un fr gd) (exec (nth 3 lawDef.2.1) (lawE L' fa cd)) Q (fun _ _ => False) s := by
  unfold lawE lawDef
  dsimp only [forBody, nth, List.drop]
  have hlen := hI.length
  k_steps
  rename Fr _ _ _ _ => F1
  rename News _ _ _ _ => N1
  exact h _ _ _ F1 N1

set_option maxHeartbeats 8000000 in
theorem law_counts0 {w : World} {H g : Heap} (G : Gnd w H) {L' fa : Addr} {cd : Value} {m : Str → Option Value} {s : Shared} {dp un : Nat} {fr : Option (List Env)} {gd : Option (List Code)} {o1 o2 o3 : Obj} {z : List (Addr × Obj)}
    {p : Program} {loose : List Str} {mean : ExcName → Option Value} {mg mb : Str → Option Value} {Q : Flow → Shared → Prop}
    (kg : Keep H g) (X : (hd.heap_1 w.params).In g) (T : Top p loose mean mg mb g) {x : Addr} {q : WsP} {vs : List Value} {cnt : List Int} {b nt : Int}
    (F : Fr g L' s.heap (bnd m [(Str.ofString "white", Value.ref x)])) (N : News g L' s.heap (wsOwn x q vs b nt ++ (L' + 1, o1) :: z)) (h1 : o1.data = .cell none)
    (hR : IntsAre vs cnt) (hn : cnt.length ≤ 60) (kOff : OwnOff z [L' + 1]) (n1 : @Ne Nat x (L' + 1)) (n2 : @Ne Nat q.dx (L' + 1)) (n3 : @Ne Nat q.nrm (L' + 1)) (n4 : @Ne Nat q.ct (L' + 1))
    (h : ∀ h' tk' o1' Dn kn, Fr g L' h' (bnd m [(Str.ofString "white", Value.ref x)]) → News g L' h' ((Dn, seqObj "list" (List.toArray vs) kn) :: (L' + 1, o1') :: (wsOwn x q vs b nt ++ z)) → o1'.data = .cell (some (.ref Dn)) → Q .next { s with heap := h', toks := tk' }) :
    wpAny (model prg w) (Arnd dp un fr gd) (exec (nth 4 lawDef.2.1) (lawE L' fa cd)) Q (fun _ _ => False) s := by
  unfold lawE lawDef
  dsimp only [forBody, nth, List.drop]
  have kMark := kstMark
  have hlen := hR.length
  simp only [List.cons_append, List.nil_append] at N
  k_steps
  rename Fr _ _ _ _ => F1
  rename News _ _ _ _ => N1
  rename_i o9 d9
  rename Nat => c9
  refine h _ _ o9 _ c9 F1 ?_ d9
  simp only [nw_cons, List.cons_append, List.nil_append] at N1 ⊢
  simp only [N1, and_self]
end Mine
end

/- part LawG -/
section
example : True := by
  k_with_none
  w_top off
  trivial
open PySem PySem.W PyProof.Rows PySem.Calls PySem.Spec
set_option maxRecDepth 100000
set_option rowWalk.seconds 0
namespace Mine
example : hd.heap_1 = hd.heap_1 ∧ PySem.Challenge.rw_pg0285_01 = PySem.Challenge.rw_pg0285_01 := by
  k_fill
  exact ⟨rfl, rfl⟩
set_option pp.maxSteps 100000
set_option pp.deepTerms false
set_option pp.deepTerms.threshold 4

example : True := by
  k_with_none
  k_with "call ref" => (k_here; refine Hold.out ?_)
  trivial
theorem useD {w : World} {H g : Heap} {L : Addr} {m : Str → Option Value} {news : List (Addr × Obj)} {s : Shared} {Q E : Value → Shared → Prop} {dp un : Nat} {fr : Option (List Env)} {gd : Option (List Code)}
    {f : Addr} {args : List Value} {d u : Nat} {Pre : Heap → Prop} {Post : Heap → Value → Heap → Prop} (C : MeetsD w H f args d u Pre Post) (kg : Keep H g) (F : Fr g L s.heap m) (N : News g L s.heap news) (hd : dp + d < recursionLimit) (hu : un + u < cLine)
    (hp : Pre s.heap) (h : ∀ v h' tk' dr, Fr g L h' m → News g L h' news → Post s.heap v h' → Q v { s with heap := h', toks := tk', drawn := dr }) : wpAny (model prg w) (Arnd dp un fr gd) (call (.ref f) args) Q E s :=
  wpAny_call (C dp un fr gd s _ hd hu (fun b o e => F.keep b o (kg b o e)) hp fun v h' tk' dr k post => h v h' tk' dr (F.kept k) (fun p hp => ⟨k _ _ (N p hp).1, (N p hp).2⟩) post)

set_option maxHeartbeats 8000000 in
theorem law_words {w : World} {H g : Heap} (G : Gnd w H) {L' fa : Addr} {cd : Value} {m : Str → Option Value} {s : Shared} {dp un : Nat} {fr : Option (List Env)} {gd : Option (List Code)} {o1 o2 o3 : Obj} {z : List (Addr × Obj)}
    {p : Program} {loose : List Str} {mean : ExcName → Option Value} {mg mb : Str → Option Value} {Q : Flow → Shared → Prop}
    (kg : Keep H g) (X : (hd.heap_1 w.params).In g) (T : Top p loose mean mg mb g) {Dr : Addr} {rv : List Value} {kr : Nat} {rs : List Int}
    (S90 : Sort90) (F : Fr g L' s.heap (bnd m [(Str.ofString "runs", Value.ref Dr)])) (N : News g L' s.heap ((Dr, seqObj "list" rv.toArray kr) :: z))
    (hR : IntsAre rv rs) (hn : rs.length ≤ 6) (hb : ∀ n ∈ rs, 0 ≤ n ∧ n ≤ 2) (hd9 : dp + 60 < recursionLimit) (hu9 : un + 60 < cLine)
    (h : ∀ h' tk' dr D us ss e, Fr g L' h' (fun y => if y = Str.ofString "words" then some (.ref D) else bnd m [(Str.ofString "runs", Value.ref Dr)] y) → News g L' h' ((D, seqObj "list" (List.toArray us) e) :: (Dr, seqObj "list" rv.toArray kr) :: z) → StrsAre us ss → OrdOk rs ss → Q .next { s with heap := h', toks := tk', drawn := dr }) :
    wpAny (model prg w) (Arnd dp un fr gd) (exec (nth 5 lawDef.2.1) (lawE L' fa cd)) Q (fun _ _ => False) s := by
  unfold lawE lawDef
  dsimp only [forBody, nth, List.drop]
  k_steps
  rename Fr _ _ _ _ => F1
  rename News _ _ _ _ => N1
  unfold Hold
  refine useD (orders_D S90 G hR hb hn) kg F1 N1 (by lia) (by lia) ⟨_, (N1 _ (.head _)).1, rfl, _, rfl⟩ ?_
  rintro v h2 tk2 dr F2 N2 ⟨D, us, ss, e, rfl, g2, f2, hU, hO⟩
  have N3 := news_add F1 F2 N2 g2 f2
  clear F1 N1 N2
  k_steps
  exact h _ _ _ _ _ _ _ (by assumption) (by assumption) hU hO

set_option maxHeartbeats 8000000 in
theorem law_ways0 {w : World} {H g : Heap} (G : Gnd w H) {L' fa : Addr} {cd : Value} {m : Str → Option Value} {s : Shared} {dp un : Nat} {fr : Option (List Env)} {gd : Option (List Code)} {o1 o2 o3 : Obj} {z : List (Addr × Obj)}
    {p : Program} {loose : List Str} {mean : ExcName → Option Value} {mg mb : Str → Option Value} {Q : Flow → Shared → Prop}
    (kg : Keep H g) (X : (hd.heap_1 w.params).In g) (T : Top p loose mean mg mb g) {q : TabP} {rest : List (Addr × Obj)} {Dc : Addr} {kc : Nat} {a b c : Int} {t1 t2 t3 : Tok}
    (CH : CodeHd H 50 46) (CH2 : CodeHd H 57 53) (F : Fr g L' s.heap m)
    (N : News g L' s.heap ((Dc, seqObj "list" #[.int a t1, .int b t2, .int c t3] kc) :: (L' + 1, o1) :: (L' + 2, o2) :: (L' + 3, o3) :: (46, tabObj q.p1) :: (53, tabObj q.p2) :: (q.c1, q.o1) :: (q.c2, q.o2) :: rest))
    (h1 : o1.data = .cell (some (.ref Dc))) {v2 v3 : Option Value} (h2 : o2.data = .cell v2) (h3 : o3.data = .cell v3) (ok : TabsOk q) (hr : OffT q rest) (hnc : NoCell rest)
    (ha : 0 ≤ a) (hb : 0 ≤ b) (hc : 0 ≤ c) (hs : a + b + c ≤ 6)
    (hd9 : dp + 140 < recursionLimit) (hu9 : un + 520 < cLine)
    (h : ∀ h' tk' q' o2' tw', Fr g L' h' m → News g L' h' ((Dc, seqObj "list" #[.int a t1, .int b t2, .int c t3] kc) :: (L' + 1, o1) :: (L' + 2, o2') :: (L' + 3, o3) :: (46, tabObj q'.p1) :: (53, tabObj q'.p2) :: (q'.c1, q'.o1) :: (q'.c2, q'.o2) :: rest) → o2'.data = .cell (some (.int (waysF a b c) tw')) → TabsOk q' → SameT q q' → OffT q' rest → Q .next { s with heap := h', toks := tk' }) :
    wpAny (model prg w) (Arnd dp un fr gd) (exec (nth 6 lawDef.2.1) (lawE L' fa cd)) Q (fun _ _ => False) s := by
  unfold lawE lawDef
  dsimp only [forBody, nth, List.drop]
  k_steps
  rename Fr _ _ _ _ => F1
  rename News _ _ _ _ => N1
  unfold Hold
  have htabs : ∀ p ∈ tabOwn q, p ∈ (Dc, seqObj "list" #[.int a t1, .int b t2, .int c t3] kc) :: (L' + 1, o1) :: (L' + 2, o2) :: (L' + 3, o3) :: (46, tabObj q.p1) :: (53, tabObj q.p2) :: (q.c1, q.o1) :: (q.c2, q.o2) :: rest := (by repeat' (first | exact List.forall_mem_nil _ | refine all_cons (by k_mem) ?_))
  have hbase : ∀ p ∈ (Dc, seqObj "list" #[.int a t1, .int b t2, .int c t3] kc) :: (L' + 1, o1) :: (L' + 2, o2) :: (L' + 3, o3) :: rest, p ∈ (Dc, seqObj "list" #[.int a t1, .int b t2, .int c t3] kc) :: (L' + 1, o1) :: (L' + 2, o2) :: (L' + 3, o3) :: (46, tabObj q.p1) :: (53, tabObj q.p2) :: (q.c1, q.o1) :: (q.c2, q.o2) :: rest := fun p hp => by
    refine mem_cons_elim hp ?_ fun hp => ?_
    · exact .head _
    refine mem_cons_elim hp ?_ fun hp => ?_
    · exact .tail _ (.head _)
    refine mem_cons_elim hp ?_ fun hp => ?_
    · exact .tail _ (.tail _ (.head _))
    refine mem_cons_elim hp ?_ fun hp => ?_
    · exact .tail _ (.tail _ (.tail _ (.head _)))
    · exact .tail _ (.tail _ (.tail _ (.tail _ (.tail _ (.tail _ (.tail _ (.tail _ hp)))))))
  have T0 := tabs_at kg N1 htabs ok
  have hoff : OffT q ((Dc, seqObj "list" #[.int a t1, .int b t2, .int c t3] kc) :: (L' + 1, o1) :: (L' + 2, o2) :: (L' + 3, o3) :: rest) :=
    .cons (tab_neA T0 (N1 _ (hbase _ (.head _))).1 fun vs e => nomatch e)
    (.cons (tab_neA T0 (N1 _ (hbase _ (.tail _ (.head _)))).1 fun vs e => by dsimp only at e; rw [h1] at e; cases e)
    (.cons (tab_neA T0 (N1 _ (hbase _ (.tail _ (.tail _ (.head _))))).1 fun vs e => by dsimp only at e; rw [h2] at e; cases e)
    (.cons (tab_neA T0 (N1 _ (hbase _ (.tail _ (.tail _ (.tail _ (.head _)))))).1 fun vs e => by dsimp only at e; rw [h3] at e; cases e) hr)))
  refine useT (q := q) (ways_T G CH CH2 (.cons a t1 (.cons b t2 (.cons c t3 .nil))) ha hb hc hs) kg F1 N1 htabs ok (by lia) (by lia) ⟨_, (N1 _ (.head _)).1, rfl, _, rfl⟩ _ (fun p hp => ⟨hbase p hp, hoff p hp⟩) ?_
  rintro v h2' tk2 q2 F2 N2 ok2 off2 ⟨tv, rfl⟩ k2 nt2
  have N3 : News g L' h2' ((Dc, seqObj "list" #[.int a t1, .int b t2, .int c t3] kc) :: (L' + 1, o1) :: (L' + 2, o2) :: (L' + 3, o3) :: (46, tabObj q2.p1) :: (53, tabObj q2.p2) :: (q2.c1, q2.o1) :: (q2.c2, q2.o2) :: rest) := by
    simp only [nw_cons, tabOwn, List.cons_append, List.nil_append] at N2 ⊢
    simp only [N2, and_self]
  have hr2 := (hoff.next off2).sub (b := rest) (fun p hp => .tail _ (.tail _ (.tail _ (.tail _ hp))))
  have T2 := tabs_at kg N2 (fun p hp => List.mem_append_left _ hp) ok2
  have nct : NoCell (tabOwn q2) := NoCell.tabs T2
  have ncz : NoCell ((46, tabObj q2.p1) :: (53, tabObj q2.p2) :: (q2.c1, q2.o1) :: (q2.c2, q2.o2) :: rest) := fun p hp => (List.mem_append.mp (show p ∈ tabOwn q2 ++ rest from hp)).elim (nct p) (hnc p)
  obtain ⟨z, hz⟩ : ∃ z, z = (46, tabObj q2.p1) :: (53, tabObj q2.p2) :: (q2.c1, q2.o1) :: (q2.c2, q2.o2) :: rest := ⟨_, rfl⟩
  rw [← hz] at N3 ncz
  have mC : (L' + 2, o2) ∈ (Dc, seqObj "list" #[.int a t1, .int b t2, .int c t3] kc) :: (L' + 1, o1) :: (L' + 2, o2) :: (L' + 3, o3) :: z := .tail _ (.tail _ (.head _))
  have kOff : OwnOff z [L' + 2] := off_cell N3 mC h2 (fun p hp => .tail _ (.tail _ (.tail _ (.tail _ hp)))) ncz
  have nDc : @Ne Nat Dc (L' + 2) := ne_data (N3 _ (.head _)).1 (N3 _ mC).1 (fun e => by dsimp only at e; rw [h2] at e; cases e)
  have kMark := kstMark
  clear F1 N1 N2 htabs hbase hoff T0 T2 nct
  k_steps
  rename Fr _ _ _ _ => F1
  rename News _ _ _ _ => N1
  rename_i o9 d9
  rw [hz] at N1
  exact h _ _ q2 o9 _ F1 N1 d9 ok2 nt2.same hr2

example : True := by
  k_with "call builtin:len" => (k_here; (with_reducible show wpAny _ _ (call (Value.builtin "len") [Value.ref _]) _ _ _); k_dflt (refine PyProof.Rows.len_list (News.isList (by k_asm) (by k_mem)) (by assumption) ?_))
  trivial

set_option maxHeartbeats 8000000 in
theorem law_if1 {w : World} {H g : Heap} (G : Gnd w H) {L' fa : Addr} {cd : Value} {m : Str → Option Value} {s : Shared} {dp un : Nat} {fr : Option (List Env)} {gd : Option (List Code)} {o1 o2 o3 : Obj} {z : List (Addr × Obj)}
    {p : Program} {loose : List Str} {mean : ExcName → Option Value} {mg mb : Str → Option Value} {Q : Flow → Shared → Prop}
    (kg : Keep H g) (X : (hd.heap_1 w.params).In g) (T : Top p loose mean mg mb g) {D : Addr} {us : List Value} {e : Nat} {ways : Int} {tw : Tok}
    (F : Fr g L' s.heap (bnd m [(Str.ofString "words", Value.ref D)]))
    (N : News g L' s.heap ((D, seqObj "list" us.toArray e) :: (L' + 2, o2) :: z)) (h2 : o2.data = .cell (some (.int ways tw))) (hw : ways = ((us.toArray.size : Nat) : Int)) (hf : ((us.toArray.size : Nat) : Int) < 2 ^ 63)
    (h : ∀ h' tk', Fr g L' h' (bnd m [(Str.ofString "words", Value.ref D)]) → News g L' h' ((D, seqObj "list" us.toArray e) :: (L' + 2, o2) :: z) → Q .next { s with heap := h', toks := tk' }) :
    wpAny (model prg w) (Arnd dp un fr gd) (exec (nth 7 lawDef.2.1) (lawE L' fa cd)) Q (fun _ _ => False) s := by
  unfold lawE lawDef
  dsimp only [forBody, nth, List.drop]
  k_steps
  · exact absurd hw (by assumption)
  · exact h _ _ F N

set_option maxHeartbeats 8000000 in
theorem law_dm {w : World} {H g : Heap} (G : Gnd w H) {L' fa : Addr} {cd : Value} {m : Str → Option Value} {s : Shared} {dp un : Nat} {fr : Option (List Env)} {gd : Option (List Code)} {o1 o2 o3 : Obj} {z : List (Addr × Obj)}
    {p : Program} {loose : List Str} {mean : ExcName → Option Value} {mg mb : Str → Option Value} {Q : Flow → Shared → Prop}
    (kg : Keep H g) (X : (hd.heap_1 w.params).In g) (T : Top p loose mean mg mb g) {q : TabP} {rest : List (Addr × Obj)} {num ways : Int} {tn tw : Tok}
    (CH : CodeHd H 50 46) (CH2 : CodeHd H 57 53) (F : Fr g L' s.heap (bnd m [(Str.ofString "number", Value.int num tn)]))
    (N : News g L' s.heap ((L' + 2, o2) :: (46, tabObj q.p1) :: (53, tabObj q.p2) :: (q.c1, q.o1) :: (q.c2, q.o2) :: rest))
    (h2 : o2.data = .cell (some (.int ways tw))) (ok : TabsOk q) (hr : OffT q rest)
    (hn1 : -1000 ≤ num) (hn2 : num ≤ 1000) (hw1 : 1 ≤ ways) (hw2 : ways ≤ 1000)
    (hd9 : dp + 140 < recursionLimit) (hu9 : un + 520 < cLine)
    (h : ∀ h' tk' q' u1 u2, Fr g L' h' (fun y => if y = Str.ofString "rest" then some (.int (num.fmod ways) u2) else if y = Str.ofString "turns" then some (.int (num.fdiv ways) u1) else bnd m [(Str.ofString "number", Value.int num tn)] y) → News g L' h' ((L' + 2, o2) :: (46, tabObj q'.p1) :: (53, tabObj q'.p2) :: (q'.c1, q'.o1) :: (q'.c2, q'.o2) :: rest) → TabsOk q' → SameT q q' → OffT q' rest → Q .next { s with heap := h', toks := tk' }) :
    wpAny (model prg w) (Arnd dp un fr gd) (exec (nth 8 lawDef.2.1) (lawE L' fa cd)) Q (fun _ _ => False) s := by
  unfold lawE lawDef
  dsimp only [forBody, nth, List.drop]
  k_steps
  rename Fr _ _ _ _ => F1
  rename News _ _ _ _ => N1
  unfold Hold
  have htabs : ∀ p ∈ tabOwn q, p ∈ (L' + 2, o2) :: (46, tabObj q.p1) :: (53, tabObj q.p2) :: (q.c1, q.o1) :: (q.c2, q.o2) :: rest := (by repeat' (first | exact List.forall_mem_nil _ | refine all_cons (by k_mem) ?_))
  have hbase : ∀ p ∈ (L' + 2, o2) :: rest, p ∈ (L' + 2, o2) :: (46, tabObj q.p1) :: (53, tabObj q.p2) :: (q.c1, q.o1) :: (q.c2, q.o2) :: rest := fun p hp => by
    refine mem_cons_elim hp ?_ fun hp => ?_
    · exact .head _
    · exact .tail _ (.tail _ (.tail _ (.tail _ (.tail _ hp))))
  have T0 := tabs_at kg N1 htabs ok
  have hoff : OffT q ((L' + 2, o2) :: rest) :=
    .cons (tab_neA T0 (N1 _ (.head _)).1 fun vs e => by dsimp only at e; rw [h2] at e; cases e) hr
  refine useT (q := q) (idm_T G CH CH2 (a := num) (b := ways) (by lia) (by lia) (by lia) (by lia)) kg F1 N1 htabs ok (by lia) (by lia) trivial _ (fun p hp => ⟨hbase p hp, hoff p hp⟩) ?_
  rintro v h2' tk2 q2 F2 N2 ok2 off2 ⟨al9, u1, u2, rfl, g2, f2⟩ k2 nt2
  have N3 := news_add F1 F2 N2 g2 f2
  have hr2 := (hoff.next off2).sub (b := rest) (fun p hp => .tail _ hp)
  obtain ⟨z, hz⟩ : ∃ z, z = tabOwn q2 ++ (L' + 2, o2) :: rest := ⟨_, rfl⟩
  rw [← hz] at N3
  clear F1 N1 N2 htabs hbase hoff T0
  k_steps
  rename Fr _ _ _ _ => F1
  rename News _ _ _ _ => N1
  rw [hz] at N1
  refine h _ _ q2 _ _ F1 ?_ ok2 nt2.same hr2
  simp only [nw_cons, tabOwn, List.cons_append, List.nil_append] at N1 ⊢
  simp only [N1, and_self]

example : True := by
  k_with "binaryOp Mult int int" => (k_here; k_dflt (refine mul_int ?_ (IntMulOk.of_left (by assumption))))
  trivial

set_option maxHeartbeats 8000000 in
theorem law_if2 {w : World} {H g : Heap} (G : Gnd w H) {L' fa : Addr} {cd : Value} {m : Str → Option Value} {s : Shared} {dp un : Nat} {fr : Option (List Env)} {gd : Option (List Code)} {o1 o2 o3 : Obj} {z : List (Addr × Obj)}
    {p : Program} {loose : List Str} {mean : ExcName → Option Value} {mg mb : Str → Option Value} {Q : Flow → Shared → Prop}
    (kg : Keep H g) (X : (hd.heap_1 w.params).In g) (T : Top p loose mean mg mb g) {D : Addr} {us : List Value} {e : Nat} {num tn r : Int} {k1 k2 k3 : Tok}
    (F : Fr g L' s.heap (bnd m [(Str.ofString "words", Value.ref D), (Str.ofString "turns", Value.int tn k1), (Str.ofString "rest", Value.int r k2), (Str.ofString "number", Value.int num k3)]))
    (N : News g L' s.heap ((D, seqObj "list" us.toArray e) :: z)) (hib : Builtin.Int.intBits tn ≤ 64) (he : tn * ((us.toArray.size : Nat) : Int) + r = num) (h0 : 0 ≤ r) (h1 : r < ((us.toArray.size : Nat) : Int)) (hf : ((us.toArray.size : Nat) : Int) < 2 ^ 63)
    (h : ∀ h' tk', Fr g L' h' (bnd m [(Str.ofString "words", Value.ref D), (Str.ofString "turns", Value.int tn k1), (Str.ofString "rest", Value.int r k2), (Str.ofString "number", Value.int num k3)]) → News g L' h' ((D, seqObj "list" us.toArray e) :: z) → Q .next { s with heap := h', toks := tk' }) :
    wpAny (model prg w) (Arnd dp un fr gd) (exec (nth 9 lawDef.2.1) (lawE L' fa cd)) Q (fun _ _ => False) s := by
  unfold lawE lawDef
  dsimp only [forBody, nth, List.drop]
  k_steps
  · exact absurd he (by assumption)
  · exact h _ _ F N

set_option maxHeartbeats 8000000 in
theorem law_left0 {w : World} {H g : Heap} (G : Gnd w H) {L' fa : Addr} {cd : Value} {m : Str → Option Value} {s : Shared} {dp un : Nat} {fr : Option (List Env)} {gd : Option (List Code)} {o1 o2 o3 : Obj} {z : List (Addr × Obj)}
    {p : Program} {loose : List Str} {mean : ExcName → Option Value} {mg mb : Str → Option Value} {Q : Flow → Shared → Prop}
    (kg : Keep H g) (X : (hd.heap_1 w.params).In g) (T : Top p loose mean mg mb g) {r : Int} {tr : Tok}
    (F : Fr g L' s.heap (bnd m [(Str.ofString "rest", Value.int r tr)])) (N : News g L' s.heap z)
    (h : ∀ h' tk', Fr g L' h' (fun y => if y = Str.ofString "left" then some (.int r tr) else bnd m [(Str.ofString "rest", Value.int r tr)] y) → News g L' h' z → Q .next { s with heap := h', toks := tk' }) :
    wpAny (model prg w) (Arnd dp un fr gd) (exec (nth 10 lawDef.2.1) (lawE L' fa cd)) Q (fun _ _ => False) s := by
  unfold lawE lawDef
  dsimp only [forBody, nth, List.drop]
  k_steps
  exact h _ _ (by assumption) (by assumption)

set_option maxHeartbeats 8000000 in
theorem law_word0 {w : World} {H g : Heap} (G : Gnd w H) {L' fa : Addr} {cd : Value} {m : Str → Option Value} {s : Shared} {dp un : Nat} {fr : Option (List Env)} {gd : Option (List Code)} {o1 o2 o3 : Obj} {z : List (Addr × Obj)}
    {p : Program} {loose : List Str} {mean : ExcName → Option Value} {mg mb : Str → Option Value} {Q : Flow → Shared → Prop}
    (kg : Keep H g) (X : (hd.heap_1 w.params).In g) (T : Top p loose mean mg mb g) 
    (F : Fr g L' s.heap m) (N : News g L' s.heap z)
    (h : ∀ h' tk' D, Fr g L' h' (fun y => if y = Str.ofString "word" then some (.ref D) else m y) → News g L' h' ((D, seqObj "list" (List.toArray []) 0) :: z) → Q .next { s with heap := h', toks := tk' }) :
    wpAny (model prg w) (Arnd dp un fr gd) (exec (nth 11 lawDef.2.1) (lawE L' fa cd)) Q (fun _ _ => False) s := by
  unfold lawE lawDef
  dsimp only [forBody, nth, List.drop]
  k_steps
  exact h _ _ _ (by assumption) (by assumption)

set_option maxHeartbeats 8000000 in
theorem law_found {w : World} {H g : Heap} (G : Gnd w H) {L' fa : Addr} {cd : Value} {m : Str → Option Value} {s : Shared} {dp un : Nat} {fr : Option (List Env)} {gd : Option (List Code)} {o1 o2 o3 : Obj} {z : List (Addr × Obj)}
    {p : Program} {loose : List Str} {mean : ExcName → Option Value} {mg mb : Str → Option Value} {Q : Flow → Shared → Prop}
    (kg : Keep H g) (X : (hd.heap_1 w.params).In g) (T : Top p loose mean mg mb g) {Dr : Addr} {rv : List Value} {kr : Nat} {rs : List Int} {bs : Str} {tb : Tok}
    (F : Fr g L' s.heap (bnd m [(Str.ofString "word", Value.ref Dr), (Str.ofString "behind", .str bs tb)])) (N : News g L' s.heap ((Dr, seqObj "list" rv.toArray kr) :: z))
    (hR : IntsAre rv rs) (hn : rs.length ≤ 6) (hb : ∀ n ∈ rs, 0 ≤ n ∧ n ≤ 2) (hbs : bs.length ≤ 3) (hd9 : dp + 60 < recursionLimit) (hu9 : un + 60 < cLine)
    (h : ∀ h' tk' x q vs, Fr g L' h' (fun y => if y = Str.ofString "found" then some (.ref x) else bnd m [(Str.ofString "word", Value.ref Dr), (Str.ofString "behind", .str bs tb)] y) → News g L' h' (wsOwn x q vs (wsOf (leadStr rs ++ bs ++ Str.ofString "y").cps.toList).2.1 (wsOf (leadStr rs ++ bs ++ Str.ofString "y").cps.toList).2.2 ++ (Dr, seqObj "list" (List.toArray rv) kr) :: z) → IntsAre vs (wsOf (leadStr rs ++ bs ++ Str.ofString "y").cps.toList).1 → (∀ p ∈ (Dr, seqObj "list" (List.toArray rv) kr) :: z, p.1 < q.dx) → @LT.lt Nat _ q.dx x → @LT.lt Nat _ x q.ct → @LT.lt Nat _ q.ct q.nrm → Q .next { s with heap := h', toks := tk' }) :
    wpAny (model prg w) (Arnd dp un fr gd) (exec (nth 13 lawDef.2.1) (lawE L' fa cd)) Q (fun _ _ => False) s := by
  unfold lawE lawDef
  dsimp only [forBody, nth, List.drop]
  k_steps
  rename Fr _ _ _ _ => F1
  rename News _ _ _ _ => N1
  unfold Hold
  refine use0 (lead_meets G hR (by lia) (fun n hn => ⟨(hb n hn).1, Int.le_trans (hb n hn).2 (by decide)⟩)) kg F1 N1 (by lia) (by lia) ⟨_, (N1 _ (.head _)).1, rfl, _, rfl⟩ ?_
  rintro v h2 tk2 F2 N2 ⟨t2, rfl⟩
  clear F1 N1
  have hsz := lead_len hn hb
  k_steps
  rename Fr _ _ _ _ => F1
  rename News _ _ _ _ => N1
  unfold Hold
  refine ws_call G kg F1 N1 (by lia) (by lia) ?_ ?_
  · have hx : (Str.ofString "y").length = 1 := by decide +kernel
    refine (show (leadStr rs ++ bs ++ Str.ofString "y").length ≤ 60 from ?_)
    lia
  intro x9 q9 vs9 h3 tk3 F3 N3 l9 l10 l11 l12 i9
  clear F1 N1
  k_steps
  exact h _ _ _ _ _ (by assumption) (by assumption) i9 l9 l10 l11 l12
end Mine
end

/- part LawH -/
section
example : True := by
  k_with_none
  w_top off
  trivial
open PySem PySem.W PyProof.Rows PySem.Calls PySem.Spec
set_option maxRecDepth 100000
set_option rowWalk.seconds 0
namespace Mine
example : hd.heap_1 = hd.heap_1 ∧ PySem.Challenge.rw_pg0285_01 = PySem.Challenge.rw_pg0285_01 := by
  k_fill
  exact ⟨rfl, rfl⟩
set_option pp.maxSteps 100000
set_option pp.deepTerms false
set_option pp.deepTerms.threshold 4

example : True := by
  k_with_none
  k_with "call ref" => (k_here; refine Hold.out ?_)
  k_with "call builtin:str.join" => refine Hold.out ?_
  k_with "CompSrc" => refine Hold.out ?_
  k_with "eval ListComp" => (k_here; k_dflt (refine LCg.ListComp_U (F₀ := by k_asm) (by with_unfolding_all rfl) (by decide) (by rfl) (by decide) (by rfl) ?_))
  k_with "CompEnd" => (k_dflt (refine LCg.CompEnd.intro (by assumption) (by assumption) _ (by first | exact fun _ hp => hp | exact fun _ hp => List.Mem.tail _ hp | exact fun _ hp => List.Mem.tail _ (List.Mem.tail _ hp) | exact fun _ hp => List.Mem.tail _ (List.Mem.tail _ (List.Mem.tail _ hp)) | exact fun _ hp => List.Mem.tail _ (List.Mem.tail _ (List.Mem.tail _ (List.Mem.tail _ hp)))) (by assumption) (by first | exact Or.inr ⟨_, by k_mem, rfl, _, rfl⟩ | trivial) ?_))
  k_with "compareOp Eq ref ref" => refine Hold.out ?_
  k_with "subscriptTail Name Name ref int" => refine Hold.out ?_
  trivial

set_option maxHeartbeats 8000000 in
theorem law_join {w : World} {H g : Heap} (G : Gnd w H) {L' fa : Addr} {cd : Value} {m : Str → Option Value} {s : Shared} {dp un : Nat} {fr : Option (List Env)} {gd : Option (List Code)} {o1 o2 o3 : Obj} {z : List (Addr × Obj)}
    {p : Program} {loose : List Str} {mean : ExcName → Option Value} {mg mb : Str → Option Value} {Q : Flow → Shared → Prop}
    (kg : Keep H g) (X : (hd.heap_1 w.params).In g) (T : Top p loose mean mg mb g) {Dw D : Addr} {wv us : List Value} {kw e : Nat} {ks : List Int} {ss : List Str} {r : Int} {tr : Tok}
    (F : Fr g L' s.heap (bnd m [(Str.ofString "word", Value.ref Dw), (Str.ofString "words", Value.ref D), (Str.ofString "rest", Value.int r tr)]))
    (N : News g L' s.heap ((Dw, seqObj "list" wv.toArray kw) :: (D, seqObj "list" us.toArray e) :: z)) (hW : IntsAre wv ks) (hU : StrsAre us ss) (hb9 : ∀ n ∈ ks, 0 ≤ n ∧ n ≤ 2) (hn : ks.length ≤ 6) (h0 : 0 ≤ r) (hss : ss.length ≤ 1000) (hr : ss[r.toNat]? = some (PySem.Txt.join (PySem.Str.ofString "") (ks.map fun k => PySem.Str.ofString (toString k))))
    (h : ∀ h' tk' nw, Fr g L' h' (bnd m [(Str.ofString "word", Value.ref Dw), (Str.ofString "words", Value.ref D), (Str.ofString "rest", Value.int r tr)]) → News g L' h' (nw ++ (Dw, seqObj "list" wv.toArray kw) :: (D, seqObj "list" us.toArray e) :: z) → Q .next { s with heap := h', toks := tk' }) :
    wpAny (model prg w) (Arnd dp un fr gd) (exec (nth 14 lawDef.2.1) (lawE L' fa cd)) Q (fun _ _ => False) s := by
  unfold lawE lawDef
  dsimp only [forBody, nth, List.drop]
  have hlw := hW.length
  k_steps
  rename Fr _ _ _ _ => F1
  rename News _ _ _ _ => N1
  unfold Hold
  refine LCg.CompSrc.ledger (its := wv.toArray) (k := kw) rfl F1 N1 (.head _) (by rw [sizeLine_eq, List.size_toArray]; lia) fun g' => ?_
  refine kct_list (fun k => PySem.Str.ofString (toString k)) hW (fun k t I oI C oC D m₂ ys h tk E' hk hC hx F' N' off ne mk => ?_) ?fin
  · simp only [LCg.Off3, and_true] at off
    have hb2 := hb9 k hk
    k_steps
  case fin =>
    unfold KPfDone
    intro ys hC hl2
    clear F1 N1
    k_steps
    unfold Hold
    rename Fr _ _ _ _ => F1
    rename News _ _ _ _ => N1
    refine KT.join_B 1 (News.isList N1 (by k_mem)) hC (fun a ha => by
      have := hb9 a ha
      have h3 : a = 0 ∨ a = 1 ∨ a = 2 := by lia
      rcases h3 with rfl | rfl | rfl <;> decide +kernel) (by lia) (by decide) ?_
    intro t3 k3
    dsimp only
    clear hC
    k_steps
    unfold Hold
    obtain ⟨t9, h9⟩ := hU.get _ _ hr
    refine PyProof.Rows.item_list (items := us.toArray) (News.isList N1 (by k_mem)) h0 (by have := (List.getElem?_eq_some_iff.mp hr).1; lia) (by simpa using h9) ?_
    k_steps
    · rename (_ != _) = true => e9
      exact absurd e9 (by simp)
    · exact h _ _ [_] F1 N1

set_option maxHeartbeats 8000000 in
theorem law_ret {w : World} {H g : Heap} (G : Gnd w H) {L' fa : Addr} {cd : Value} {m : Str → Option Value} {s : Shared} {dp un : Nat} {fr : Option (List Env)} {gd : Option (List Code)} {o1 o2 o3 : Obj} {z : List (Addr × Obj)}
    {p : Program} {loose : List Str} {mean : ExcName → Option Value} {mg mb : Str → Option Value} {Q : Flow → Shared → Prop}
    (kg : Keep H g) (X : (hd.heap_1 w.params).In g) (T : Top p loose mean mg mb g) {x y : Addr} {q r : WsP} {vs us : List Value} {cnt : List Int} {b nt : Int}
    (F : Fr g L' s.heap (bnd m [(Str.ofString "found", Value.ref x), (Str.ofString "white", Value.ref y)]))
    (N : News g L' s.heap (wsOwn x q vs b nt ++ (wsOwn y r us b nt ++ z))) (hI : IntsAre vs cnt) (hJ : IntsAre us cnt) (hc1 : cnt.length ≤ 60) (hb1 : 0 ≤ b) (hb2 : b ≤ 60) (hc2 : ∀ c ∈ cnt, 0 ≤ c ∧ c ≤ 60) (hn1 : 0 ≤ nt) (hn2 : nt ≤ 60) (hd9 : dp + 60 < recursionLimit) (hu9 : un + 70 < cLine)
    (h : ∀ h' tk', Fr g L' h' (bnd m [(Str.ofString "found", Value.ref x), (Str.ofString "white", Value.ref y)]) → News g L' h' z → Q (.ret (.bool true)) { s with heap := h', toks := tk' }) :
    wpAny (model prg w) (Arnd dp un fr gd) (exec (nth 15 lawDef.2.1) (lawE L' fa cd)) Q (fun _ _ => False) s := by
  unfold lawE lawDef
  dsimp only [forBody, nth, List.drop]
  simp only [wsOwn, List.cons_append, List.nil_append] at N
  k_steps
  rename Fr _ _ _ _ => F1
  rename News _ _ _ _ => N1
  unfold Hold
  refine use0 (equal_meets (q := q) (r := r) (vs := vs) (us := us) (cnt := cnt) (b := b) (nt := nt) (mt := nt) G) kg F1 N1 (by lia) (by lia) ⟨WsAt.of_news kg N1 (by repeat' (first | exact List.forall_mem_nil _ | refine all_cons (by k_mem) ?_)) hI, WsAt.of_news kg N1 (by repeat' (first | exact List.forall_mem_nil _ | refine all_cons (by k_mem) ?_)) hJ⟩ ?_
  rintro v h2 tk2 F2 N2 rfl
  clear F1 N1
  k_steps
  rename Fr _ _ _ _ => F1
  rename News _ _ _ _ => N1
  unfold Hold
  refine use0 (wit_meets (q := q) (r := r) (vs := vs) (us := us) (cnt := cnt) (dnt := cnt) (b := b) (c := b) (nt := nt) (mt := nt) G hc1 hb1 hb2 hc2 hn1 hn2 hc1 hb1 hb2 hc2 hn1 hn2) kg F1 N1 (by lia) (by lia) ⟨WsAt.of_news kg N1 (by repeat' (first | exact List.forall_mem_nil _ | refine all_cons (by k_mem) ?_)) hI, WsAt.of_news kg N1 (by repeat' (first | exact List.forall_mem_nil _ | refine all_cons (by k_mem) ?_)) hJ⟩ ?_
  rintro v h3 tk3 F3 N3 ⟨al, ws, k, tl, rfl, g9, _, hT, f9⟩
  rw [wit_same] at hT
  cases hT
  have N4 := news_add F1 F3 N3 g9 f9
  clear F1 N1 N3
  k_steps
  rename Fr _ _ _ _ => F1
  rename News _ _ _ _ => N1
  unfold Hold
  refine ke_eq_ints (xs := []) (ys := []) (ns := []) (ms := []) ⟨_, (N1 _ (.tail _ (.head _))).1, rfl, _, rfl⟩ ⟨_, (N1 _ (.head _)).1, rfl, _, rfl⟩ .nil .nil (show un + 64 < cLine by lia) ?_
  exact h _ _ F1 (news_sub N1 fun p hp => .tail _ (.tail _ (.tail _ (.tail _ (.tail _ (.tail _ (.tail _ (.tail _ (.tail _ (.tail _ hp))))))))))
end Mine
end

/- part LawI -/
section
example : True := by
  k_with_none
  w_top off
  trivial
open PySem PySem.W PyProof.Rows PySem.Calls PySem.Spec
set_option maxRecDepth 100000
set_option rowWalk.seconds 0
namespace Mine
example : hd.heap_1 = hd.heap_1 ∧ PySem.Challenge.rw_pg0285_01 = PySem.Challenge.rw_pg0285_01 := by
  k_fill
  exact ⟨rfl, rfl⟩
set_option pp.maxSteps 100000
set_option pp.deepTerms false
set_option pp.deepTerms.threshold 4
section
variable {prog : Program} {w : World} {A : Around} {E : Value → Shared → Prop} {s : Shared} {env : Env} {h₀ : Heap} {target : Expr} {body : List Stmt} {Q : Flow → Shared → Prop}
/- for_listT, and what the iterator's record is -/
theorem for_listU {l : Addr} {lo : Obj} {its : Array Value} {k : Nat} {m : Str → Option Value} {news : List (Addr × Obj)} (J : Nat → (Str → Option Value) → List (Addr × Obj) → Prop) (hh : A.handled = none)
    (F : Fr h₀ env.locals s.heap m) (N : News h₀ env.locals s.heap news) (hlo : lo = { cls := .type "list", data := .seq its k }) (hl : (l, lo) ∈ news) (hj : J 0 m news)
    (hJl : ∀ i m nx, J i m nx → (l, lo) ∈ nx)
    (turn : ∀ i v m₁ nx (s₁ : Shared) I oI, its[i]? = some v → J i m₁ nx → (∀ p ∈ nx, p.1 ≠ I) → (∃ vs, oI.data = .fields vs) → Fr h₀ env.locals s₁.heap m₁ → News h₀ env.locals s₁.heap ((I, oI) :: nx) →
      wpAny (model prog w) A (assign target env v) (fun _ s₃ => wpAny (model prog w) A (execs body env) (TurnPostT h₀ env.locals I oI (J (i + 1)) s₁) E s₃) E s₁)
    (done : ∀ m₁ nx h tk, J its.size m₁ nx → Fr h₀ env.locals h m₁ → News h₀ env.locals h nx → Q .next { s with heap := h, toks := tk }) :
    wpAny (model prog w) A (pyIter (.ref l)) (fun it s₂ => LoopAtT prog w A h₀ env target body Q E it s₂) E s := by
  have hls : s.heap.IsList l its := ⟨lo, (N _ hl).1, by rw [hlo], k, by rw [hlo]⟩
  have hlt : l < s.heap.objs.size := Heap.lt_size (N _ hl).1
  have hIL : env.locals ≠ s.heap.objs.size := Nat.ne_of_lt F.ns.lt
  have hlL : env.locals ≠ l := (N _ hl).2.1.symm
  refine wpAny_pyIter_list hls ?_
  have W := Walks.list (prog := prog) (w := w) hh s.heap.objs.size l (Nat.ne_of_lt hlt) its
  have hI₀ : h₀.get? s.heap.objs.size = none := next_is_new F
  have noff : ∀ p ∈ news, p.1 ≠ s.heap.objs.size := fun p hp => Nat.ne_of_lt (Heap.lt_size (N p hp).1)
  refine ⟨s.heap.objs.size, _, _, its.size, _, _, m, news, J, rfl, W, fun h => ?_, fun b hb => by rw [List.mem_singleton.mp hb]; exact hI₀, fun p hp q => noff p hp (List.mem_singleton.mp q),
    ⟨⟨_, Heap.get?_push_size _ rfl, rfl, rfl⟩, hls.at fun o e => Heap.get?_push_of_some _ e⟩, F.push _, fun p hp => ⟨Heap.get?_push_of_some _ (N p hp).1, (N p hp).2⟩, fun i s' v Q' st hQ' => letGo_listiter st.1 hQ', hj, ?_, fun h' tk m' news' F' N' _ j => done m' news' h' tk j F' N'⟩
  · rcases List.mem_cons.mp h with h | h
    · exact hIL h
    · exact hlL (List.mem_singleton.mp h)
  · intro i v m₁ nx s₁ own hi hP hJ hoff hof hown hall hst₁ F₁ N₁
    have heI : ∃ oI, s₁.heap.get? s.heap.objs.size = some oI ∧ ∃ vs, oI.data = .fields vs := ⟨_, hst₁.1.choose_spec.1, _, hst₁.1.choose_spec.2.2⟩
    obtain ⟨oI, heI, hdI⟩ := heI
    have hmI : (s.heap.objs.size, oI) ∈ own := hall _ (.head _) hI₀ oI heI
    have N₂ : News h₀ env.locals s₁.heap ((s.heap.objs.size, oI) :: nx) := fun p hp => by
      refine mem_cons_elim hp ?_ fun hp => ?_
      · exact N₁ _ (List.mem_append_left _ hmI)
      · exact N₁ _ (List.mem_append_right _ hp)
    refine wpAny_mono (turn i v m₁ nx s₁ _ oI hP hJ (fun p hp q => hoff p hp (List.mem_singleton.mpr q)) hdI F₁ N₂) (fun _ s₃ h₃ => wpAny_mono h₃ (fun f s₄ h₄ => ?_) fun _ _ e => e) fun _ _ e => e
    obtain ⟨rfl, h', tk', m', nx', rfl, F', N', off', j⟩ := h₄
    refine ⟨rfl, h', tk', m', nx', rfl, F', fun p hp => ?_, fun p hp q => off' p hp (List.mem_singleton.mp q), j⟩
    rcases List.mem_append.mp hp with hp | hp
    · have e1 := hown p hp
      rcases List.mem_cons.mp (hof p hp) with q | q
      · have : p = (s.heap.objs.size, oI) := Prod.ext q (by rw [q, heI] at e1; exact (Option.some.inj e1).symm)
        rw [this]; exact N' _ (.head _)
      · have q := List.mem_singleton.mp q
        have : p = (l, lo) := Prod.ext q (by
          have e2 := (N₁ _ (List.mem_append_right own (hJl _ _ _ hJ))).1
          rw [q] at e1
          dsimp only at e2
          rw [e1] at e2; exact Option.some.inj e2)
        rw [this]; exact N' _ (List.mem_cons_of_mem _ (hJl _ _ _ j))
    · exact N' p (List.mem_cons_of_mem _ hp)
end
example : True := by
  k_with_none
  k_with "exec For Name Name cons nil" => (k_here; (rename Fr _ _ _ _ => lF'); (with_unfolding_all refine' For_invTF lF' ?_ ?ks; (case ks => exact (fun _ => rfl)); k_whole))
  k_with "pyIter ref" => refine Hold.out ?_
  k_with "execs cons" => ((with_reducible show wpAny _ _ (execs (Stmt.Assign [Expr.Name (PySem.Str.ofString "shares") _] _ _ :: _) _) _ _ _); refine Hold.out ?_)
  trivial
noncomputable def AgrL (m m' : Str → Option Value) : Prop := ∀ y, y ≠ Str.ofString "marks" → y ≠ Str.ofString "kind" → y ≠ Str.ofString "left" → y ≠ Str.ofString "word" → y ≠ Str.ofString "run" → m' y = m y
noncomputable def cell3 (L' : Addr) (o1 o2 o3 : Obj) (Dc : Addr) (oc : Obj) (q : TabP) (Dw : Addr) (ow : Obj) (r : List (Addr × Obj)) : List (Addr × Obj) :=
  (L' + 1, o1) :: (L' + 2, o2) :: (L' + 3, o3) :: (Dc, oc) :: (46, tabObj q.p1) :: (53, tabObj q.p2) :: (q.c1, q.o1) :: (q.c2, q.o2) :: (Dw, ow) :: r
structure LoopSt (L' : Addr) (m0 : Str → Option Value) (q0 : TabP) (rest : List (Addr × Obj)) (n : Nat) (W : List Nat) (i : Nat) (m : Str → Option Value) (nx : List (Addr × Obj))
    (q : TabP) (o1 o2 o3 : Obj) (Dc : Addr) (kc : Nat) (a b c : Int) (u1 u2 u3 : Tok) (ways : Int) (tw : Tok) (v3 : Option Value) (lf : Int) (tl : Tok) (Dw : Addr) (kw : Nat) (ws : List Value) (ks : List Int) (wd : List Nat) : Prop where
  ag : AgrL m0 m
  ml : m (Str.ofString "left") = some (.int lf tl)
  mw : m (Str.ofString "word") = some (.ref Dw)
  nx : ∀ p ∈ cell3 L' o1 o2 o3 Dc (seqObj "list" #[.int a u1, .int b u2, .int c u3] kc) q Dw (seqObj "list" ws.toArray kw) rest, p ∈ nx
  d1 : o1.data = .cell (some (.ref Dc))
  d2 : o2.data = .cell (some (.int ways tw))
  d3 : o3.data = .cell v3
  ok : TabsOk q
  sm : SameT q0 q
  off : OffT q rest
  kz : IntsAre ws ks
  kl : ks.length = i
  kb : ∀ k ∈ ks, 0 ≤ k ∧ k ≤ 2
  ta : TurnAt a b c ways lf wd
  sum : a + b + c + i = n
  wW : W = ks.map (fun k => 48 + k.toNat) ++ wd
inductive LoopEx (L' : Addr) (m0 : Str → Option Value) (q0 : TabP) (rest : List (Addr × Obj)) (n : Nat) (W : List Nat) (i : Nat) (m : Str → Option Value) (nx : List (Addr × Obj)) : Prop
  | mk (q : TabP) (o1 o2 o3 : Obj) (Dc : Addr) (kc : Nat) (a b c : Int) (u1 u2 u3 : Tok) (ways : Int) (tw : Tok) (v3 : Option Value) (lf : Int) (tl : Tok) (Dw : Addr) (kw : Nat) (ws : List Value) (ks : List Int) (wd : List Nat)
    (S : LoopSt L' m0 q0 rest n W i m nx q o1 o2 o3 Dc kc a b c u1 u2 u3 ways tw v3 lf tl Dw kw ws ks wd) : LoopEx L' m0 q0 rest n W i m nx
theorem LoopEx.has {L' : Addr} {m0 : Str → Option Value} {q0 : TabP} {rest : List (Addr × Obj)} {n : Nat} {W : List Nat} {i : Nat} {m : Str → Option Value} {nx : List (Addr × Obj)} (E : LoopEx L' m0 q0 rest n W i m nx) {p : Addr × Obj}
    (hp : ∀ {q : TabP} {o1 o2 o3 oc ow : Obj} {Dc Dw : Addr}, p ∈ cell3 L' o1 o2 o3 Dc oc q Dw ow rest) : p ∈ nx := by
  obtain ⟨_, _, _, _, _, _, _, _, _, _, _, _, _, _, _, _, _, _, _, _, _, _, S⟩ := E
  exact S.nx _ hp
set_option maxHeartbeats 8000000 in
theorem law_for {w : World} {H g : Heap} (G : Gnd w H) (CH : CodeHd H 50 46) (CH2 : CodeHd H 57 53) {L' fa : Addr} {cd : Value} {m : Str → Option Value} {s : Shared} {dp un : Nat} {fr : Option (List Env)} {gd : Option (List Code)} {q : TabP} {o1 o2 o3 : Obj} {rest : List (Addr × Obj)} {Dc Dw Dr : Addr} {kc kw kr : Nat}
    {a b c ways lf : Int} {t1 t2 t3 tw tl : Tok} {v3 : Option Value} {p : Program} {loose : List Str} {mean : ExcName → Option Value} {mg mb : Str → Option Value} {Q : Flow → Shared → Prop} {rv : List Value} {rs : List Int} {W : List Nat}
    (kg : Keep H g) (X : (hd.heap_1 w.params).In g) (T : Top p loose mean mg mb g)
    (F : Fr g L' s.heap m)
    (N : News g L' s.heap (cell3 L' o1 o2 o3 Dc (seqObj "list" #[.int a t1, .int b t2, .int c t3] kc) q Dw (seqObj "list" (List.toArray []) kw) ((Dr, seqObj "list" rv.toArray kr) :: rest)))
    (hmr : m (Str.ofString "runs") = some (.ref Dr)) (hml : m (Str.ofString "left") = some (.int lf tl)) (hmw : m (Str.ofString "word") = some (.ref Dw))
    (hR : IntsAre rv rs) (hn : rs.length ≤ 6)
    (h1 : o1.data = .cell (some (.ref Dc))) (h2 : o2.data = .cell (some (.int ways tw))) (h3 : o3.data = .cell v3) (ok : TabsOk q) (hr : OffT q ((Dr, seqObj "list" rv.toArray kr) :: rest))
    (hno : OwnOff ((Dr, seqObj "list" rv.toArray kr) :: rest) [L' + 1] ∧ OwnOff ((Dr, seqObj "list" rv.toArray kr) :: rest) [L' + 2] ∧ OwnOff ((Dr, seqObj "list" rv.toArray kr) :: rest) [L' + 3])
    (TA : TurnAt a b c ways lf W) (hs : a + b + c = rs.length)
    (hd9 : dp + 140 < recursionLimit) (hu9 : un + 520 < cLine)
    (h : ∀ h' tk' m' Dw' kw' ws' ks' e1 e2, Fr g L' h' m' → News g L' h' ((Dw', seqObj "list" (List.toArray ws') kw') :: (46, tabObj e1) :: (53, tabObj e2) :: (Dr, seqObj "list" rv.toArray kr) :: rest) → AgrL m m' → m' (Str.ofString "word") = some (.ref Dw') → IntsAre ws' ks' → ks'.length = rs.length → (∀ k ∈ ks', 0 ≤ k ∧ k ≤ 2) → W = ks'.map (fun k => 48 + k.toNat) → Q .next { s with heap := h', toks := tk' }) :
    wpAny (model prg w) (Arnd dp un fr gd) (exec (nth 12 lawDef.2.1) (lawE L' fa cd)) Q (fun _ _ => False) s := by
  have hlen := hR.length
  replace F := bnd_fr F (ps := [(Str.ofString "runs", .ref Dr)]) (List.forall_mem_cons.mpr ⟨hmr, List.forall_mem_nil _⟩)
  unfold lawE lawDef
  dsimp only [forBody, nth, List.drop]
  k_steps
  rename Fr _ _ _ _ => F1
  rename News _ _ _ _ => N1
  unfold Hold
  rw [bnd_eq (List.forall_mem_cons.mpr ⟨hmr, List.forall_mem_nil _⟩)] at F1
  have hDr : ∀ {q : TabP} {o1 o2 o3 oc ow : Obj} {Dc Dw : Addr}, (Dr, seqObj "list" rv.toArray kr) ∈ cell3 L' o1 o2 o3 Dc oc q Dw ow ((Dr, seqObj "list" rv.toArray kr) :: rest) := by
    intros
    exact .tail _ (.tail _ (.tail _ (.tail _ (.tail _ (.tail _ (.tail _ (.tail _ (.tail _ (.head _)))))))))
  k_dflt (refine for_listU (its := rv.toArray) (lo := seqObj "list" rv.toArray kr) (k := kr)
                 (fun i m' nx => LoopEx L' m q ((Dr, seqObj "list" rv.toArray kr) :: rest) rs.length W i m' nx)
                 rfl F1 N1 rfl hDr ⟨q, o1, o2, o3, Dc, kc, a, b, c, t1, t2, t3, ways, tw, v3, lf, tl, Dw, kw, [], [], W, ⟨fun _ _ _ _ _ _ => rfl, hml, hmw, fun _ h => h, h1, h2, h3, ok, SameT.refl q, hr, .nil, rfl, fun _ h => (nomatch h), TA, by lia, rfl⟩⟩
                 (fun i m nx E => E.has hDr) ?turn ?done)
  case turn =>
    rintro i v m₁ nx s₁ I oI hv ⟨q', o1', o2', o3', Dc', kc', a', b', c', u1, u2, u3, ways', tw', v3', lf', tl', Dw', kw', ws', ks', wd', S⟩ off hdI F N
    have hil : i < rs.length := by
      have := (Array.getElem?_eq_some_iff.mp hv).1
      rw [List.size_toArray] at this; lia
    clear F1 N1
    k_steps
    rename Fr _ _ _ _ => F1
    rename News _ _ _ _ => N1
    unfold Hold
    replace F1 : Fr g L' _ (upd m₁ (Str.ofString "run") v) := F1
    have oc1 := off _ (S.nx (L' + 1, o1') (.head _))
    have oc2 := off _ (S.nx (L' + 2, o2') (.tail _ (.head _)))
    have oc3 := off _ (S.nx (L' + 3, o3') (.tail _ (.tail _ (.head _))))
    have ot1 := off _ (S.nx (46, tabObj q'.p1) (.tail _ (.tail _ (.tail _ (.tail _ (.head _))))))
    have ot2 := off _ (S.nx (53, tabObj q'.p2) (.tail _ (.tail _ (.tail _ (.tail _ (.tail _ (.head _)))))))
    have ot3 := off _ (S.nx (q'.c1, q'.o1) (.tail _ (.tail _ (.tail _ (.tail _ (.tail _ (.tail _ (.head _))))))))
    have ot4 := off _ (S.nx (q'.c2, q'.o2) (.tail _ (.tail _ (.tail _ (.tail _ (.tail _ (.tail _ (.tail _ (.head _)))))))))
    have orest : ∀ p ∈ (Dr, seqObj "list" rv.toArray kr) :: rest, p.1 ≠ I := fun p hp => off _ (S.nx p (.tail _ (.tail _ (.tail _ (.tail _ (.tail _ (.tail _ (.tail _ (.tail _ (.tail _ hp))))))))))
    obtain ⟨vsI, hdI⟩ := hdI
    have N3 : News g L' _ (cell3 L' o1' o2' o3' Dc' (seqObj "list" #[.int a' u1, .int b' u2, .int c' u3] kc') q' Dw' (seqObj "list" ws'.toArray kw') ((I, oI) :: (Dr, seqObj "list" rv.toArray kr) :: rest)) := news_sub N1 (fun p hp => by
      rcases List.mem_append.mp (show p ∈ cell3 L' o1' o2' o3' Dc' (seqObj "list" #[.int a' u1, .int b' u2, .int c' u3] kc') q' Dw' (seqObj "list" ws'.toArray kw') [] ++ ((I, oI) :: (Dr, seqObj "list" rv.toArray kr) :: rest) from hp) with hp | hp
      · exact .tail _ (S.nx p (show p ∈ cell3 L' o1' o2' o3' Dc' (seqObj "list" #[.int a' u1, .int b' u2, .int c' u3] kc') q' Dw' (seqObj "list" ws'.toArray kw') [] ++ ((Dr, seqObj "list" rv.toArray kr) :: rest) from List.mem_append_left _ hp))
      refine mem_cons_elim hp ?_ fun hp => ?_
      · exact .head _
      · exact .tail _ (S.nx p (show p ∈ cell3 L' o1' o2' o3' Dc' (seqObj "list" #[.int a' u1, .int b' u2, .int c' u3] kc') q' Dw' (seqObj "list" ws'.toArray kw') [] ++ ((Dr, seqObj "list" rv.toArray kr) :: rest) from List.mem_append_right _ hp)))
    have hsum := S.sum
    refine law_turn (m := upd m₁ (Str.ofString "run") v) (rest := (I, oI) :: (Dr, seqObj "list" rv.toArray kr) :: rest) G CH CH2 kg X T (by exact F1) (by exact N3) (by rw [upd_ne (by decide), S.ml]) (by rw [upd_ne (by decide), S.mw]) S.d1 S.d2 S.d3 S.ok
      (.cons ⟨Ne.symm ot1, Ne.symm ot2, Ne.symm ot3, Ne.symm ot4⟩ S.off) ⟨OwnOff.cons (Ne.symm oc1) hno.1, OwnOff.cons (Ne.symm oc2) hno.2.1, OwnOff.cons (Ne.symm oc3) hno.2.2⟩ S.kz (by have := S.kl; lia) S.ta (by lia) hd9 hu9 ?_
    intro h' tk' m' q2 p1 p2 p3 D2 k2 a2 b2 c2 w1 w2 w3 ways2 tw2 v2 lf2 tl2 Dw2 kw2 ws2 kd wd2 F4 N4 ag ml mw e1 e2 e3 ok2 sm2 off2 hz hkd hwd hs2 TA2
    have nI1 := ne_data (N4 (D2, seqObj "list" #[.int a2 w1, .int b2 w2, .int c2 w3] k2) (by k_mem)).1 (N4 (I, oI) (by k_mem)).1 (fun e => by dsimp only at e; rw [hdI] at e; cases e)
    have nI2 := ne_data (N4 (Dw2, seqObj "list" (List.toArray ws2) kw2) (by k_mem)).1 (N4 (I, oI) (by k_mem)).1 (fun e => by dsimp only at e; rw [hdI] at e; cases e)
    have oI2 := off2 _ (.head _)
    refine ⟨rfl, TurnEnd.intro (cell3 L' p1 p2 p3 D2 (seqObj "list" #[.int a2 w1, .int b2 w2, .int c2 w3] k2) q2 Dw2 (seqObj "list" (List.toArray ws2) kw2) ((Dr, seqObj "list" rv.toArray kr) :: rest)) F4 N4 (fun p hp => ?_) (fun p hp => ?_)
      ⟨q2, p1, p2, p3, D2, k2, a2, b2, c2, w1, w2, w3, ways2, tw2, v2, lf2, tl2, Dw2, kw2, ws2, _, wd2, ⟨fun y n1 n2 n3 n4 n5 => ?_, ml, mw, fun _ h => h, e1, e2, e3, ok2, S.sm.trans sm2, off2.sub fun p hp => .tail _ hp, hz, ?_, ?_, TA2, ?_, ?_⟩⟩⟩
    · refine mem_cons_elim hp ?_ fun hp => ?_
      · k_mem
      rcases List.mem_append.mp (show p ∈ cell3 L' p1 p2 p3 D2 (seqObj "list" #[.int a2 w1, .int b2 w2, .int c2 w3] k2) q2 Dw2 (seqObj "list" (List.toArray ws2) kw2) [] ++ ((Dr, seqObj "list" rv.toArray kr) :: rest) from hp) with hp | hp
      · exact List.mem_append_left _ hp
      · exact List.mem_append_right (cell3 L' p1 p2 p3 D2 (seqObj "list" #[.int a2 w1, .int b2 w2, .int c2 w3] k2) q2 Dw2 (seqObj "list" (List.toArray ws2) kw2) []) (.tail _ hp)
    · refine mem_cons_elim hp ?_ fun hp => ?_
      · exact oc1
      refine mem_cons_elim hp ?_ fun hp => ?_
      · exact oc2
      refine mem_cons_elim hp ?_ fun hp => ?_
      · exact oc3
      refine mem_cons_elim hp ?_ fun hp => ?_
      · exact nI1
      refine mem_cons_elim hp ?_ fun hp => ?_
      · exact ot1
      refine mem_cons_elim hp ?_ fun hp => ?_
      · exact ot2
      refine mem_cons_elim hp ?_ fun hp => ?_
      · exact Ne.symm oI2.2.2.1
      refine mem_cons_elim hp ?_ fun hp => ?_
      · exact Ne.symm oI2.2.2.2
      refine mem_cons_elim hp ?_ fun hp => ?_
      · exact nI2
      · exact orest p hp
    · rw [ag y n1 n2 n3 n4, upd_ne n5, S.ag y n1 n2 n3 n4 n5]
    · rw [List.length_append, S.kl]; rfl
    · intro k hk
      rcases List.mem_append.mp hk with hk | hk
      · exact S.kb k hk
      · rw [List.mem_singleton.mp hk]; exact hkd
    · have := S.sum; lia
    · rw [S.wW, hwd, List.map_append, List.append_assoc]; rfl
  case done =>
    rintro m₁ nx h9 tk ⟨q', o1', o2', o3', Dc', kc', a', b', c', u1, u2, u3, ways', tw', v3', lf', tl', Dw', kw', ws', ks', wd', S⟩ F N
    have hsz : rv.toArray.size = rs.length := by rw [List.size_toArray]; exact hlen
    have hsum := S.sum
    have hkl := S.kl
    rw [hsz] at hsum hkl
    have TA' := S.ta
    have z := TA'.at_
    have ha := TA'.ha
    have hb := TA'.hb
    have hc := TA'.hc
    have e0 : (a' + b' + c').toNat = 0 := by lia
    rw [e0] at z
    have hwd : wd' = [] := by
      have := List.mem_of_getElem? z
      exact List.mem_singleton.mp this
    have hW := S.wW
    rw [hwd, List.append_nil] at hW
    refine h _ _ m₁ Dw' kw' ws' ks' q'.p1 q'.p2 F (news_sub N (fun p hp => S.nx p ?_)) S.ag S.mw S.kz hkl S.kb hW
    refine mem_cons_elim hp ?_ fun hp => ?_
    · exact .tail _ (.tail _ (.tail _ (.tail _ (.tail _ (.tail _ (.tail _ (.tail _ (.head _))))))))
    refine mem_cons_elim hp ?_ fun hp => ?_
    · exact .tail _ (.tail _ (.tail _ (.tail _ (.head _))))
    refine mem_cons_elim hp ?_ fun hp => ?_
    · exact .tail _ (.tail _ (.tail _ (.tail _ (.tail _ (.head _)))))
    exact .tail _ (.tail _ (.tail _ (.tail _ (.tail _ (.tail _ (.tail _ (.tail _ (.tail _ hp))))))))
end Mine
end

/- part LawM -/
section
example : True := by
  k_with_none
  w_top off
  trivial
open PySem PySem.W PyProof.Rows PySem.Calls PySem.Spec
set_option maxRecDepth 100000
namespace Mine
theorem law_eq : lawDef.2.1 = [nth 0 lawDef.2.1, nth 1 lawDef.2.1, nth 2 lawDef.2.1, nth 3 lawDef.2.1, nth 4 lawDef.2.1, nth 5 lawDef.2.1, nth 6 lawDef.2.1, nth 7 lawDef.2.1, nth 8 lawDef.2.1, nth 9 lawDef.2.1, nth 10 lawDef.2.1, nth 11 lawDef.2.1, nth 12 lawDef.2.1, nth 13 lawDef.2.1, nth 14 lawDef.2.1, nth 15 lawDef.2.1] := rfl
theorem ints3 {vs : List Value} {a b c : Int} (h : IntsAre vs [a, b, c]) : ∃ t1 t2 t3, vs = [.int a t1, .int b t2, .int c t3] := by
  cases h with
  | cons _ t1 h =>
    cases h with
    | cons _ t2 h =>
      cases h with
      | cons _ t3 h => cases h; exact ⟨t1, t2, t3, rfl⟩
theorem noCell_ws {x : Addr} {q : WsP} {vs : List Value} {b nt : Int} : NoCell (wsOwn x q vs b nt) :=
  .cons (fun v e => nomatch e) (.cons (fun v e => nomatch e) (.cons (fun v e => nomatch e) (.cons (fun v e => nomatch e) (List.forall_mem_nil _))))
noncomputable def NoFld (l : List (Addr × Obj)) : Prop := ∀ p ∈ l, ∀ us, p.2.data ≠ .fields us
theorem NoFld.cons {x : Addr × Obj} {l : List (Addr × Obj)} (a : ∀ us, x.2.data ≠ .fields us) (b : NoFld l) : NoFld (x :: l) := List.forall_mem_cons.mpr ⟨a, b⟩
theorem noFld_ws {x : Addr} {q : WsP} {vs : List Value} {b nt : Int} : NoFld (wsOwn x q vs b nt) :=
  .cons (fun us e => nomatch e) (.cons (fun us e => nomatch e) (.cons (fun us e => nomatch e) (.cons (fun us e => nomatch e) (List.forall_mem_nil _))))
theorem quot_bd {t w r n : Int} (h : t * w + r = n) (h0 : 0 ≤ r) (h1 : r < w) (n1 : -1000 ≤ n) (n2 : n ≤ 1000) : -1002 ≤ t ∧ t ≤ 1002 := by
  constructor
  · refine Int.not_lt.mp fun q => ?_
    have := Int.mul_le_mul_of_nonneg_right (show t ≤ -1002 by lia) (show 0 ≤ w by lia)
    lia
  · refine Int.not_lt.mp fun q => ?_
    have := Int.mul_le_mul_of_nonneg_right (show 1002 ≤ t by lia) (show 0 ≤ w by lia)
    lia
set_option maxHeartbeats 8000000 in
theorem law_main (S90 : Sort90) {w : World} {H g : Heap} (G : Gnd w H) (CH : CodeHd H 50 46) (CH2 : CodeHd H 57 53) {L' fa : Addr} {cd : Value} {m : Str → Option Value} {s : Shared} {dp un : Nat} {fr : Option (List Env)} {gd : Option (List Code)} {q : TabP} {o1 o2 o3 : Obj}
    {p : Program} {loose : List Str} {mean : ExcName → Option Value} {mg mb : Str → Option Value} {Q : Flow → Shared → Prop} {ls : Addr} {sv : List Value} {xs : List Int}
    (kg : Keep H g) (X : (hd.heap_1 w.params).In g) (T : Top p loose mean mg mb g)
    (F : Fr g L' s.heap m) (N : News g L' s.heap ((L' + 1, o1) :: (L' + 2, o2) :: (L' + 3, o3) :: tabOwn q))
    (hms : m (Str.ofString "script") = some (.ref ls)) (hI : IntsAre sv xs) (hl : g.IsList ls sv.toArray) (hn : xs.length ≤ 63)
    (h1 : o1.data = .cell none) {v2 v3 : Option Value} (h2 : o2.data = .cell v2) (h3 : o3.data = .cell v3) (ok : TabsOk q)
    (hd9 : dp + 140 < recursionLimit) (hu9 : un + 520 < cLine)
    (h : ∀ h' tk' dr m' p1 p2, Fr g L' h' m' → h'.get? 46 = some (tabObj p1) → h'.get? 53 = some (tabObj p2) → Q (.ret (.bool true)) { s with heap := h', toks := tk', drawn := dr }) :
    wpAny (model prg w) (Arnd dp un fr gd) (execs lawDef.2.1 (lawE L' fa cd)) Q (fun _ _ => False) s := by
  have hEx : execs lawDef.2.1 (lawE L' fa cd) = execs [nth 0 lawDef.2.1, nth 1 lawDef.2.1, nth 2 lawDef.2.1, nth 3 lawDef.2.1, nth 4 lawDef.2.1, nth 5 lawDef.2.1, nth 6 lawDef.2.1, nth 7 lawDef.2.1, nth 8 lawDef.2.1, nth 9 lawDef.2.1, nth 10 lawDef.2.1, nth 11 lawDef.2.1, nth 12 lawDef.2.1, nth 13 lawDef.2.1, nth 14 lawDef.2.1, nth 15 lawDef.2.1] (lawE L' fa cd) := congrArg (execs · (lawE L' fa cd)) law_eq
  rw [hEx]
  clear hEx
  have rb := runs_bd xs
  have rl := runs_len xs
  have rp := runs_pos xs
  have r2 := runs_two xs
  have tb := third_bd xs.length
  have nb := num_bd xs.sum
  obtain ⟨rs, hrs⟩ : ∃ rs, rs = runsOf xs := ⟨_, rfl⟩
  obtain ⟨bl, hbl⟩ : ∃ bl, bl = (xs.length : Int).fmod 3 := ⟨_, rfl⟩
  obtain ⟨num, hnum⟩ : ∃ x, x = xs.sum.fmod 2001 - 1000 := ⟨_, rfl⟩
  rw [← hrs] at rb rl rp r2
  rw [← hbl] at tb
  rw [← hnum] at nb
  obtain ⟨bs, hbs⟩ : ∃ bs, bs = Txt.mul (PySem.Str.ofString " ") bl := ⟨_, rfl⟩
  have bsl : bs.length ≤ 3 := by
    rw [← cpsL_length, hbs, blanks_cps tb, List.length_replicate]; lia
  -- runs
  have p0 : ∀ p ∈ [(Str.ofString "script", Value.ref ls)], m p.1 = some p.2 := all_cons hms (List.forall_mem_nil _)
  refine wpAny_execs_cons (law_runs (o1 := o1) (o2 := o2) (o3 := o3) G kg X T (bnd_fr F p0) N hI hl hn ?_)
  intro h' tk' Dr rv kr F1 N1 hR
  dsimp only
  rw [bnd_eq p0] at F1
  rw [← hrs] at hR
  clear F N
  replace F1 : Fr g L' h' (upd m (Str.ofString "runs") (.ref Dr)) := F1
  -- behind
  have p1 : ∀ p ∈ [(Str.ofString "script", Value.ref ls)], upd m (Str.ofString "runs") (.ref Dr) p.1 = some p.2 := List.forall_mem_cons.mpr ⟨by dsimp only; rw [upd_ne (by decide)]; exact hms, List.forall_mem_nil _⟩
  refine wpAny_execs_cons (law_behind (o1 := o1) (o2 := o2) (o3 := o3) G kg X T (bnd_fr F1 p1) N1 hI hl hn ?_)
  intro h' tk' tbh F2 N2
  dsimp only
  rw [bnd_eq p1, ← hbl, ← hbs] at F2
  clear F1 N1
  obtain ⟨m2, hm2⟩ : ∃ m2, m2 = upd (upd m (Str.ofString "runs") (.ref Dr)) (Str.ofString "behind") (.str bs tbh) := ⟨_, rfl⟩
  replace F2 : Fr g L' h' (upd (upd m (Str.ofString "runs") (.ref Dr)) (Str.ofString "behind") (.str bs tbh)) := F2
  rw [← hm2] at F2
  have b_script : m2 (Str.ofString "script") = some (.ref ls) := upd_k2 hm2 (by decide) (by decide) hms
  have b_runs : m2 (Str.ofString "runs") = some (.ref Dr) := upd_k01 hm2 (by decide)
  have b_behind : m2 (Str.ofString "behind") = some (.str bs tbh) := upd_k0 hm2
  clear hm2
  -- white
  have p2 : ∀ p ∈ [(Str.ofString "runs", Value.ref Dr), (Str.ofString "behind", .str bs tbh)], m2 p.1 = some p.2 := List.forall_mem_cons.mpr ⟨b_runs, all_cons b_behind (List.forall_mem_nil _)⟩
  refine wpAny_execs_cons (law_white (o1 := o1) (o2 := o2) (o3 := o3) G kg X T (bnd_fr F2 p2) N2 hR rl rb bsl (by lia) (by lia) ?_)
  intro h' tk' xw qw vw F3 N3 iw _ _ _ _
  dsimp only
  rw [bnd_eq p2] at F3
  clear F2 N2
  have hwW := ws_lead rb r2 tb (tail := [9]) (c := 120) (t := Str.ofString "x\t") (by decide +kernel) (by rfl)
  rw [← hbs] at hwW
  rw [hwW] at N3 iw
  dsimp only at N3 iw
  obtain ⟨m3, hm3⟩ : ∃ m3, m3 = upd m2 (Str.ofString "white") (.ref xw) := ⟨_, rfl⟩
  replace F3 : Fr g L' h' (upd m2 (Str.ofString "white") (.ref xw)) := F3
  rw [← hm3] at F3
  have c_script : m3 (Str.ofString "script") = some (.ref ls) := upd_k1 hm3 (by decide) b_script
  have c_runs : m3 (Str.ofString "runs") = some (.ref Dr) := upd_k1 hm3 (by decide) b_runs
  have c_behind : m3 (Str.ofString "behind") = some (.str bs tbh) := upd_k1 hm3 (by decide) b_behind
  have c_white : m3 (Str.ofString "white") = some (.ref xw) := upd_k0 hm3
  clear hm3 b_script b_runs b_behind p2 p1
  -- number
  have p3 : ∀ p ∈ [(Str.ofString "script", Value.ref ls)], m3 p.1 = some p.2 := all_cons c_script (List.forall_mem_nil _)
  refine wpAny_execs_cons (law_number (o1 := o1) (o2 := o2) (o3 := o3) G kg X T (bnd_fr F3 p3) N3 hI hl hn ?_)
  intro h' tk' tnm F4 N4
  dsimp only
  rw [bnd_eq p3, ← hnum] at F4
  clear F3 N3
  obtain ⟨m4, hm4⟩ : ∃ m4, m4 = upd m3 (Str.ofString "number") (.int num tnm) := ⟨_, rfl⟩
  replace F4 : Fr g L' h' (upd m3 (Str.ofString "number") (.int num tnm)) := F4
  rw [← hm4] at F4
  have d_runs : m4 (Str.ofString "runs") = some (.ref Dr) := upd_k1 hm4 (by decide) c_runs
  have d_behind : m4 (Str.ofString "behind") = some (.str bs tbh) := upd_k1 hm4 (by decide) c_behind
  have d_white : m4 (Str.ofString "white") = some (.ref xw) := upd_k1 hm4 (by decide) c_white
  have d_number : m4 (Str.ofString "number") = some (.int num tnm) := upd_k0 hm4
  clear hm4 c_script c_runs c_behind c_white p3
  -- counts
  obtain ⟨t1, t2, t3, rfl⟩ := ints3 iw
  have N5 : News g L' h' (wsOwn xw qw [.int (cnt 0 rs) t1, .int (cnt 1 rs) t2, .int (cnt 2 rs) t3] bl rs.length ++ ((L' + 1, o1) :: (Dr, seqObj "list" (List.toArray rv) kr) :: (L' + 2, o2) :: (L' + 3, o3) :: tabOwn q)) := by
    simp only [nw_cons, List.cons_append, List.nil_append] at N4 ⊢
    simp only [N4, and_self]
  clear N4
  have T5 := tabs_at kg N5 (q := q) (by repeat' (first | exact List.forall_mem_nil _ | refine all_cons (by k_mem) ?_)) ok
  have e1 := (N5 (L' + 1, o1) (by k_mem)).1
  have ncD : NoCell ((Dr, seqObj "list" (List.toArray rv) kr) :: tabOwn q) := .cons (fun v e => nomatch e) (NoCell.tabs T5)
  have off1 : OwnOff ((Dr, seqObj "list" (List.toArray rv) kr) :: (L' + 2, o2) :: (L' + 3, o3) :: tabOwn q) [L' + 1] :=
    OwnOff.cons (ne_data (N5 (Dr, seqObj "list" (List.toArray rv) kr) (by k_mem)).1 e1 fun e => by dsimp only at e; rw [h1] at e; cases e)
    (OwnOff.cons (by dsimp only; lia) (OwnOff.cons (by dsimp only; lia) (off_cell N5 (a := L' + 1) (o := o1) (by k_mem) h1 (by repeat' (first | exact List.forall_mem_nil _ | refine all_cons (by k_mem) ?_)) (NoCell.tabs T5))))
  have p4 : ∀ p ∈ [(Str.ofString "white", Value.ref xw)], m4 p.1 = some p.2 := all_cons d_white (List.forall_mem_nil _)
  refine wpAny_execs_cons (law_counts0 (o2 := o2) (o3 := o3) G kg X T (bnd_fr F4 p4) N5 h1 iw (by simp) off1
    (ne_data (N5 (xw, instObj 134 qw.dx) (by k_mem)).1 e1 fun e => by dsimp only at e; rw [h1] at e; cases e)
    (ne_data (N5 _ (.tail _ (.head _))).1 e1 fun e => by dsimp only at e; rw [h1] at e; cases e)
    (ne_data (N5 _ (.tail _ (.tail _ (.head _)))).1 e1 fun e => by dsimp only at e; rw [h1] at e; cases e)
    (ne_data (N5 _ (.tail _ (.tail _ (.tail _ (.head _))))).1 e1 fun e => by dsimp only at e; rw [h1] at e; cases e) ?_)
  intro h' tk' o1' Dc kc F6 N6 d1
  dsimp only
  rw [bnd_eq p4] at F6
  clear F4 N5 T5 e1 ncD off1 p4
  -- words
  have p5 : ∀ p ∈ [(Str.ofString "runs", Value.ref Dr)], m4 p.1 = some p.2 := all_cons d_runs (List.forall_mem_nil _)
  have N7 : News g L' h' ((Dr, seqObj "list" rv.toArray kr) :: (Dc, seqObj "list" #[.int (cnt 0 rs) t1, .int (cnt 1 rs) t2, .int (cnt 2 rs) t3] kc) :: (L' + 1, o1') :: (L' + 2, o2) :: (L' + 3, o3) :: (tabOwn q ++ wsOwn xw qw [.int (cnt 0 rs) t1, .int (cnt 1 rs) t2, .int (cnt 2 rs) t3] bl rs.length)) := by
    simp only [nw_cons, List.cons_append, List.nil_append] at N6 ⊢
    simp only [N6, and_self]
  clear N6
  refine wpAny_execs_cons (law_words (o1 := o1) (o2 := o2) (o3 := o3) G kg X T S90 (bnd_fr F6 p5) N7 hR rl rb (by lia) (by lia) ?_)
  intro h' tk' dr D us ss e F8 N8 hU hO
  dsimp only
  rw [bnd_eq p5] at F8
  clear F6 N7 p5
  obtain ⟨s1, s2, s3, s4⟩ := start_plain rb rl hO
  have hul := hU.length
  obtain ⟨m5, hm5⟩ : ∃ m5, m5 = upd m4 (Str.ofString "words") (.ref D) := ⟨_, rfl⟩
  replace F8 : Fr g L' h' (upd m4 (Str.ofString "words") (.ref D)) := F8
  rw [← hm5] at F8
  have e_runs : m5 (Str.ofString "runs") = some (.ref Dr) := upd_k1 hm5 (by decide) d_runs
  have e_behind : m5 (Str.ofString "behind") = some (.str bs tbh) := upd_k1 hm5 (by decide) d_behind
  have e_white : m5 (Str.ofString "white") = some (.ref xw) := upd_k1 hm5 (by decide) d_white
  have e_number : m5 (Str.ofString "number") = some (.int num tnm) := upd_k1 hm5 (by decide) d_number
  have e_words : m5 (Str.ofString "words") = some (.ref D) := upd_k0 hm5
  clear hm5 d_runs d_behind d_white d_number
  -- ways
  obtain ⟨own, hown⟩ : ∃ own, own = wsOwn xw qw [.int (cnt 0 rs) t1, .int (cnt 1 rs) t2, .int (cnt 2 rs) t3] bl rs.length := ⟨_, rfl⟩
  have hnw : NoCell own := by rw [hown]; exact noCell_ws
  have N9 : News g L' h' ((Dc, seqObj "list" #[.int (cnt 0 rs) t1, .int (cnt 1 rs) t2, .int (cnt 2 rs) t3] kc) :: (L' + 1, o1') :: (L' + 2, o2) :: (L' + 3, o3) :: (46, tabObj q.p1) :: (53, tabObj q.p2) :: (q.c1, q.o1) :: (q.c2, q.o2) :: (D, seqObj "list" (List.toArray us) e) :: (Dr, seqObj "list" rv.toArray kr) :: own) := by
    rw [hown]
    simp only [nw_cons, List.cons_append, List.nil_append] at N8 ⊢
    simp only [N8, and_self]
  clear N8
  have mOwn : ∀ p ∈ own, p ∈ (Dc, seqObj "list" #[.int (cnt 0 rs) t1, .int (cnt 1 rs) t2, .int (cnt 2 rs) t3] kc) :: (L' + 1, o1') :: (L' + 2, o2) :: (L' + 3, o3) :: (46, tabObj q.p1) :: (53, tabObj q.p2) :: (q.c1, q.o1) :: (q.c2, q.o2) :: (D, seqObj "list" (List.toArray us) e) :: (Dr, seqObj "list" rv.toArray kr) :: own := fun p hp => .tail _ (.tail _ (.tail _ (.tail _ (.tail _ (.tail _ (.tail _ (.tail _ (.tail _ (.tail _ hp)))))))))
  have T9 := tabs_at kg N9 (q := q) (by repeat' (first | exact List.forall_mem_nil _ | refine all_cons (by k_mem) ?_)) ok
  have oOwn : OffT q own := fun p hp => tab_neA T9 (N9 p (mOwn p hp)).1 (by
    rw [hown] at hp
    exact noFld_ws p hp)
  refine wpAny_execs_cons (law_ways0 (z := []) G kg X T CH CH2 F8 N9 d1 h2 h3 ok
    (OffT.cons (tab_neA T9 (N9 (D, seqObj "list" (List.toArray us) e) (by k_mem)).1 fun vs e => nomatch e) (OffT.cons (tab_neA T9 (N9 (Dr, seqObj "list" rv.toArray kr) (by k_mem)).1 fun vs e => nomatch e) oOwn))
    (NoCell.cons (fun v e => nomatch e) (NoCell.cons (fun v e => nomatch e) hnw)) (by lia) (by lia) (by lia) (by lia) hd9 hu9 ?_)
  intro h' tk' q1 o2' tw' F9 N10 d2 ok1 sm1 off1
  dsimp only
  rw [s1] at d2
  clear F8 N9 T9 mOwn oOwn
  -- if
  have p6 : ∀ p ∈ [(Str.ofString "words", Value.ref D)], m5 p.1 = some p.2 := all_cons e_words (List.forall_mem_nil _)
  have N11 : News g L' h' ((D, seqObj "list" us.toArray e) :: (L' + 2, o2') :: (Dc, seqObj "list" #[.int (cnt 0 rs) t1, .int (cnt 1 rs) t2, .int (cnt 2 rs) t3] kc) :: (L' + 1, o1') :: (L' + 3, o3) :: (46, tabObj q1.p1) :: (53, tabObj q1.p2) :: (q1.c1, q1.o1) :: (q1.c2, q1.o2) :: (Dr, seqObj "list" rv.toArray kr) :: own) := by
    simp only [nw_cons] at N10 ⊢
    simp only [N10, and_self]
  clear N10
  refine wpAny_execs_cons (law_if1 (o1 := o1) (o3 := o3) G kg X T (bnd_fr F9 p6) N11 d2 (by show _ = ((us.length : Nat) : Int); rw [hul]) (by show ((us.length : Nat) : Int) < _; lia) ?_)
  intro h' tk' F10 N12
  dsimp only
  rw [bnd_eq p6] at F10
  clear F9 N11
  -- divmod
  have p7 : ∀ p ∈ [(Str.ofString "number", Value.int num tnm)], m5 p.1 = some p.2 := all_cons e_number (List.forall_mem_nil _)
  have N13 : News g L' h' ((L' + 2, o2') :: (46, tabObj q1.p1) :: (53, tabObj q1.p2) :: (q1.c1, q1.o1) :: (q1.c2, q1.o2) :: (D, seqObj "list" us.toArray e) :: (Dc, seqObj "list" #[.int (cnt 0 rs) t1, .int (cnt 1 rs) t2, .int (cnt 2 rs) t3] kc) :: (L' + 1, o1') :: (L' + 3, o3) :: (Dr, seqObj "list" rv.toArray kr) :: own) := by
    simp only [nw_cons] at N12 ⊢
    simp only [N12, and_self]
  clear N12
  have T13 := tabs_at kg N13 (q := q1) (by repeat' (first | exact List.forall_mem_nil _ | refine all_cons (by k_mem) ?_)) ok1
  refine wpAny_execs_cons (law_dm (o1 := o1) (o3 := o3) (z := []) G kg X T CH CH2 (bnd_fr F10 p7) N13 d2 ok1
    (OffT.cons (off1 _ (.head _))
     (OffT.cons (tab_neA T13 (N13 (Dc, seqObj "list" #[.int (cnt 0 rs) t1, .int (cnt 1 rs) t2, .int (cnt 2 rs) t3] kc) (by k_mem)).1 fun vs e => nomatch e)
     (OffT.cons (tab_neA T13 (N13 (L' + 1, o1') (by k_mem)).1 fun vs e => by dsimp only at e; rw [d1] at e; cases e)
     (OffT.cons (tab_neA T13 (N13 (L' + 3, o3) (by k_mem)).1 fun vs e => by dsimp only at e; rw [h3] at e; cases e)
      (off1.sub fun p hp => .tail _ hp)))))
    nb.1 nb.2 (by lia) (by lia) hd9 hu9 ?_)
  intro h' tk' q2 u1 u2 F11 N14 ok2 sm2 off2
  dsimp only
  rw [bnd_eq p7] at F11
  clear F10 N13 T13 off1
  have r0 := Int.fmod_nonneg_of_pos num (show (0 : Int) < (ss.length : Int) by lia)
  have r1 := Int.fmod_lt_of_pos num (show (0 : Int) < (ss.length : Int) by lia)
  have rq := dm_eq num (ss.length : Int)
  obtain ⟨r, hr⟩ : ∃ r, r = num.fmod (ss.length : Int) := ⟨_, rfl⟩
  obtain ⟨tn, htn⟩ : ∃ t, t = num.fdiv (ss.length : Int) := ⟨_, rfl⟩
  rw [← hr, ← htn] at F11 rq
  rw [← hr] at r0 r1
  have htb : Builtin.Int.intBits tn ≤ 64 := by
    have qb := quot_bd rq r0 r1 nb.1 nb.2
    exact intBits_le_64 (by lia) (by lia)
  clear hr htn
  obtain ⟨m6, hm6⟩ : ∃ m6, m6 = upd (upd m5 (Str.ofString "turns") (.int tn u1)) (Str.ofString "rest") (.int r u2) := ⟨_, rfl⟩
  replace F11 : Fr g L' h' (upd (upd m5 (Str.ofString "turns") (.int tn u1)) (Str.ofString "rest") (.int r u2)) := F11
  rw [← hm6] at F11
  have f_runs : m6 (Str.ofString "runs") = some (.ref Dr) := upd_k2 hm6 (by decide) (by decide) e_runs
  have f_behind : m6 (Str.ofString "behind") = some (.str bs tbh) := upd_k2 hm6 (by decide) (by decide) e_behind
  have f_white : m6 (Str.ofString "white") = some (.ref xw) := upd_k2 hm6 (by decide) (by decide) e_white
  have f_number : m6 (Str.ofString "number") = some (.int num tnm) := upd_k2 hm6 (by decide) (by decide) e_number
  have f_words : m6 (Str.ofString "words") = some (.ref D) := upd_k2 hm6 (by decide) (by decide) e_words
  have f_turns : m6 (Str.ofString "turns") = some (.int tn u1) := upd_k01 hm6 (by decide)
  have f_rest : m6 (Str.ofString "rest") = some (.int r u2) := upd_k0 hm6
  clear hm6 e_runs e_behind e_white e_number e_words p6 p7
  -- if
  have p8 : ∀ p ∈ [(Str.ofString "words", Value.ref D), (Str.ofString "turns", Value.int tn u1), (Str.ofString "rest", Value.int r u2), (Str.ofString "number", Value.int num tnm)], m6 p.1 = some p.2 := List.forall_mem_cons.mpr ⟨f_words, List.forall_mem_cons.mpr ⟨f_turns, List.forall_mem_cons.mpr ⟨f_rest, all_cons f_number (List.forall_mem_nil _)⟩⟩⟩
  have N15 : News g L' h' ((D, seqObj "list" us.toArray e) :: (L' + 1, o1') :: (L' + 2, o2') :: (L' + 3, o3) :: (Dc, seqObj "list" #[.int (cnt 0 rs) t1, .int (cnt 1 rs) t2, .int (cnt 2 rs) t3] kc) :: (46, tabObj q2.p1) :: (53, tabObj q2.p2) :: (q2.c1, q2.o1) :: (q2.c2, q2.o2) :: (Dr, seqObj "list" rv.toArray kr) :: own) := by
    simp only [nw_cons] at N14 ⊢
    simp only [N14, and_self]
  clear N14
  refine wpAny_execs_cons (law_if2 (o1 := o1) (o2 := o2) (o3 := o3) G kg X T (bnd_fr F11 p8) N15 htb (by show tn * ((us.length : Nat) : Int) + r = num; rw [hul]; exact rq) r0 (by show r < ((us.length : Nat) : Int); rw [hul]; exact r1) (by show ((us.length : Nat) : Int) < _; lia) ?_)
  intro h' tk' F12 N16
  dsimp only
  rw [bnd_eq p8] at F12
  clear F11 N15 p8
  -- left
  have p9 : ∀ p ∈ [(Str.ofString "rest", Value.int r u2)], m6 p.1 = some p.2 := all_cons f_rest (List.forall_mem_nil _)
  refine wpAny_execs_cons (law_left0 (o1 := o1) (o2 := o2) (o3 := o3) G kg X T (bnd_fr F12 p9) N16 ?_)
  intro h' tk' F13 N17
  dsimp only
  rw [bnd_eq p9] at F13
  clear F12 N16 p9
  -- word
  refine wpAny_execs_cons (law_word0 (o1 := o1) (o2 := o2) (o3 := o3) G kg X T F13 N17 ?_)
  intro h' tk' Dw F14 N18
  dsimp only
  clear F13 N17
  obtain ⟨m7, hm7⟩ : ∃ m7, m7 = upd (upd m6 (Str.ofString "left") (.int r u2)) (Str.ofString "word") (.ref Dw) := ⟨_, rfl⟩
  replace F14 : Fr g L' h' (upd (upd m6 (Str.ofString "left") (.int r u2)) (Str.ofString "word") (.ref Dw)) := F14
  rw [← hm7] at F14
  have g_runs : m7 (Str.ofString "runs") = some (.ref Dr) := upd_k2 hm7 (by decide) (by decide) f_runs
  have g_behind : m7 (Str.ofString "behind") = some (.str bs tbh) := upd_k2 hm7 (by decide) (by decide) f_behind
  have g_white : m7 (Str.ofString "white") = some (.ref xw) := upd_k2 hm7 (by decide) (by decide) f_white
  have g_words : m7 (Str.ofString "words") = some (.ref D) := upd_k2 hm7 (by decide) (by decide) f_words
  have g_rest : m7 (Str.ofString "rest") = some (.int r u2) := upd_k2 hm7 (by decide) (by decide) f_rest
  have g_left : m7 (Str.ofString "left") = some (.int r u2) := upd_k01 hm7 (by decide)
  have g_word : m7 (Str.ofString "word") = some (.ref Dw) := upd_k0 hm7
  clear hm7 f_runs f_behind f_white f_number f_words f_turns f_rest
  -- for
  obtain ⟨W, x9, hx9, hxW, TA, W1, W2, W3, W4⟩ := turn_start rb rl hO r0 r1
  rw [s1] at TA
  have N19 : News g L' h' (cell3 L' o1' o2' o3 Dc (seqObj "list" #[.int (cnt 0 rs) t1, .int (cnt 1 rs) t2, .int (cnt 2 rs) t3] kc) q2 Dw (seqObj "list" (List.toArray []) 0) ((Dr, seqObj "list" rv.toArray kr) :: (D, seqObj "list" us.toArray e) :: own)) := by
    unfold cell3
    simp only [nw_cons] at N18 ⊢
    simp only [N18, and_self]
  clear N18
  have hin : ∀ p ∈ (Dr, seqObj "list" rv.toArray kr) :: (D, seqObj "list" us.toArray e) :: own, p ∈ cell3 L' o1' o2' o3 Dc (seqObj "list" #[.int (cnt 0 rs) t1, .int (cnt 1 rs) t2, .int (cnt 2 rs) t3] kc) q2 Dw (seqObj "list" (List.toArray []) 0) ((Dr, seqObj "list" rv.toArray kr) :: (D, seqObj "list" us.toArray e) :: own) :=
    fun p hp => .tail _ (.tail _ (.tail _ (.tail _ (.tail _ (.tail _ (.tail _ (.tail _ (.tail _ hp))))))))
  have hnc : NoCell ((Dr, seqObj "list" rv.toArray kr) :: (D, seqObj "list" us.toArray e) :: own) := .cons (fun v e => nomatch e) (.cons (fun v e => nomatch e) hnw)
  refine wpAny_execs_cons (law_for G CH CH2 kg X T F14 N19 g_runs g_left g_word hR rl d1 d2 h3 ok2 ?_
    ⟨off_cell N19 (.head _) d1 hin hnc, off_cell N19 (.tail _ (.head _)) d2 hin hnc, off_cell N19 (.tail _ (.tail _ (.head _))) h3 hin hnc⟩ TA s4 hd9 hu9 ?_)
  · intro p hp
    refine mem_cons_elim hp ?_ fun hp => ?_
    · exact off2 _ (.tail _ (.tail _ (.tail _ (.tail _ (.head _)))))
    refine mem_cons_elim hp ?_ fun hp => ?_
    · exact off2 _ (.head _)
    · exact off2 p (.tail _ (.tail _ (.tail _ (.tail _ (.tail _ hp)))))
  intro h' tk' m8 Dw' kw' ws' ks e46 e53 F15 N20 ag mw hks hkl hkb hW
  dsimp only
  clear F14 N19 hin
  have i_behind : m8 (Str.ofString "behind") = some (.str bs tbh) := by rw [ag _ (by decide) (by decide) (by decide) (by decide) (by decide), g_behind]
  have i_white : m8 (Str.ofString "white") = some (.ref xw) := by rw [ag _ (by decide) (by decide) (by decide) (by decide) (by decide), g_white]
  have i_words : m8 (Str.ofString "words") = some (.ref D) := by rw [ag _ (by decide) (by decide) (by decide) (by decide) (by decide), g_words]
  have i_rest : m8 (Str.ofString "rest") = some (.int r u2) := by rw [ag _ (by decide) (by decide) (by decide) (by decide) (by decide), g_rest]
  clear g_runs g_behind g_white g_words g_rest g_left g_word ag
  -- the word's counts are the runs' counts
  have k0 := digits_cnt (d := 0) (by decide) hkb
  have k1 := digits_cnt (d := 1) (by decide) hkb
  have k2 := digits_cnt (d := 2) (by decide) hkb
  rw [← show W = digits ks from hW] at k0 k1 k2
  have c0 : cnt 0 ks = cnt 0 rs := k0.symm.trans W2
  have c1' : cnt 1 ks = cnt 1 rs := k1.symm.trans W3
  have c2' : cnt 2 ks = cnt 2 rs := k2.symm.trans W4
  have k2m : (2 : Int) ∈ ks := by
    have z : 0 < cnt 2 rs := List.count_pos_iff.mpr r2
    rw [← c2'] at z
    exact List.count_pos_iff.mp z
  -- found
  have p10 : ∀ p ∈ [(Str.ofString "word", Value.ref Dw'), (Str.ofString "behind", .str bs tbh)], m8 p.1 = some p.2 := List.forall_mem_cons.mpr ⟨mw, all_cons i_behind (List.forall_mem_nil _)⟩
  refine wpAny_execs_cons (law_found (o1 := o1) (o2 := o2) (o3 := o3) G kg X T (bnd_fr F15 p10) N20 hks (by lia) hkb bsl (by lia) (by lia) ?_)
  intro h' tk' xf qf vf F16 N21 ifd _ _ _ _
  dsimp only
  rw [bnd_eq p10] at F16
  clear F15 N20 p10
  have hwF := ws_lead hkb k2m tb (tail := []) (c := 121) (t := Str.ofString "y") (by decide +kernel) (by rfl)
  rw [← hbs, c0, c1', c2', hkl] at hwF
  rw [hwF] at N21 ifd
  dsimp only at N21 ifd
  obtain ⟨m9, hm9⟩ : ∃ m9, m9 = upd m8 (Str.ofString "found") (.ref xf) := ⟨_, rfl⟩
  replace F16 : Fr g L' h' (upd m8 (Str.ofString "found") (.ref xf)) := F16
  rw [← hm9] at F16
  have j_white : m9 (Str.ofString "white") = some (.ref xw) := upd_k1 hm9 (by decide) i_white
  have j_words : m9 (Str.ofString "words") = some (.ref D) := upd_k1 hm9 (by decide) i_words
  have j_rest : m9 (Str.ofString "rest") = some (.int r u2) := upd_k1 hm9 (by decide) i_rest
  have j_word : m9 (Str.ofString "word") = some (.ref Dw') := upd_k1 hm9 (by decide) mw
  have j_found : m9 (Str.ofString "found") = some (.ref xf) := upd_k0 hm9
  clear hm9
  -- join
  have p11 : ∀ p ∈ [(Str.ofString "word", Value.ref Dw'), (Str.ofString "words", Value.ref D), (Str.ofString "rest", Value.int r u2)], m9 p.1 = some p.2 := List.forall_mem_cons.mpr ⟨j_word, List.forall_mem_cons.mpr ⟨j_words, all_cons j_rest (List.forall_mem_nil _)⟩⟩
  have N22 : News g L' h' ((Dw', seqObj "list" (List.toArray ws') kw') :: (D, seqObj "list" us.toArray e) :: (Dr, seqObj "list" rv.toArray kr) :: (wsOwn xf qf vf bl rs.length ++ (own ++ [(46, tabObj e46), (53, tabObj e53)]))) := by
    refine news_sub N21 (fun p hp => ?_)
    refine mem_cons_elim hp ?_ fun hp => ?_
    · exact List.mem_append_right _ (.head _)
    refine mem_cons_elim hp ?_ fun hp => ?_
    · exact List.mem_append_right _ (.tail _ (.tail _ (.tail _ (.tail _ (.head _)))))
    refine mem_cons_elim hp ?_ fun hp => ?_
    · exact List.mem_append_right _ (.tail _ (.tail _ (.tail _ (.head _))))
    rcases List.mem_append.mp hp with hp | hp
    · exact List.mem_append_left _ hp
    rcases List.mem_append.mp hp with hp | hp
    · exact List.mem_append_right _ (.tail _ (.tail _ (.tail _ (.tail _ (.tail _ hp)))))
    refine mem_cons_elim hp ?_ fun hp => ?_
    · exact List.mem_append_right _ (.tail _ (.head _))
    · rw [List.mem_singleton.mp hp]
      exact List.mem_append_right _ (.tail _ (.tail _ (.head _)))
  clear N21
  have hx10 : x9 = Txt.join (PySem.Str.ofString "") (ks.map fun k => PySem.Str.ofString (toString k)) := cpsL_inj (by rw [hxW, join_digits hkb]; exact hW)
  rw [hx10] at hx9
  refine wpAny_execs_cons (law_join (o1 := o1) (o2 := o2) (o3 := o3) G kg X T (bnd_fr F16 p11) N22 hks hU hkb (by lia) r0 s3 hx9 ?_)
  intro h' tk' nw F17 N23
  dsimp only
  rw [bnd_eq p11] at F17
  clear F16 N22
  -- return
  have p12 : ∀ p ∈ [(Str.ofString "found", Value.ref xf), (Str.ofString "white", Value.ref xw)], m9 p.1 = some p.2 := List.forall_mem_cons.mpr ⟨j_found, all_cons j_white (List.forall_mem_nil _)⟩
  have N24 : News g L' h' (wsOwn xf qf vf bl rs.length ++ (wsOwn xw qw [.int (cnt 0 rs) t1, .int (cnt 1 rs) t2, .int (cnt 2 rs) t3] bl rs.length ++ [(46, tabObj e46), (53, tabObj e53)])) := by
    rw [← hown]
    refine news_sub N23 (fun p hp => List.mem_append_right _ (.tail _ (.tail _ (.tail _ hp))))
  clear N23
  have cm : ∀ c ∈ [(cnt 0 rs : Int), (cnt 1 rs : Int), (cnt 2 rs : Int)], 0 ≤ c ∧ c ≤ 60 := List.forall_mem_cons.mpr ⟨by lia, List.forall_mem_cons.mpr ⟨by lia, List.forall_mem_cons.mpr ⟨by lia, List.forall_mem_nil _⟩⟩⟩
  refine wpAny_execs_cons (law_ret (o1 := o1) (o2 := o2) (o3 := o3) G kg X T (bnd_fr F17 p12) N24 ifd iw (by simp) tb.1 (by lia) cm (by lia) (by lia) (by lia) (by lia) ?_)
  intro h' tk' F18 N25
  dsimp only
  exact h _ _ _ _ _ _ F18 (N25 _ (.head _)).1 (N25 _ (.tail _ (.head _))).1
end Mine
end

/- part Top -/
section
example : True := by
  k_with_none
  w_top off
  trivial
open PySem PySem.W PyProof.Rows PySem.Calls PySem.Spec
set_option maxRecDepth 100000
set_option pp.maxSteps 100000
set_option pp.deepTerms false
set_option pp.deepTerms.threshold 5
namespace Mine
set_option maxHeartbeats 8000000 in
theorem top (S90 : Sort90) : PySem.Challenge.rw_pg0285_01.Holds := Mine.hd (by
  k_go0
  rename CodeHd _ (57, 53).fst (57, 53).snd => CH2
  rename CodeHd _ (50, 46).fst (50, 46).snd => CH
  rename Fr _ _ _ _ => F1
  rename News _ _ _ _ => N1
  refine wpAny_mono (law_main S90 (q := ⟨#[], #[], 46, 53, tabObj #[], tabObj #[]⟩) (Gnd.mk (by assumption) ⟨_, _, _, _, _, by assumption⟩) CH CH2 (Keep.refl _) (by assumption) (by assumption) F1
    (news_sub N1 (by repeat' (first | exact List.forall_mem_nil _ | refine all_cons (by k_mem) ?_)))
    (by with_unfolding_all rfl) (by assumption) (by assumption) (by omega) (by assumption) (by assumption) (by assumption) ⟨.inl ⟨rfl, rfl⟩, .inl ⟨rfl, rfl⟩, by decide, by decide⟩ (by decide) (by decide) ?_) (fun _ _ h => h) (fun _ _ h => h.elim)
  intro h' tk' dr m' p1 p2 F2 e1 e2
  dsimp only
  refine ⟨⟨.inl ⟨_, _, [], rfl, ?hr, ReadsW.bool true, ?hp, fun _ => ⟨List.nodup_nil, fun _ hm => (nomatch hm)⟩⟩, fun b o e => F2.keep b o e, rfl, by assumption⟩, ⟨⟨_, e2⟩, ⟨_, e1⟩, trivial⟩⟩
  case hr => intro cls; first | rfl | decide | (with_unfolding_all rfl)
  case hp => first | rfl | (with_unfolding_all rfl))
end Mine
end

section
set_option maxRecDepth 100000
theorem PySem.Challenge.cw_pg0285_01_holds : PySem.Challenge.rw_pg0285_01.Holds :=
  Mine.top Mine.sort90
end
