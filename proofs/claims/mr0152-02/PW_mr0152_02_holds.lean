import PyProof.Rows.All
import Wide.All
import OpenK.AllK
import Wide.FinOn
import PySem.Challenge.RW_mr0152_02
set_option Elab.async false
section
open PySem PySem.W PySem.Calls PyProof.Rows
set_option maxRecDepth 100000
namespace Mine

/- sets of texts -/
theorem orStandIn_led (t : SetTable) (n : Nat) : (t.orStandIn n).led = t.led := by unfold SetTable.orStandIn; split <;> rfl
theorem layNew_led (t : SetTable) (es : Array (Int × Value)) (h : Int) (x : Value) : (layNew t es h x).2.1.led = t.led := by
  unfold layNew
  split
  · rename_i slot d e
    exact orStandIn_led (t.put slot).1 _
  · rfl
theorem laid_led {mask finger moves : Nat} {led plain : Bool} {hs : Array Int} {r : SetTable × Array Nat} (h : SetTable.laid mask finger moves led plain hs = some r) : r.1.led = led ∧ r.1.plain = plain := by
  unfold SetTable.laid at h
  cases e : SetTable.layClean mask hs with
  | none => rw [e] at h; cases h
  | some o => rw [e] at h; cases h; exact ⟨rfl, rfl⟩
theorem relayAll_led (t : SetTable) (es : Array (Int × Value)) (n : Nat) : (relayAll t es n).2.1.led = t.led := by
  unfold relayAll
  split
  · rename_i t' order e
    have := laid_led e
    dsimp only
    split
    · exact this.1
    · rfl
  · rfl
theorem relayAll_plain (t : SetTable) (es : Array (Int × Value)) (n : Nat) (hp : t.plain = false) : (relayAll t es n).2.1.plain = false := by
  unfold relayAll
  split
  · rename_i t' order e
    have := laid_led e
    dsimp only
    split
    · exact this.2.trans hp
    · rfl
  · rfl

structure SetIs (prog : Program) (w : World) (h : Heap) (a : Addr) (S : Str → Bool) (n : Nat) (es : Array (Int × Value)) (ep : Nat) (t : SetTable) : Prop where
  obj : h.get? a = some { cls := .type "set", dict := none, data := .set es ep t }
  el : ElemsOf (strKind prog w) es.toList
  mem : ∀ k, S k = true ↔ ∃ e ∈ es.toList, (strKind prog w).is k e.2 = true
  small : es.size ≤ n
  fits : t.fits es.size = true
  led : t.led = true ∨ w.params.followText "set-order" = true
  plain : t.plain = false ∨ es.size = 0

def StrSet (prog : Program) (w : World) (h : Heap) (a : Addr) (S : Str → Bool) (n : Nat) : Prop := ∃ es ep t, SetIs prog w h a S n es ep t
theorem StrSet.at {prog : Program} {w : World} {h h' : Heap} {a : Addr} {S : Str → Bool} {n : Nat} (x : StrSet prog w h a S n) (k : ∀ o, h.get? a = some o → h'.get? a = some o) : StrSet prog w h' a S n :=
  let ⟨es, ep, t, y⟩ := x; ⟨es, ep, t, k _ y.obj, y.el, y.mem, y.small, y.fits, y.led, y.plain⟩
theorem StrSet.congr {prog : Program} {w : World} {h : Heap} {a : Addr} {S S' : Str → Bool} {n n' : Nat} (x : StrSet prog w h a S n) (e : ∀ k, S k = S' k) (hn : n ≤ n') : StrSet prog w h a S' n' := by
  obtain ⟨es, ep, t, y⟩ := x
  exact ⟨es, ep, t, y.obj, y.el, fun k => by rw [← e k]; exact y.mem k, Nat.le_trans y.small hn, y.fits, y.led, y.plain⟩
section
variable {prog : Program} {w : World} {A : Around} {E : Value → Shared → Prop} {s : Shared}

theorem stored_set {h : Heap} {a : Addr} {es es' : Array (Int × Value)} {ep : Nat} {t t' : SetTable} (ho : h.get? a = some { cls := .type "set", dict := none, data := .set es ep t }) :
    (h.update a (Obj.putSet es' t')).get? a = some { cls := .type "set", dict := none, data := .set es' (ep + 1) t' } := by
  have := Heap.get?_update_self (Obj.putSet es' t') ho (by rw [putSet_of es' t' rfl]; rfl)
  rw [putSet_of es' t' rfl] at this; exact this

theorem add_str {a : Addr} {S : Str → Bool} {n : Nat} {x : Str} {tk : Tok} {Q : Bool → Shared → Prop} (hS : StrSet prog w s.heap a S n) (hroom : n + 1 < scanBound)
    (h : ∀ b h', Heap.SameBut a s.heap h' → StrSet prog w h' a (fun k' => S k' || decide (k' = x)) (n + 1) → Q b { s with heap := h' }) :
    wpAny (model prog w) A (setAddHashed a (.str x tk) ((strKind prog w).hash x)) Q E s := by
  obtain ⟨es, ep, t, y⟩ := hS
  have hkey : (strKind prog w).is x (.str x tk) = true := by show Value.isStrOf x (.str x tk) = true; simp [Value.isStrOf]
  have hsc : (Value.str x tk).scannable = true := rfl
  have hb : es.size < scanBound := by have := y.small; omega
  have ho := y.obj
  unfold setAddHashed setAddHashedIn
  refine wpAny_holding (wpAny_bind (wpAny_setState_of ho rfl y.fits ?_))
  dsimp only
  rw [byScan_of hsc hb y.el]
  simp only [↓reduceIte]
  unfold setAddByScan
  refine wpAny_bind ?_
  refine wpAny_bind (wpAny_rule ?_)
  refine wpAny_bind (wpAny_setScan_of hkey ho rfl y.fits y.el ?_)
  cases hr : List.findIdx? (fun e => (strKind prog w).is x e.2) es.toList with
  | some j =>
    dsimp only
    obtain ⟨hj, hpj, _⟩ := List.findIdx?_eq_some_iff_getElem.mp hr
    have hSk : S x = true := (y.mem x).mpr ⟨es.toList[j], List.getElem_mem hj, hpj⟩
    refine wpAny_pure (wpAny_pure ?_)
    have e : s = { s with heap := s.heap } := by cases s; rfl
    have := h false s.heap (Heap.SameBut.refl a s.heap) ⟨es, ep, t, y.obj, y.el, fun k' => by
      rw [Bool.or_eq_true, decide_eq_true_eq, ← y.mem k']
      exact ⟨fun hk => hk.elim id (fun e => e ▸ hSk), .inl⟩, Nat.le_succ_of_le y.small, y.fits, y.led, y.plain⟩
    rw [e]; exact this
  | none =>
    dsimp only
    have hgw : ∀ (b : Bool) {s₁ : Shared} {Q' : Unit → Shared → Prop}, Q' () s₁ → wpAny (model prog w) A (match b with | true => rule "set.scan.the-table-gave-way" | false => pure ()) Q' E s₁ :=
      fun b s₁ Q' hq => by cases b <;> first | exact wpAny_pure hq | exact wpAny_rule hq
    have hperm := layNew_perm t es ((strKind prog w).hash x) (.str x tk)
    have hfits := layNew_fits t es ((strKind prog w).hash x) (.str x tk)
    have hled := layNew_led t es ((strKind prog w).hash x) (.str x tk)
    generalize hL : layNew t es ((strKind prog w).hash x) (.str x tk) = L at hperm hfits hled ⊢
    obtain ⟨es1, t1, wasDummy, gave⟩ := L
    dsimp only at hperm hfits hled ⊢
    rw [Array.toList_push] at hperm
    have hel1 : ElemsOf (strKind prog w) es1.toList := (y.el.push hkey hsc).perm hperm
    have hmem1 : ∀ k', (S k' || decide (k' = x)) = true ↔ ∃ e ∈ es1.toList, (strKind prog w).is k' e.2 = true := mem_push_iff hkey y.mem hperm
    have hsz1 : es1.size = es.size + 1 := by rw [← Array.length_toList, hperm.length_eq, List.length_append, Array.length_toList]; rfl
    have hb1 : es1.size < scanBound := by have := y.small; omega
    refine wpAny_bind (hgw _ ?_)
    -- the rest, for a table that is no more plain
    have tail : ∀ t2 : SetTable, t2.fits es1.size = true → t2.led = t.led → t2.plain = false → wpAny (model prog w) A (do
        storeSet a es1 t2
        if (!wasDummy && t2.tooFull) = true then do
            (match (relayAll t2 es1 (SetTable.grown es1.size)).2.2 with | true => rule "set.scan.the-table-gave-way" | false => pure ())
            storeSet a (relayAll t2 es1 (SetTable.grown es1.size)).1 (relayAll t2 es1 (SetTable.grown es1.size)).2.1
            pure (some true)
          else pure (some true)) (fun r s' => ∃ h', s' = { s with heap := h' } ∧ r = some true ∧ Heap.SameBut a s.heap h' ∧ StrSet prog w h' a (fun k' => S k' || decide (k' = x)) (n + 1)) E s := by
      intro t2 f2 l2 p2
      refine wpAny_bind (wpAny_storeSet_of ho rfl ?_ (fits_of_scanBound hb1))
      have ho1 := stored_set (es' := es1) (t' := t2) ho
      have hsb1 := Heap.SameBut.update s.heap a (Obj.putSet es1 t2)
      have hn1 : es1.size ≤ n + 1 := by have := y.small; omega
      split
      · have hp := relayAll_perm t2 es1 (SetTable.grown es1.size)
        have hfr := relayAll_fits t2 es1 (SetTable.grown es1.size)
        have hlr := relayAll_led t2 es1 (SetTable.grown es1.size)
        have hpr := relayAll_plain t2 es1 (SetTable.grown es1.size) p2
        generalize hRl : relayAll t2 es1 (SetTable.grown es1.size) = Rl at hp hfr hlr hpr ⊢
        obtain ⟨es2, t3, gave2⟩ := Rl
        dsimp only at hp hfr hlr hpr ⊢
        have hsz : es2.size = es1.size := by rw [← Array.length_toList, hp.length_eq, Array.length_toList]
        refine wpAny_bind (hgw _ ?_)
        refine wpAny_bind (wpAny_storeSet_of (s := { s with heap := s.heap.update a (Obj.putSet es1 t2) }) ho1 rfl ?_ (fits_of_scanBound (by omega)))
        refine wpAny_pure ⟨_, rfl, rfl, hsb1.trans (Heap.SameBut.update _ a _), es2, ep + 1 + 1, t3, stored_set ho1, hel1.perm hp, fun k' => (hmem1 k').trans ⟨fun ⟨e, he, q⟩ => ⟨e, hp.mem_iff.mpr he, q⟩, fun ⟨e, he, q⟩ => ⟨e, hp.mem_iff.mp he, q⟩⟩, by omega, hfr, ?_, .inl hpr⟩
        rw [hlr, l2]; exact y.led
      · refine wpAny_pure ⟨_, rfl, rfl, hsb1, es1, ep + 1, t2, ho1, hel1, hmem1, hn1, f2, ?_, .inl p2⟩
        rw [l2]; exact y.led
    have fin : ∀ {r : Option Bool} {s' : Shared}, (∃ h', s' = { s with heap := h' } ∧ r = some true ∧ Heap.SameBut a s.heap h' ∧ StrSet prog w h' a (fun k' => S k' || decide (k' = x)) (n + 1)) →
        wpAny (model prog w) A (match r with | some b => pure b | none => setAddHashedIn a (.str x tk) ((strKind prog w).hash x) 99999) Q E s' := by
      rintro r s' ⟨h', rfl, rfl, hsb, hS'⟩
      exact wpAny_pure (h true h' hsb hS')
    split
    · refine wpAny_bind ?_
      rw [hashByValue_scannable 8 hsc]
      refine wpAny_pure ?_
      show wpAny _ A _ _ _ _
      refine wpAny_mono (tail { t1 with plain := false } (SetTable.fits_plain_off hfits) hled rfl) (fun r s' z => ?_) fun _ _ z => z
      exact fin z
    · rename_i hpl
      refine wpAny_bind (wpAny_pure ?_)
      simp only [↓reduceIte]
      refine wpAny_mono (tail t1 hfits hled (by simpa using hpl)) (fun r s' z => ?_) fun _ _ z => z
      exact fin z
end
end Mine
end
section
open PySem PySem.W PySem.Calls PyProof.Rows
set_option maxRecDepth 100000
namespace Mine
section
variable {prog : Program} {w : World} {A : Around} {E : Value → Shared → Prop} {s : Shared}

theorem code_set_made (a : Value) {Q₁ : Value → Shared → Prop}
    (h : ∀ led : Bool, (led = true ∨ w.params.followText "set-order" = true) → Q₁ (.ref s.heap.objs.size) { s with heap := s.heap.push { cls := .type "set", dict := none, data := .set #[] 0 (.fresh 0 0 led) } }) :
    codeAny (model prog w) A (.call (.builtin "set.__new__") ⟨[.type "set", a], []⟩) (wants Q₁ E) s := by
  refine codeAny_of_tree ?_
  show wpAny _ A.in1 (do checkBuiltinCall "set.__new__" ⟨[.type "set", a], []⟩; again (.builtin "set.__new__" ⟨[.type "set", a], []⟩)) _ _ s
  refine wpAny_bind (wpAny_of_eq (PySem.F.newCall_set_1 a) (wpAny_pure ⟨plainId_quiet PySem.F.plain_set_new _, codeAny_builtin PySem.F.entry_set_new ?_⟩))
  rw [Around.under_plainId PySem.F.plain_set_new _]
  unfold Builtin.«set.__new__» Builtin.Frozenset.newClass
  have hsub := sub_set_self
  obtain ⟨hp, g, d, tk, os⟩ := s
  dsimp only
  wp_walk
  refine wpAny_askSetting (wpAny_pure ?_)
  dsimp only
  simp only [newObj]
  refine wpAny_bind (wpAny_alloc (wpAny_pure ?_))
  refine wpAny_pure (h _ ?_)
  show (!(model prog w).w.params.followText "set-order") = true ∨ _
  cases e : w.params.followText "set-order" with
  | true => exact .inr rfl
  | false => left; show (!w.params.followText "set-order") = true; rw [e]; rfl

variable {I : Addr} {fp wr : List Addr} {G : Array GenState → Array GenState → Prop} {n : Nat} {P : Nat → Value → Prop} {St : Nat → Shared → Prop} {R : Result → Shared → Prop}
theorem set_update_strs (W : WalksS prog w A.in1 I fp wr G n P St) (S : Addr) (hSf : S ∉ fp) (val : Nat → Str) (hval : ∀ i v, P i v → ∃ t, v = .str (val i) t) (hb : n + 1 < scanBound) :
    ∀ (k i : Nat) (s : Shared), n - i = k → i ≤ n → St i s → StrSet prog w s.heap S (fun k' => ((List.range i).map val).any (· == k')) i →
      (∀ s', Moved (S :: wr) G s s' → StrSet prog w s'.heap S (fun k' => ((List.range n).map val).any (· == k')) n → R (.ok (.ret .none)) s') →
      codeAny (model prog w) A (.builtin "set.update.loop" ⟨[.ref S, .ref I], []⟩) R s := by
  have hSw : S ∉ wr := fun h => hSf (W.sub _ h)
  have hsub : ∀ b ∈ wr, b ∈ S :: wr := fun b hb => List.mem_cons_of_mem _ hb
  intro k
  induction k with
  | zero =>
    intro i s hk hi hst hS hR
    have hin : i = n := by omega
    subst hin
    refine codeAny_builtin PyProof.Rows.F.entry_set_update_loop ?_
    rw [Around.under_plainId PyProof.Rows.F.plain_set_update_loop _]
    show wpAny _ A.in1 (pyNext (.ref I) >>= _) _ _ s
    refine wpAny_bind (W.done s _ _ hst fun s' hm => ?_)
    show wpAny _ A.in1 (ret Value.none) _ _ s'
    exact wpAny_pure (hR s' (hm.mono hsub) (hS.at fun o e => hm.heap S o hSw e))
  | succ k ih =>
    intro i s hk hi hst hS hR
    have hlt : i < n := by omega
    refine codeAny_builtin PyProof.Rows.F.entry_set_update_loop ?_
    rw [Around.under_plainId PyProof.Rows.F.plain_set_update_loop _]
    show wpAny _ A.in1 (pyNext (.ref I) >>= _) _ _ s
    refine wpAny_bind (W.item i s _ _ hlt hst fun v s' hP hst' hm => ?_)
    obtain ⟨t, rfl⟩ := hval i v hP
    have hS' := hS.at (h' := s'.heap) fun o e => hm.heap S o hSw e
    show wpAny _ A.in1 (holding [Value.str (val i) t] (setAdd S (.str (val i) t)) >>= _) _ _ s'
    refine wpAny_bind (wpAny_holding ?_)
    unfold setAdd
    refine wpAny_holding ?_
    refine wpAny_bind ((strKind prog w).pyHash (k := val i) (by show Value.isStrOf (val i) (.str (val i) t) = true; simp [Value.isStrOf]) ?_)
    refine add_str (s := { s' with toks := s'.toks + 1 }) hS' (by omega) fun b h' hsb hS2 => ?_
    have hSi : StrSet prog w h' S (fun k' => ((List.range (i + 1)).map val).any (· == k')) (i + 1) := by
      refine hS2.congr (fun k' => ?_) (Nat.le_refl _)
      rw [List.range_succ, List.map_append, List.any_append]
      simp [eq_comm, Bool.beq_eq_decide_eq]
    refine wpAny_pure ⟨plainId_quiet PyProof.Rows.F.plain_set_update_loop _, ih (i + 1) _ (by omega) hlt (W.frame _ s' _ _ hst' (Nat.le_succ _) fun b hb o e => ?_) hSi fun s'' hm'' hS'' => ?_⟩
    · rw [hsb.2 b (fun h : b = S => hSf (by rw [← h]; exact hb))]; exact e
    · refine hR s'' (Moved.trans W.gtrans ((hm.mono hsub).then_heap (Nat.le_succ _) fun b o hb e => ?_) hm'') hS''
      rw [hsb.2 b (fun h : b = S => hb (by rw [h]; exact List.mem_cons_self))]; exact e
end

section
variable {prog : Program} {w : World} {A : Around} {E : Value → Shared → Prop} {s : Shared}
set_option maxHeartbeats 3200000 in
theorem call_set_strs {l : Addr} {items : Array Value} {xs : List Str} {Q : Value → Shared → Prop}
    (hh : A.handled = none) (hl : s.heap.IsList l items) (hi : ∃ q : List (Str × Tok), items.toList = strValues q ∧ q.map (·.1) = xs) (hb : xs.length + 1 < scanBound)
    (h : ∀ (h' : Heap) (tk : Nat), StrSet prog w h' s.heap.objs.size (fun k' => xs.any (· == k')) xs.length →
      (∀ b o, b < s.heap.objs.size → s.heap.get? b = some o → h'.get? b = some o) → Q (.ref s.heap.objs.size) { s with heap := h', toks := tk }) :
    wpAny (model prog w) A (call (.type "set") [.ref l]) Q E s := by
  obtain ⟨q, hq, hqx⟩ := hi
  have hsz : items.size = xs.length := by rw [← Array.length_toList, hq, ← hqx]; simp [strValues]
  have hval : ∀ (i : Nat) (v : Value), items[i]? = some v → ∃ t, v = .str ((fun i => xs.getD i "") i) t := fun i v hv => by
    rw [← Array.getElem?_toList, hq] at hv
    simp only [strValues, List.getElem?_map, Option.map_eq_some_iff] at hv
    obtain ⟨p, hp, rfl⟩ := hv
    refine ⟨p.2, ?_⟩
    have : xs[i]? = some p.1 := by rw [← hqx, List.getElem?_map, hp]; rfl
    show Value.str p.1 p.2 = .str (xs.getD i "") p.2
    rw [List.getD_eq_getElem?_getD, this]; rfl
  have hall : (List.range items.size).map (fun i => xs.getD i "") = xs := by
    refine List.ext_getElem (by simp [hsz]) fun i h1 h2 => ?_
    simp [List.getD_eq_getElem?_getD, List.getElem?_eq_getElem h2]
  obtain ⟨c, tl, hmro⟩ := PySem.F.called_set.mro
  have hmade := PySem.F.called_set.made
  have hsub := PySem.F.called_set.sub
  refine wpAny_call (codeAny_of_tree ?_)
  show wpAny _ _ (callAny (.type "set") _) _ _ _
  refine wpAny_pure ⟨Code.quiet_builtin _ (by decide +kernel), codeAny_builtin PySem.F.entry_type_call ?_⟩
  rw [Around.under_plain (weight_type_call_type "set" [.ref l] []) rfl]
  have h1 := PySem.F.called_set.notType
  have h2 := PySem.F.called_set.canCreate
  have hct := PySem.F.typeCall_set_1 (.ref l)
  repeat (any_goals (first | assumption | wp_step))
  refine codeAny_mono (code_set_made (.ref l) (E := E) (Q₁ := fun obj s₁ => ∃ led : Bool, (led = true ∨ w.params.followText "set-order" = true) ∧ obj = .ref s.heap.objs.size ∧ s₁ = { s with heap := s.heap.push { cls := .type "set", dict := none, data := .set #[] 0 (.fresh 0 0 led) } }) fun led hled => ⟨led, hled, rfl, rfl⟩) fun r s₁ hr => ?_
  cases r with
  | error e => exact hr
  | ok fl =>
    cases fl with
    | ret obj =>
      obtain ⟨led, hled, rfl, rfl⟩ := hr
      have hS : (s.heap.push { cls := .type "set", dict := none, data := .set #[] 0 (.fresh 0 0 led) }).get? s.heap.objs.size = some { cls := .type "set", dict := none, data := .set #[] 0 (.fresh 0 0 led) } := Heap.get?_push_size _ rfl
      have hT : Shared.TypeIs { s with heap := s.heap.push { cls := .type "set", dict := none, data := .set #[] 0 (.fresh 0 0 led) } } (.ref s.heap.objs.size) "set" := ⟨_, hS, rfl⟩
      have hli := PySem.F.called_set.init.lookup
      have hbi := PySem.F.called_set.init.bind (.ref s.heap.objs.size)
      repeat (any_goals (first | assumption | wp_step))
      refine codeAny_mono (codeAny_call_builtin (R := wants (fun r s₂ => r = .none ∧ ∃ h' tk, s₂ = { s with heap := h', toks := tk } ∧
          StrSet prog w h' s.heap.objs.size (fun k' => xs.any (· == k')) xs.length ∧
          (∀ b o, b < s.heap.objs.size → s.heap.get? b = some o → h'.get? b = some o)) E) PySem.F.called_set.init.plain PySem.F.entry_set_init (check_set_init_1 hT ?_)) fun r₂ s₂ hr₂ => ?_
      · obtain ⟨ol, hol, hcl, nl, hdl⟩ := hl
        obtain ⟨ocls, odict, odata, oslots⟩ := ol
        simp only at hcl hdl
        subst hcl; subst hdl
        have hol' : (s.heap.push { cls := .type "set", dict := none, data := .set #[] 0 (.fresh 0 0 led) }).get? l = some { cls := .type "list", dict := odict, data := .seq items nl, slots := oslots } := Heap.get?_push_of_some _ hol
        have hsls := PySem.F.sub_list_set
        have hslf := PySem.F.sub_list_frozenset
        have hne : (Value.type "list" == Value.type "dict") = false := by decide
        have hl1 : (s.heap.push { cls := .type "set", dict := none, data := .set #[] 0 (.fresh 0 0 led) }).IsList l items := ⟨_, hol', rfl, nl, rfl⟩
        unfold Builtin.«set.__init__» noKeywords Builtin.Frozenset.updateFrom
        generalize hPI : pyIter = PI
        wp_walk
        subst hPI
        refine wpAny_pyIter_list hl1 ?_
        refine wpAny_bind (wpAny_runValue ?_)
        have hlS : l < s.heap.objs.size := Heap.lt_size hol
        have hh3 : A.in1.in1.in1.handled = none := by simp [hh]
        have hneI : l ≠ (s.heap.push { cls := .type "set", dict := none, data := .set #[] 0 (.fresh 0 0 led) }).objs.size := by
          rw [Heap.size_push]; exact Nat.ne_of_lt (Nat.lt_succ_of_lt hlS)
        have hSf : s.heap.objs.size ∉ [(s.heap.push { cls := .type "set", dict := none, data := .set #[] 0 (.fresh 0 0 led) }).objs.size, l] := by
          rw [Heap.size_push]; simp only [List.mem_cons, List.mem_singleton, List.not_mem_nil, or_false, not_or]
          exact ⟨Nat.ne_of_lt (Nat.lt_succ_self _), Nat.ne_of_gt hlS⟩
        refine set_update_strs ((Walks.list hh3 _ l hneI items).toS) s.heap.objs.size
          hSf (fun i => xs.getD i "") hval (by omega) (items.size - 0) 0 _ (by omega) (Nat.zero_le _)
          ⟨⟨_, Heap.get?_push_size _ rfl, rfl, rfl⟩, (hl1.push _)⟩ ?hS0 ?hR
        case hS0 =>
          have hget : ((s.heap.push { cls := .type "set", dict := none, data := .set #[] 0 (.fresh 0 0 led) }).push { cls := .type "list_iterator", data := .fields #[.ref l, .int 0 0] }).get? s.heap.objs.size
              = some { cls := .type "set", dict := none, data := .set #[] 0 (.fresh 0 0 led) } := Heap.get?_push_of_some _ hS
          exact ⟨#[], 0, _, hget, fun e he => by simp at he, fun k => by simp, by simp, rfl, hled, .inr rfl⟩
        case hR =>
          intro s' hm hS'
          rw [hall, hsz] at hS'
          obtain ⟨h', g', d', tk', os'⟩ := s'
          have eg : g' = s.gens := hm.gens
          have ed : d' = s.drawn := hm.drawn
          have eo : os' = s.os := hm.os
          subst eg; subst ed; subst eo
          show wpAny _ _ _ _ _ _
          refine wpAny_pure ?_
          show wpAny _ _ (ret Value.none) _ _ _
          refine wpAny_pure ⟨rfl, h', tk', rfl, hS', fun b o hb e => ?_⟩
          have hb1 : b ≠ s.heap.objs.size := Nat.ne_of_lt hb
          have hb2 : b ≠ (s.heap.push { cls := .type "set", dict := none, data := .set #[] 0 (.fresh 0 0 led) }).objs.size := by
            rw [Heap.size_push]; exact Nat.ne_of_lt (Nat.lt_succ_of_lt hb)
          exact hm.heap b o (by simp only [List.mem_cons, List.mem_singleton, List.not_mem_nil, or_false, not_or]; exact ⟨hb1, hb2⟩) (Heap.get?_push_of_some _ (Heap.get?_push_of_some _ e))
      · cases r₂ with
        | error e => exact hr₂
        | ok fl₂ =>
          cases fl₂ with
          | ret r =>
            obtain ⟨rfl, h', tk, rfl, hS', hk'⟩ := hr₂
            repeat (any_goals (first | assumption | wp_step))
            exact h _ _ hS' hk'
          | _ => exact hr₂.elim
    | _ => exact hr.elim
end
end Mine
end
section
open PySem PySem.W PySem.Calls PyProof.Rows
set_option maxRecDepth 100000
namespace Mine

theorem erase_perm {α : Type} : ∀ (l : List α) (i : Nat) (h : i < l.length), (l[i] :: l.eraseIdx i).Perm l
  | [], _, h => by cases h
  | x :: r, 0, _ => List.Perm.refl _
  | x :: r, i + 1, h => (List.Perm.swap _ _ _).trans (List.Perm.cons _ (erase_perm r i (Nat.lt_of_succ_lt_succ h)))
section
variable {M : Model} {A : Around} {E : Value → Shared → Prop} {s : Shared}
theorem wpAny_choose {src : Source} {n : Nat} {Q : Nat → Shared → Prop} (hn : n ≠ 0) (h : ∀ i d, i < n → Q i { s with drawn := d }) : wpAny M A (choose src n) Q E s := fun Γ p hΓ => by
  unfold choose
  rw [Sem.wp_choose]
  exact ⟨hn, h _ _ (Nat.mod_lt _ (Nat.pos_of_ne_zero hn))⟩
theorem wpAny_drawOrder {α : Type} : ∀ (n : Nat) (xs : List α) (s : Shared) (Q : List α → Shared → Prop), xs.length = n → (∀ ys d, ys.Perm xs → Q ys { s with drawn := d }) → wpAny M A (drawOrder n xs) Q E s
  | 0, xs, s, Q, hl, h => by
    obtain rfl := List.length_eq_zero_iff.mp hl
    unfold drawOrder
    exact wpAny_pure (h [] s.drawn (List.Perm.refl _))
  | n + 1, [], s, Q, hl, h => by cases hl
  | n + 1, x :: r, s, Q, hl, h => by
    unfold drawOrder
    refine wpAny_bind (wpAny_choose (by simp) fun i d hi => ?_)
    rw [List.getElem?_eq_getElem hi]
    dsimp only
    refine wpAny_bind (wpAny_drawOrder n _ _ _ (by rw [List.length_eraseIdx_of_lt hi, hl]; rfl) fun ys d' hp => wpAny_pure ?_)
    refine h _ d' ?_
    exact (List.Perm.cons _ hp).trans (erase_perm _ _ hi)
end

theorem pick_go {α : Type} (next : Nat → Nat) : ∀ (fuel k : Nat) (left : List α) (out : Array α), left.length = fuel → (pickOrder.go next fuel k left out).toList.Perm (out.toList ++ left)
  | 0, k, left, out, h => by
    obtain rfl := List.length_eq_zero_iff.mp h
    unfold pickOrder.go; simp
  | fuel + 1, k, left, out, h => by
    unfold pickOrder.go
    have hi : next k % left.length < left.length := Nat.mod_lt _ (by omega)
    rw [List.getElem?_eq_getElem hi]
    dsimp only
    refine (pick_go next fuel (k + 1) _ _ (by rw [List.length_eraseIdx_of_lt hi, h]; rfl)).trans ?_
    rw [Array.toList_push, List.append_assoc]
    exact List.Perm.append_left _ (erase_perm _ _ hi)
theorem pick_perm {α : Type} (next : Nat → Nat) (xs : Array α) : (pickOrder next xs).toList.Perm xs.toList := by
  unfold pickOrder
  simpa using pick_go next xs.size 0 xs.toList #[] (by simp)

abbrev byText (w : World) : Bool := w.params.followText "set-order"
abbrev itObj (first : Value) (i : Nat) (a : Addr) (n ep : Nat) : Obj := { cls := .type "set_iterator", data := .fields #[first, .int i 0, .ref a, .int n 0, .int ep 0] }
abbrev tupObj (vs : List Value) : Obj := { cls := .type "tuple", data := .seq vs.toArray }

/-- a walk over a set: it stands ahead of its i-th item -/
structure SetIt (w : World) (h : Heap) (I a : Addr) (ord : List Value) (i : Nat) : Prop where
  ex : ∃ (es : Array (Int × Value)) (ep : Nat) (t : SetTable) (first : Value), h.get? I = some (itObj first i a es.size ep) ∧ h.get? a = some { cls := .type "set", dict := none, data := .set es ep t } ∧ t.fits es.size = true ∧
    ((byText w = true ∧ (∃ k : Nat, first = .int k 0) ∧ ord = (pickOrder (w.params.setOrder a ep) es).toList.map (·.2)) ∨
     (byText w = false ∧ ∃ (T : Addr) (places : List Nat), first = .ref T ∧ h.get? T = some (tupObj (places.map fun (j : Nat) => rawInt j)) ∧ (∀ j ∈ places, j < es.size) ∧ ord = places.map fun j => (es.getD j (0, .none)).2) ∨
     (byText w = false ∧ (es.size = 0 ∨ (es.size = 1 ∧ t.led = true ∧ t.plain = false)) ∧ ord = es.toList.map (·.2) ∧ first = .int ((if i = 0 then 0 else t.place.getD 0 0 + 1 : Nat) : Int) 0))

theorem SetIt.keeps {w : World} {h h' : Heap} {I a : Addr} {ord : List Value} {i : Nat} (x : SetIt w h I a ord i) (k : ∀ b o, (∀ es n, o.data ≠ .dict es n) → h.get? b = some o → h'.get? b = some o) : SetIt w h' I a ord i := by
  obtain ⟨es, ep, t, first, h1, h2, h3, h4⟩ := x
  refine ⟨es, ep, t, first, k _ _ (fun _ _ z => by cases z) h1, k _ _ (fun _ _ z => by cases z) h2, h3, ?_⟩
  rcases h4 with h4 | ⟨b, T, p, z1, z2, z3⟩ | h4
  · exact .inl h4
  · exact .inr (.inl ⟨b, T, p, z1, k _ _ (fun _ _ z => by cases z) z2, z3⟩)
  · exact .inr (.inr h4)

theorem slot_setiter_next : Slot "set_iterator" "__next__" "set_iterator.__next__" :=
  .of (owner := "set_iterator") (n := "__next__") (by rw [typeLookup_type, builtinLookup_eq_fast]; kernel_rfl) (by decide +kernel) (by decide +kernel) (by decide +kernel)
    (by first | exact .inl (by decide +kernel) | exact .inr (by decide +kernel)) (by rw [isSubtype_type]; kernel_rfl)
theorem entry_setiter_next : entryFor table "set_iterator.__next__" = some Builtin.«set_iterator.__next__» := entryFor_of_fast (by kernel_rfl)
theorem args_setiter_next (a : Value) : argsOk "set_iterator.__next__" ⟨[a], []⟩ := by unfold argsOk; kernel_rfl
theorem entry_set_iter : entryFor table "set.__iter__" = some Builtin.«frozenset.__iter__» :=
  entryFor_alias (id' := "frozenset.__iter__") (by kernel_rfl) rfl (by decide +kernel) (by kernel_rfl)

section
variable {prog : Program} {w : World} {A : Around} {E : Value → Shared → Prop} {s : Shared}

theorem set_iter {a : Addr} {es : Array (Int × Value)} {ep : Nat} {t : SetTable} {Q : Value → Shared → Prop} (ho : s.heap.get? a = some { cls := .type "set", dict := none, data := .set es ep t }) (hf : t.fits es.size = true)
    (hl : t.led = true ∨ byText w = true ∨ es.size = 0) (hp : t.plain = false ∨ es.size = 0) (hsz : es.size ≤ 4096)
    (h : ∀ I ord h' d, ord.Perm (es.toList.map (·.2)) → (∀ b o, s.heap.get? b = some o → h'.get? b = some o) → s.heap.get? I = none → SetIt w h' I a ord 0 → Q (.ref I) { s with heap := h', drawn := d }) :
    wpAny (model prog w) A (pyIter (.ref a)) Q E s := by
  have hT : s.TypeIs (.ref a) "set" := ⟨_, ho, rfl⟩
  refine wpAny_pyIter_slot hT F.slot_set_iter (wpAny_call_entry F.slot_set_iter hT entry_set_iter ?_ (F.args_set_iter_1 _))
  unfold Builtin.«frozenset.__iter__» Builtin.Frozenset.slot0 Builtin.Frozenset.sizeOf
  refine wpAny_bind (wpAny_bind (wpAny_pure (wpAny_pure ?_)))
  refine wpAny_bind (wpAny_bind (wpAny_setEntries_of ho rfl hf (wpAny_pure ?_)))
  refine wpAny_bind ?_
  refine wpAny_bind ?_
  refine wpAny_setState_of ho rfl hf ?_
  refine wpAny_bind (wpAny_bind (wpAny_askSetting (wpAny_pure ?_)))
  refine wpAny_pure ?_
  dsimp only
  generalize hb : (!(_ : Bool) && _) = b
  have hb' : (!byText w && (!t.plain && decide (es.size > 1))) = b := hb
  clear hb
  have fin : ∀ (first : Value) (s₁ : Shared) (h₁ : Heap) (d : Drawn) (ord : List Value), s₁ = { s with heap := h₁, drawn := d } → ord.Perm (es.toList.map (·.2)) → (∀ b o, s.heap.get? b = some o → h₁.get? b = some o) → s.heap.objs.size ≤ h₁.objs.size →
      SetIt w (h₁.push (itObj first 0 a es.size ep)) h₁.objs.size a ord 0 →
      wpAny (model prog w) A.in1 (do
              let __do_lift ← setEpoch a
              let __do_lift ← newFields "set_iterator" [first, rawInt 0, Value.ref a, rawInt ↑es.size, rawInt ↑__do_lift]
              ret __do_lift) (fun fin s' => ∃ v, fin = Fin.done (Flow.ret v) ∧ ∃ T' r, s'.TypeIs v T' ∧ typeLookup (Value.type T') (Str.ofString "__next__") = pure (some r) ∧ Q v s') E s₁ := by
    rintro first s₁ h₁ d ord rfl hperm hk hsz1 hit
    refine wpAny_bind (wpAny_setEpoch_of (s := { s with heap := h₁, drawn := d }) (hk _ _ ho) rfl hf ?_)
    refine wpAny_bind (wpAny_newObj_type (wpAny_pure ⟨_, rfl, "set_iterator", _, ⟨_, Heap.get?_push_size _ rfl, rfl⟩, slot_setiter_next.lookup, ?_⟩))
    refine h _ ord _ d hperm (fun b o e => Heap.get?_push_of_some _ (hk b o e)) ?_ hit
    cases hg : s.heap.get? h₁.objs.size with
    | none => rfl
    | some o => exact absurd hsz1 (Nat.not_le.mpr (Heap.lt_size hg))
  have gI : ∀ (h₁ : Heap) (first : Value), (h₁.push (itObj first 0 a es.size ep)).get? h₁.objs.size = some (itObj first 0 a es.size ep) := fun h₁ first => Heap.get?_push_size _ rfl
  cases b with
  | true =>
    simp only [Bool.and_eq_true, Bool.not_eq_true', decide_eq_true_eq] at hb'
    simp only [if_true]
    refine wpAny_bind (wpAny_drawOrder es.size (List.range es.size) s _ (by simp) fun ys d hperm => ?_)
    refine wpAny_bind (wpAny_newObj_type ?_ ?_)
    · have hlt : ∀ j ∈ ys, j < es.size := fun j hj => List.mem_range.mp (hperm.mem_iff.mp hj)
      refine fin _ _ _ d (ys.map fun j => (es.getD j (0, .none)).2) rfl ?_ (fun b o e => Heap.get?_push_of_some _ e) (by rw [Heap.size_push]; exact Nat.le_succ _) ⟨es, ep, t, _, gI _ _, Heap.get?_push_of_some _ (Heap.get?_push_of_some _ ho), hf, .inr (.inl ⟨hb'.1, s.heap.objs.size, ys, rfl, Heap.get?_push_of_some _ (Heap.get?_push_size _ rfl), hlt, rfl⟩)⟩
      have : (es.toList.map (·.2)) = (List.range es.size).map fun j => (es.getD j (0, .none)).2 := by
        refine List.ext_getElem (by simp) fun i h1 h2 => ?_
        simp at h1
        simp [Array.getD, h1]
      rw [this]
      exact hperm.map _
    · show (ys.map fun (i : Nat) => rawInt i).toArray.size ≤ sizeLine
      have := hperm.length_eq
      simp at this ⊢
      have hz : sizeLine = 2 ^ 24 := rfl
      omega
  | false =>
    simp only [Bool.false_eq_true, if_false]
    refine wpAny_bind (wpAny_pure ?_)
    cases hbt : byText w with
    | true =>
      refine fin _ s s.heap s.drawn _ (by cases s; rfl) ((pick_perm (w.params.setOrder a ep) es).map _) (fun _ _ e => e) (Nat.le_refl _) ⟨es, ep, t, _, gI _ _, Heap.get?_push_of_some _ ho, hf, .inl ⟨hbt, ⟨0, rfl⟩, rfl⟩⟩
    | false =>
      rw [hbt] at hb' hl
      have hsz0 : es.size = 0 ∨ (es.size = 1 ∧ t.led = true ∧ t.plain = false) := by
        rcases hp with hp | hp
        · rw [hp] at hb'
          simp at hb'
          have : es.size = 0 ∨ es.size = 1 := by omega
          rcases this with z | z
          · exact .inl z
          · rcases hl with l | l | l
            · exact .inr ⟨z, l, hp⟩
            · cases l
            · omega
        · exact .inl hp
      refine fin _ s s.heap s.drawn _ (by cases s; rfl) (List.Perm.refl _) (fun _ _ e => e) (Nat.le_refl _) ⟨es, ep, t, _, gI _ _, Heap.get?_push_of_some _ ho, hf, .inr (.inr ⟨hbt, hsz0, rfl, rfl⟩)⟩

theorem setiter_tail {I a : Addr} {i n ep next : Nat} {first x : Value} {Q : Option Value → Shared → Prop} {E' : Value → Shared → Prop} (hI : s.heap.get? I = some (itObj first i a n ep))
    (h : ∀ h', h'.get? I = some (itObj (.int next 0) (i + 1) a n ep) → Heap.ExtBut I s.heap h' → Q (some x) { s with heap := h' }) :
    wpAny (model prog w) A.in1 (do
          setField (Value.ref I) 0 (rawInt ↑next)
          setField (Value.ref I) 1 (rawInt (↑i + 1))
          ret x) (fun fin s' => ∃ v, fin = Fin.done (Flow.ret v) ∧ wpAny (model prog w) A (pure (some v)) Q E s') E' s := by
  refine wpAny_bind (wpAny_setField_rec hI (by simp) fun h1 g1 b1 => ?_)
  refine wpAny_bind (wpAny_setField_rec (s := { s with heap := h1 }) g1 (by simp) fun h2 g2 b2 => ?_)
  refine wpAny_pure ⟨x, rfl, wpAny_pure (h h2 ?_ (b1.trans b2).extBut)⟩
  rw [g2]
  simp [rawInt]
theorem setiter_end {I : Addr} {cls : Value} {vs : Array Value} {Q : Option Value → Shared → Prop} (hh : A.handled = none) (hI : s.heap.get? I = some { cls := cls, dict := none, data := .fields vs, slots := #[] }) (hn : 2 < vs.size)
    (h : ∀ h', Heap.ExtBut I s.heap h' → Q none { s with heap := h' }) :
    wpAny (model prog w) A.in1 (do
          setField (Value.ref I) 2 Value.none
          let __do_lift ← newExc (Value.type "StopIteration") []
          (raiseNew __do_lift : Sem Fin)) (fun fin s' => ∃ v, fin = Fin.done (Flow.ret v) ∧ wpAny (model prog w) A (pure (some v)) Q E s')
      (fun e s' => wpAny (model prog w) A (do
          let __do_lift ← isInstance e (Value.type "StopIteration")
          if __do_lift = true then pure none else throw e) Q E s') s := by
  refine wpAny_bind (wpAny_setField_rec hI hn fun h1 g1 b1 => ?_)
  refine wpAny_bind ?_
  simp only [newExc, newTuple]
  refine wpAny_bind (wpAny_newObj_type ?_ (by size_fits))
  refine wpAny_bind (m := firstArgMember _ _) (wpAny_of_eq (a := Value.none) (by first | rfl | (simp only [firstArgMember]; rfl)) ?_)
  refine wpAny_newObj_type ?_ (by size_fits)
  simp only [raiseNew]
  refine wpAny_bind (wpAny_handled ?_)
  rw [show A.in1.handled = none from hh]
  refine wpAny_bind (wpAny_pure (wpAny_throw ?_))
  refine wpAny_bind (wpAny_isInstance (T := "StopIteration") (b := true) ⟨_, Heap.get?_push_size _ rfl, rfl⟩ isSubtype_stop ?_)
  exact wpAny_pure (h _ ((b1.extBut.push _).push _))

theorem below_one (p : Nat) : SetTable.below #[p] 0 = 0 ∧ SetTable.below #[p] (p + 1) = 1 := by
  constructor
  · simp [SetTable.below, SetTable.below.go]
  · simp [SetTable.below, SetTable.below.go]

theorem wpAny_setNext {I a : Addr} {es : Array (Int × Value)} {ep : Nat} {t : SetTable} {ord : List Value} {slot i : Nat} {Q : Option (Value × Nat) → Shared → Prop}
    (ha : s.heap.get? a = some { cls := .type "set", dict := none, data := .set es ep t }) (hf : t.fits es.size = true)
    (hm : (byText w = true ∧ ord = (pickOrder (w.params.setOrder a ep) es).toList.map (·.2)) ∨
      (byText w = false ∧ (es.size = 0 ∨ (es.size = 1 ∧ t.led = true ∧ t.plain = false)) ∧ ord = es.toList.map (·.2) ∧ slot = if i = 0 then 0 else t.place.getD 0 0 + 1))
    (h1 : ∀ v next, ord[i]? = some v → (byText w = true ∨ next = t.place.getD 0 0 + 1) → Q (some (v, next)) s) (h2 : ord[i]? = none → Q none s) : wpAny (model prog w) A (setNext a slot i ep) Q E s := by
  unfold setNext
  refine wpAny_bind (wpAny_setState_of ha rfl hf ?_)
  dsimp only
  unfold setsByText
  refine wpAny_bind (wpAny_bind (wpAny_askSetting (wpAny_pure ?_)))
  rcases hm with ⟨hb, rfl⟩ | ⟨hb, hs, rfl, rfl⟩
  · rw [show (model prog w).w.params.followText "set-order" = true from hb]
    simp only [if_true]
    rw [if_neg (by simp)]
    refine wpAny_bind ?_
    unfold setWalk
    refine wpAny_bind (wpAny_setState_of ha rfl hf ?_)
    dsimp only
    unfold setsByText
    refine wpAny_bind (wpAny_bind (wpAny_askSetting (wpAny_pure ?_)))
    rw [show (model prog w).w.params.followText "set-order" = true from hb]
    simp only [if_true]
    refine wpAny_bind (wpAny_askSetting (wpAny_pure (wpAny_pure ?_)))
    show Q (((pickOrder (w.params.setOrder a ep) es)[i]?).map fun e => (e.2, slot)) s
    cases hg : (pickOrder (w.params.setOrder a ep) es)[i]? with
    | none => exact h2 (by simp [hg])
    | some e => exact h1 _ _ (by simp [hg]) (.inl hb)
  · rw [show (model prog w).w.params.followText "set-order" = false from hb]
    simp only [Bool.false_eq_true, if_false]
    have hd : (!t.plain && decide (es.size > 1)) = false := by
      rcases hs with z | z <;> simp [z]
    split
    · rename_i z
      have z : (!t.plain && decide (es.size > 1)) = true := z
      rw [hd] at z; cases z
    · refine wpAny_bind ?_
      have hl : (!t.led && !es.isEmpty) = false := by
        rcases hs with z | z
        · have : es = #[] := Array.size_eq_zero_iff.mp z
          simp [this]
        · simp [z.2.1]
      refine (show wpAny (model prog w) A (if (!t.led && !es.isEmpty) = true then (unsupported "set:maker-not-led" : Sem Unit) else pure ()) _ E s from ?_)
      rw [if_neg (by rw [hl]; decide)]
      refine wpAny_pure (wpAny_pure ?_)
      have hps : t.place.size = es.size := by
        simp only [SetTable.fits, Bool.and_eq_true, beq_iff_eq] at hf; exact hf.1
      rcases hs with z | ⟨z, _⟩
      · have e0 : es = #[] := Array.size_eq_zero_iff.mp z
        subst e0
        exact h2 (by simp)
      · obtain ⟨e, rfl⟩ : ∃ e, es = #[e] := Array.size_eq_one_iff.mp z
        obtain ⟨q, hq⟩ : ∃ e, t.place = #[e] := Array.size_eq_one_iff.mp (by rw [hps]; rfl)
        rw [hq] at h1 ⊢
        by_cases hi : i = 0
        · subst hi
          simp only [if_true, (below_one q).1]
          exact h1 e.2 (q + 1) rfl (.inr rfl)
        · rw [if_neg hi]
          have : (#[q] : Array Nat).getD 0 0 = q := rfl
          rw [this, (below_one q).2]
          exact h2 (by simp; omega)

theorem set_next_item {I a : Addr} {ord : List Value} {i : Nat} {v : Value} {Q : Option Value → Shared → Prop} (x : SetIt w s.heap I a ord i) (hv : ord[i]? = some v)
    (h : ∀ h', Heap.ExtBut I s.heap h' → SetIt w h' I a ord (i + 1) → Q (some v) { s with heap := h' }) : wpAny (model prog w) A (pyNext (.ref I)) Q E s := by
  obtain ⟨es, ep, t, first, hI, ha, hf, hm⟩ := x
  have hT : s.TypeIs (.ref I) "set_iterator" := ⟨_, hI, rfl⟩
  have hIa : a ≠ I := fun z => by rw [z, hI] at ha; simp at ha
  unfold pyNext
  refine wpAny_bind (wpAny_attempt (wpAny_callSpecial?_slot (name := Str.ofString "__next__") hT slot_setiter_next (wpAny_call_entry slot_setiter_next hT entry_setiter_next ?_ (args_setiter_next _))))
  unfold Builtin.«set_iterator.__next__»
  refine wpAny_bind (wpAny_pure ?_)
  refine wpAny_bind (wpAny_bind (wpAny_load hI (wpAny_pure ?_)))
  dsimp only
  refine wpAny_bind (wpAny_setEntries_of ha rfl hf ?_)
  rw [if_neg (by simp)]
  rcases hm with ⟨hb, ⟨k, rfl⟩, ho⟩ | ⟨hb, T, places, rfl, hTo, hlt, rfl⟩ | ⟨hb, hs, ho, rfl⟩
  · dsimp only
    simp only [Int.toNat_natCast]
    refine wpAny_bind (wpAny_setNext (I := I) (ord := ord) ha hf (.inl ⟨hb, ho⟩) (fun v' next hv' _ => ?_) fun z => by rw [hv] at z; cases z)
    rw [hv] at hv'; cases hv'
    dsimp only
    refine setiter_tail hI fun h' g e => h h' e ⟨es, ep, t, _, g, e _ _ hIa ha, hf, .inl ⟨hb, ⟨next, rfl⟩, ho⟩⟩
  · dsimp only
    refine wpAny_bind (wpAny_seqItems hTo rfl ?_)
    dsimp only
    simp only [List.getElem?_map, Option.map_eq_some_iff] at hv
    obtain ⟨j, hj, rfl⟩ := hv
    simp only [Int.toNat_natCast, List.getElem?_toArray, List.getElem?_map, hj, Option.map_some, rawInt]
    have hjl : j < es.size := hlt j (List.mem_of_getElem? hj)
    unfold setNextDrawn
    refine wpAny_bind (wpAny_bind (wpAny_setState_of ha rfl hf ?_))
    dsimp only
    rw [if_neg (by simp)]
    simp only [Int.toNat_natCast, Array.getElem?_eq_getElem hjl]
    refine wpAny_pure ?_
    have hTI : T ≠ I := fun z => by rw [z, hI] at hTo; simp at hTo
    refine wpAny_bind (wpAny_setField_rec hI (by simp) fun h2 g2 b2 => ?_)
    refine wpAny_pure ⟨_, rfl, wpAny_pure ?_⟩
    have hval : (es.getD j (0, Value.none)).2 = es[j].2 := by simp [Array.getD, hjl]
    rw [hval] at h
    refine h h2 b2.extBut ⟨es, ep, t, _, ?_, b2.extBut _ _ hIa ha, hf, .inr (.inl ⟨hb, T, places, rfl, b2.extBut _ _ hTI hTo, hlt, rfl⟩)⟩
    rw [g2]
    simp [rawInt]
  · dsimp only
    simp only [Int.toNat_natCast]
    refine wpAny_bind (wpAny_setNext (I := I) (ord := ord) ha hf (.inr ⟨hb, hs, ho, rfl⟩) (fun v' next hv' hn => ?_) fun z => by rw [hv] at z; cases z)
    rw [hv] at hv'; cases hv'
    dsimp only
    have hn : next = t.place.getD 0 0 + 1 := hn.resolve_left (by rw [hb]; decide)
    refine setiter_tail hI fun h' g e => h h' e ⟨es, ep, t, _, g, e _ _ hIa ha, hf, .inr (.inr ⟨hb, hs, ho, ?_⟩)⟩
    rw [hn, if_neg (by omega)]

theorem set_next_end {I a : Addr} {ord : List Value} {i : Nat} {Q : Option Value → Shared → Prop} (hh : A.handled = none) (x : SetIt w s.heap I a ord i) (hv : ord[i]? = none)
    (h : ∀ h', Heap.ExtBut I s.heap h' → Q none { s with heap := h' }) : wpAny (model prog w) A (pyNext (.ref I)) Q E s := by
  obtain ⟨es, ep, t, first, hI, ha, hf, hm⟩ := x
  have hT : s.TypeIs (.ref I) "set_iterator" := ⟨_, hI, rfl⟩
  unfold pyNext
  refine wpAny_bind (wpAny_attempt (wpAny_callSpecial?_slot (name := Str.ofString "__next__") hT slot_setiter_next (wpAny_call_entry slot_setiter_next hT entry_setiter_next ?_ (args_setiter_next _))))
  unfold Builtin.«set_iterator.__next__»
  refine wpAny_bind (wpAny_pure ?_)
  refine wpAny_bind (wpAny_bind (wpAny_load hI (wpAny_pure ?_)))
  dsimp only
  refine wpAny_bind (wpAny_setEntries_of ha rfl hf ?_)
  rw [if_neg (by simp)]
  rcases hm with ⟨hb, ⟨k, rfl⟩, ho⟩ | ⟨hb, T, places, rfl, hTo, hlt, rfl⟩ | ⟨hb, hs, ho, rfl⟩
  · dsimp only
    simp only [Int.toNat_natCast]
    refine wpAny_bind (wpAny_setNext (I := I) (ord := ord) ha hf (.inl ⟨hb, ho⟩) (fun v' next hv' _ => by rw [hv] at hv'; cases hv') fun z => ?_)
    dsimp only
    exact setiter_end hh hI (by simp) h
  · dsimp only
    refine wpAny_bind (wpAny_seqItems hTo rfl ?_)
    dsimp only
    have hj : places[i]? = none := by simpa using hv
    simp only [Int.toNat_natCast, List.getElem?_toArray, List.getElem?_map, hj, Option.map_none]
    refine wpAny_bind (wpAny_setField_rec hI (by simp) fun h1 g1 b1 => ?_)
    refine setiter_end (s := { s with heap := h1 }) hh g1 (by simp) fun h' e => h h' (b1.extBut.trans e)
  · dsimp only
    simp only [Int.toNat_natCast]
    refine wpAny_bind (wpAny_setNext (I := I) (ord := ord) ha hf (.inr ⟨hb, hs, ho, rfl⟩) (fun v' next hv' _ => by rw [hv] at hv'; cases hv') fun z => ?_)
    dsimp only
    exact setiter_end hh hI (by simp) h
end
end Mine
end
section
open PySem PySem.W PySem.Calls PyProof.Rows
set_option maxRecDepth 100000
namespace Mine

/-- what may change at a marked address: a table of codes grows; a dict keeps to its own rule -/
inductive TK where
  | code (q : Str)
  | own (P : Obj → Prop)
  | any
abbrev Tb := List (Addr × TK)
def Sub (h h' : Heap) : Prop := ∀ b o, h.get? b = some o → h'.get? b = some o
theorem Sub.refl (h : Heap) : Sub h h := fun _ _ e => e
theorem Sub.trans {a b c : Heap} (x : Sub a b) (y : Sub b c) : Sub a c := fun k o e => y k o (x k o e)
theorem Sub.push (h : Heap) (o : Obj) : Sub h (h.push o) := fun _ _ e => Heap.get?_push_of_some o e

def TabOk (h : Heap) (P : Addr) : TK → Prop
  | .code q => ∃ ps, h.get? P = some (tabObj ps) ∧ TriplesOk ps.toList ∧ ∀ pos cv, codeAmong pos ps.toList = some cv → h.CodeRec cv q
  | .own G => ∃ o es n, h.get? P = some o ∧ o.data = .dict es n ∧ G o
  | .any => ∃ ps, h.get? P = some (tabObj ps) ∧ TriplesOk ps.toList
theorem TabOk.get {h : Heap} {P : Addr} {q : TK} (x : TabOk h P q) : ∃ o, h.get? P = some o ∧ ((∃ ps, o = tabObj ps) ∨ ∃ es n, o.data = .dict es n) := by
  cases q with
  | code q => obtain ⟨ps, e, _⟩ := x; exact ⟨_, e, .inl ⟨ps, rfl⟩⟩
  | own G => obtain ⟨o, es, n, e, d, _⟩ := x; exact ⟨o, e, .inr ⟨es, n, d⟩⟩
  | any => obtain ⟨ps, e, _⟩ := x; exact ⟨_, e, .inl ⟨ps, rfl⟩⟩
theorem TabOk.sub {h h' : Heap} {P : Addr} {q : TK} (x : TabOk h P q) (k : Sub h h') : TabOk h' P q := by
  cases q with
  | code q => obtain ⟨ps, e, t, c⟩ := x; exact ⟨ps, k _ _ e, t, fun pos cv e => (c pos cv e).keeps k⟩
  | own G => obtain ⟨o, es, n, e, d⟩ := x; exact ⟨o, es, n, k _ _ e, d⟩
  | any => obtain ⟨ps, e, t⟩ := x; exact ⟨ps, k _ _ e, t⟩

structure Ext (tb : Tb) (s s' : Shared) : Prop where
  keep : ∀ b o, b ∉ tb.map (·.1) → s.heap.get? b = some o → s'.heap.get? b = some o
  tab : ∀ p ∈ tb, TabOk s.heap p.1 p.2 → TabOk s'.heap p.1 p.2
  gens : s'.gens = s.gens
  os : s'.os = s.os
theorem Ext.refl (tb : Tb) (s : Shared) : Ext tb s s := ⟨fun _ _ _ e => e, fun _ _ e => e, rfl, rfl⟩
theorem Ext.trans {tb : Tb} {a b c : Shared} (x : Ext tb a b) (y : Ext tb b c) : Ext tb a c :=
  ⟨fun k o n e => y.keep k o n (x.keep k o n e), fun p hp e => y.tab p hp (x.tab p hp e), y.gens.trans x.gens, y.os.trans x.os⟩
theorem Ext.of_sub {tb : Tb} {s s' : Shared} (k : Sub s.heap s'.heap) (g : s'.gens = s.gens) (o : s'.os = s.os) : Ext tb s s' :=
  ⟨fun b o _ e => k b o e, fun _ _ e => e.sub k, g, o⟩

def vis (tb : Tb) (X : List Addr) (h : Heap) : Heap := hideAll h (tb.map (·.1) ++ X)
theorem vis_get {tb : Tb} {X : List Addr} {h : Heap} {b : Addr} {o : Obj} (e : (vis tb X h).get? b = some o) : h.get? b = some o ∧ b ∉ tb.map (·.1) ∧ b ∉ X := by
  refine ⟨of_hideAll _ e, fun m => ?_, fun m => ?_⟩
  · rw [show (vis tb X h).get? b = none from hideAll_none _ (List.mem_append_left _ m)] at e; cases e
  · rw [show (vis tb X h).get? b = none from hideAll_none _ (List.mem_append_right _ m)] at e; cases e
theorem vis_mk {tb : Tb} {X : List Addr} {h : Heap} {b : Addr} {o : Obj} (e : h.get? b = some o) (n : b ∉ tb.map (·.1)) (m : b ∉ X) : (vis tb X h).get? b = some o :=
  hideAll_get _ e (fun q => (List.mem_append.mp q).elim n m)
theorem vis_sub {tb : Tb} {X : List Addr} {h h' : Heap} (k : ∀ b o, b ∉ tb.map (·.1) → b ∉ X → h.get? b = some o → h'.get? b = some o) : Sub (vis tb X h) (vis tb X h') :=
  fun b o e => let ⟨e, n, m⟩ := vis_get e; vis_mk (k b o n m e) n m
theorem vis_below (tb : Tb) (X : List Addr) (h : Heap) : Sub (vis tb X h) h := fun _ _ e => (vis_get e).1
theorem vis_more {tb : Tb} {X Y : List Addr} {h : Heap} (k : ∀ x ∈ X, x ∈ Y) : Sub (vis tb Y h) (vis tb X h) :=
  fun _ _ e => let ⟨e, n, m⟩ := vis_get e; vis_mk e n fun q => m (k _ q)
theorem Ext.vis {tb : Tb} {X : List Addr} {s s' : Shared} (x : Ext tb s s') : Sub (vis tb X s.heap) (vis tb X s'.heap) := vis_sub fun b o n _ e => x.keep b o n e

def Rp (h : Heap) (v : Value) (d : PyData) : Prop := ∃ as, Reads h v d as
theorem Rp.sub {h h' : Heap} {v : Value} {d : PyData} (x : Rp h v d) (k : Sub h h') : Rp h' v d := let ⟨as, r⟩ := x; ⟨as, PyProof.Rows.Reads.keeps k r⟩
def RpAll (h : Heap) (vs : List Value) (ds : List PyData) : Prop := ∃ as, ReadsAll h vs ds as
theorem RpAll.sub {h h' : Heap} {v : List Value} {d : List PyData} (x : RpAll h v d) (k : Sub h h') : RpAll h' v d := let ⟨as, r⟩ := x; ⟨as, PyProof.Rows.ReadsAll.keeps k r⟩
theorem RpAll.nil {h : Heap} : RpAll h [] [] := ⟨[], .nil⟩
theorem RpAll.cons {h : Heap} {v : Value} {d : PyData} {vs : List Value} {ds : List PyData} (a : Rp h v d) (b : RpAll h vs ds) : RpAll h (v :: vs) (d :: ds) :=
  let ⟨_, r⟩ := a; let ⟨_, q⟩ := b; ⟨_, .cons r q⟩
theorem RpAll.inv {h : Heap} {v : Value} {d : PyData} {vs : List Value} {ds : List PyData} (x : RpAll h (v :: vs) (d :: ds)) : Rp h v d ∧ RpAll h vs ds := by
  obtain ⟨as, r⟩ := x; cases r with | cons r q => exact ⟨⟨_, r⟩, ⟨_, q⟩⟩
theorem RpAll.length {h : Heap} {vs : List Value} {ds : List PyData} (x : RpAll h vs ds) : vs.length = ds.length := let ⟨_, r⟩ := x; PySem.SeqAt.ReadsAll.length _ _ _ r
theorem RpAll.snoc {h : Heap} {v : Value} {d : PyData} : ∀ {vs : List Value} {ds : List PyData}, RpAll h vs ds → Rp h v d → RpAll h (vs ++ [v]) (ds ++ [d])
  | [], [], _, r => .cons r .nil
  | [], _ :: _, x, _ => by have := x.length; simp at this
  | _ :: _, [], x, _ => by have := x.length; simp at this
  | _ :: _, _ :: _, x, r => .cons x.inv.1 (RpAll.snoc x.inv.2 r)
theorem RpAll.get {h : Heap} : ∀ {vs : List Value} {ds : List PyData}, RpAll h vs ds → ∀ {i : Nat} {d : PyData}, ds[i]? = some d → ∃ v, vs[i]? = some v ∧ Rp h v d
  | [], [], _, _, _, e => by simp at e
  | [], _ :: _, x, _, _, _ => by have := x.length; simp at this
  | _ :: _, [], x, _, _, _ => by have := x.length; simp at this
  | v :: vs, d :: ds, x, 0, _, e => by cases e; exact ⟨v, rfl, x.inv.1⟩
  | v :: vs, d :: ds, x, i + 1, _, e => by simpa using x.inv.2.get (i := i) (by simpa using e)
theorem RpAll.app {h : Heap} : ∀ {vs : List Value} {ds : List PyData} {ws : List Value} {es : List PyData}, RpAll h vs ds → RpAll h ws es → RpAll h (vs ++ ws) (ds ++ es)
  | [], [], _, _, _, y => y
  | [], _ :: _, _, _, x, _ => by have := x.length; simp at this
  | _ :: _, [], _, _, x, _ => by have := x.length; simp at this
  | _ :: _, _ :: _, _, _, x, y => .cons x.inv.1 (RpAll.app x.inv.2 y)
theorem RpAll.take {h : Heap} : ∀ {vs : List Value} {ds : List PyData} (n : Nat), RpAll h vs ds → RpAll h (vs.take n) (ds.take n)
  | _, _, 0, _ => by simp; exact .nil
  | [], [], _ + 1, _ => .nil
  | [], _ :: _, _ + 1, x => by have := x.length; simp at this
  | _ :: _, [], _ + 1, x => by have := x.length; simp at this
  | _ :: _, _ :: _, n + 1, x => .cons x.inv.1 (RpAll.take n x.inv.2)
theorem RpAll.drop {h : Heap} : ∀ {vs : List Value} {ds : List PyData} (n : Nat), RpAll h vs ds → RpAll h (vs.drop n) (ds.drop n)
  | _, _, 0, x => x
  | [], [], _ + 1, _ => .nil
  | [], _ :: _, _ + 1, x => by have := x.length; simp at this
  | _ :: _, [], _ + 1, x => by have := x.length; simp at this
  | _ :: _, _ :: _, n + 1, x => RpAll.drop n x.inv.2
theorem Rp.isList {h : Heap} {v : Value} {ds : List PyData} (x : Rp h v (.list ds)) : ∃ a vs, v = .ref a ∧ h.IsList a vs.toArray ∧ RpAll h vs ds := by
  obtain ⟨as, r⟩ := x
  cases r with
  | list e1 e2 e3 e4 => rename_i a o vs n as; exact ⟨a, vs.toList, rfl, ⟨o, e1, e2, n, by simpa using e3⟩, _, e4⟩
theorem Rp.ofList {h : Heap} {a : Addr} {vs : List Value} {ds : List PyData} (l : h.IsList a vs.toArray) (x : RpAll h vs ds) : Rp h (.ref a) (.list ds) := by
  obtain ⟨o, e1, e2, n, e3⟩ := l; obtain ⟨as, r⟩ := x
  exact ⟨_, .list e1 e2 e3 (by simpa using r)⟩
theorem Rp.int {h : Heap} {v : Value} {i : Int} (x : Rp h v (.int i)) : ∃ t, v = .int i t := by obtain ⟨_, r⟩ := x; cases r; exact ⟨_, rfl⟩
theorem Rp.str {h : Heap} {v : Value} {i : Str} (x : Rp h v (.str i)) : ∃ t, v = .str i t := by obtain ⟨_, r⟩ := x; cases r; exact ⟨_, rfl⟩
theorem Rp.bool {h : Heap} {v : Value} {i : Bool} (x : Rp h v (.bool i)) : v = .bool i := by obtain ⟨_, r⟩ := x; cases r; rfl
theorem Rp.mkInt {h : Heap} {i : Int} {t : Tok} : Rp h (.int i t) (.int i) := ⟨_, .int i t⟩
theorem Rp.mkStr {h : Heap} {i : Str} {t : Tok} : Rp h (.str i t) (.str i) := ⟨_, .str i t⟩
theorem Rp.mkBool {h : Heap} {i : Bool} : Rp h (.bool i) (.bool i) := ⟨_, .bool i⟩

def TopOk (K : Frag) (off : List Addr) (g : Heap) : Prop := ∀ a o, K.lookup a = some o → a ∉ off → g.get? a = some o
theorem TopOk.sub {K : Frag} {off : List Addr} {g g' : Heap} (x : TopOk K off g) (k : Sub g g') : TopOk K off g' := fun a o e n => k _ _ (x a o e n)

structure Ok (K : Frag) (off : List Addr) (tb : Tb) (X : List Addr) (s : Shared) : Prop where
  priv : ∀ x ∈ X, x ∉ tb.map (·.1) ∧ ∃ o, s.heap.get? x = some o
  tabs : ∀ p ∈ tb, TabOk s.heap p.1 p.2
  top : TopOk K off (vis tb X s.heap)
section
variable {K : Frag} {off : List Addr} {tb : Tb} {X : List Addr} {s s' : Shared}
theorem Ok.ext (x : Ok K off tb X s) (e : Ext tb s s') : Ok K off tb X s' :=
  ⟨fun y hy => ⟨(x.priv y hy).1, let ⟨o, ho⟩ := (x.priv y hy).2; ⟨o, e.keep _ _ (x.priv y hy).1 ho⟩⟩, fun p hp => e.tab p hp (x.tabs p hp), x.top.sub e.vis⟩
theorem Ok.notTab (x : Ok K off tb X s) {b : Addr} {o : Obj} (e : s.heap.get? b = some o) (n : ∀ ps, o ≠ tabObj ps) (n2 : ∀ es k, o.data ≠ .dict es k) : b ∉ tb.map (·.1) := fun m => by
  obtain ⟨p, hp, rfl⟩ := List.mem_map.mp m
  obtain ⟨o', h1, h2⟩ := (x.tabs p hp).get
  rw [e] at h1; cases h1
  rcases h2 with ⟨ps, z⟩ | ⟨es, k, z⟩
  · exact n ps z
  · exact n2 es k z
theorem Ok.cellTab (x : Ok K off tb X s) {b : Addr} {v : Option Value} (e : s.heap.IsCell b v) : b ∉ tb.map (·.1) := by
  obtain ⟨o, h1, h2⟩ := e
  exact x.notTab h1 (fun ps q => by rw [q] at h2; cases h2) fun es k q => by rw [q] at h2; cases h2
theorem Ok.get (x : Ok K off tb X s) {a : Addr} {o : Obj} (e : K.lookup a = some o) (n : a ∉ off) : s.heap.get? a = some o := (vis_get (x.top a o e n)).1
end

def CellKind (env : Env) (x : Str) : Prop := env.kindOf x = some .cell ∨ env.kindOf x = some .free
def Bound (env : Env) (h : Heap) (x : Str) (v : Value) : Prop :=
  (env.kindOf x = some .local ∧ ∃ m, h.Ns env.locals m ∧ m x = some v) ∨ (CellKind env x ∧ ∃ c, env.cells.lookup x = some c ∧ h.IsCell c (some v))

abbrev Rho := List (Str × PyData)
structure EnvOk (tb : Tb) (X : List Addr) (env : Env) (ρ : Rho) (s : Shared) : Prop where
  kind : env.scope.kind = .function
  globals : env.globals = mainGlobals
  builtins : env.builtins = builtinsNs
  nloc : env.locals ∉ tb.map (·.1)
  vars : ∀ p ∈ ρ, ∃ v, Bound env s.heap p.1 v ∧ Rp (vis tb X s.heap) v p.2
section
variable {K : Frag} {off : List Addr} {tb : Tb} {X : List Addr} {s s' : Shared} {env : Env} {ρ : Rho}
theorem Bound.ext {x : Str} {v : Value} (b : Bound env s.heap x v) (o : Ok K off tb X s) (hl : env.locals ∉ tb.map (·.1)) (e : Ext tb s s') : Bound env s'.heap x v := by
  rcases b with ⟨k, m, ⟨ob, es, ep, h1, h2, h3⟩, hm⟩ | ⟨k, c, hc, ob, h1, h2⟩
  · exact .inl ⟨k, m, ⟨ob, es, ep, e.keep _ _ hl h1, h2, h3⟩, hm⟩
  · exact .inr ⟨k, c, hc, ob, e.keep _ _ (o.cellTab ⟨ob, h1, h2⟩) h1, h2⟩
theorem EnvOk.ext (x : EnvOk tb X env ρ s) (o : Ok K off tb X s) (e : Ext tb s s') : EnvOk tb X env ρ s' :=
  ⟨x.kind, x.globals, x.builtins, x.nloc, fun p hp => let ⟨v, b, r⟩ := x.vars p hp; ⟨v, b.ext o x.nloc e, r.sub e.vis⟩⟩
end

structure Room (A : Around) (k : Nat) : Prop where
  handled : A.handled = none
  depth : A.depth + k ≤ 900
  units : A.units + 20 * k ≤ 9000
theorem Room.lim {A : Around} {k : Nat} (r : Room A k) : A.depth < recursionLimit := Nat.lt_of_le_of_lt (Nat.le_trans (Nat.le_add_right _ k) r.depth) (by decide)
theorem Room.c {A : Around} {k : Nat} (r : Room A k) : A.units + 900 ≤ cLine := by have := r.units; show _ ≤ 9900; omega
theorem Room.in1 {A : Around} {k : Nat} (r : Room A (k + 1)) : Room A.in1 k := ⟨r.handled, by have := r.depth; show A.depth + k ≤ 900; omega, by have := r.units; show A.units + 1 + 20 * k ≤ 9000; omega⟩
theorem Room.deeper {A : Around} {k : Nat} {env : Env} (r : Room A (k + 1)) : Room (A.deeper env) k := ⟨r.handled, by have := r.depth; show A.depth + 1 + k ≤ 900; omega, by have := r.units; show A.units + 3 + 20 * k ≤ 9000; omega⟩
theorem Room.less {A : Around} {k j : Nat} (r : Room A k) (h : j ≤ k) : Room A j := ⟨r.handled, by have := r.depth; omega, by have := r.units; omega⟩

/- short ways to say a thing of each member -/
theorem all1 {α : Type} {P : α → Prop} {a : α} (h : P a) : ∀ x ∈ [a], P x := fun x hx => List.mem_singleton.mp hx ▸ h
theorem all2 {α : Type} {P : α → Prop} {a b : α} (h : P a) (h2 : P b) : ∀ x ∈ [a, b], P x := List.forall_mem_cons.mpr ⟨h, all1 h2⟩
theorem all3 {α : Type} {P : α → Prop} {a b c : α} (h : P a) (h2 : P b) (h3 : P c) : ∀ x ∈ [a, b, c], P x := List.forall_mem_cons.mpr ⟨h, all2 h2 h3⟩
theorem all4 {α : Type} {P : α → Prop} {a b c d : α} (h : P a) (h2 : P b) (h3 : P c) (h4 : P d) : ∀ x ∈ [a, b, c, d], P x := List.forall_mem_cons.mpr ⟨h, all3 h2 h3 h4⟩
theorem sub_off {l l' : List Nat} {off : List Addr} (k : ∀ a ∈ l', a ∉ off) (h : l.all (fun x => l'.contains x) = true) : ∀ a ∈ l, a ∉ off := fun a ha => k a (by have := List.all_eq_true.mp h a ha; simpa using this)
end Mine
end
section
open PySem PySem.W PySem.Calls PyProof.Rows
set_option maxRecDepth 100000
namespace Mine

/-- no exception is meant to leave -/
abbrev NoE : Value → Shared → Prop := fun _ _ => False

section
variable (prog : Program) (w : World) (K : Frag) (off : List Addr) (tb : Tb)

/-- in every state that bears the names ρ the expression comes back with the datum d, and what stood stands -/
def PV (k : Nat) (env : Env) (ρ : Rho) (e : Expr) (d : PyData) : Prop :=
  ∀ (A : Around) (X : List Addr) (s : Shared) (Q : Value → Shared → Prop), Room A k → Ok K off tb X s → EnvOk tb X env ρ s →
    (∀ v s', Ext tb s s' → Rp (vis tb X s'.heap) v d → Q v s') → wpAny (model prog w) A (eval e env) Q NoE s

/-- the same of a test -/
def PT (k : Nat) (env : Env) (ρ : Rho) (e : Expr) (b : Bool) : Prop :=
  ∀ (A : Around) (X : List Addr) (s : Shared) (Q : Bool → Shared → Prop), Room A k → Ok K off tb X s → EnvOk tb X env ρ s →
    (∀ s', Ext tb s s' → Q b s') → wpAny (model prog w) A (isTrue e env (eval e env)) Q NoE s

/-- several expressions -/
def PVs (k : Nat) (env : Env) (ρ : Rho) (pos : Pos) (es : List Expr) (ds : List PyData) : Prop :=
  ∀ (A : Around) (X : List Addr) (s : Shared) (Q : List Value → Shared → Prop), Room A k → Ok K off tb X s → EnvOk tb X env ρ s →
    (∀ vs s', Ext tb s s' → RpAll (vis tb X s'.heap) vs ds → Q vs s') → wpAny (model prog w) A (spliced (backTo pos (starEach es env))) Q NoE s

/-- an operator on two data -/
def OpB (k : Nat) (op : Operator) (a b d : PyData) : Prop :=
  ∀ (A : Around) (X : List Addr) (s : Shared) (Q : Value → Shared → Prop) (v u : Value), Room A k → Ok K off tb X s → Rp (vis tb X s.heap) v a → Rp (vis tb X s.heap) u b →
    (∀ v s', Ext tb s s' → Rp (vis tb X s'.heap) v d → Q v s') → wpAny (model prog w) A (binaryOp op v u) Q NoE s
def OpC (k : Nat) (op : CmpOp) (a b : PyData) (r : Bool) : Prop :=
  ∀ (A : Around) (X : List Addr) (s : Shared) (Q : Value → Shared → Prop) (v u : Value), Room A k → Ok K off tb X s → Rp (vis tb X s.heap) v a → Rp (vis tb X s.heap) u b →
    (∀ s', Ext tb s s' → Q (.bool r) s') → wpAny (model prog w) A (compareOp op v u) Q NoE s
end

section
variable {prog : Program} {w : World} {K : Frag} {off : List Addr} {tb : Tb} {k : Nat} {env : Env} {ρ : Rho}

theorem ext_tok (s : Shared) (t : Nat) : Ext tb s { s with toks := t } := .of_sub (.refl _) rfl rfl
theorem ext_push (s : Shared) (o : Obj) : Ext tb s { s with heap := s.heap.push o } := .of_sub (.push _ _) rfl rfl

theorem bound_load {M : Model} {A : Around} {E : Value → Shared → Prop} {s : Shared} {x : Str} {pos : Pos} {v : Value} {Q : Value → Shared → Prop} (hk : env.scope.kind = .function) (b : Bound env s.heap x v) (h : Q v s)
    (hd : (x == ("__debug__" : Str)) = false) (hn : (x == ("__classdict__" : Str)) = false) : wpAny M A (eval (.Name x pos) env) Q E s := by
  refine wpAny_Name ?_ hd
  rcases b with ⟨kd, m, hns, hm⟩ | ⟨kd | kd, c, hc, hv⟩
  · exact wpAny_loadName_local hk kd hns hm h
  · exact wpAny_loadName_cell hk kd hc hv h
  · exact wpAny_loadName_free hk kd hc hv h hn

theorem pv_name {x : Str} {pos : Pos} {d : PyData} (hm : (x, d) ∈ ρ) (hd : (x == ("__debug__" : Str)) = false := by decide) (hn : (x == ("__classdict__" : Str)) = false := by decide) : PV prog w K off tb k env ρ (.Name x pos) d := by
  intro A X s Q hR hO hE h
  obtain ⟨v, b, r⟩ := hE.vars _ hm
  exact bound_load hE.kind b (h v s (.refl _ _) r) hd hn
theorem pv_int {i : Int} {n : Nat} {pos : Pos} : PV prog w K off tb k env ρ (.Constant (.int i) n pos) (.int i) := by
  intro A X s Q hR hO hE h
  exact wpAny_Constant_int (h _ _ (ext_tok _ _) .mkInt)
theorem pv_str {i : Str} {n : Nat} {pos : Pos} : PV prog w K off tb k env ρ (.Constant (.str i) n pos) (.str i) := by
  intro A X s Q hR hO hE h
  exact wpAny_Constant_str (h _ _ (ext_tok _ _) .mkStr)
theorem pvs_nil {pos : Pos} : PVs prog w K off tb k env ρ pos [] [] := by
  intro A X s Q hR hO hE h
  exact wpAny_items_nil (h _ _ (.refl _ _) .nil)
theorem pvs_cons {pos : Pos} {e : Expr} {es : List Expr} {d : PyData} {ds : List PyData} (a : PV prog w K off tb k env ρ e d) (b : PVs prog w K off tb k env ρ pos es ds)
    (he : starEach (e :: es) env = (false, eval e env) :: starEach es env := by rfl) : PVs prog w K off tb k env ρ pos (e :: es) (d :: ds) := by
  intro A X s Q hR hO hE h
  refine wpAny_items_cons (a A X s _ hR hO hE fun v s₁ e₁ r₁ => b A X s₁ _ hR (hO.ext e₁) (hE.ext hO e₁) fun vs s₂ e₂ r₂ => h _ _ (e₁.trans e₂) (.cons (r₁.sub e₂.vis) r₂)) he
theorem fresh_vis {X : List Addr} {s : Shared} (hO : Ok K off tb X s) : s.heap.objs.size ∉ tb.map (·.1) ∧ s.heap.objs.size ∉ X := by
  refine ⟨fun m => ?_, fun m => ?_⟩
  · obtain ⟨p, hp, e⟩ := List.mem_map.mp m
    obtain ⟨ps, h1, _⟩ := (hO.tabs p hp).get
    exact absurd (Heap.lt_size h1) (by rw [e]; exact Nat.lt_irrefl _)
  · obtain ⟨_, o, h1⟩ := hO.priv _ m
    exact absurd (Heap.lt_size h1) (Nat.lt_irrefl _)
theorem newlist_rp {X : List Addr} {s : Shared} {vs : List Value} {ds : List PyData} (hO : Ok K off tb X s) (r : RpAll (vis tb X s.heap) vs ds) :
    Rp (vis tb X (s.heap.push { cls := .type "list", data := .seq vs.toArray })) (.ref s.heap.objs.size) (.list ds) := by
  refine Rp.ofList (vs := vs) ⟨_, vis_mk (Heap.get?_push_size _ rfl) (fresh_vis hO).1 (fresh_vis hO).2, rfl, _, rfl⟩ (r.sub (vis_sub fun b o _ _ e => Heap.get?_push_of_some _ e))
theorem pv_list {es : List Expr} {pos : Pos} {ds : List PyData} (a : PVs prog w K off tb k env ρ pos es ds) (hz : ds.length ≤ sizeLine := by first | decide | (simp; decide)) : PV prog w K off tb k env ρ (.List es pos) (.list ds) := by
  intro A X s Q hR hO hE h
  refine wpAny_List (a A X s _ hR hO hE fun vs s₁ e₁ r₁ => ⟨by rw [r₁.length]; exact hz, h _ _ (e₁.trans (ext_push _ _)) (newlist_rp (hO.ext e₁) r₁)⟩)

theorem pv_binop {l r : Expr} {op : Operator} {pos : Pos} {a b d : PyData} (hl : PV prog w K off tb k env ρ l a) (hr : PV prog w K off tb k env ρ r b) (ho : OpB prog w K off tb k op a b d) : PV prog w K off tb k env ρ (.BinOp l op r pos) d := by
  intro A X s Q hR hO hE h
  exact wpAny_BinOp (hl A X s _ hR hO hE fun v s₁ e₁ r₁ => hr A X s₁ _ hR (hO.ext e₁) (hE.ext hO e₁) fun u s₂ e₂ r₂ =>
    ho A X s₂ Q v u hR ((hO.ext e₁).ext e₂) (r₁.sub e₂.vis) r₂ fun v' s₃ e₃ r₃ => h v' s₃ ((e₁.trans e₂).trans e₃) r₃)
theorem pt_cmp {l r : Expr} {op : CmpOp} {pos : Pos} {a b : PyData} {c : Bool} (hl : PV prog w K off tb k env ρ l a) (hr : PV prog w K off tb k env ρ r b) (ho : OpC prog w K off tb k op a b c)
    (hm : behindInMarks op r = false := by with_unfolding_all rfl) : PT prog w K off tb k env ρ (.Compare l [op] [r] pos) c := by
  intro A X s Q hR hO hE h
  exact wpAny_isTrue_Compare1 (hl A X s _ hR hO hE fun v s₁ e₁ r₁ => hr A X s₁ _ hR (hO.ext e₁) (hE.ext hO e₁) fun u s₂ e₂ r₂ =>
    ho A X s₂ _ v u hR ((hO.ext e₁).ext e₂) (r₁.sub e₂.vis) r₂ fun s₃ e₃ => wpAny_truthy_bool (h s₃ ((e₁.trans e₂).trans e₃))) hm
theorem pv_ifexp {t b o : Expr} {pos : Pos} {c : Bool} {d : PyData} (ht : PT prog w K off tb k env ρ t c) (hb : c = true → PV prog w K off tb k env ρ b d) (ho : c = false → PV prog w K off tb k env ρ o d) : PV prog w K off tb k env ρ (.IfExp t b o pos) d := by
  intro A X s Q hR hO hE h
  refine wpAny_IfExp (ht A X s _ hR hO hE fun s₁ e₁ => ?_)
  cases c with
  | true => simpa using hb rfl A X s₁ Q hR (hO.ext e₁) (hE.ext hO e₁) fun v s₂ e₂ r₂ => h v s₂ (e₁.trans e₂) r₂
  | false => simpa using ho rfl A X s₁ Q hR (hO.ext e₁) (hE.ext hO e₁) fun v s₂ e₂ r₂ => h v s₂ (e₁.trans e₂) r₂
/- operators -/
theorem op_add_int {a b : Int} : OpB prog w K off tb k .Add (.int a) (.int b) (.int (a + b)) := by
  intro A X s Q v u hR hO r q h
  obtain ⟨t, rfl⟩ := r.int; obtain ⟨t', rfl⟩ := q.int
  exact PyProof.Rows.add_int (h _ _ (ext_tok _ _) .mkInt)
theorem op_sub_int {a b : Int} : OpB prog w K off tb k .Sub (.int a) (.int b) (.int (a - b)) := by
  intro A X s Q v u hR hO r q h
  obtain ⟨t, rfl⟩ := r.int; obtain ⟨t', rfl⟩ := q.int
  exact PyProof.Rows.sub_int (h _ _ (ext_tok _ _) .mkInt)
theorem op_mod_int {a b : Int} (hb : b ≠ 0) : OpB prog w K off tb k .Mod (.int a) (.int b) (.int (a.fmod b)) := by
  intro A X s Q v u hR hO r q h
  obtain ⟨t, rfl⟩ := r.int; obtain ⟨t', rfl⟩ := q.int
  exact PyProof.Rows.mod_int' hb (h _ _ (ext_tok _ _) .mkInt)
theorem op_add_str {a b : Str} (hz : a.length + b.length ≤ sizeLine) : OpB prog w K off tb k .Add (.str a) (.str b) (.str (a ++ b)) := by
  intro A X s Q v u hR hO r q h
  obtain ⟨t, rfl⟩ := r.str; obtain ⟨t', rfl⟩ := q.str
  exact PyProof.Rows.add_str (fun t' tk => h _ _ (ext_tok _ _) .mkStr) hz
theorem op_eq {a b : PyData} (ha : a.canLay0 = true) (hb : b.canLay0 = true) (hd : min a.depth b.depth < 900) : OpC prog w K off tb k .Eq a b (PyData.eqv a b) := by
  intro A X s Q v u hR hO r q h
  obtain ⟨_, r⟩ := r.sub (vis_below _ _ _); obtain ⟨_, q⟩ := q.sub (vis_below _ _ _)
  exact SeqAt.compareEq_reads r q ha hb (by have := hR.c; omega) (h s (.refl _ _))
end
end Mine
end
section
open PySem PySem.W PySem.Calls PyProof.Rows
set_option maxRecDepth 100000
namespace Mine

/-- what the top's names are -/
def Globs (K : Frag) (off : List Addr) (mg mb : Str → Option Value) : Prop :=
  ∀ g : Heap, TopOk K off g → g.Ns mainGlobals mg ∧ g.Ns builtinsNs mb ∧ g.NoLimit

section
variable (prog : Program) (w : World) (K : Frag) (off : List Addr) (tb : Tb)
/-- a call of a value with data gives a datum -/
def Fn (k : Nat) (f : Value) (ds : List PyData) (d : PyData) : Prop :=
  ∀ (A : Around) (X : List Addr) (s : Shared) (vs : List Value) (Q : Value → Shared → Prop), Room A k → Ok K off tb X s → RpAll (vis tb X s.heap) vs ds →
    (∀ v s', Ext tb s s' → Rp (vis tb X s'.heap) v d → Q v s') → wpAny (model prog w) A (call f vs) Q NoE s
end

section
variable {prog : Program} {w : World} {K : Frag} {off : List Addr} {tb : Tb} {k : Nat} {env : Env} {ρ : Rho} {mg mb : Str → Option Value}

theorem Ok.globs {X : List Addr} {s : Shared} (G : Globs K off mg mb) (o : Ok K off tb X s) : s.heap.Ns mainGlobals mg ∧ s.heap.Ns builtinsNs mb ∧ s.heap.NoLimit :=
  let ⟨a, b, c⟩ := G _ o.top
  ⟨a.keeps (vis_below _ _ _), b.keeps (vis_below _ _ _), c.keeps (vis_below _ _ _)⟩

theorem load_global {A : Around} {X : List Addr} {s : Shared} {E : Value → Shared → Prop} {x : Str} {pos : Pos} {v : Value} {Q : Value → Shared → Prop} (G : Globs K off mg mb) (hO : Ok K off tb X s) (hE : EnvOk tb X env ρ s) (hv : mg x = some v)
    (hx : env.kindOf x = some .globalImplicit) (hd : (x == ("__debug__" : Str)) = false) (h : Q v s) : wpAny (model prog w) A (eval (.Name x pos) env) Q E s :=
  Name_function_global hE.kind hx (loadGlobal_global (env := env) (by rw [hE.globals]; exact (hO.globs G).1) hv h) hd
theorem load_builtin {A : Around} {X : List Addr} {s : Shared} {E : Value → Shared → Prop} {x : Str} {pos : Pos} {v : Value} {Q : Value → Shared → Prop} (G : Globs K off mg mb) (hO : Ok K off tb X s) (hE : EnvOk tb X env ρ s) (hm : mg x = none) (hv : mb x = some v)
    (hx : env.kindOf x = some .globalImplicit) (hd : (x == ("__debug__" : Str)) = false) (h : Q v s) : wpAny (model prog w) A (eval (.Name x pos) env) Q E s :=
  Name_function_global hE.kind hx (loadGlobal_builtin (env := env) (by rw [hE.globals]; exact (hO.globs G).1) hm (by rw [hE.builtins]; exact (hO.globs G).2.1) hv h) hd

/-- a call of a def of the top -/
theorem pv_call {x : Str} {p pos : Pos} {e : Expr} {es : List Expr} {f : Addr} {o : Obj} {fd : FuncData} {ds : List PyData} {d : PyData} (G : Globs K off mg mb) (hv : mg x = some (.ref f)) (ho : K.lookup f = some o) (hf : f ∉ off) (hdat : o.data = .func fd)
    (ha : PVs prog w K off tb k env ρ pos (e :: es) ds) (hfn : Fn prog w K off tb k (.ref f) ds d)
    (hx : env.kindOf x = some .globalImplicit := by rfl) (hd : (x == ("__debug__" : Str)) = false := by decide)
    (he : starEach (e :: es) env = (false, eval e env) :: starEach es env := by rfl) :
    PV prog w K off tb k env ρ (.Call (.Name x p) (e :: es) [] pos) d := by
  intro A X s Q hR hO hE h
  refine wpAny_Call_NameR (load_global G hO hE hv hx hd ?_)
  refine callWith_function (o := o) (fd := fd) ?_
  have ha' := ha A X s
  rw [he] at ha' ⊢
  refine evalArgs_plain (ha' _ hR hO hE fun vs s₁ e₁ r₁ => ⟨⟨(hO.ext e₁).get ho hf, hdat⟩, ?_⟩)
  exact hfn A X s₁ vs Q hR (hO.ext e₁) r₁ fun v s₂ e₂ r₂ => h v s₂ (e₁.trans e₂) r₂

/-- a call of a built-in function -/
theorem pv_builtin {x : Str} {p pos : Pos} {e : Expr} {es : List Expr} {id : String} {ds : List PyData} {d : PyData} (G : Globs K off mg mb) (hm : mg x = none) (hv : mb x = some (.builtin id))
    (ha : PVs prog w K off tb k env ρ pos (e :: es) ds) (hfn : Fn prog w K off tb k (.builtin id) ds d)
    (hx : env.kindOf x = some .globalImplicit := by rfl) (hd : (x == ("__debug__" : Str)) = false := by decide)
    (he : starEach (e :: es) env = (false, eval e env) :: starEach es env := by rfl)
    (hp : (backTo pos (starEach (e :: es) env)).any (·.1) = false := by rfl) :
    PV prog w K off tb k env ρ (.Call (.Name x p) (e :: es) [] pos) d := by
  intro A X s Q hR hO hE h
  refine wpAny_Call_NameR (load_builtin G hO hE hm hv hx hd ?_)
  refine callWith_builtin hp ?_
  have ha' := ha A X s
  rw [he] at ha' ⊢
  refine evalArgs_plain (ha' _ hR hO hE fun vs s₁ e₁ r₁ => ?_)
  exact hfn A X s₁ vs Q hR (hO.ext e₁) r₁ fun v s₂ e₂ r₂ => h v s₂ (e₁.trans e₂) r₂

theorem RpAll.one {h : Heap} {vs : List Value} {d : PyData} (x : RpAll h vs [d]) : ∃ v, vs = [v] ∧ Rp h v d := by
  obtain ⟨_, r⟩ := x
  cases r with | cons a b => cases b; exact ⟨_, rfl, _, a⟩
theorem RpAll.two {h : Heap} {vs : List Value} {d e : PyData} (x : RpAll h vs [d, e]) : ∃ v u, vs = [v, u] ∧ Rp h v d ∧ Rp h u e := by
  obtain ⟨_, r⟩ := x
  cases r with | cons a b => cases b with | cons c b => cases b; exact ⟨_, _, rfl, ⟨_, a⟩, ⟨_, c⟩⟩

theorem IsList.below {tb : Tb} {X : List Addr} {h : Heap} {a : Addr} {its : Array Value} (x : (vis tb X h).IsList a its) : h.IsList a its :=
  let ⟨o, e, r⟩ := x; ⟨o, vis_below _ _ _ _ _ e, r⟩

theorem fn_len {ds : List PyData} (hz : ds.length < 2 ^ 62) : Fn prog w K off tb k (.builtin "len") [.list ds] (.int ds.length) := by
  intro A X s vs Q hR hO r0 h
  obtain ⟨v, rfl, r⟩ := r0.one
  obtain ⟨a, us, rfl, hl, ra⟩ := r.isList
  have e : (us.toArray.size : Int) = ds.length := by rw [List.size_toArray, ra.length]
  refine call_len_list (IsList.below hl) (by rw [e]; omega) ?_
  rw [e]
  exact h _ _ (.of_sub (.refl _) rfl rfl) .mkInt

theorem op_add_list {as bs : List PyData} (hz : as.length + bs.length ≤ sizeLine) : OpB prog w K off tb k .Add (.list as) (.list bs) (.list (as ++ bs)) := by
  intro A X s Q v u hR hO r q h
  obtain ⟨a, vs, rfl, hl, ra⟩ := r.isList
  obtain ⟨b, us, rfl, hl', rb⟩ := q.isList
  obtain ⟨⟨cls, dd, data, sl⟩, ho, hc, n, hd⟩ := IsList.below hl
  obtain ⟨⟨cls2, dd2, data2, sl2⟩, ho2, hc2, n2, hd2⟩ := IsList.below hl'
  simp only at hc hd hc2 hd2
  subst hc hd hc2 hd2
  have e : vs.toArray ++ us.toArray = (vs ++ us).toArray := by simp
  refine concat_meets ⟨_, ho, rfl⟩ ⟨_, ho2, rfl⟩ noFill_list_add seq_list_add PySem.F.slot_list_add PySem.F.entry_list_add (PySem.F.args_list_add_2 _ _) (list_addW a b vs.toArray us.toArray n n2 dd dd2 sl sl2 (by simp [ra.length, rb.length]; exact hz)) ⟨ho, ho2, ?_⟩
  rw [e]
  exact h _ _ (ext_push _ _) (newlist_rp hO (ra.app rb))

/-- xs[i] -/
theorem pv_item {l i : Expr} {pos : Pos} {ds : List PyData} {j : Int} {d : PyData} (hl : PV prog w K off tb k env ρ l (.list ds)) (hi : PV prog w K off tb k env ρ i (.int j)) (h0 : 0 ≤ j) (h1 : j < 2 ^ 62) (hx : ds[j.toNat]? = some d)
    (hs : ∀ a u, subscripted i false (.ref a) (.int j u) = operate [.ref a, .int j u] (getItem (.ref a) (.int j u)) := by intro _ _; with_unfolding_all rfl) :
    PV prog w K off tb k env ρ (.Subscript l i pos) d := by
  intro A X s Q hR hO hE h
  refine Subscript_ (hl A X s _ hR hO hE fun v s₁ e₁ r₁ => hi A X s₁ _ hR (hO.ext e₁) (hE.ext hO e₁) fun u s₂ e₂ r₂ => ?_)
  obtain ⟨t, rfl⟩ := r₂.int
  obtain ⟨a, vs, rfl, hL, ra⟩ := (r₁.sub e₂.vis).isList
  obtain ⟨v, hv, rv⟩ := ra.get hx
  have hL' := IsList.below hL
  exact tail_any hL'.typeIs slot_list_getitem.lookup (wpAny_getItem_list hL' h0 (by omega) (by simpa using hv) (h _ _ (e₁.trans e₂) rv)) (hs _ _)
end
end Mine
end
section
open PySem PySem.W PySem.Calls PyProof.Rows
set_option maxRecDepth 100000
namespace Mine

section
variable {prog : Program} {w : World} {K : Frag} {off : List Addr} {tb : Tb} {k : Nat} {env : Env} {ρ : Rho} {mg mb : Str → Option Value}

theorem pv_neg {e : Expr} {pos : Pos} {i : Int} (h1 : PV prog w K off tb k env ρ e (.int i)) : PV prog w K off tb k env ρ (.UnaryOp .USub e pos) (.int (-i)) := by
  intro A X s Q hR hO hE h
  refine wpAny_UnaryOp (h1 A X s _ hR hO hE fun v s₁ e₁ r₁ => ?_)
  obtain ⟨t, rfl⟩ := r₁.int
  exact neg_int (h _ _ (e₁.trans (ext_tok _ _)) .mkInt)

/-- a part of a slice -/
def PP (prog : Program) (w : World) (K : Frag) (off : List Addr) (tb : Tb) (k : Nat) (env : Env) (ρ : Rho) (e : Option Expr) (i : Option Int) : Prop :=
  ∀ (A : Around) (X : List Addr) (s : Shared) (Q : Value → Shared → Prop), Room A k → Ok K off tb X s → EnvOk tb X env ρ s →
    (∀ v s', Ext tb s s' → IsPart v i → Q v s') → wpAny (model prog w) A (evalPart e env) Q NoE s
theorem pp_none : PP prog w K off tb k env ρ none none := by
  intro A X s Q hR hO hE h
  rw [evalPart_none]
  exact wpAny_pure (h _ _ (.refl _ _) .none)
theorem pp_some {e : Expr} {i : Int} (h1 : PV prog w K off tb k env ρ e (.int i)) : PP prog w K off tb k env ρ (some e) (some i) := by
  intro A X s Q hR hO hE h
  rw [evalPart_some]
  refine h1 A X s _ hR hO hE fun v s₁ e₁ r₁ => ?_
  obtain ⟨t, rfl⟩ := r₁.int
  exact h _ _ e₁ (.int _ _)
theorem pv_slice {l : Expr} {lo hi : Option Expr} {pos p : Pos} {ds es : List PyData} {a b : Option Int} (hl : PV prog w K off tb k env ρ l (.list ds)) (h1 : PP prog w K off tb k env ρ lo a) (h2 : PP prog w K off tb k env ρ hi b)
    (hz : ds.length ≤ sizeLine) (hp : ∀ (g : Heap) (vs : List Value), RpAll g vs ds → RpAll g (slicePick vs.toArray a b none).toList es)
    (hs : ∀ a u, subscripted (.Slice lo hi none p) false (.ref a) (.ref u) = operate [.ref u, .ref a] (getItem (.ref a) (.ref u)) := by intro _ _; with_unfolding_all rfl) :
    PV prog w K off tb k env ρ (.Subscript l (.Slice lo hi none p) pos) (.list es) := by
  intro A X s Q hR hO hE h
  refine Subscript_ (hl A X s _ hR hO hE fun v s₁ e₁ r₁ => ?_)
  refine wpAny_Slice (h1 A X s₁ _ hR (hO.ext e₁) (hE.ext hO e₁) fun x s₂ e₂ p₂ => h2 A X s₂ _ hR ((hO.ext e₁).ext e₂) ((hE.ext hO e₁).ext (hO.ext e₁) e₂) fun y s₃ e₃ p₃ => ?_)
  rw [evalPart_none]
  refine wpAny_pure ?_
  have O3 := ((hO.ext e₁).ext e₂).ext e₃
  obtain ⟨c, vs, rfl, hL, ra⟩ := ((r₁.sub e₂.vis).sub e₃.vis).isList
  have hL' := IsList.below hL
  have ep : Ext tb s₃ { s₃ with heap := s₃.heap.push { cls := .type "slice", data := .fields #[x, y, .none] } } := ext_push _ _
  have O4 := O3.ext ep
  have hLp := hL'.push { cls := .type "slice", data := .fields #[x, y, .none] }
  refine tail_any (Heap.IsList.typeIs (s := { s₃ with heap := s₃.heap.push { cls := .type "slice", data := .fields #[x, y, .none] } }) hLp) list_getitem_lookup
    (wpAny_getItem_list_slice hLp (Heap.IsSliceOf.new ..) p₂ p₃ .none (by simp) ?_ (by rw [List.size_toArray, ra.length]; exact hz)) (hs _ _)
  have e : slicePick vs.toArray a b none = (slicePick vs.toArray a b none).toList.toArray := by simp
  rw [e]
  exact h _ _ ((((e₁.trans e₂).trans e₃).trans ep).trans (ext_push _ _)) (newlist_rp O4 (hp _ _ (ra.sub ep.vis)))
theorem pick_upto {ds : List PyData} {j : Int} (h0 : 0 ≤ j) (g : Heap) (vs : List Value) (r : RpAll g vs ds) : RpAll g (slicePick vs.toArray none (some j) none).toList (ds.take j.toNat) := by
  obtain ⟨n, rfl⟩ := Int.eq_ofNat_of_zero_le h0
  rw [slicePick_upto']
  simpa using r.take n
/- texts -/
abbrev sts (xs : List Str) : List PyData := xs.map .str
theorem strs_rp {g : Heap} : ∀ {vs : List Value} {xs : List Str}, RpAll g vs (sts xs) → ∃ l : List (Str × Tok), vs = strValues l ∧ l.map (·.1) = xs
  | [], [], _ => ⟨[], rfl, rfl⟩
  | [], _ :: _, r => by have := r.length; simp at this
  | _ :: _, [], r => by have := r.length; simp at this
  | v :: vs, x :: xs, r => by
    obtain ⟨a, b⟩ := RpAll.inv (d := .str x) (ds := sts xs) r
    obtain ⟨t, rfl⟩ := a.str
    obtain ⟨l, rfl, rfl⟩ := strs_rp b
    exact ⟨(x, t) :: l, rfl, rfl⟩

/-- a call of a method of a text with one argument -/
theorem pv_strMethod {o e : Expr} {name : Str} {apos pos : Pos} {id : String} {x : Str} {a d : PyData} (slot : Slot "str" name id) (hty : typeOf (.builtin id) = pure (.type "method_descriptor"))
    (ho : PV prog w K off tb k env ρ o (.str x)) (he : PV prog w K off tb k env ρ e a) (hf : Fn prog w K off tb k (.builtin id) [.str x, a] d)
    (hbase : attributeBase o name env (eval o env) = eval o env := by rfl)
    (hfew : ((backTo pos (starEach [e] env)).all (fun x => !x.1) && (backToKw pos (keywordEach [] env)).all (fun x => x.1.isSome)
      && decide ([e].length + ([] : List Keyword).length + (if ([] : List Keyword).isEmpty then 0 else 1) < 30)) = true := by rfl)
    (hline : (apos.endLine == pos.line) = true := by rfl)
    (hst : starEach [e] env = [(false, eval e env)] := by rfl) :
    PV prog w K off tb k env ρ (.Call (.Attribute o name apos) [e] [] pos) d := by
  intro A X s Q hR hO hE h
  refine wpAny_Call_method hbase hfew hline F.plainAttrs_str slot hty (ho A X s _ hR hO hE fun v s₁ e₁ r₁ => ?_)
  obtain ⟨t, rfl⟩ := r₁.str
  refine ⟨typeIs_str _ _ _, (fun _ e => nomatch e), ?_⟩
  rw [hst]
  refine callWith_builtin rfl (evalArgs_plain ?_)
  refine spliced_cons (he A X s₁ _ hR (hO.ext e₁) (hE.ext hO e₁) fun u s₂ e₂ r₂ => ?_)
  refine spliced_nil ?_
  exact hf A X s₂ [.str x t, u] Q hR ((hO.ext e₁).ext e₂) (.cons .mkStr (.cons r₂ .nil)) fun v s₃ e₃ r₃ => h v s₃ ((e₁.trans e₂).trans e₃) r₃

open Builtin Builtin.Str in
end
end Mine
end
section
open PySem PySem.W PySem.Calls PyProof.Rows
set_option maxRecDepth 100000
namespace Mine

/-- an object that is no code -/
def NoCode (o : Obj) : Prop := ∀ vs q t, o.data = .fields vs → vs[1]? ≠ some (.str q t)
theorem TabOk.but {h h' : Heap} {P : Addr} {q : TK} {y : Addr} {oy : Obj} (x : TabOk h P q) (e : Heap.ExtBut y h h') (g : h.get? y = some oy) (n : NoCode oy) (ne : y ≠ P) : TabOk h' P q := by
  cases q with
  | code q =>
    obtain ⟨ps, z1, z2, z3⟩ := x
    refine ⟨ps, e P _ (Ne.symm ne) z1, z2, fun pos cv hc => ?_⟩
    obtain ⟨c, o, vs, t, r1, r2, r3, r4⟩ := z3 pos cv hc
    refine ⟨c, o, vs, t, r1, e c o (fun z => ?_) r2, r3, r4⟩
    subst z; rw [g] at r2; cases r2; exact n vs q t r3 r4
  | own G =>
    obtain ⟨o, es, k, z1, z2⟩ := x
    exact ⟨o, es, k, e P _ (Ne.symm ne) z1, z2⟩
  | any => obtain ⟨ps, z, t⟩ := x; exact ⟨ps, e P _ (Ne.symm ne) z, t⟩
theorem ne_of_tab {tb : Tb} {b : Addr} (h : b ∉ tb.map (·.1)) {q : Addr × TK} (hq : q ∈ tb) : b ≠ q.1 := fun z => h (z ▸ List.mem_map_of_mem hq)
theorem noCode_seq {o : Obj} {its : Array Value} {n : Nat} (e : o.data = .seq its n) : NoCode o := fun vs q t z => (by rw [e] at z; cases z)
theorem noCode_dict {o : Obj} {es : Array DictEntry} {n : Nat} (e : o.data = .dict es n) : NoCode o := fun vs q t z => (by rw [e] at z; cases z)
theorem noCode_cell {o : Obj} {v : Option Value} (e : o.data = .cell v) : NoCode o := fun vs q t z => (by rw [e] at z; cases z)

/-- what a comprehension or a loop may run over: the walker's object in its i-th state bears SO i -/
structure Src (prog : Program) (w : World) (tb : Tb) (k : Nat) (X : List Addr) (s₁ : Shared) (xv : Value) (ds : List PyData) (SO : Nat → Obj → Prop) : Prop where
  lay : ∀ (A : Around) (Q : Value → Shared → Prop), Room A k → (∀ o, SO 0 o → o.isFreed = false → Q (.ref s₁.heap.objs.size) { s₁ with heap := s₁.heap.push o }) → wpAny (model prog w) A (pyIter xv) Q NoE s₁
  self : ∀ (A : Around) (s : Shared) (i : Nat) (o : Obj) (I : Addr) (Q : Value → Shared → Prop) (E : Value → Shared → Prop), s.heap.get? I = some o → SO i o → Q (.ref I) s → wpAny (model prog w) A (pyIter (.ref I)) Q E s
  noCode : ∀ i o, SO i o → NoCode o
  next : ∀ (A : Around) (s : Shared) (i : Nat) (o : Obj) (I : Addr) (Q : Option Value → Shared → Prop) (E : Value → Shared → Prop), Room A k → Sub (vis tb X s₁.heap) s.heap → s.heap.get? I = some o → SO i o →
    (∀ d v h' t o', ds[i]? = some d → Heap.ExtBut I s.heap h' → h'.get? I = some o' → SO (i + 1) o' → Rp (vis tb X s₁.heap) v d → Q (some v) { s with heap := h', toks := t }) →
    (∀ h', ds[i]? = none → Heap.ExtBut I s.heap h' → Q none { s with heap := h' }) → wpAny (model prog w) A (pyNext (.ref I)) Q E s

section
variable {prog : Program} {w : World} {K : Frag} {off : List Addr} {tb : Tb} {k : Nat} {env : Env} {ρ : Rho} {mg mb : Str → Option Value}

theorem src_list {X : List Addr} {s : Shared} {v : Value} {ds : List PyData} (r : Rp (vis tb X s.heap) v (.list ds)) : ∃ SO, Src prog w tb k X s v ds SO := by
  obtain ⟨l, vs, rfl, hl, ra⟩ := r.isList
  refine ⟨fun i o => o.cls = .type "list_iterator" ∧ o.data = .fields #[.ref l, .int i 0], ?_, ?_, ?_, ?_⟩
  · intro A Q hR h
    exact wpAny_pyIter_list (IsList.below hl) (h _ ⟨rfl, rfl⟩ rfl)
  · intro A s' i o I Q E e so h
    exact wpAny_pyIter_listiter ⟨o, e, so.1, so.2⟩ h
  · intro i o so
    exact fun vs q t z => (by rw [so.2] at z; cases z; simp)
  · intro A s' i o I Q E hR hs e so h1 h2
    obtain ⟨ob, hb, r⟩ := hl
    have hl' : s'.heap.IsList l vs.toArray := ⟨ob, hs _ _ hb, r⟩
    cases hd : ds[i]? with
    | none =>
      have : vs.toArray[i]? = none := by
        have := ra.length; simp at hd ⊢; omega
      exact wpAny_pyNext_list_end hR.handled ⟨o, e, so.1, so.2⟩ hl' this fun h' x => h2 h' hd x
    | some d =>
      obtain ⟨v, hv, rv⟩ := ra.get hd
      refine wpAny_pyNext_list_item ⟨o, e, so.1, so.2⟩ hl' (by simpa using hv) fun h' ⟨o', e', c, dd⟩ x => ?_
      exact h1 d v h' s'.toks o' hd x.extBut e' ⟨c, by simpa using dd⟩ rv

/-- names that the block sees through the cells -/
def Passes (env cenv : Env) (ρ' : Rho) : Prop := ∀ p ∈ ρ', CellKind env p.1 ∧ CellKind cenv p.1 ∧ cenv.cells.lookup p.1 = env.cells.lookup p.1

def PTs (prog : Program) (w : World) (K : Frag) (off : List Addr) (tb : Tb) (k : Nat) (env : Env) (ρ : Rho) (ifs : List Expr) (b : Bool) : Prop :=
  (ifs = [] ∧ b = true) ∨ ∃ c, ifs = [c] ∧ PT prog w K off tb k env ρ c b

/-- the turn of a block: what holds between two items -/
structure CInv (tb : Tb) (X : List Addr) (s₁ : Shared) (ds : List PyData) (SO : Nat → Obj → Prop) (p : PyData → Bool) (f : PyData → PyData) (T : Heap → Prop) (P : List Addr) (I D : Addr) (m : Nat) (s' : Shared) (i : Nat) (acc : List Value) (o : Obj) : Prop where
  cnt : m + i = ds.length + 1
  le : i ≤ ds.length
  tgt : T s'.heap
  ext : Ext tb s₁ s'
  gi : s'.heap.get? I = some o
  so : SO i o
  gd : s'.heap.IsList D acc.toArray
  rp : RpAll (vis tb P s'.heap) acc (((ds.take i).filter p).map f)
  few : acc.length ≤ i

theorem comp_loop {elt iter : Expr} {x : Str} {px : Pos} {ifs : List Expr} {scope : Scope} {pos : Pos} {cenv : Env} {ρ' : Rho} {ds : List PyData} (p : PyData → Bool) (f : PyData → PyData) {SO : Nat → Obj → Prop} {xv : Value} {Wl X : List Addr} {T : Heap → Prop} {I D C : Addr} {oI : Obj} {A : Around} {s₁ s₄ : Shared} {R : Result → Shared → Prop}
    (S : Src prog w tb k X s₁ xv ds SO) (hR : Room A k) (O1 : Ok K off tb X s₁) (hnew : ∀ b ∈ I :: D :: Wl, s₁.heap.get? b = none) (hID : I ≠ D) (hIW : I ∉ Wl) (hDW : D ∉ Wl) (hCW : C ∈ Wl)
    (hT : ∀ h, T h → ∀ b ∈ Wl, ∃ o, h.get? b = some o ∧ NoCode o) (hTk : ∀ h h' : Heap, T h → (∀ b o, b ∈ Wl → h.get? b = some o → h'.get? b = some o) → T h')
    (hst : ∀ (s' : Shared) (v : Value) (Q : Unit → Shared → Prop), T s'.heap → (∀ h2 tk, T h2 → (∀ b o, b ∉ Wl → s'.heap.get? b = some o → h2.get? b = some o) → Bound cenv h2 x v → Q () { s' with heap := h2, toks := tk }) → wpAny (model prog w) A (assign (.Name x px) cenv v) Q NoE s')
    (hk : cenv.scope.kind = .function) (hg : cenv.globals = mainGlobals) (hb : cenv.builtins = builtinsNs) (hl : cenv.locals ∈ Wl)
    (hρ : ∀ s', Ext tb s₁ s' → ∀ q ∈ ρ', ∃ u, Bound cenv s'.heap q.1 u ∧ Rp (vis tb X s₁.heap) u q.2) (hlen : ds.length ≤ sizeLine)
    (htest : ∀ d ∈ ds, PTs prog w K off tb k cenv ((x, d) :: ρ') ifs (p d)) (helt : ∀ d ∈ ds, p d = true → PV prog w K off tb k cenv ((x, d) :: ρ') elt (f d))
    (hend : ∀ s', Ext tb s₁ s' → Rp (vis tb (C :: X) s'.heap) (.ref D) (.list ((ds.filter p).map f)) → T s'.heap → R (.ok .next) s')
    (x4 : Ext tb s₁ s₄) (gI : s₄.heap.get? I = some oI) (hSO : SO 0 oI) (gD : s₄.heap.IsList D ([] : List Value).toArray) (hT0 : T s₄.heap) :
    codeAny (model prog w) A (.compLoop (.ListComp elt [⟨.Name x px, iter, ifs, 0⟩] scope pos) 0 (.ref I) (.ref D) cenv) R s₄ := by
  generalize hP : I :: D :: (Wl ++ X) = P
  have ntab : ∀ b ∈ I :: D :: Wl, b ∉ tb.map (·.1) := fun b hb m => by
    obtain ⟨q, hq, e⟩ := List.mem_map.mp m
    obtain ⟨_, g, _⟩ := (O1.tabs q hq).get
    rw [e, hnew b hb] at g; cases g
  have nX : ∀ b ∈ I :: D :: Wl, b ∉ X := fun b hb m => by
    obtain ⟨_, o, g⟩ := O1.priv b m
    rw [hnew b hb] at g; cases g
  have old : ∀ b o, s₁.heap.get? b = some o → b ∉ I :: D :: Wl := fun b o g z => by rw [hnew b z] at g; cases g
  have inI : I ∈ I :: D :: Wl := List.mem_cons_self
  have inD : D ∈ I :: D :: Wl := List.mem_cons_of_mem _ List.mem_cons_self
  have inW : ∀ b ∈ Wl, b ∈ I :: D :: Wl := fun b h => List.mem_cons_of_mem _ (List.mem_cons_of_mem _ h)
  have pI : I ∈ P := hP ▸ List.mem_cons_self
  have pD : D ∈ P := hP ▸ List.mem_cons_of_mem _ List.mem_cons_self
  have pW : ∀ b ∈ Wl, b ∈ P := fun b h => hP ▸ List.mem_cons_of_mem _ (List.mem_cons_of_mem _ (List.mem_append_left _ h))
  have pX : ∀ b ∈ P, b ∈ I :: D :: Wl ∨ b ∈ X := fun b h => by
    rw [← hP] at h
    rcases List.mem_cons.mp h with h | h
    · exact .inl (h ▸ inI)
    · rcases List.mem_cons.mp h with h | h
      · exact .inl (h ▸ inD)
      · exact (List.mem_append.mp h).imp (inW b) id
  have visS : ∀ s' : Shared, Ext tb s₁ s' → Sub (vis tb X s₁.heap) (vis tb P s'.heap) := fun s' e b o g => by
    obtain ⟨g0, n, m⟩ := vis_get g
    exact vis_mk (e.keep b o n g0) n fun q => (pX b q).elim (old b o g0) m
  have mkOk : ∀ s' : Shared, Ext tb s₁ s' → (∃ o, s'.heap.get? I = some o) → (∃ o, s'.heap.get? D = some o) → T s'.heap → Ok K off tb P s' := fun s' e a b c => by
    refine ⟨fun y hy => ?_, fun q hq => e.tab q hq (O1.tabs q hq), O1.top.sub (visS s' e)⟩
    rcases pX y hy with h | h
    · refine ⟨ntab y h, ?_⟩
      rcases List.mem_cons.mp h with h | h
      · exact h ▸ a
      · rcases List.mem_cons.mp h with h | h
        · exact h ▸ b
        · exact (hT _ c y h).imp fun _ z => z.1
    · obtain ⟨n, o, g⟩ := O1.priv y h
      exact ⟨n, o, e.keep y o n g⟩
  -- one object of one's own changes
  have goExt : ∀ (s' : Shared) (h' : Heap) (tk : Nat) (y : List Addr), (∀ b ∈ y, b ∈ I :: D :: Wl) → (∀ b o, b ∉ y → s'.heap.get? b = some o → h'.get? b = some o) → (∀ b ∈ y, ∀ o, s'.heap.get? b = some o → NoCode o) → Ext tb s₁ s' → Ext tb s₁ { s' with heap := h', toks := tk } := fun s' h' tk y hy kp nc e => by
    refine ⟨fun b o n g => kp b o (fun z => old b o g (hy b z)) (e.keep b o n g), fun q hq z => ?_, e.gens, e.os⟩
    have T' := e.tab q hq z
    have hqy : q.1 ∉ y := fun z => ntab _ (hy _ z) (List.mem_map_of_mem hq)
    cases hq2 : q.2 with
    | code q2 =>
      rw [hq2] at T'
      obtain ⟨ps, z1, z2, z3⟩ := T'
      refine ⟨ps, kp _ _ hqy z1, z2, fun pos cv hc => ?_⟩
      obtain ⟨c, o, vs, t, r1, r2, r3, r4⟩ := z3 pos cv hc
      exact ⟨c, o, vs, t, r1, kp c o (fun z => nc c z o r2 vs q2 t r3 r4) r2, r3, r4⟩
    | own G => rw [hq2] at T'; obtain ⟨o, es, n, z1, z2⟩ := T'; exact ⟨o, es, n, kp _ _ hqy z1, z2⟩
    | any => rw [hq2] at T'; obtain ⟨ps, z1, z2⟩ := T'; exact ⟨ps, kp _ _ hqy z1, z2⟩
  refine codeAny_compLoop_tests (fun m s' => ∃ i acc o, CInv tb X s₁ ds SO p f T P I D m s' i acc o) (fun m s' hinv => ?_) (ds.length + 1) ⟨0, [], oI, rfl, Nat.zero_le _, hT0, x4, gI, hSO, gD, by simpa using RpAll.nil, Nat.le_refl _⟩
  obtain ⟨i, acc, o, V⟩ := hinv
  have V1 := V.cnt
  have V2 := V.few
  refine S.next A s' i o I _ _ hR ((visS s' V.ext).trans (vis_below _ _ _)) V.gi V.so (fun d v h' tk o' hd hx1 gI1 so1 rv => ?_) fun h' hd hx1 => ?_
  · -- one more item
    have X2 : Ext tb s₁ { s' with heap := h', toks := tk } := goExt s' h' tk [I] (fun b h => by rw [List.mem_singleton] at h; exact h ▸ inI) (fun b o n g => hx1 b o (fun z => n (List.mem_singleton.mpr z)) g) (fun b h o g => by
      rw [List.mem_singleton] at h; subst h; rw [V.gi] at g; cases g; exact S.noCode _ _ V.so) V.ext
    have T1 : T h' := hTk _ _ V.tgt fun b o h g => hx1 b o (fun z => hIW (z ▸ h)) g
    have gD1 : h'.IsList D acc.toArray := V.gd.extBut hx1 (Ne.symm hID)
    have acc1 : RpAll (vis tb P h') acc (((ds.take i).filter p).map f) := V.rp.sub (vis_sub fun b o _ m e => hx1 b o (fun z => m (z ▸ pI)) e)
    refine wpAny_mono (hst { s' with heap := h', toks := tk } v _ T1 fun h2 tk2 T2 kp2 b2 => ?_) (fun _ _ z => z) fun _ _ z => z.elim
    have X3 : Ext tb s₁ { s' with heap := h2, toks := tk2 } := goExt { s' with heap := h', toks := tk } h2 tk2 Wl inW kp2 (fun b h o g => by
      obtain ⟨o2, g2, n2⟩ := hT _ T1 b h
      rw [g2] at g; cases g; exact n2) X2
    have gI2 : h2.get? I = some o' := kp2 _ _ hIW gI1
    have gD2 : h2.IsList D acc.toArray := let ⟨o, e, r⟩ := gD1; ⟨o, kp2 _ _ hDW e, r⟩
    have acc2 : RpAll (vis tb P h2) acc (((ds.take i).filter p).map f) := acc1.sub (vis_sub fun b o _ m e => kp2 b o (fun z => m (pW b z)) e)
    have O3 := mkOk _ X3 ⟨_, gI2⟩ (let ⟨o, e, _⟩ := gD2; ⟨o, e⟩) T2
    have hdm : d ∈ ds := List.mem_of_getElem? hd
    have E3 : EnvOk tb P cenv ((x, d) :: ρ') { s' with heap := h2, toks := tk2 } := by
      refine ⟨hk, hg, hb, ntab _ (inW _ hl), fun q hq => ?_⟩
      rcases List.mem_cons.mp hq with rfl | hq
      · exact ⟨v, b2, rv.sub (visS _ X3)⟩
      · obtain ⟨u, b, ru⟩ := hρ _ X3 q hq
        exact ⟨u, b, ru.sub (visS _ X3)⟩
    have hlt : i < ds.length := (List.getElem?_eq_some_iff.mp hd).1
    have htk : ds.take (i + 1) = ds.take i ++ [d] := by
      rw [List.take_succ, hd]; rfl
    have nt : ∀ b ∈ I :: D :: Wl, b ∉ tb.map (·.1) := ntab
    have next : ∀ s₃ : Shared, Ext tb { s' with heap := h2, toks := tk2 } s₃ → p d = false → ∃ m', m' < m ∧ ∃ i acc o, CInv tb X s₁ ds SO p f T P I D m' s₃ i acc o := fun s₃ e3 hp => by
      refine ⟨m - 1, by omega, i + 1, acc, o', by omega, hlt, hTk _ _ T2 fun b o h g => e3.keep b o (nt b (inW b h)) g, X3.trans e3, e3.keep _ _ (nt _ inI) gI2, so1, (let ⟨o, e, r⟩ := gD2; ⟨o, e3.keep _ _ (nt _ inD) e, r⟩), ?_, by omega⟩
      rw [htk, List.filter_append, List.map_append]
      simpa [hp] using acc2.sub e3.vis
    have more : ∀ s₃ : Shared, Ext tb { s' with heap := h2, toks := tk2 } s₃ → p d = true → wpAny (model prog w) A (eval elt cenv) (fun x_1 s₄ => wpAny (model prog w) A (call (.builtin "list.append") [.ref D, x_1]) (fun _ s₅ => ∃ m', m' < m ∧ ∃ i acc o, CInv tb X s₁ ds SO p f T P I D m' s₅ i acc o) NoE s₄) NoE s₃ := fun s₃ e3 hp => by
      refine helt d hdm hp A P s₃ _ hR (O3.ext e3) (E3.ext O3 e3) fun v' s₄ e4 r4 => ?_
      have e34 := e3.trans e4
      have gD5 : s₄.heap.IsList D acc.toArray := let ⟨o, e, r⟩ := gD2; ⟨o, e34.keep _ _ (nt _ inD) e, r⟩
      refine wpAny_list_append gD5 (fun h5 gD6 sb5 => ?_) (by rw [List.size_toArray]; omega)
      obtain ⟨oD, gDo, _, nD', dD⟩ := id gD5
      refine ⟨m - 1, by omega, i + 1, acc ++ [v'], o', by omega, hlt, hTk _ _ T2 fun b o h g => sb5.extBut b o (fun z => hDW (z ▸ h)) (e34.keep b o (nt b (inW b h)) g), ?_, sb5.extBut _ _ hID (e34.keep _ _ (nt _ inI) gI2), so1, by simpa using gD6, ?_, by simp; omega⟩
      · exact goExt s₄ h5 s₄.toks [D] (fun b h => by rw [List.mem_singleton] at h; exact h ▸ inD) (fun b o n g => sb5.extBut b o (fun z => n (List.mem_singleton.mpr z)) g) (fun b h o g => by
          rw [List.mem_singleton] at h; subst h; rw [gDo] at g; cases g; exact noCode_seq dD) (X3.trans e34)
      · have step : Sub (vis tb P s₄.heap) (vis tb P h5) := vis_sub fun b o _ m e => sb5.extBut b o (fun z => m (z ▸ pD)) e
        rw [htk, List.filter_append, List.map_append]
        simp only [List.filter_cons, hp, if_true, List.filter_nil, List.map_cons, List.map_nil]
        exact ((acc2.sub e34.vis).sub step).snoc (r4.sub step)
    rcases htest d hdm with ⟨rfl, hp⟩ | ⟨c, rfl, hc⟩
    · refine wpAny_tests_nil ?_
      simp only [if_true]
      exact wpAny_mono (more _ (.refl _ _) hp) (fun _ _ z => wpAny_mono z (fun _ _ z => z) fun _ _ z => z.elim) fun _ _ z => z.elim
    · refine wpAny_tests_one (wpAny_mono (hc A _ _ (fun b s₃ => Ext tb { s' with heap := h2, toks := tk2 } s₃ ∧ b = p d) hR O3 E3 fun s₃ e3 => ⟨e3, rfl⟩) (fun b s₃ ⟨e3, hb⟩ => ?_) fun _ _ z => z.elim)
      subst hb
      split
      · rename_i hp
        exact wpAny_mono (more s₃ e3 hp) (fun _ _ z => wpAny_mono z (fun _ _ z => z) fun _ _ z => z.elim) fun _ _ z => z.elim
      · rename_i hp
        exact next s₃ e3 (by simpa using hp)
  · -- the end
    have hi' : ds.length ≤ i := by simpa using hd
    have X2 : Ext tb s₁ { s' with heap := h' } := goExt s' h' s'.toks [I] (fun b h => by rw [List.mem_singleton] at h; exact h ▸ inI) (fun b o n g => hx1 b o (fun z => n (List.mem_singleton.mpr z)) g) (fun b h o g => by
      rw [List.mem_singleton] at h; subst h; rw [V.gi] at g; cases g; exact S.noCode _ _ V.so) V.ext
    refine hend _ X2 ?_ (hTk _ _ V.tgt fun b o h g => hx1 b o (fun z => hIW (z ▸ h)) g)
    have rp := V.rp
    rw [List.take_of_length_le hi'] at rp
    have step : Sub (vis tb P s'.heap) (vis tb (C :: X) h') := fun b o e => by
      obtain ⟨e0, n, m⟩ := vis_get e
      refine vis_mk (hx1 b o (fun z => m (z ▸ pI)) e0) n fun q => m ?_
      rcases List.mem_cons.mp q with q | q
      · exact q ▸ pW _ hCW
      · rw [← hP]; exact List.mem_cons_of_mem _ (List.mem_cons_of_mem _ (List.mem_append_right _ q))
    obtain ⟨oD, gDo, rD⟩ := V.gd.extBut hx1 (Ne.symm hID)
    exact Rp.ofList (vs := acc) ⟨oD, vis_mk gDo (ntab _ inD) (fun q => by
      rcases List.mem_cons.mp q with q | q
      · exact hDW (q ▸ hCW)
      · exact nX _ inD q), rD⟩ (rp.sub step)

theorem notTab_of {X : List Addr} {s₀ : Shared} {y : Addr} (o : Ok K off tb X s₀) (h : s₀.heap.get? y = none) : y ∉ tb.map (·.1) ∧ y ∉ X := by
  refine ⟨fun m => ?_, fun m => ?_⟩
  · obtain ⟨q, hq, e⟩ := List.mem_map.mp m
    obtain ⟨_, g, _⟩ := (o.tabs q hq).get
    rw [e, h] at g; cases g
  · obtain ⟨_, ob, g⟩ := o.priv y m
    rw [h] at g; cases g
theorem comp_gen {elt iter : Expr} {x : Str} {px : Pos} {ifs : List Expr} {scope : Scope} {pos : Pos} {cl : List (Str × Addr)} {ρ ρ' : Rho} {ds : List PyData} (p : PyData → Bool) (f : PyData → PyData)
    (hclos : closureFor scope env = pure cl) (hkind : scope.kind = .function) (hcell : ∀ y ∈ scope.names, y.2 ≠ .cell) (hnames : ∀ y ∈ scope.names, y.2 = .local → scope.names.lookup y.1 = some .local) (hx : scope.names.lookup x = some .local)
    (hpass : ∀ C, Passes env (compEnvC scope cl C env) ρ') (hsub : ∀ q ∈ ρ', q ∈ ρ) (hlen : ds.length ≤ sizeLine)
    (htest : ∀ d ∈ ds, ∀ C, PTs prog w K off tb k (compEnvC scope cl C env) ((x, d) :: ρ') ifs (p d))
    (helt : ∀ d ∈ ds, p d = true → ∀ C, PV prog w K off tb k (compEnvC scope cl C env) ((x, d) :: ρ') elt (f d))
    (hs : ∀ v, foldedSetIterable iter env v = pure v)
    (hiter : ∀ (A : Around) (X : List Addr) (s : Shared) (Q : Value → Shared → Prop), Room A k → Ok K off tb X s → EnvOk tb X env ρ s →
      (∀ v s', Ext tb s s' → (∃ SO, Src prog w tb k X s' v ds SO) → Q v s') → wpAny (model prog w) A (eval iter env) Q NoE s)
    {use : Option (Value → Sem Unit)} {pos' : Pos} {A : Around} {X : List Addr} {s : Shared} {Q : Value → Shared → Prop} (hR : Room A k) (hO : Ok K off tb X s) (hE : EnvOk tb X env ρ s)
    (hend : ∀ (D C : Addr) (s' : Shared) (mC : Str → Option Value), Ext tb s s' → Rp (vis tb (C :: X) s'.heap) (.ref D) (.list ((ds.filter p).map f)) → s'.heap.Ns C mC → s.heap.get? C = none → C ∉ X → C ∉ tb.map (·.1) →
      compPost (model prog w) A NoE use Q (.ref D) C (.ok .next) s') :
    wpAny (model prog w) A (comprehension (.ListComp elt [⟨.Name x px, iter, ifs, 0⟩] scope pos) scope env pos' (newList []) false (eval iter env) use) Q NoE s := by
  refine wpAny_comprehension_free rfl hs hclos hkind hnames (hiter A X s _ hR hO hE fun xv s₁ e₁ ⟨SO, S⟩ => ?_)
  have O1 := hO.ext e₁
  have E1 := hE.ext hO e₁
  refine S.lay A _ hR fun oI hSO hIf => ?_
  generalize hI : s₁.heap.objs.size = I
  refine wpAny_newObj_type ?_
  refine wpAny_newFunctionEnv hcell (by intro y hy; simp at hy) (fun h₁ hns hsb => ?_) hkind
  dsimp only at hns hsb ⊢
  generalize hH2 : (s₁.heap.push oI).push { cls := .type "list", dict := none, data := .seq ([] : List Value).toArray } = H2 at hns hsb ⊢
  generalize hD : (s₁.heap.push oI).objs.size = D
  generalize hC : H2.objs.size = C at hns hsb ⊢
  have hDI : D = I + 1 := by rw [← hD, ← hI, Heap.size_push]
  have hCI : C = I + 2 := by rw [← hC, ← hH2, Heap.size_push, hD, hDI]
  have none_ : ∀ b : Nat, I ≤ b → s₁.heap.get? b = none := fun b hb => Heap.get?_none_of_le (by rw [hI]; exact hb)
  have g2 : ∀ b o, (s₁.heap.push oI).get? b = some o → H2.get? b = some o := fun b o e => by rw [← hH2]; exact Heap.get?_push_of_some _ e
  have g2D : H2.get? D = some { cls := .type "list", dict := none, data := .seq ([] : List Value).toArray } := by
    rw [← hH2, ← hD]; exact Heap.get?_push_size _ rfl
  have k1 : ∀ b o, b ≠ C → H2.get? b = some o → h₁.get? b = some o := fun b o n e => hsb.extBut b o n (Heap.get?_push_of_some _ e)
  have gI : h₁.get? I = some oI := k1 I oI (by show @Ne Nat _ _; omega) (g2 _ _ (by rw [← hI]; exact Heap.get?_push_size _ hIf))
  have nC := none_ C (by omega)
  have hfin := @comp_loop prog w K off tb k elt iter x px ifs scope pos (compEnvC scope cl C env) ρ' ds p f SO xv [C] X (fun h => ∃ m, h.Ns C m) I D C oI A s₁ { s₁ with heap := h₁, toks := s₁.toks + ([] : List (Str × Value)).length } (compPost (model prog w) A NoE use Q (.ref D) C)
    S hR O1 (all3 (none_ I (Nat.le_refl _)) (none_ D (by omega)) nC) (by show @Ne Nat _ _; omega) (fun z => by have z : @Eq Nat I C := List.mem_singleton.mp z; omega) (fun z => by have z : @Eq Nat D C := List.mem_singleton.mp z; omega) List.mem_cons_self
    (fun h ⟨m, o, es, ep, g, d, _⟩ => all1 ⟨o, g, noCode_dict d⟩) (fun h h' ⟨m, o, es, ep, g, r⟩ kp => ⟨m, o, es, ep, kp _ _ List.mem_cons_self g, r⟩)
    (fun s' v Q ⟨m, n⟩ hQ => wpAny_assign_Name (wpAny_storeName_local (lookup_relabel_local hx) n (fun h2 n2 sb2 => hQ h2 _ ⟨_, n2⟩ (fun b o hb g => sb2.extBut b o (fun z => hb (List.mem_singleton.mpr z)) g) (.inl ⟨lookup_relabel_local hx, _, n2, by simp⟩)) (by simp [compEnvC, relabel, hkind])))
    hkind E1.globals E1.builtins List.mem_cons_self (fun s' e q hq => by
      obtain ⟨u, b, ru⟩ := E1.vars q (hsub q hq)
      obtain ⟨c1, c2, c3⟩ := hpass C q hq
      refine ⟨u, ?_, ru⟩
      rcases b.ext O1 E1.nloc e with ⟨kl, _⟩ | ⟨_, c, hc, hv⟩
      · rcases c1 with c1 | c1 <;> (rw [kl] at c1; cases c1)
      · exact .inr ⟨c2, c, c3.trans hc, hv⟩) hlen (fun d hd => htest d hd C) (fun d hd hp => helt d hd hp C)
    (fun s' e r ⟨mC, n⟩ => by
      have nn := notTab_of O1 nC
      refine hend D C _ _ (e₁.trans e) r n ?_ nn.2 nn.1
      cases hc : s.heap.get? C with
      | none => rfl
      | some o => rw [e₁.keep C o nn.1 hc] at nC; cases nC)
    (.of_sub (fun b o e => k1 b o (fun z => by rw [z, nC] at e; cases e) (g2 _ _ (Heap.get?_push_of_some _ e))) rfl rfl) gI hSO ⟨_, k1 D _ (by show @Ne Nat _ _; omega) g2D, rfl, _, rfl⟩ ⟨_, hns⟩
  exact codeAny_compStart_list hfin (S.self _ _ 0 oI I _ _ gI hSO hfin)

theorem comp_core {elt iter : Expr} {x : Str} {px : Pos} {ifs : List Expr} {scope : Scope} {pos : Pos} {cl : List (Str × Addr)} {ρ ρ' : Rho} {ds : List PyData} (p : PyData → Bool) (f : PyData → PyData)
    (hclos : closureFor scope env = pure cl) (hkind : scope.kind = .function) (hcell : ∀ y ∈ scope.names, y.2 ≠ .cell) (hnames : ∀ y ∈ scope.names, y.2 = .local → scope.names.lookup y.1 = some .local) (hx : scope.names.lookup x = some .local)
    (hpass : ∀ C, Passes env (compEnvC scope cl C env) ρ') (hsub : ∀ q ∈ ρ', q ∈ ρ) (hlen : ds.length ≤ sizeLine)
    (htest : ∀ d ∈ ds, ∀ C, PTs prog w K off tb k (compEnvC scope cl C env) ((x, d) :: ρ') ifs (p d))
    (helt : ∀ d ∈ ds, p d = true → ∀ C, PV prog w K off tb k (compEnvC scope cl C env) ((x, d) :: ρ') elt (f d))
    (hs : ∀ v, foldedSetIterable iter env v = pure v)
    (hiter : ∀ (A : Around) (X : List Addr) (s : Shared) (Q : Value → Shared → Prop), Room A k → Ok K off tb X s → EnvOk tb X env ρ s →
      (∀ v s', Ext tb s s' → (∃ SO, Src prog w tb k X s' v ds SO) → Q v s') → wpAny (model prog w) A (eval iter env) Q NoE s) :
    PV prog w K off tb k env ρ (.ListComp elt [⟨.Name x px, iter, ifs, 0⟩] scope pos) (.list ((ds.filter p).map f)) := by
  intro A X s Q hR hO hE h
  show wpAny (model prog w) A (comprehension (.ListComp elt [⟨.Name x px, iter, ifs, 0⟩] scope pos) scope env (firstIterPos [⟨.Name x px, iter, ifs, 0⟩] pos) (newList []) false (eval iter env) none) Q NoE s
  refine comp_gen (use := none) p f hclos hkind hcell hnames hx hpass hsub hlen htest helt hs hiter hR hO hE fun D C s' mC e r n c0 cX cT => ?_
  refine ⟨mC, n, fun h2 sb2 => ?_⟩
  obtain ⟨oC, esC, epC, gCo, dC, _⟩ := id n
  have X2 : Ext tb s { s' with heap := h2 } :=
    ⟨fun b ob n1 e1 => sb2.extBut b ob (fun z => by rw [z, c0] at e1; cases e1) (e.keep b ob n1 e1), fun q hq z => (e.tab q hq z).but sb2.extBut gCo (noCode_dict dC) (ne_of_tab cT hq), e.gens, e.os⟩
  refine h _ _ X2 (r.sub fun b o e1 => ?_)
  obtain ⟨e0, n1, m⟩ := vis_get e1
  exact vis_mk (sb2.extBut b o (fun z => m (z ▸ List.mem_cons_self)) e0) n1 fun q => m (List.mem_cons_of_mem _ q)
end
end Mine
end
section
open PySem PySem.W PySem.Calls PyProof.Rows
set_option maxRecDepth 100000
namespace Mine

section
variable {prog : Program} {w : World} {K : Frag} {off : List Addr} {tb : Tb} {k : Nat} {env : Env} {ρ : Rho} {mg mb : Str → Option Value}

abbrev nts (n : Nat) : List PyData := (List.range n).map fun j => .int (j : Nat)
/-- a range's object -/
def RgAt (h : Heap) (v : Value) (n : Nat) : Prop := ∃ r t u c, v = .ref r ∧ IsRange h r 0 n 1 t u c
theorem RgAt.sub {h h' : Heap} {v : Value} {n : Nat} (x : RgAt h v n) (s : Sub h h') : RgAt h' v n := let ⟨r, t, u, c, e, g⟩ := x; ⟨r, t, u, c, e, s _ _ g⟩

theorem src_range {X : List Addr} {s : Shared} {v : Value} {n : Nat} (hn : n < 2 ^ 62) (r : RgAt (vis tb X s.heap) v n) : ∃ SO, Src prog w tb k X s v (nts n) SO := by
  obtain ⟨a, t, u, c, rfl, g⟩ := r
  refine ⟨fun i o => i ≤ n ∧ o = { cls := .type "range_iterator", data := .fields #[rawInt i, rawInt ((n : Int) - i), rawInt 1] }, ?_, ?_, ?_, ?_⟩
  · intro A Q hR h
    have hsz : Builtin.Range.rangeSize 0 n 1 = n := by rw [rangeSize_one]; split <;> omega
    refine wpAny_pyIter_range (vis_below _ _ _ _ _ g) (small_one (by decide) (by decide) (by omega) (by omega)) ?_
    rw [hsz]
    exact h _ ⟨Nat.zero_le _, by simp⟩ rfl
  · intro A s' i o I Q E e so h
    obtain ⟨_, rfl⟩ := so
    exact wpAny_pyIter_rangeiter e h
  · rintro i o ⟨_, rfl⟩
    exact fun vs q t z => (by cases z; simp [rawInt])
  · intro A s' i o I Q E hR hs e so h1 h2
    obtain ⟨hi, rfl⟩ := so
    by_cases hlt : i < n
    · refine wpAny_pyNext_range_item e (by omega) fun h' it x => ?_
      refine h1 (.int i) (.int i s'.toks) h' (s'.toks + 1) _ (by simp [nts, hlt]) x.extBut it ⟨hlt, ?_⟩ .mkInt
      have e1 : (i : Int) + 1 = ((i + 1 : Nat) : Int) := by push_cast; rfl
      have e2 : (n : Int) - i - 1 = (n : Int) - ((i + 1 : Nat) : Int) := by push_cast; omega
      rw [e1, e2]
    · refine wpAny_pyNext_range_end hR.handled e (by omega) fun h' x => h2 h' (by simp [nts]; omega) x

/-- [elt for x in xs if ..] over a list -/
theorem pv_comp {elt iter : Expr} {x : Str} {px : Pos} {ifs : List Expr} {scope : Scope} {pos : Pos} {cl : List (Str × Addr)} {ρ ρ' : Rho} {ds es : List PyData} (p : PyData → Bool) (f : PyData → PyData)
    (hclos : closureFor scope env = pure cl) (hkind : scope.kind = .function) (hcell : ∀ y ∈ scope.names, y.2 ≠ .cell) (hnames : ∀ y ∈ scope.names, y.2 = .local → scope.names.lookup y.1 = some .local) (hx : scope.names.lookup x = some .local)
    (hpass : ∀ C, Passes env (compEnvC scope cl C env) ρ') (hsub : ∀ q ∈ ρ', q ∈ ρ) (hlen : ds.length ≤ sizeLine)
    (hiter : PV prog w K off tb k env ρ iter (.list ds))
    (htest : ∀ d ∈ ds, ∀ C, PTs prog w K off tb k (compEnvC scope cl C env) ((x, d) :: ρ') ifs (p d))
    (helt : ∀ d ∈ ds, p d = true → ∀ C, PV prog w K off tb k (compEnvC scope cl C env) ((x, d) :: ρ') elt (f d))
    (hes : es = (ds.filter p).map f)
    (hs : ∀ v, foldedSetIterable iter env v = pure v := by intro _; rfl) :
    PV prog w K off tb k env ρ (.ListComp elt [⟨.Name x px, iter, ifs, 0⟩] scope pos) (.list es) := by
  subst hes
  exact comp_core p f hclos hkind hcell hnames hx hpass hsub hlen htest helt hs fun A X s Q hR hO hE h => hiter A X s Q hR hO hE fun v s' e r => h v s' e (src_list r)

/-- range(n) -/
theorem eval_range {A : Around} {X : List Addr} {s : Shared} {Q : Value → Shared → Prop} {e : Expr} {p pos : Pos} {n : Nat} (G : Globs K off mg mb) (hm : mg "range" = none) (hv : mb "range" = some (.type "range")) (he : PV prog w K off tb k env ρ e (.int n))
    (hR : Room A k) (hO : Ok K off tb X s) (hE : EnvOk tb X env ρ s) (h : ∀ v s', Ext tb s s' → RgAt (vis tb X s'.heap) v n → Q v s')
    (hx : env.kindOf "range" = some .globalImplicit) (hst : starEach [e] env = [(false, eval e env)]) : wpAny (model prog w) A (eval (.Call (.Name "range" p) [e] [] pos) env) Q NoE s := by
  refine wpAny_Call_NameR (load_builtin G hO hE hm hv hx (by decide) ?_)
  rw [hst]
  refine PySem.callWith_type rfl (evalArgs_plain (spliced_cons (he A X s _ hR hO hE fun v s₁ e₁ r₁ => spliced_nil ?_)))
  obtain ⟨t, rfl⟩ := r₁.int
  refine call_range_1 (h _ _ (e₁.trans (.of_sub (.push _ _) rfl rfl)) ⟨_, s₁.toks, t, s₁.toks + 1, rfl, ?_⟩)
  exact vis_mk (Heap.get?_push_size _ rfl) (fresh_vis (hO.ext e₁)).1 (fresh_vis (hO.ext e₁)).2
end
end Mine
end
section
open PySem PySem.W PySem.Calls PyProof.Rows
set_option maxRecDepth 100000
namespace Mine

structure ExtO (tb : Tb) (Y : List Addr) (s s' : Shared) : Prop where
  keep : ∀ b o, b ∉ tb.map (·.1) → b ∉ Y → s.heap.get? b = some o → s'.heap.get? b = some o
  tab : ∀ p ∈ tb, TabOk s.heap p.1 p.2 → TabOk s'.heap p.1 p.2
  gens : s'.gens = s.gens
  os : s'.os = s.os
theorem ExtO.of {tb : Tb} {Y : List Addr} {s s' : Shared} (x : Ext tb s s') : ExtO tb Y s s' := ⟨fun b o n _ e => x.keep b o n e, x.tab, x.gens, x.os⟩
theorem ExtO.trans {tb : Tb} {Y : List Addr} {a b c : Shared} (x : ExtO tb Y a b) (y : ExtO tb Y b c) : ExtO tb Y a c :=
  ⟨fun k o n m e => y.keep k o n m (x.keep k o n m e), fun p hp e => y.tab p hp (x.tab p hp e), y.gens.trans x.gens, y.os.trans x.os⟩
theorem ExtO.vis {tb : Tb} {X Y : List Addr} {s s' : Shared} (x : ExtO tb Y s s') (h : ∀ y ∈ Y, y ∈ X) : Sub (vis tb X s.heap) (vis tb X s'.heap) := vis_sub fun b o n m e => x.keep b o n (fun q => m (h b q)) e

/-- the block's own objects: its names, its cells -/
def own (env : Env) : List Addr := env.locals :: env.scope.names.filterMap fun p => if p.2 == .cell then env.cells.lookup p.1 else none

def PB (prog : Program) (w : World) (K : Frag) (off : List Addr) (tb : Tb) (k : Nat) (env : Env) (ρ : Rho) (body : List Stmt) (d : PyData) : Prop :=
  ∀ (A : Around) (X : List Addr) (s : Shared) (Q : Flow → Shared → Prop), Room A k → Ok K off tb X s → EnvOk tb X env ρ s → (∀ y ∈ own env, y ∈ X) → (∃ m, s.heap.Ns env.locals m) →
    (∀ x c, env.kindOf x = some .cell → env.cells.lookup x = some c → ∃ v, s.heap.IsCell c v) → (∀ x y c, env.cells.lookup x = some c → env.cells.lookup y = some c → x = y) →
    (∀ v s', ExtO tb (own env) s s' → Rp (vis tb X s'.heap) v d → Q (.ret v) s') → wpAny (model prog w) A (execs body env) Q NoE s

section
variable {prog : Program} {w : World} {K : Frag} {off : List Addr} {tb : Tb} {k : Nat} {env : Env} {ρ : Rho} {mg mb : Str → Option Value}

theorem pb_return {e : Expr} {pos : Pos} {rest : List Stmt} {d : PyData} (h : PV prog w K off tb k env ρ e d) : PB prog w K off tb k env ρ (.Return (some e) pos :: rest) d := by
  intro A X s Q hR hO hE _ _ _ _ hQ
  refine wpAny_execs_cons (wpAny_Return_some (h A X s _ hR hO hE fun v s' e r => ?_))
  exact hQ v s' (.of e) r

end
end Mine
end
section
open PySem PySem.W PySem.Calls PyProof.Rows
set_option maxRecDepth 100000
namespace Mine
section
variable {prog : Program} {w : World} {K : Frag} {off : List Addr} {tb : Tb} {k : Nat} {env : Env} {ρ : Rho} {mg mb : Str → Option Value}

theorem own_cell {x : Str} {c : Addr} (hk : env.kindOf x = some .cell) (hc : env.cells.lookup x = some c) : c ∈ own env := by
  refine List.mem_cons_of_mem _ (List.mem_filterMap.mpr ⟨(x, .cell), mem_of_lookup hk, ?_⟩)
  simp [hc]

/- entering a def -/
theorem bindL_other {kd : Str → Option NameKind} {x : Str} : ∀ (binds : List (Str × Value)) (m : Str → Option Value), (∀ p ∈ binds, p.1 ≠ x) → bindL kd binds m x = m x
  | [], _, _ => rfl
  | (n, v) :: r, m, h => by
    unfold bindL
    rw [bindL_other r _ fun p hp => h p (List.mem_cons_of_mem _ hp)]
    have : n ≠ x := h (n, v) List.mem_cons_self
    split
    · exact if_neg (Ne.symm this)
    · rfl
theorem bindC_other {kd : Str → Option NameKind} {x : Str} : ∀ (binds : List (Str × Value)) (m : Str → Option Value), (∀ p ∈ binds, p.1 ≠ x) → bindC kd binds m x = m x
  | [], _, _ => rfl
  | (n, v) :: r, m, h => by
    unfold bindC
    rw [bindC_other r _ fun p hp => h p (List.mem_cons_of_mem _ hp)]
    have : n ≠ x := h (n, v) List.mem_cons_self
    split
    · rfl
    · exact if_neg (Ne.symm this)
theorem bindL_get {kd : Str → Option NameKind} : ∀ (binds : List (Str × Value)) (m : Str → Option Value), (binds.map (·.1)).Nodup → ∀ p ∈ binds, kd p.1 = some .local → bindL kd binds m p.1 = some p.2
  | [], _, _, _, hp, _ => nomatch hp
  | (n, v) :: r, m, h, p, hp, hk => by
    rw [List.map_cons, List.nodup_cons] at h
    unfold bindL
    rcases List.mem_cons.mp hp with rfl | hp
    · rw [bindL_other r _ (x := n) (fun q hq (z : q.1 = n) => h.1 (List.mem_map.mpr ⟨q, hq, z⟩)), if_pos hk]; simp
    · exact bindL_get r _ h.2 p hp hk
theorem bindC_get {kd : Str → Option NameKind} : ∀ (binds : List (Str × Value)) (m : Str → Option Value), (binds.map (·.1)).Nodup → ∀ p ∈ binds, kd p.1 = some .cell → bindC kd binds m p.1 = some p.2
  | [], _, _, _, hp, _ => nomatch hp
  | (n, v) :: r, m, h, p, hp, hk => by
    rw [List.map_cons, List.nodup_cons] at h
    unfold bindC
    rcases List.mem_cons.mp hp with rfl | hp
    · rw [bindC_other r _ (x := n) (fun q hq (z : q.1 = n) => h.1 (List.mem_map.mpr ⟨q, hq, z⟩)), if_neg (by rw [hk]; decide)]; simp
    · exact bindC_get r _ h.2 p hp hk

theorem zip_rp {h : Heap} : ∀ {xs : List Str} {vs : List Value} {ds : List PyData}, RpAll h vs ds → ∀ p ∈ xs.zip ds, ∃ v, (p.1, v) ∈ xs.zip vs ∧ Rp h v p.2
  | [], _, _, _, _, hp => by simp at hp
  | _ :: _, [], [], _, _, hp => by simp at hp
  | _ :: _, [], _ :: _, r, _, _ => by have := r.length; simp at this
  | _ :: _, _ :: _, [], r, _, _ => by have := r.length; simp at this
  | x :: xs, v :: vs, d :: ds, r, p, hp => by
    rw [List.zip_cons_cons] at hp
    rcases List.mem_cons.mp hp with rfl | hp
    · exact ⟨v, List.mem_cons_self, r.inv.1⟩
    · obtain ⟨u, a, b⟩ := zip_rp r.inv.2 p hp
      exact ⟨u, List.mem_cons_of_mem _ a, b⟩

theorem fn_enter {f : Addr} {o : Obj} {fd : FuncData} {body : List Stmt} {xs : List Str} {ds : List PyData} {d : PyData} (G : Globs K off mg mb) (ho : K.lookup f = some o) (hf : f ∉ off) (hdat : o.data = .func fd)
    (hbody : fd.body = .stmts body) (hclo : fd.closure = []) (hglob : fd.globals = mainGlobals) (hbuilt : fd.builtins = builtinsNs) (hcd : ∀ g, TopOk K off g → g.CodeRec fd.code fd.qualname)
    (hlen : xs.length = ds.length) (hbind : ∀ vs : List Value, vs.length = xs.length → bindArgs fd ⟨vs, []⟩ = pure (xs.zip vs)) (hnd : xs.Nodup)
    (hkind : ∀ x ∈ xs, fd.scope.names.lookup x = some .local ∨ (fd.scope.names.lookup x = some .cell ∧ ∀ L, ((cellsFrom L fd.scope.names []).lookup x).isSome = true))
    (huniq : ∀ L x y c, (cellsFrom L fd.scope.names []).lookup x = some c → (cellsFrom L fd.scope.names []).lookup y = some c → x = y)
    (hco : fd.scope.isCoroutine = false) (hgen : fd.scope.isGenerator = false) (hk : fd.scope.kind = .function)
    (h : ∀ L, PB prog w K off tb k (callEnvC fd L f) (xs.zip ds) body d) : Fn prog w K off tb (k + 1) (.ref f) ds d := by
  intro A X s vs Q hR hO r hQ
  have hvl : vs.length = xs.length := by rw [r.length, hlen]
  have hmem : ∀ p ∈ xs.zip vs, p.1 ∈ xs := fun p hp => (List.of_mem_zip hp).1
  have hnd' : ((xs.zip vs).map (·.1)).Nodup := by
    rw [List.map_fst_zip (by omega)]; exact hnd
  refine wpAny_call (codeAny_call_cells hR.lim (hO.get ho hf) hdat (hO.globs G).2.2 ((hcd _ hO.top).keeps (vis_below _ _ _)) hbody (hbind vs hvl) hclo
    (fun p hp => (hkind p.1 (hmem p hp)).imp id fun z => ⟨z.1, z.2 _⟩) (fun s₁ I => ?_) hco hgen hk)
  generalize hL : s.heap.objs.size = L at I ⊢
  have loc : (callEnvC fd L f).locals = L := rfl
  have cls : (callEnvC fd L f).cells = cellsFrom (L + 1) fd.scope.names [] := rfl
  obtain ⟨h₁, tk, hs₁⟩ := I.toInCall.same
  have e₁ : Ext tb s s₁ := .of_sub I.toInCall.keep (by rw [hs₁]) (by rw [hs₁])
  have old : ∀ (b : Nat) o, s.heap.get? b = some o → b < L := fun b o e => hL ▸ Heap.lt_size e
  have above : ∀ y ∈ own (callEnvC fd L f), @LE.le Nat _ L y ∧ ∃ o, s₁.heap.get? y = some o := fun y hy => by
    rcases List.mem_cons.mp hy with z | hy
    · subst z
      obtain ⟨o, es, ep, g, _⟩ := I.toInCall.ns
      exact ⟨Nat.le_refl _, o, g⟩
    · obtain ⟨p, hp, z⟩ := List.mem_filterMap.mp hy
      split at z
      · obtain ⟨o, g, _⟩ := I.cell _ _ z
        exact ⟨Nat.le_of_lt (I.above _ _ (mem_of_lookup z)), o, g⟩
      · cases z
  have ntab : ∀ b : Nat, L ≤ b → b ∉ tb.map (·.1) := fun b hb m => by
    obtain ⟨q, hq, e⟩ := List.mem_map.mp m
    obtain ⟨ps, z, _⟩ := (hO.tabs q hq).get
    have h0 : @LT.lt Nat _ q.1 L := old _ _ z
    have h1 : @Eq Nat q.1 b := e
    omega
  have visS : Sub (vis tb X s.heap) (vis tb (own (callEnvC fd L f) ++ X) s₁.heap) := fun (b : Nat) o e => by
    obtain ⟨e0, n, m⟩ := vis_get e
    refine vis_mk (e₁.keep b o n e0) n fun q => ?_
    rcases List.mem_append.mp q with q | q
    · have h0 := (above b q).1
      have h1 := old b o e0
      omega
    · exact m q
  have O1 : Ok K off tb (own (callEnvC fd L f) ++ X) s₁ := by
    refine ⟨fun y hy => ?_, fun q hq => e₁.tab q hq (hO.tabs q hq), hO.top.sub visS⟩
    rcases List.mem_append.mp hy with hy | hy
    · exact ⟨ntab _ (above y hy).1, (above y hy).2⟩
    · obtain ⟨n, o, e⟩ := hO.priv y hy
      exact ⟨n, o, e₁.keep y o n e⟩
  have E1 : EnvOk tb (own (callEnvC fd L f) ++ X) (callEnvC fd L f) (xs.zip ds) s₁ := by
    refine ⟨hk, hglob, hbuilt, ntab _ (Nat.le_refl _), fun p hp => ?_⟩
    obtain ⟨v, hv, rv⟩ := zip_rp r p hp
    refine ⟨v, ?_, rv.sub visS⟩
    rcases hkind p.1 (hmem (p.1, v) hv) with kl | ⟨kc, hc⟩
    · exact .inl ⟨kl, _, I.toInCall.ns, bindL_get _ _ hnd' (p.1, v) hv kl⟩
    · obtain ⟨c, hc⟩ := Option.isSome_iff_exists.mp (hc (L + 1))
      refine .inr ⟨.inl kc, c, hc, ?_⟩
      have := I.cell p.1 c hc
      rwa [bindC_get _ _ hnd' (p.1, v) hv kc] at this
  refine wpAny_mono (h L (A.deeper _) (own (callEnvC fd L f) ++ X) s₁ (fun fl s' => match fl with | .ret v => Q v s' | _ => False) hR.deeper O1 E1 (fun y hy => List.mem_append_left _ hy) ⟨_, I.toInCall.ns⟩
    (fun x c _ hc => ⟨_, I.cell x c hc⟩) (huniq (L + 1)) fun v s' e r => ?_) (fun fl s' z => ?_) fun _ _ z => z.elim
  · have ex : Ext tb s s' := ⟨fun (b : Nat) o n e0 => e.keep b o n (fun q => by have h0 := (above b q).1; have h1 := old b o e0; omega) (e₁.keep b o n e0), fun q hq z => e.tab q hq (e₁.tab q hq z), e.gens.trans e₁.gens, e.os.trans e₁.os⟩
    exact hQ v s' ex (r.sub (vis_more fun x hx => List.mem_append_right _ hx))
  · cases fl with
    | ret v => exact z
    | _ => exact z.elim
end
end Mine
end
section
open PySem PySem.W PySem.Calls PyProof.Rows
set_option maxRecDepth 100000
namespace Mine
section
variable {prog : Program} {w : World} {K : Frag} {off : List Addr} {tb : Tb} {k : Nat} {env : Env} {ρ : Rho} {mg mb : Str → Option Value}

theorem stored {x : Str} {a : PyData} {v : Value} {m : Str → Option Value} {X : List Addr} {s₁ : Shared} {h' : Heap} {t : Nat} (O1 : Ok K off tb X s₁) (E1 : EnvOk tb X env ρ s₁) (hX : ∀ y ∈ own env, y ∈ X) (hk : env.kindOf x = some .local)
    (hLn : s₁.heap.Ns env.locals m) (n' : h'.Ns env.locals (fun z => if z = x then some v else m z)) (sb : Heap.SameBut env.locals s₁.heap h') (r : Rp (vis tb X s₁.heap) v a) (hn : ∀ p ∈ ρ, p.1 ≠ x)
    (hC : ∀ x c, env.kindOf x = some .cell → env.cells.lookup x = some c → ∃ v, s₁.heap.IsCell c v) :
    ExtO tb (own env) s₁ { s₁ with heap := h', toks := t } ∧ Ok K off tb X { s₁ with heap := h', toks := t } ∧ EnvOk tb X env ((x, a) :: ρ) { s₁ with heap := h', toks := t } ∧
      (∀ x c, env.kindOf x = some .cell → env.cells.lookup x = some c → ∃ v, h'.IsCell c v) := by
  obtain ⟨oL, esL, epL, gL, dL, _⟩ := id hLn
  obtain ⟨oL', esL', epL', gL', dL', _⟩ := id n'
  have lx : env.locals ∈ X := hX _ List.mem_cons_self
  have x1 : ExtO tb (own env) s₁ { s₁ with heap := h', toks := t } :=
    ⟨fun b o _ m e => sb.extBut b o (fun z => m (z ▸ List.mem_cons_self)) e, fun q hq z => z.but sb.extBut gL (noCode_dict dL) (ne_of_tab E1.nloc hq), rfl, rfl⟩
  refine ⟨x1, ?_, ?_, fun y c k1 k2 => ?_⟩
  · refine ⟨fun y hy => ⟨(O1.priv y hy).1, ?_⟩, fun q hq => x1.tab q hq (O1.tabs q hq), O1.top.sub (x1.vis hX)⟩
    by_cases z : y = env.locals
    · subst z; exact ⟨_, gL'⟩
    · obtain ⟨o, e⟩ := (O1.priv y hy).2; exact ⟨o, sb.extBut y o z e⟩
  · refine ⟨E1.kind, E1.globals, E1.builtins, E1.nloc, fun q hq => ?_⟩
    rcases List.mem_cons.mp hq with rfl | hq
    · exact ⟨v, .inl ⟨hk, _, n', by simp⟩, r.sub (x1.vis hX)⟩
    · obtain ⟨u, b, ru⟩ := E1.vars q hq
      refine ⟨u, ?_, ru.sub (x1.vis hX)⟩
      rcases b with ⟨kl, m', n1, hm⟩ | ⟨kc, c, hc, hv⟩
      · refine .inl ⟨kl, _, n', ?_⟩
        have : m q.1 = m' q.1 := by
          obtain ⟨o1, es1, ep1, a1, a2, _, a3⟩ := n1
          obtain ⟨o2, es2, ep2, b1, b2, _, b3⟩ := hLn
          rw [a1] at b1; cases b1; rw [a2] at b2; cases b2
          rw [← a3, ← b3]
        simp only [if_neg (hn q hq), this, hm]
      · obtain ⟨oc, c1, c2⟩ := hv
        exact .inr ⟨kc, c, hc, oc, sb.extBut c oc (fun z => by rw [z, gL] at c1; cases c1; rw [dL] at c2; cases c2) c1, c2⟩
  · obtain ⟨v0, oc, c1, c2⟩ := hC y c k1 k2
    exact ⟨v0, oc, sb.extBut c oc (fun z => by rw [z, gL] at c1; cases c1; rw [dL] at c2; cases c2) c1, c2⟩

theorem Ok.less {X Y : List Addr} {s : Shared} (h : Ok K off tb Y s) (k : ∀ x ∈ X, x ∈ Y) : Ok K off tb X s := ⟨fun x hx => h.priv x (k x hx), h.tabs, h.top.sub (vis_more k)⟩
theorem EnvOk.less {X Y : List Addr} {s : Shared} (h : EnvOk tb Y env ρ s) (k : ∀ x ∈ X, x ∈ Y) : EnvOk tb X env ρ s := ⟨h.kind, h.globals, h.builtins, h.nloc, fun p hp => let ⟨v, b, r⟩ := h.vars p hp; ⟨v, b, r.sub (vis_more k)⟩⟩

theorem pv_var {x : Str} {pos : Pos} {d : PyData} (hm : ρ.lookup x = some d) (hd : (x == ("__debug__" : Str)) = false := by decide) (hn : (x == ("__classdict__" : Str)) = false := by decide) : PV prog w K off tb k env ρ (.Name x pos) d :=
  pv_name (PySem.mem_of_lookup hm) hd hn
theorem op_floordiv_int {a b : Int} (hb : b ≠ 0) (hs : b.natAbs < 1073741824) : OpB prog w K off tb k .FloorDiv (.int a) (.int b) (.int (a.fdiv b)) := by
  intro A X s Q v u hR hO r q h
  obtain ⟨t, rfl⟩ := r.int; obtain ⟨t', rfl⟩ := q.int
  exact PyProof.Rows.floordiv_int hb (h _ _ (ext_tok _ _) .mkInt) (.inl (PyProof.noPylong_small hs))
end
end Mine
end
section
open PySem PySem.W PyProof.Rows
namespace Mine
open Builtin.Str

abbrev dot : Str := "."
abbrev parts (x : Str) : List Str := Txt.split x dot
theorem dot_eq : dot = ⟨#[46]⟩ := by decide +kernel
abbrev tl (x : Str) : List Nat := x.cps.toList
theorem tl_inj {x y : Str} (h : tl x = tl y) : x = y := Str.ext' (Array.toList_inj.mp h)

def cut : List Nat → List (List Nat)
  | [] => [[]]
  | a :: r => if a = 46 then [] :: cut r else match cut r with | p :: ps => (a :: p) :: ps | [] => [[a]]
theorem cut_ne (l : List Nat) : cut l ≠ [] := by
  cases l with
  | nil => simp [cut]
  | cons a r =>
    unfold cut
    split
    · simp
    · split <;> simp
theorem cut_dot (r : List Nat) : cut (46 :: r) = [] :: cut r := by simp [cut]
theorem cut_other {a : Nat} {r p : List Nat} {ps : List (List Nat)} (h : a ≠ 46) (e : cut r = p :: ps) : cut (a :: r) = (a :: p) :: ps := by simp [cut, h, e]

theorem occ_loop (x : Str) (limit : Nat) : ∀ (l : List Nat) (st : Array Nat × Nat), l.Pairwise (· < ·) → (∀ i ∈ l, st.2 ≤ i) → st.1.size + l.length ≤ limit →
    (forIn l st (StrLaws.occBody x ⟨#[46]⟩ x.length limit)).run.1.toList = st.1.toList ++ l.filter (fun i => decide ((tl x)[i]? = some 46))
  | [], st, _, _, _ => by simp
  | a :: l, st, hp, hf, hl => by
    rw [List.forIn_cons]
    unfold StrLaws.occBody
    have hp' := List.pairwise_cons.mp hp
    simp only [List.length_cons] at hl
    by_cases hc : (tl x)[a]? = some 46
    · have c1 : ((st.1.size < limit ∧ st.2 ≤ a) ∧ a + (⟨#[46]⟩ : Str).length ≤ x.length) ∧ subAt x ⟨#[46]⟩ a = true :=
        ⟨⟨⟨by omega, hf a List.mem_cons_self⟩, ((StrLaws.subAt_one x 46 a).mpr hc).1⟩, ((StrLaws.subAt_one x 46 a).mpr hc).2⟩
      rw [if_pos c1]
      have ih := occ_loop x limit l (st.1.push a, a + (⟨#[46]⟩ : Str).length) hp'.2 (fun i hi => hp'.1 i hi) (by simp; omega)
      rw [List.filter_cons_of_pos (by simpa using hc)]
      simp only [Array.toList_push, List.append_assoc, List.singleton_append] at ih
      exact ih
    · have c1 : ¬ (((st.1.size < limit ∧ st.2 ≤ a) ∧ a + (⟨#[46]⟩ : Str).length ≤ x.length) ∧ subAt x ⟨#[46]⟩ a = true) := fun h => hc ((StrLaws.subAt_one x 46 a).mp ⟨h.1.2, h.2⟩)
      rw [if_neg c1]
      have ih := occ_loop x limit l st hp'.2 (fun i hi => hf i (List.mem_cons_of_mem _ hi)) (by omega)
      rw [List.filter_cons_of_neg (by simpa using hc)]
      exact ih
theorem occ_dot (x : Str) : occurrences x ⟨#[46]⟩ 0 x.length (x.length + 1) = (List.range' 0 (x.length + 1)).filter (fun i => decide ((tl x)[i]? = some 46)) := by
  rw [StrLaws.occ_eq, Nat.sub_zero, occ_loop x _ _ _ (List.pairwise_lt_range') (fun _ _ => Nat.zero_le _) (by simp)]
  simp

theorem split_eq (x : Str) : parts x = partsBetween x (occurrences x dot 0 x.length (x.length + 1)) dot.length := by
  have h : some (WData.list ((partsBetween x (occurrences x dot 0 x.length (x.length + 1)) dot.length).map .str)) = some (.list ((Txt.split x dot).map .str)) := m_split x dot rfl
  simp only [Option.some.injEq, WData.list.injEq] at h
  exact (List.map_inj_right (fun a b h => by cases h; rfl)).mp h.symm
theorem sub_tl (x : Str) (i j : Nat) : tl (strSub x i j) = ((tl x).drop i).take (j - i) := StrLaws.strSub_toList x i j
theorem partsFrom_step (x : Str) (a c0 : Nat) (h : (tl x)[a]? = some c0) : ∀ cuts : List Nat, (∀ c ∈ cuts, a + 1 ≤ c) → (StrLaws.partsFrom x 1 a cuts).map tl =
    match (StrLaws.partsFrom x 1 (a + 1) cuts).map tl with | p :: ps => (c0 :: p) :: ps | [] => [[c0]] := by
  have hd : (tl x).drop a = c0 :: (tl x).drop (a + 1) := by
    obtain ⟨hl, e⟩ := List.getElem?_eq_some_iff.mp h
    rw [List.drop_eq_getElem_cons hl, e]
  have hlt : a < x.length := by obtain ⟨hl, e⟩ := List.getElem?_eq_some_iff.mp h; simpa [Str.length] using hl
  intro cuts hc
  cases cuts with
  | nil =>
    simp only [StrLaws.partsFrom, List.map_cons, List.map_nil, sub_tl, hd]
    rw [show x.length - a = (x.length - (a + 1)) + 1 by omega, List.take_succ_cons]
  | cons c r =>
    have := hc c List.mem_cons_self
    simp only [StrLaws.partsFrom, List.map_cons, sub_tl, hd]
    rw [show c - a = (c - (a + 1)) + 1 by omega, List.take_succ_cons]
theorem partsFrom_cut (x : Str) : ∀ (n a : Nat), a + n = x.length → (StrLaws.partsFrom x 1 a ((List.range' a (n + 1)).filter (fun i => decide ((tl x)[i]? = some 46)))).map tl = cut ((tl x).drop a)
  | 0, a, h => by
    have hn : (tl x)[a]? = none := by simp [Str.length] at h ⊢; omega
    have hd : (tl x).drop a = [] := by simp [Str.length] at h ⊢; omega
    have e : (List.range' a (0 + 1)).filter (fun i => decide ((tl x)[i]? = some 46)) = [] := by
      rw [List.range'_succ, List.filter_cons_of_neg (by rw [hn]; simp)]; rfl
    rw [e, hd]
    simp only [StrLaws.partsFrom, List.map_cons, List.map_nil, sub_tl, hd, List.take_nil, cut]
  | n + 1, a, h => by
    have hl : a < (tl x).length := by simp [Str.length] at h ⊢; omega
    have ih := partsFrom_cut x n (a + 1) (by omega)
    have hd : (tl x).drop a = (tl x)[a] :: (tl x).drop (a + 1) := List.drop_eq_getElem_cons hl
    have hg : (tl x)[a]? = some (tl x)[a] := List.getElem?_eq_getElem hl
    rw [hd, List.range'_succ]
    by_cases e : (tl x)[a] = 46
    · rw [List.filter_cons_of_pos (by rw [hg, e]; simp)]
      simp only [StrLaws.partsFrom, List.map_cons, ih, e, cut_dot, sub_tl, Nat.sub_self, List.take_zero]
    · rw [List.filter_cons_of_neg (by rw [hg]; simpa using e), partsFrom_step x a _ hg _ (fun c hc => by
        have := (List.mem_range'_1.mp (List.mem_filter.mp hc).1).1; omega), ih]
      conv => rhs; unfold cut
      rw [if_neg e]
theorem parts_cut (x : Str) : (parts x).map tl = cut (tl x) := by
  rw [split_eq, dot_eq, occ_dot, StrLaws.partsBetween_eq]
  exact partsFrom_cut x x.length 0 (by omega)

theorem cut_prefix : ∀ xs ys : List Nat, cut xs <+: cut ys ↔ (ys = xs ∨ (xs ++ [46]) <+: ys)
  | [], ys => by
    cases ys with
    | nil => simp [cut]
    | cons b r =>
      by_cases e : b = 46
      · subst e; rw [cut_dot]; simp [cut, List.cons_prefix_cons]
      · obtain ⟨p, ps, h⟩ : ∃ p ps, cut r = p :: ps := by cases h : cut r with | nil => exact absurd h (cut_ne r) | cons p ps => exact ⟨p, ps, rfl⟩
        rw [cut_other e h]
        simp [cut, List.cons_prefix_cons, Ne.symm e]
  | c :: xs, [] => by
    by_cases e : c = 46
    · subst e; rw [cut_dot]
      simp [cut, List.cons_prefix_cons, cut_ne]
    · obtain ⟨p, ps, h⟩ : ∃ p ps, cut xs = p :: ps := by cases h : cut xs with | nil => exact absurd h (cut_ne xs) | cons p ps => exact ⟨p, ps, rfl⟩
      rw [cut_other e h]
      simp [cut, List.cons_prefix_cons]
  | c :: xs, b :: ys => by
    have ih := cut_prefix xs ys
    obtain ⟨p, ps, h⟩ : ∃ p ps, cut xs = p :: ps := by cases h : cut xs with | nil => exact absurd h (cut_ne xs) | cons p ps => exact ⟨p, ps, rfl⟩
    obtain ⟨q, qs, g⟩ : ∃ p ps, cut ys = p :: ps := by cases h : cut ys with | nil => exact absurd h (cut_ne ys) | cons p ps => exact ⟨p, ps, rfl⟩
    by_cases e : c = 46 <;> by_cases e' : b = 46
    · subst e e'; rw [cut_dot, cut_dot]; simp [List.cons_prefix_cons, ih]
    · subst e; rw [cut_dot, cut_other e' g]; simp [List.cons_prefix_cons, Ne.symm e', e']
    · subst e'; rw [cut_dot, cut_other e h]; simp [List.cons_prefix_cons, e, Ne.symm e]
    · rw [cut_other e h, cut_other e' g]
      rw [h, g] at ih
      simp only [List.cons_prefix_cons, List.cons.injEq, List.cons_append] at ih ⊢
      constructor
      · rintro ⟨⟨e1, e2⟩, e3⟩
        rcases ih.mp ⟨e2, e3⟩ with z | z
        · exact .inl ⟨e1.symm, z⟩
        · exact .inr ⟨e1, z⟩
      · rintro (⟨e1, z⟩ | ⟨e1, z⟩)
        · obtain ⟨e2, e3⟩ := ih.mpr (.inl z); exact ⟨⟨e1.symm, e2⟩, e3⟩
        · obtain ⟨e2, e3⟩ := ih.mpr (.inr z); exact ⟨⟨e1, e2⟩, e3⟩

/-- the parts of x stand ahead among those of y -/
def isAbove (x y : Str) : Bool := decide ((parts y).take (parts x).length = parts x)
theorem map_tl_inj {a b : List Str} (h : a.map tl = b.map tl) : a = b := (List.map_inj_right (fun _ _ h => tl_inj h)).mp h
theorem isAbove_iff (x y : Str) : isAbove x y = true ↔ parts x <+: parts y := by
  unfold isAbove
  rw [decide_eq_true_eq, List.prefix_iff_eq_take]
  exact eq_comm
theorem prefix_map {a b : List Str} : a.map tl <+: b.map tl ↔ a <+: b := by
  constructor
  · intro h
    rw [List.prefix_iff_eq_take] at h ⊢
    rw [List.length_map, ← List.map_take] at h
    exact map_tl_inj h
  · exact fun h => h.map _
theorem startswith_iff (y z : Str) : Txt.startswith y z = true ↔ tl z <+: tl y := by
  unfold Txt.startswith
  rw [Bool.and_eq_true, decide_eq_true_eq, StrLaws.subAt_eq, beq_iff_eq, List.prefix_iff_eq_take]
  simp only [List.drop_zero]
  constructor
  · rintro ⟨_, h⟩; simpa [Str.length] using h.symm
  · intro h
    have e : (tl z).length = z.length := by simp [Str.length]
    refine ⟨?_, by rw [e] at h; exact h.symm⟩
    have := congrArg List.length h
    rw [List.length_take, e] at this
    have e2 : (tl y).length = y.length := by simp [Str.length]
    omega
/-- what a reader of the name x tells of y -/
theorem isAbove_eq (x y : Str) : isAbove x y = (y == x || Txt.startswith y (x ++ dot)) := by
  rw [Bool.eq_iff_iff, isAbove_iff, ← prefix_map, parts_cut, parts_cut, cut_prefix, Bool.or_eq_true, startswith_iff, beq_iff_eq, dot_eq]
  have e : tl (x ++ ⟨#[46]⟩) = tl x ++ [46] := by simp [tl, Str.cps_append]
  rw [e]
  exact ⟨fun h => h.imp tl_inj id, fun h => h.imp (congrArg _) id⟩

end Mine
end
section
open PySem PySem.W PySem.W.X PyProof.Rows
set_option maxRecDepth 100000
set_option maxHeartbeats 0
namespace Mine
def stOf (i : Nat) : Option Stmt := PySem.Challenge.pw_mr0152_02.main.body[i]?
def inClass : Option Stmt → Nat → Option Stmt
  | some (.ClassDef _ _ _ b _ _ _ _ _ _ _), i => b[i]?
  | _, _ => none
def fArgs : Option Stmt → Arguments
  | some (.FunctionDef _ a _ _ _ _ _ _ _ _) => a
  | _ => ⟨[], [], none, [], [], none, []⟩
def fBody : Option Stmt → List Stmt
  | some (.FunctionDef _ _ b _ _ _ _ _ _ _) => b
  | _ => []
def fScope : Option Stmt → Scope
  | some (.FunctionDef _ _ _ _ _ _ s _ _ _) => s
  | _ => ⟨.function, [], false, false, []⟩
/-- a def's object: its block as the row's term has it -/
def fnO (st : Option Stmt) (name qual : Str) (dfl pm : Value) (code : Addr) : Obj :=
  { cls := .type "function", data := .func { name := name, qualname := qual, params := fArgs st, body := .stmts (fBody st), scope := fScope st, globals := 3, closure := [], defaults := dfl, kwdefaults := .none, pyModule := pm, code := .ref code } }
/-- what the proofs look at -/
noncomputable def K0 : Params → Frag := fun P => ((nat_lit 2 : Nat), (
    { cls := Value.none, data := Data.dict #[] } : Obj)) ::
  ((nat_lit 3 : Nat), (
    { cls := Value.type "dict",
      data :=
        Data.dict
          #[{ hash := PyData.keyHash P (Str.ofString "__name__"), key := Value.str (Str.ofString "__name__") 165,
              val := Value.str (Str.ofString "law_mr0152_02") 318 },
            { hash := PyData.keyHash P (Str.ofString "__doc__"), key := Value.str (Str.ofString "__doc__") 166,
              val := Value.none },
            { hash := PyData.keyHash P (Str.ofString "__package__"), key := Value.str (Str.ofString "__package__") 167,
              val := Value.none },
            { hash := PyData.keyHash P (Str.ofString "__loader__"), key := Value.str (Str.ofString "__loader__") 168,
              val := Value.builtin "__main__.__loader__#opaque" },
            { hash := PyData.keyHash P (Str.ofString "__spec__"), key := Value.str (Str.ofString "__spec__") 169,
              val := Value.none },
            { hash := PyData.keyHash P (Str.ofString "__annotations__"),
              key := Value.str (Str.ofString "__annotations__") 170, val := Value.ref 6 },
            { hash := PyData.keyHash P (Str.ofString "__builtins__"), key := Value.str (Str.ofString "__builtins__") 171,
              val := Value.ref 4 },
            { hash := PyData.keyHash P (Str.ofString "__file__"), key := Value.str (Str.ofString "__file__") 173,
              val := Value.str (Str.ofString "/claim/cut.py") 172 },
            { hash := PyData.keyHash P (Str.ofString "__cached__"), key := Value.str (Str.ofString "__cached__") 174,
              val := Value.none },
            { hash := PyData.keyHash P (Str.ofString "_wall"), key := Value.str (Str.ofString "_wall") 193,
              val := Value.ref 21 },
            { hash := PyData.keyHash P (Str.ofString "cmp_to_key"), key := Value.str (Str.ofString "cmp_to_key") 204,
              val := Value.ref 28 },
            { hash := PyData.keyHash P (Str.ofString "_initial_missing"),
              key := Value.str (Str.ofString "_initial_missing") 205, val := Value.ref 29 },
            { hash := PyData.keyHash P (Str.ofString "reduce"), key := Value.str (Str.ofString "reduce") 217,
              val := Value.ref 37 },
            { hash := PyData.keyHash P (Str.ofString "sep"), key := Value.str (Str.ofString "sep") 219,
              val := Value.str (Str.ofString "/") 218 },
            { hash := PyData.keyHash P (Str.ofString "_kind"), key := Value.str (Str.ofString "_kind") 230,
              val := Value.ref 44 },
            { hash := PyData.keyHash P (Str.ofString "_c_path"), key := Value.str (Str.ofString "_c_path") 243,
              val := Value.ref 51 },
            { hash := PyData.keyHash P (Str.ofString "_splitroot"), key := Value.str (Str.ofString "_splitroot") 252,
              val := Value.ref 58 },
            { hash := PyData.keyHash P (Str.ofString "_normpath"), key := Value.str (Str.ofString "_normpath") 267,
              val := Value.ref 65 },
            { hash := PyData.keyHash P (Str.ofString "normpath"), key := Value.str (Str.ofString "normpath") 275,
              val := Value.ref 72 },
            { hash := PyData.keyHash P (Str.ofString "_Ignore"), key := Value.str (Str.ofString "_Ignore") 317,
              val := Value.ref 95 },
            { hash := PyData.keyHash P (Str.ofString "_law_drawn"), key := Value.str (Str.ofString "_law_drawn") 331,
              val := Value.ref 106 },
            { hash := PyData.keyHash P (Str.ofString "_law_tree"), key := Value.str (Str.ofString "_law_tree") 337,
              val := Value.ref 111 },
            { hash := PyData.keyHash P (Str.ofString "_law_answers"), key := Value.str (Str.ofString "_law_answers") 343,
              val := Value.ref 116 },
            { hash := PyData.keyHash P (Str.ofString "_law_chains"), key := Value.str (Str.ofString "_law_chains") 349,
              val := Value.ref 121 },
            { hash := PyData.keyHash P (Str.ofString "_law_hung"), key := Value.str (Str.ofString "_law_hung") 360,
              val := Value.ref 128 },
            { hash := PyData.keyHash P (Str.ofString "law"), key := Value.str (Str.ofString "law") 366,
              val := Value.ref 133 }]
          26 } : Obj)) ::
  ((nat_lit 23 : Nat), (
    tabObj #[] : Obj)) ::
  ((nat_lit 27 : Nat), (
    { cls := Value.type "code",
      data :=
        Data.fields
          #[Value.str (Str.ofString "cmp_to_key") 196, Value.str (Str.ofString "cmp_to_key") 197,
            Value.str (Str.ofString "/claim/cut.py") 198, Value.int 5 0, Value.int 1 0, Value.int 0 0, Value.int 0 0,
            Value.int 3 0, Value.ref 22, Value.bool true, Value.int 181 0, Value.ref 23, Value.none, Value.ref 24,
            Value.ref 25, Value.ref 26, Value.int 202 0, Value.int 5 0, Value.str (Str.ofString "/claim/cut.py") 203] } : Obj)) ::
  ((nat_lit 28 : Nat), (
    fnO (stOf 2) (Str.ofString "cmp_to_key") (Str.ofString "cmp_to_key") (Value.none) (Value.str (Str.ofString "cpy313.functools") 194) 27 : Obj)) ::
  ((nat_lit 29 : Nat), (
    { cls := Value.type "object" } : Obj)) ::
  ((nat_lit 30 : Nat), (
    { cls := Value.type "tuple", data := Data.seq #[Value.ref 29] } : Obj)) ::
  ((nat_lit 36 : Nat), (
    { cls := Value.type "code",
      data :=
        Data.fields
          #[Value.str (Str.ofString "reduce") 206, Value.str (Str.ofString "reduce") 207,
            Value.str (Str.ofString "/claim/cut.py") 208, Value.int 31 0, Value.int 3 0, Value.int 0 0, Value.int 0 0,
            Value.int 3 0, Value.ref 31, Value.bool true, Value.int 181 0, Value.ref 32, Value.none, Value.ref 33,
            Value.ref 34, Value.ref 35, Value.int 215 0, Value.int 31 0, Value.str (Str.ofString "/claim/cut.py") 216] } : Obj)) ::
  ((nat_lit 37 : Nat), (
    fnO (stOf 4) (Str.ofString "reduce") (Str.ofString "reduce") (Value.ref 30) (Value.str (Str.ofString "cpy313.functools") 194) 36 : Obj)) ::
  ((nat_lit 80 : Nat), (
    { cls := Value.type "tuple", data := Data.seq #[Value.none, Value.none] } : Obj)) ::
  ((nat_lit 84 : Nat), (
    { cls := Value.type "code",
      data :=
        Data.fields
          #[Value.str (Str.ofString "__init__") 290, Value.str (Str.ofString "_Ignore.__init__") 291,
            Value.str (Str.ofString "/claim/cut.py") 292, Value.int 110 0, Value.int 3 0, Value.int 0 0, Value.int 0 0,
            Value.int 3 0, Value.ref 81, Value.bool true, Value.int 181 0, Value.ref 82, Value.none, Value.none, Value.none,
            Value.ref 83, Value.int 293 0, Value.int 110 0, Value.str (Str.ofString "/claim/cut.py") 294] } : Obj)) ::
  ((nat_lit 85 : Nat), (
    fnO (inClass (stOf 13) 0) (Str.ofString "__init__") (Str.ofString "_Ignore.__init__") (Value.ref 80) (Value.str (Str.ofString "cpy313.trace") 276) 84 : Obj)) ::
  ((nat_lit 91 : Nat), (
    { cls := Value.type "code",
      data :=
        Data.fields
          #[Value.str (Str.ofString "names") 296, Value.str (Str.ofString "_Ignore.names") 297,
            Value.str (Str.ofString "/claim/cut.py") 298, Value.int 115 0, Value.int 3 0, Value.int 0 0, Value.int 0 0,
            Value.int 3 0, Value.ref 86, Value.bool true, Value.int 181 0, Value.ref 87, Value.none, Value.ref 88,
            Value.ref 89, Value.ref 90, Value.int 304 0, Value.int 115 0, Value.str (Str.ofString "/claim/cut.py") 305] } : Obj)) ::
  ((nat_lit 92 : Nat), (
    fnO (inClass (stOf 13) 1) (Str.ofString "names") (Str.ofString "_Ignore.names") (Value.none) (Value.str (Str.ofString "cpy313.trace") 276) 91 : Obj)) ::
  ((nat_lit 94 : Nat), (
    { cls := Value.type "dict",
      data :=
        Data.dict
          #[{ hash := PyData.keyHash P (Str.ofString "__module__"), key := Value.str (Str.ofString "__module__") 285,
              val := Value.str (Str.ofString "cpy313.trace") 276 },
            { hash := PyData.keyHash P (Str.ofString "__firstlineno__"),
              key := Value.str (Str.ofString "__firstlineno__") 289, val := Value.int 108 288 },
            { hash := PyData.keyHash P (Str.ofString "__init__"), key := Value.str (Str.ofString "__init__") 295,
              val := Value.ref 85 },
            { hash := PyData.keyHash P (Str.ofString "names"), key := Value.str (Str.ofString "names") 306,
              val := Value.ref 92 },
            { hash := PyData.keyHash P (Str.ofString "__static_attributes__"),
              key := Value.str (Str.ofString "__static_attributes__") 310, val := Value.ref 93 },
            { hash := PyData.keyHash P (Str.ofString "__dict__"), key := Value.str (Str.ofString "__dict__") 312,
              val := Value.ref 96 },
            { hash := PyData.keyHash P (Str.ofString "__weakref__"), key := Value.str (Str.ofString "__weakref__") 314,
              val := Value.ref 97 },
            { hash := PyData.keyHash P (Str.ofString "__doc__"), key := Value.str (Str.ofString "__doc__") 315,
              val := Value.none }]
          4 } : Obj)) ::
  ((nat_lit 95 : Nat), (
    { cls := Value.type "type",
      data :=
        Data.cls
          { name := Str.ofString "_Ignore", bases := [Value.type "object"], mro := [Value.ref 95, Value.type "object"],
            ns := 94, qualname := Str.ofString "_Ignore" },
      slots :=
        #[none, none, some (Value.str (Str.ofString "_Ignore") 278), some (Value.str (Str.ofString "_Ignore") 286),
          some (Value.builtin "object.__new__"), some (Value.bool true)] } : Obj)) ::
  ((nat_lit 105 : Nat), (
    { cls := Value.type "code",
      data :=
        Data.fields
          #[Value.str (Str.ofString "_law_drawn") 320, Value.str (Str.ofString "_law_drawn") 321,
            Value.str (Str.ofString "/claim/cut.py") 322, Value.int 135 0, Value.int 1 0, Value.int 0 0, Value.int 0 0,
            Value.int 3 0, Value.ref 100, Value.bool true, Value.int 181 0, Value.ref 101, Value.none, Value.ref 102,
            Value.ref 103, Value.ref 104, Value.int 329 0, Value.int 135 0, Value.str (Str.ofString "/claim/cut.py") 330] } : Obj)) ::
  ((nat_lit 106 : Nat), (
    fnO (stOf 15) (Str.ofString "_law_drawn") (Str.ofString "_law_drawn") (Value.none) (Value.str (Str.ofString "law_mr0152_02") 318) 105 : Obj)) ::
  ((nat_lit 110 : Nat), (
    { cls := Value.type "code",
      data :=
        Data.fields
          #[Value.str (Str.ofString "_law_tree") 332, Value.str (Str.ofString "_law_tree") 333,
            Value.str (Str.ofString "/claim/cut.py") 334, Value.int 142 0, Value.int 4 0, Value.int 0 0, Value.int 0 0,
            Value.int 3 0, Value.ref 107, Value.bool true, Value.int 181 0, Value.ref 108, Value.none, Value.none,
            Value.none, Value.ref 109, Value.int 335 0, Value.int 142 0, Value.str (Str.ofString "/claim/cut.py") 336] } : Obj)) ::
  ((nat_lit 111 : Nat), (
    fnO (stOf 16) (Str.ofString "_law_tree") (Str.ofString "_law_tree") (Value.none) (Value.str (Str.ofString "law_mr0152_02") 318) 110 : Obj)) ::
  ((nat_lit 115 : Nat), (
    { cls := Value.type "code",
      data :=
        Data.fields
          #[Value.str (Str.ofString "_law_answers") 338, Value.str (Str.ofString "_law_answers") 339,
            Value.str (Str.ofString "/claim/cut.py") 340, Value.int 144 0, Value.int 2 0, Value.int 0 0, Value.int 0 0,
            Value.int 3 0, Value.ref 112, Value.bool true, Value.int 181 0, Value.ref 113, Value.none, Value.none,
            Value.none, Value.ref 114, Value.int 341 0, Value.int 144 0, Value.str (Str.ofString "/claim/cut.py") 342] } : Obj)) ::
  ((nat_lit 116 : Nat), (
    fnO (stOf 17) (Str.ofString "_law_answers") (Str.ofString "_law_answers") (Value.none) (Value.str (Str.ofString "law_mr0152_02") 318) 115 : Obj)) ::
  ((nat_lit 118 : Nat), (
    tabObj #[] : Obj)) ::
  ((nat_lit 120 : Nat), (
    { cls := Value.type "code",
      data :=
        Data.fields
          #[Value.str (Str.ofString "_law_chains") 344, Value.str (Str.ofString "_law_chains") 345,
            Value.str (Str.ofString "/claim/cut.py") 346, Value.int 147 0, Value.int 1 0, Value.int 0 0, Value.int 0 0,
            Value.int 3 0, Value.ref 117, Value.bool true, Value.int 181 0, Value.ref 118, Value.none, Value.none,
            Value.none, Value.ref 119, Value.int 347 0, Value.int 147 0, Value.str (Str.ofString "/claim/cut.py") 348] } : Obj)) ::
  ((nat_lit 121 : Nat), (
    fnO (stOf 18) (Str.ofString "_law_chains") (Str.ofString "_law_chains") (Value.none) (Value.str (Str.ofString "law_mr0152_02") 318) 120 : Obj)) ::
  ((nat_lit 127 : Nat), (
    { cls := Value.type "code",
      data :=
        Data.fields
          #[Value.str (Str.ofString "_law_hung") 350, Value.str (Str.ofString "_law_hung") 351,
            Value.str (Str.ofString "/claim/cut.py") 352, Value.int 151 0, Value.int 2 0, Value.int 0 0, Value.int 0 0,
            Value.int 3 0, Value.ref 122, Value.bool true, Value.int 181 0, Value.ref 123, Value.none, Value.ref 124,
            Value.ref 125, Value.ref 126, Value.int 358 0, Value.int 151 0, Value.str (Str.ofString "/claim/cut.py") 359] } : Obj)) ::
  ((nat_lit 128 : Nat), (
    fnO (stOf 19) (Str.ofString "_law_hung") (Str.ofString "_law_hung") (Value.none) (Value.str (Str.ofString "law_mr0152_02") 318) 127 : Obj)) ::
  ((nat_lit 132 : Nat), (
    { cls := Value.type "code",
      data :=
        Data.fields
          #[Value.str (Str.ofString "law") 361, Value.str (Str.ofString "law") 362,
            Value.str (Str.ofString "/claim/cut.py") 363, Value.int 156 0, Value.int 1 0, Value.int 0 0, Value.int 0 0,
            Value.int 3 0, Value.ref 129, Value.bool true, Value.int 181 0, Value.ref 130, Value.none, Value.none,
            Value.none, Value.ref 131, Value.int 364 0, Value.int 156 0, Value.str (Str.ofString "/claim/cut.py") 365] } : Obj)) ::
  ((nat_lit 133 : Nat), (
    fnO (stOf 20) (Str.ofString "law") (Str.ofString "law") (Value.none) (Value.str (Str.ofString "law_mr0152_02") 318) 132 : Obj)) :: []
/-- the named statements of the text -/
def pickOf (l : List Stmt) : List Nat → List Stmt
  | [] => []
  | i :: r => match l[i]? with
    | some s => s :: pickOf l r
    | none => pickOf l r
noncomputable def view : Program := { PySem.Challenge.pw_mr0152_02 with main := { PySem.Challenge.pw_mr0152_02.main with body := pickOf PySem.Challenge.pw_mr0152_02.main.body [0, 2, 3, 5, 7, 8, 9, 10, 11, 13, 15, 16, 17, 18, 19, 20] } }
end Mine
local macro_rules | `(tactic| k_head) => `(tactic| (
  refine holds_open (q := Mine.view) (loose := [Str.ofString "_initial_missing", Str.ofString "reduce"]) (Xt := fun s => xlAt Mine.view [] s && recOk (RowW.records (OpenRow.toRowW (OpenLaw.row PySem.Challenge.rw_mr0152_02))) s) (XP := XL Mine.view []) (Yf := Hook.obs (kHook Mine.K0 [(nat_lit 2 : Nat), (nat_lit 3 : Nat), (nat_lit 23 : Nat), (nat_lit 27 : Nat), (nat_lit 28 : Nat), (nat_lit 29 : Nat), (nat_lit 30 : Nat), (nat_lit 36 : Nat), (nat_lit 37 : Nat), (nat_lit 80 : Nat), (nat_lit 84 : Nat), (nat_lit 85 : Nat), (nat_lit 91 : Nat), (nat_lit 92 : Nat), (nat_lit 94 : Nat), (nat_lit 95 : Nat), (nat_lit 105 : Nat), (nat_lit 106 : Nat), (nat_lit 110 : Nat), (nat_lit 111 : Nat), (nat_lit 115 : Nat), (nat_lit 116 : Nat), (nat_lit 118 : Nat), (nat_lit 120 : Nat), (nat_lit 121 : Nat), (nat_lit 127 : Nat), (nat_lit 128 : Nat), (nat_lit 132 : Nat), (nat_lit 133 : Nat)] (fun _ => by kernel_rfl))) (Ya := Hook.val (kHook Mine.K0 [(nat_lit 2 : Nat), (nat_lit 3 : Nat), (nat_lit 23 : Nat), (nat_lit 27 : Nat), (nat_lit 28 : Nat), (nat_lit 29 : Nat), (nat_lit 30 : Nat), (nat_lit 36 : Nat), (nat_lit 37 : Nat), (nat_lit 80 : Nat), (nat_lit 84 : Nat), (nat_lit 85 : Nat), (nat_lit 91 : Nat), (nat_lit 92 : Nat), (nat_lit 94 : Nat), (nat_lit 95 : Nat), (nat_lit 105 : Nat), (nat_lit 106 : Nat), (nat_lit 110 : Nat), (nat_lit 111 : Nat), (nat_lit 115 : Nat), (nat_lit 116 : Nat), (nat_lit 118 : Nat), (nat_lit 120 : Nat), (nat_lit 121 : Nat), (nat_lit 127 : Nat), (nat_lit 128 : Nat), (nat_lit 132 : Nat), (nat_lit 133 : Nat)] (fun _ => by kernel_rfl))) (YP := Hook.says (kHook Mine.K0 [(nat_lit 2 : Nat), (nat_lit 3 : Nat), (nat_lit 23 : Nat), (nat_lit 27 : Nat), (nat_lit 28 : Nat), (nat_lit 29 : Nat), (nat_lit 30 : Nat), (nat_lit 36 : Nat), (nat_lit 37 : Nat), (nat_lit 80 : Nat), (nat_lit 84 : Nat), (nat_lit 85 : Nat), (nat_lit 91 : Nat), (nat_lit 92 : Nat), (nat_lit 94 : Nat), (nat_lit 95 : Nat), (nat_lit 105 : Nat), (nat_lit 106 : Nat), (nat_lit 110 : Nat), (nat_lit 111 : Nat), (nat_lit 115 : Nat), (nat_lit 116 : Nat), (nat_lit 118 : Nat), (nat_lit 120 : Nat), (nat_lit 121 : Nat), (nat_lit 127 : Nat), (nat_lit 128 : Nat), (nat_lit 132 : Nat), (nat_lit 133 : Nat)] (fun _ => by kernel_rfl))) (N := 1644) ?hl (Hook.of (kHook Mine.K0 [(nat_lit 2 : Nat), (nat_lit 3 : Nat), (nat_lit 23 : Nat), (nat_lit 27 : Nat), (nat_lit 28 : Nat), (nat_lit 29 : Nat), (nat_lit 30 : Nat), (nat_lit 36 : Nat), (nat_lit 37 : Nat), (nat_lit 80 : Nat), (nat_lit 84 : Nat), (nat_lit 85 : Nat), (nat_lit 91 : Nat), (nat_lit 92 : Nat), (nat_lit 94 : Nat), (nat_lit 95 : Nat), (nat_lit 105 : Nat), (nat_lit 106 : Nat), (nat_lit 110 : Nat), (nat_lit 111 : Nat), (nat_lit 115 : Nat), (nat_lit 116 : Nat), (nat_lit 118 : Nat), (nat_lit 120 : Nat), (nat_lit 121 : Nat), (nat_lit 127 : Nat), (nat_lit 128 : Nat), (nat_lit 132 : Nat), (nat_lit 133 : Nat)] (fun _ => by kernel_rfl))) (Hook.keeps (kHook Mine.K0 [(nat_lit 2 : Nat), (nat_lit 3 : Nat), (nat_lit 23 : Nat), (nat_lit 27 : Nat), (nat_lit 28 : Nat), (nat_lit 29 : Nat), (nat_lit 30 : Nat), (nat_lit 36 : Nat), (nat_lit 37 : Nat), (nat_lit 80 : Nat), (nat_lit 84 : Nat), (nat_lit 85 : Nat), (nat_lit 91 : Nat), (nat_lit 92 : Nat), (nat_lit 94 : Nat), (nat_lit 95 : Nat), (nat_lit 105 : Nat), (nat_lit 106 : Nat), (nat_lit 110 : Nat), (nat_lit 111 : Nat), (nat_lit 115 : Nat), (nat_lit 116 : Nat), (nat_lit 118 : Nat), (nat_lit 120 : Nat), (nat_lit 121 : Nat), (nat_lit 127 : Nat), (nat_lit 128 : Nat), (nat_lit 132 : Nat), (nat_lit 133 : Nat)] (fun _ => by kernel_rfl))) (fun s e => xl_of s (Bool.and_eq_true_iff.mp e).1) XL.keeps (by rfl) (by rfl) (by rfl) (fun s e => recFacts_of (Bool.and_eq_true_iff.mp e).2) (by rfl) (by first | assumption | decide +kernel) (by decide +kernel) ⟨rfl, rfl, rfl, rfl, rfl, by decide +kernel⟩ ?hw ?hc
  (case hl => (intro w; kernel_rfl))
  all_goals (rename_i sd; clear sd)))
open_top hdx for PySem.Challenge.rw_mr0152_02
end
section
open PySem PySem.W PySem.Calls PyProof.Rows
set_option maxRecDepth 100000
namespace Mine

def dictOf : Option Obj → Array DictEntry
  | some { data := .dict es _, .. } => es
  | _ => #[]
def nsOf (K : Frag) (a : Addr) (x : Str) : Option Value := nsFind (dictOf (K.lookup a)) x
/-- the row's heap, with what the head does not write out -/
structure Wd where
  P : Params
  o0 : Obj
  o1 : Obj
  o4 : Obj
  b : Str → Option Value
  es0 : Array DictEntry
  n0 : Nat
  d0 : o0.data = .dict es0 n0
  k0 : StrKeys es0
  f0 : ∀ x, nsFind es0 x = b x
  d4 : o4.cls = .type "module" ∧ o4.dict = some builtinsNs ∧ o4.data = .plain
  bLen : b "len" = some (.builtin "len")
  bRange : b "range" = some (.type "range")
  bSet : b "set" = some (.type "set")
  bIter : b "iter" = some (.builtin "iter")
  bEnum : b "enumerate" = some (.type "enumerate")
  bSorted : b "sorted" = some (.builtin "sorted")
  bObject : b "object" = some (.type "object")
  bBuild : b "__build_class__" = some (.builtin "__build_class__")
noncomputable abbrev K1 (W : Wd) : Frag := ((0 : Nat), W.o0) :: ((1 : Nat), W.o1) :: ((4 : Nat), W.o4) :: K0 W.P
noncomputable abbrev mg1 (W : Wd) := nsOf (K1 W) 3
abbrev mb1 (W : Wd) := W.b

theorem strKeys_of {es : Array DictEntry} (h : es.toList.all (fun e => match e.key with | .str _ _ => true | _ => false) = true) : StrKeys es := by
  intro e he
  have := List.all_eq_true.mp h e (Array.mem_toList_iff.mpr he)
  revert this
  cases e.key <;> simp
theorem ns_of {K : Frag} {off : List Addr} {g : Heap} {a : Addr} {o : Obj} {es : Array DictEntry} {n : Nat} (h : TopOk K off g) (e : K.lookup a = some o) (d : o.data = .dict es n) (hk : es.toList.all (fun e => match e.key with | .str _ _ => true | _ => false) = true) (n : a ∉ off) : g.Ns a (nsOf K a) := by
  refine ⟨o, es, _, h a o e n, d, strKeys_of hk, fun x => ?_⟩
  unfold nsOf
  rw [e]
  cases o; cases d; rfl
theorem globs1 {W : Wd} {off : List Addr} (h0 : (0 : Nat) ∉ off := by decide) (h2 : (2 : Nat) ∉ off := by decide) (h3 : (3 : Nat) ∉ off := by decide) : Globs (K1 W) off (mg1 W) (mb1 W) := by
  intro g h
  refine ⟨ns_of h rfl rfl rfl h3, ⟨W.o0, W.es0, W.n0, h 0 W.o0 rfl h0, W.d0, W.k0, W.f0⟩, nsOf (K1 W) 2, ns_of h rfl rfl rfl h2, rfl⟩

/-- a text that is in use -/
structure Nm (x : Str) : Prop where
  short : x.length ≤ 1000
  ok : PyData.strOk x = true
theorem nmem {ρ : Rho} {x : Str} (h : (ρ.all fun p => !(p.1 == x)) = true) : ∀ p ∈ ρ, p.1 ≠ x := by
  intro p hp e
  have := List.all_eq_true.mp h p hp
  simp [e] at this

end Mine
end
section
open PySem PySem.W PySem.Calls PyProof.Rows
set_option maxRecDepth 100000
namespace Mine

theorem TabOk.keepN {h h' : Heap} {P : Addr} {q : TK} (x : TabOk h P q) (Y : List Addr) (k : ∀ b o, b ∉ Y → h.get? b = some o → h'.get? b = some o) (hP : P ∉ Y) (hY : ∀ y ∈ Y, ∀ o, h.get? y = some o → NoCode o) : TabOk h' P q := by
  cases q with
  | code q =>
    obtain ⟨ps, z1, z2, z3⟩ := x
    refine ⟨ps, k P _ hP z1, z2, fun pos cv hc => ?_⟩
    obtain ⟨c, o, vs, t, r1, r2, r3, r4⟩ := z3 pos cv hc
    exact ⟨c, o, vs, t, r1, k c o (fun z => hY c z o r2 vs q t r3 r4) r2, r3, r4⟩
  | own G =>
    obtain ⟨o, es, n, z1, z2⟩ := x
    exact ⟨o, es, n, k P _ hP z1, z2⟩
  | any => obtain ⟨ps, z, t⟩ := x; exact ⟨ps, k P _ hP z, t⟩

/-- a set that is no more added to -/
structure SetR (prog : Program) (w : World) (h : Heap) (a : Addr) (S : Str → Bool) (n : Nat) : Prop where
  ex : ∃ es ep t, h.get? a = some { cls := .type "set", dict := none, data := .set es ep t } ∧ ElemsOf (strKind prog w) es.toList ∧ (∀ k, S k = true ↔ ∃ e ∈ es.toList, (strKind prog w).is k e.2 = true) ∧ es.size ≤ n ∧ t.fits es.size = true ∧
    (t.led = true ∨ byText w = true ∨ es.size = 0) ∧ (t.plain = false ∨ es.size = 0)
theorem StrSet.r {prog : Program} {w : World} {h : Heap} {a : Addr} {S : Str → Bool} {n : Nat} (x : StrSet prog w h a S n) : SetR prog w h a S n := by
  obtain ⟨es, ep, t, y⟩ := x
  exact ⟨es, ep, t, y.obj, y.el, y.mem, y.small, y.fits, y.led.imp id .inl, y.plain⟩

section
variable {prog : Program} {w : World} {W : Wd} {K : Frag} {off : List Addr} {tb : Tb} {k : Nat} {env : Env} {ρ : Rho} {mg mb : Str → Option Value}

theorem codeAny_call_binds {A : Around} {s : Shared} {R : Result → Shared → Prop} {a : Addr} {o : Obj} {fd : FuncData} {body : List Stmt} {args : Args} {binds : List (Str × Value)}
    (hroom : A.depth < recursionLimit) (ho : s.heap.get? a = some o) (hdata : o.data = .func fd) (hlim : s.heap.NoLimit) (hcd : s.heap.CodeRec fd.code fd.qualname)
    (hbody : fd.body = .stmts body) (hbind : ∀ (A' : Around) (Q : List (Str × Value) → Shared → Prop) (E' : Value → Shared → Prop), Q binds s → wpAny (model prog w) A' (bindArgs fd args) Q E' s) (hclo : fd.closure = [])
    (hkind : ∀ x ∈ binds, fd.scope.names.lookup x.1 = some .local ∨ (fd.scope.names.lookup x.1 = some .cell ∧ ((cellsFrom (s.heap.objs.size + 1) fd.scope.names []).lookup x.1).isSome = true))
    (h : ∀ s₁, InCallC s (callEnvC fd s.heap.objs.size a).locals (bindL (callEnvC fd s.heap.objs.size a).kindOf binds fun _ => none) (callEnvC fd s.heap.objs.size a).cells
        (bindC (callEnvC fd s.heap.objs.size a).kindOf binds fun _ => none) s₁ →
      wpAny (model prog w) (A.deeper (callEnvC fd s.heap.objs.size a)) (execs body (callEnvC fd s.heap.objs.size a)) (fun f s' => R (.ok (.ret (match f with | .ret v => v | _ => .none))) s')
        (fun e s' => wpAny (model prog w) (A.deeper (callEnvC fd s.heap.objs.size a)) (leaving (callEnvC fd s.heap.objs.size a) e) (fun _ s'' => R (.error e) s'') (fun e' s'' => R (.error e') s'') s') s₁)
    (hco : fd.scope.isCoroutine = false := by rfl) (hgen : fd.scope.isGenerator = false := by rfl) (hk : fd.scope.kind = .function := by rfl) :
    codeAny (model prog w) A (.call (.ref a) args) R s := by
  refine codeAny_call_function hroom ho hdata hco hgen hbody hcd ?_
  rw [hclo]
  refine hbind _ _ _ (wpAny_newFunctionEnv_cells hk hkind fun env he s' x => ?_)
  subst he
  exact ⟨hlim.keeps x.toInCall.keep, codeAny_func (h s' x)⟩

/-- set() if not xs else set(xs) -/
theorem set_value {A : Around} {X : List Addr} {s : Shared} {Q : Value → Shared → Prop} {p1 p2 p3 p4 p5 p6 p7 p8 : Pos} {x : Str} {xs : List Str} (G : Globs K off mg mb) (hm : mg "set" = none) (hv : mb "set" = some (.type "set"))
    (hR : Room A k) (hO : Ok K off tb X s) (hE : EnvOk tb X env ρ s) (hx : ρ.lookup x = some (.list (sts xs))) (hn : xs.length < 4000)
    (h : ∀ m s', Ext tb s s' → s.heap.get? m = none → SetR prog w s'.heap m (fun y => xs.any (· == y)) xs.length → Q (.ref m) s')
    (hks : env.kindOf "set" = some .globalImplicit := by rfl) (hd : (x == ("__debug__" : Str)) = false := by decide) (hc : (x == ("__classdict__" : Str)) = false := by decide) :
    wpAny (model prog w) A (eval (.IfExp (.UnaryOp .Not (.Name x p1) p2) (.Call (.Name "set" p3) [] [] p4) (.Call (.Name "set" p5) [.Name x p6] [] p7) p8) env) Q NoE s := by
  obtain ⟨v, b, r⟩ := hE.vars _ (PySem.mem_of_lookup hx)
  obtain ⟨l, vs, rfl, hl, ra⟩ := r.isList
  have hl' := IsList.below hl
  have hlen : vs.length = xs.length := by rw [ra.length]; simp [sts]
  obtain ⟨q, hq, hqx⟩ := strs_rp ra
  have nsz : ∀ (t : Shared) , t.heap.objs.size = t.heap.objs.size → t.heap.get? t.heap.objs.size = none := fun t _ => by
    cases hg : t.heap.get? t.heap.objs.size with
    | none => rfl
    | some o => exact absurd (Heap.lt_size hg) (Nat.lt_irrefl _)
  refine wpAny_IfExp (wpAny_isTrue_Not (wpAny_isTrue_value (bound_load hE.kind b ?_ hd hc)))
  refine wpAny_truthy_list hl' (by rw [List.size_toArray, hlen]; omega) ?_
  have e0 : Ext tb s { s with toks := s.toks + 1 + 1 } := ext_tok _ _
  have O1 := hO.ext e0
  have E1 := hE.ext hO e0
  split
  · rename_i he
    refine wpAny_Call_NameR (load_builtin G O1 E1 hm hv hks (by decide) ?_)
    refine PySem.callWith_type rfl (PyProof.Rows.evalArgs_empty ?_)
    refine call_set_0 fun led => ?_
    have hnil : xs = [] := by
      have : vs = [] := by simpa using he
      have : xs.length = 0 := by rw [← hlen, this]; rfl
      exact List.length_eq_zero_iff.mp this
    refine h _ _ (e0.trans (ext_push _ _)) (nsz s rfl) ⟨#[], 0, _, Heap.get?_push_size _ rfl, fun e he => by simp at he, fun k => by simp [hnil], by simp, rfl, .inr (.inr rfl), .inr rfl⟩
  · refine wpAny_Call_NameR (load_builtin G O1 E1 hm hv hks (by decide) ?_)
    refine PySem.callWith_type rfl (evalArgs_plain (spliced_cons (bound_load (s := { s with toks := s.toks + 1 + 1 }) hE.kind b (spliced_nil ?_) hd hc)))
    refine call_set_strs (s := { s with toks := s.toks + 1 + 1 }) hR.handled hl' ⟨q, by simpa using hq, hqx⟩ (by show _ < 4096; omega) fun h' tk hS hk => ?_
    refine h _ _ (e0.trans (.of_sub (fun b o e => hk b o (Heap.lt_size e) e) rfl rfl)) (nsz s rfl) hS.r
end
end Mine
end
section
open PySem PySem.W PySem.Calls PyProof.Rows
set_option maxRecDepth 100000
namespace Mine
section
variable {prog : Program} {w : World} {W : Wd} {K : Frag} {off : List Addr} {tb : Tb} {k : Nat} {env : Env} {ρ : Rho} {mg mb : Str → Option Value}

theorem ExtO.refl (tb : Tb) (Y : List Addr) (s : Shared) : ExtO tb Y s s := .of (.refl tb s)
theorem Ok.extO {X Y : List Addr} {s s' : Shared} (o : Ok K off tb X s) (x : ExtO tb Y s s') (h : ∀ y ∈ Y, y ∈ X) (g : ∀ y ∈ Y, ∃ o, s'.heap.get? y = some o) : Ok K off tb X s' := by
  refine ⟨fun y hy => ⟨(o.priv y hy).1, ?_⟩, fun q hq => x.tab q hq (o.tabs q hq), o.top.sub (x.vis h)⟩
  by_cases hY : y ∈ Y
  · exact g y hY
  · obtain ⟨n, ob, e⟩ := o.priv y hy
    exact ⟨ob, x.keep y ob n hY e⟩
theorem EnvOk.extO {X Y : List Addr} {s s' : Shared} (e : EnvOk tb X env ρ s) (o : Ok K off tb X s) (x : ExtO tb Y s s') (h : ∀ y ∈ Y, y ∈ X) (hl : env.locals ∉ Y) (hc : ∀ x c, env.cells.lookup x = some c → c ∉ Y) : EnvOk tb X env ρ s' := by
  refine ⟨e.kind, e.globals, e.builtins, e.nloc, fun p hp => ?_⟩
  obtain ⟨v, b, r⟩ := e.vars p hp
  refine ⟨v, ?_, r.sub (x.vis h)⟩
  rcases b with ⟨k, m, ⟨ob, es, ep, h1, h2, h3⟩, hm⟩ | ⟨k, c, hcc, ob, h1, h2⟩
  · exact .inl ⟨k, m, ⟨ob, es, ep, x.keep _ _ e.nloc hl h1, h2, h3⟩, hm⟩
  · exact .inr ⟨k, c, hcc, ob, x.keep _ _ (o.cellTab ⟨ob, h1, h2⟩) (hc _ _ hcc) h1, h2⟩

def InstD (C : Addr) (h : Heap) (r d : Addr) (mA : Str → Option Value) : Prop := ∃ o, h.get? r = some o ∧ o.cls = .ref C ∧ o.data = .plain ∧ o.dict = some d ∧ d ≠ r ∧ h.Ns1 d mA
theorem InstD.inst {C : Addr} {h : Heap} {r d : Addr} {mA : Str → Option Value} (x : InstD C h r d mA) : h.Inst r C mA :=
  let ⟨o, g, c, p, e, n, m⟩ := x; ⟨o, g, c, (fun _ z => by rw [p] at z; cases z), .inr ⟨d, e, n, m⟩⟩
theorem InstD.keeps {C : Addr} {h h' : Heap} {r d : Addr} {mA : Str → Option Value} (x : InstD C h r d mA) (k : ∀ b o, b ∈ [r, d] → h.get? b = some o → h'.get? b = some o) : InstD C h' r d mA :=
  let ⟨o, g, c, p, e, n, m⟩ := x; ⟨o, k _ _ (by simp) g, c, p, e, n, m.at fun o e => k _ o (by simp) e⟩

/-- a plain class of the top -/
structure PlainCls (h : Heap) (C N : Addr) (mN : Str → Option Value) : Prop where
  obj : ∃ nm q bs sn sub ab col dd k0 k1 k2 k3 k5, h.get? C = some (excClassObj nm q C N bs [.type "object"] true sn sub ab col dd k0 k1 k2 k3 k5 "object.__new__")
  ns : h.Ns N mN

theorem set_attr {A : Around} {X : List Addr} {s : Shared} {C N r d : Addr} {mN mA : Str → Option Value} {name : Str} {v : Value} {Q : Unit → Shared → Prop} {E : Value → Shared → Prop} (ns : List Str)
    (P : PlainCls s.heap C N mN) (hO : Ok K off tb X s) (hr : r ∈ X) (hd : d ∈ X) (I : InstD C s.heap r d mA) (hs : mN "__setattr__" = none) (hna : mN name = none) (hB : typeLookup (.type "object") name = pure none) (hrC : r ≠ C)
    (hw : Within mA ns) (hz : ns.length ≤ 100)
    (h : ∀ s', ExtO tb [r, d] s s' → InstD C s'.heap r d (fun y => if y = name then some v else mA y) → Q () s') : wpAny (model prog w) A (setAttr (.ref r) name v) Q E s := by
  obtain ⟨nm, q, bs, sn, sub, ab, col, dd, k0, k1, k2, k3, k5, hC⟩ := P.obj
  obtain ⟨hh, g, dr, t, os⟩ := s
  obtain ⟨o, g1, c1, p1, e1, n1, m1⟩ := id I
  refine store_attr PySem.F.store_object hC P.ns hs hna hB hrC I.inst (fun h' tk' I' hk hx => ?_) hw (by have : sizeLine = 2 ^ 24 := rfl; omega)
  obtain ⟨o', g2, c2, p2, _, e2⟩ := hx o g1
  refine h _ ⟨fun b ob _ m e => hk b ob (fun z => m (by simp [z])) (fun o₀ dx z1 z2 z3 => ?_) e, fun p hp z => ?_, rfl, rfl⟩ ?_
  · rw [g1] at z1; cases z1; rw [e1] at z2; cases z2; exact m (by simp [z3])
  · refine z.keepN [r, d] (fun b ob m e => hk b ob (fun z => m (by simp [z])) (fun o₀ dx z1 z2 z3 => by rw [g1] at z1; cases z1; rw [e1] at z2; cases z2; exact m (by simp [z3])) e) ?_ ?_
    · intro m
      rcases List.mem_cons.mp m with m | m
      · exact (hO.priv r hr).1 (m ▸ List.mem_map_of_mem hp)
      · rw [List.mem_singleton] at m
        exact (hO.priv d hd).1 (m ▸ List.mem_map_of_mem hp)
    · intro y hy oy gy
      rcases List.mem_cons.mp hy with rfl | hy
      · rw [g1] at gy; cases gy; exact fun vs q t z => by rw [p1] at z; cases z
      · rw [List.mem_singleton] at hy; subst hy
        obtain ⟨od, es, ep, z1, z2, _⟩ := m1
        rw [z1] at gy; cases gy; exact noCode_dict z2
  · obtain ⟨oi, gi, ci, di, hdict⟩ := I'
    rw [g2] at gi; cases gi
    have hd2 := e2 d e1
    rcases hdict with ⟨z, _⟩ | ⟨d', z, ne, nsd⟩
    · rw [hd2] at z; cases z
    · rw [hd2] at z; cases z
      exact ⟨o', g2, c2.trans c1, p2.trans p1, hd2, ne, nsd⟩
end
end Mine
end
section
open PySem PySem.W PySem.Calls PyProof.Rows
set_option maxRecDepth 100000
namespace Mine
section
variable {prog : Program} {w : World} {W : Wd} {K : Frag} {off : List Addr} {tb : Tb} {k : Nat} {mg mb : Str → Option Value}

structure Entered (K : Frag) (off : List Addr) (tb : Tb) (X : List Addr) (s s₁ : Shared) (env : Env) (ρ : Rho) (binds : List (Str × Value)) : Prop where
  ext : Ext tb s s₁
  ok : Ok K off tb (own env ++ X) s₁
  en : EnvOk tb (own env ++ X) env ρ s₁
  bound : ∀ p ∈ binds, Bound env s₁.heap p.1 p.2
  fresh : ∀ y ∈ own env, s.heap.get? y = none
  seen : Sub (vis tb X s.heap) (vis tb (own env ++ X) s₁.heap)
  loc : ∃ m, s₁.heap.Ns env.locals m

theorem entered {f : Addr} {fd : FuncData} {X : List Addr} {s s₁ : Shared} {binds : List (Str × Value)} {ρ : Rho} {L : Nat} (hL : s.heap.objs.size = L)
    (I : InCallC s (callEnvC fd L f).locals (bindL (callEnvC fd L f).kindOf binds fun _ => none) (callEnvC fd L f).cells (bindC (callEnvC fd L f).kindOf binds fun _ => none) s₁)
    (hO : Ok K off tb X s) (hk : fd.scope.kind = .function) (hglob : fd.globals = mainGlobals) (hbuilt : fd.builtins = builtinsNs) (hnd : (binds.map (·.1)).Nodup)
    (hkind : ∀ x ∈ binds, fd.scope.names.lookup x.1 = some .local ∨ (fd.scope.names.lookup x.1 = some .cell ∧ ((cellsFrom (L + 1) fd.scope.names []).lookup x.1).isSome = true))
    (hρ : ∀ p ∈ ρ, ∃ v, (p.1, v) ∈ binds ∧ Rp (vis tb X s.heap) v p.2) : Entered K off tb X s s₁ (callEnvC fd L f) ρ binds := by
  have loc : (callEnvC fd L f).locals = L := rfl
  have cls : (callEnvC fd L f).cells = cellsFrom (L + 1) fd.scope.names [] := rfl
  obtain ⟨h₁, tk, hs₁⟩ := I.toInCall.same
  have e₁ : Ext tb s s₁ := .of_sub I.toInCall.keep (by rw [hs₁]) (by rw [hs₁])
  have old : ∀ (b : Nat) o, s.heap.get? b = some o → b < L := fun b o e => hL ▸ Heap.lt_size e
  have above : ∀ y ∈ own (callEnvC fd L f), @LE.le Nat _ L y ∧ ∃ o, s₁.heap.get? y = some o := fun y hy => by
    rcases List.mem_cons.mp hy with z | hy
    · subst z
      obtain ⟨o, es, ep, g, _⟩ := I.toInCall.ns
      exact ⟨Nat.le_refl _, o, g⟩
    · obtain ⟨p, hp, z⟩ := List.mem_filterMap.mp hy
      split at z
      · obtain ⟨o, g, _⟩ := I.cell _ _ z
        exact ⟨Nat.le_of_lt (I.above _ _ (PySem.mem_of_lookup z)), o, g⟩
      · cases z
  have ntab : ∀ b : Nat, L ≤ b → b ∉ tb.map (·.1) := fun b hb m => by
    obtain ⟨q, hq, e⟩ := List.mem_map.mp m
    obtain ⟨ps, z, _⟩ := (hO.tabs q hq).get
    have h0 : @LT.lt Nat _ q.1 L := old _ _ z
    have h1 : @Eq Nat q.1 b := e
    omega
  have visS : Sub (vis tb X s.heap) (vis tb (own (callEnvC fd L f) ++ X) s₁.heap) := fun (b : Nat) o e => by
    obtain ⟨e0, n, m⟩ := vis_get e
    refine vis_mk (e₁.keep b o n e0) n fun q => ?_
    rcases List.mem_append.mp q with q | q
    · have h0 := (above b q).1
      have h1 := old b o e0
      omega
    · exact m q
  have bd : ∀ p ∈ binds, Bound (callEnvC fd L f) s₁.heap p.1 p.2 := fun p hp => by
    rcases hkind p hp with kl | ⟨kc, hc⟩
    · exact .inl ⟨kl, _, I.toInCall.ns, bindL_get _ _ hnd p hp kl⟩
    · obtain ⟨c, hc⟩ := Option.isSome_iff_exists.mp hc
      refine .inr ⟨.inl kc, c, hc, ?_⟩
      have := I.cell p.1 c hc
      rwa [bindC_get _ _ hnd p hp kc] at this
  refine ⟨e₁, ⟨fun y hy => ?_, fun q hq => e₁.tab q hq (hO.tabs q hq), hO.top.sub visS⟩, ⟨hk, hglob, hbuilt, ntab _ (Nat.le_refl _), fun p hp => ?_⟩, bd, fun (y : Nat) hy => ?_, visS, ⟨_, I.toInCall.ns⟩⟩
  · rcases List.mem_append.mp hy with hy | hy
    · exact ⟨ntab _ (above y hy).1, (above y hy).2⟩
    · obtain ⟨n, o, e⟩ := hO.priv y hy
      exact ⟨n, o, e₁.keep y o n e⟩
  · obtain ⟨v, hv, rv⟩ := hρ p hp
    exact ⟨v, bd (p.1, v) hv, rv.sub visS⟩
  · cases hg : s.heap.get? y with
    | none => rfl
    | some o => have h0 := (above y hy).1; have h1 := old y o hg; omega
end

theorem Bound.extO {K : Frag} {off : List Addr} {tb : Tb} {env : Env} {X Y : List Addr} {s s' : Shared} {x : Str} {v : Value} (b : Bound env s.heap x v) (o : Ok K off tb X s) (nl : env.locals ∉ tb.map (·.1)) (y : ExtO tb Y s s') (hl : env.locals ∉ Y)
    (hc : ∀ x c, env.cells.lookup x = some c → c ∉ Y) : Bound env s'.heap x v := by
  rcases b with ⟨k, m, ⟨ob, es, ep, h1, h2, h3⟩, hm⟩ | ⟨k, c, hcc, ob, h1, h2⟩
  · exact .inl ⟨k, m, ⟨ob, es, ep, y.keep _ _ nl hl h1, h2, h3⟩, hm⟩
  · exact .inr ⟨k, c, hcc, ob, y.keep _ _ (o.cellTab ⟨ob, h1, h2⟩) (hc _ _ hcc) h1, h2⟩
theorem none_back {K : Frag} {off : List Addr} {tb : Tb} {X Y : List Addr} {s s' : Shared} {b : Addr} (x : ExtO tb Y s s') (o : Ok K off tb X s') (hY : ∀ y ∈ Y, ∃ o, s'.heap.get? y = some o) (h : s'.heap.get? b = none) : s.heap.get? b = none := by
  cases hg : s.heap.get? b with
  | none => rfl
  | some ob =>
    by_cases h1 : b ∈ tb.map (·.1)
    · obtain ⟨q, hq, e⟩ := List.mem_map.mp h1
      obtain ⟨_, g, _⟩ := (o.tabs q hq).get
      rw [e, h] at g; cases g
    · by_cases h2 : b ∈ Y
      · obtain ⟨_, g⟩ := hY b h2
        rw [h] at g; cases g
      · rw [x.keep b ob h1 h2 hg] at h; cases h
theorem SetR.at {prog : Program} {w : World} {h h' : Heap} {a : Addr} {S : Str → Bool} {n : Nat} (x : SetR prog w h a S n) (k : ∀ o, h.get? a = some o → h'.get? a = some o) : SetR prog w h' a S n :=
  let ⟨es, ep, t, g, r⟩ := x.ex; ⟨es, ep, t, k _ g, r⟩
theorem at_none {h : Heap} {b : Addr} (e : h.objs.size ≤ b) : h.get? b = none := by
  cases hg : h.get? b with
  | none => rfl
  | some o => exact absurd e (Nat.not_le.mpr (Heap.lt_size hg))

section
variable {prog : Program} {w : World} {W : Wd} {off : List Addr} {tb : Tb} {k : Nat}
abbrev mIgn (m l c : Addr) : Str → Option Value := fun y => if y = "_ignore" then some (.ref c) else if y = "_dirs" then some (.ref l) else if y = "_mods" then some (.ref m) else none
theorem look_mods : typeLookup (.type "object") "_mods" = pure none := by rw [typeLookup_type, builtinLookup_eq_fast]; kernel_rfl
theorem look_dirs : typeLookup (.type "object") "_dirs" = pure none := by rw [typeLookup_type, builtinLookup_eq_fast]; kernel_rfl
theorem look_ignore : typeLookup (.type "object") "_ignore" = pure none := by rw [typeLookup_type, builtinLookup_eq_fast]; kernel_rfl
theorem cls95 {g : Heap} (t : TopOk (K1 W) off g) (h : ∀ a ∈ [94, 95], a ∉ off) : PlainCls g 95 94 (nsOf (K1 W) 94) :=
  ⟨⟨_, _, _, _, _, _, _, _, _, _, _, _, _, t 95 _ rfl (h 95 (by simp))⟩, ns_of t rfl rfl rfl (h 94 (by simp))⟩

theorem is_str (x : Str) (t : Tok) : (strKind prog w).is x (.str x t) = true := by show Value.isStrOf x (.str x t) = true; simp [Value.isStrOf]
theorem dict_one {A : Around} {s : Shared} {env : Env} {Q : Value → Shared → Prop} {E : Value → Shared → Prop} {p1 p2 p3 : Pos} {n1 n2 : Nat} {x : Str} {i : Int}
    (h : ∀ h' t, h'.DictOf (strKind prog w) s.heap.objs.size [(x, .int i t)] → (∀ b o, s.heap.get? b = some o → h'.get? b = some o) → ∀ t', Q (.ref s.heap.objs.size) { s with heap := h', toks := t' }) :
    wpAny (model prog w) A (eval (.Dict [some (.Constant (.str x) n1 p1)] [.Constant (.int i) n2 p2] p3) env) Q E s := by
  refine wpAny_Dict_pairs (knd := strKind prog w) (pairs := [(eval (.Constant (.str x) n1 p1) env, do let x ← eval (.Constant (.int i) n2 p2) env; standAt p3; pure x)]) rfl (by simp) (by simp) ?_
  refine evalPairs_cons ?_
  refine wpAny_Constant_str (wpAny_bind (wpAny_Constant_int (wpAny_bind (wpAny_standAt (wpAny_pure ?_)))))
  refine evalPairs_nil ?_
  refine ⟨[(x, .int i (s.toks + 1))], ⟨is_str _ _, rfl, trivial⟩, ?_, fun h' hD hs => ?_⟩
  · exact ⟨_, #[], 0, Heap.get?_push_size _ rfl, ⟨rfl, rfl, rfl⟩, rfl, fun e he => by simp at he, .nil, by simp⟩
  · refine h h' _ hD (fun b o e => hs.extBut b o (fun z => ?_) (Heap.get?_push_of_some _ e)) _
    have := Heap.lt_size e
    rw [z] at this
    exact Nat.lt_irrefl _ this

set_option maxHeartbeats 4000000 in
theorem ign_init {A : Around} {X : List Addr} {s : Shared} {r d : Addr} {v : Value} {mods : List Str} {R : Result → Shared → Prop} (hR : Room A (k + 1)) (hoff : ∀ a ∈ [80, 84, 85, 94, 95], a ∉ off) (G : Globs (K1 W) off (mg1 W) (mb1 W))
    (hO : Ok (K1 W) off tb X s) (hr : r ∈ X) (hd : d ∈ X) (I : InstD 95 s.heap r d (fun _ => none)) (rv : Rp (vis tb X s.heap) v (.list (sts mods))) (hn : mods.length < 4000)
    (h : ∀ m l c t s', ExtO tb [r, d] s s' → (∀ y ∈ [m, c], s.heap.get? y = none) → InstD 95 s'.heap r d (mIgn m l c) → SetR prog w s'.heap m (fun y => mods.any (· == y)) mods.length → (vis tb X s'.heap).IsList l #[] →
      s'.heap.DictOf (strKind prog w) c [("<string>", .int 1 t)] → R (.ok (.ret .none)) s') :
    codeAny (model prog w) A (.call (.ref 85) ⟨[.ref r, v], []⟩) R s := by
  have hkd : ∀ x ∈ [((Str.ofString "self"), Value.ref r), (Str.ofString "modules", v), (Str.ofString "dirs", Value.none)], True := fun _ _ => trivial
  refine codeAny_call_binds (binds := [("self", .ref r), ("modules", v), ("dirs", .none)]) hR.lim (hO.get (a := 85) rfl (hoff 85 (by decide))) rfl (hO.globs G).2.2 ?_ rfl ?_ rfl ?_ (fun s₁ I₁ => ?_)
  · exact Heap.CodeRec.keeps (⟨84, _, _, _, rfl, hO.top 84 _ rfl (hoff 84 (by decide)), rfl, rfl⟩ : (vis tb X s.heap).CodeRec _ _) (vis_below _ _ _)
  · intro A' Q E' hq
    exact nd_load (a := 80) (hO.get (a := 80) rfl (hoff 80 (by decide))) (wpAny_pure hq)
  · exact List.forall_mem_cons.mpr ⟨.inl rfl, List.forall_mem_cons.mpr ⟨.inl rfl, List.forall_mem_cons.mpr ⟨.inl rfl, fun _ h => nomatch h⟩⟩⟩
  · have T := entered (ρ := [("modules", .list (sts mods)), ("dirs", .none)]) rfl I₁ hO rfl rfl rfl (show (["self", "modules", "dirs"] : List Str).Nodup by decide)
      (List.forall_mem_cons.mpr ⟨.inl rfl, List.forall_mem_cons.mpr ⟨.inl rfl, List.forall_mem_cons.mpr ⟨.inl rfl, fun _ h => nomatch h⟩⟩⟩)
      (List.forall_mem_cons.mpr ⟨⟨v, by simp, rv⟩, List.forall_mem_cons.mpr ⟨⟨.none, by simp, ⟨_, .none⟩⟩, fun _ h => nomatch h⟩⟩)
    have ntr := (hO.priv r hr).1
    have ntd := (hO.priv d hd).1
    have inX0 : ∀ (Z : List Addr), ∀ y ∈ [r, d], y ∈ Z ++ X := fun Z y hy => List.mem_append_right _ (by
      rcases List.mem_cons.mp hy with rfl | hy
      · exact hr
      · rw [List.mem_singleton] at hy; exact hy ▸ hd)
    refine wpAny_mono (E := NoE) ?_ (fun _ _ z => z) fun _ _ z => z.elim
    have live : ∀ s' : Shared, ∀ mA, InstD 95 s'.heap r d mA → ∀ y ∈ [r, d], ∃ o, s'.heap.get? y = some o := fun s' mA i y hy => by
      obtain ⟨o, g, _, _, _, _, od, es, ep, gd, _⟩ := i
      rcases List.mem_cons.mp hy with rfl | hy
      · exact ⟨o, g⟩
      · rw [List.mem_singleton] at hy; exact ⟨od, hy ▸ gd⟩
    have kp : ∀ (a b : Shared) mA, Ext tb a b → InstD 95 a.heap r d mA → InstD 95 b.heap r d mA := fun a b mA e i => i.keeps fun y o hy g => e.keep y o (by
      rcases List.mem_cons.mp hy with rfl | hy
      · exact ntr
      · rw [List.mem_singleton] at hy; exact hy ▸ ntd) g
    have hrC : r ≠ 95 := fun z => by
      have := hO.top 95 _ rfl (hoff 95 (by decide))
      exact (vis_get this).2.2 (z ▸ hr)
    have lfr : ∀ y, s.heap.get? y = none → y ∉ [r, d] := fun y hy m => by
      obtain ⟨o, g⟩ := live s _ I y m
      rw [hy] at g; cases g
    have hcls : ∀ s' : Shared, ∀ Y, Ok (K1 W) off tb Y s' → PlainCls s'.heap 95 94 (nsOf (K1 W) 94) := fun s' Y o => cls95 (o.top.sub (vis_below _ _ _)) (sub_off hoff (by decide))
    -- self._mods
    refine wpAny_execs_cons (plainObj_wpAny_Assign_Attribute (set_value G rfl W.bSet hR.deeper T.ok T.en rfl hn fun m s₂ e₂ fm S₂ => ?_))
    have O2 := T.ok.ext e₂
    have B2 := (T.bound ("self", .ref r) (by simp)).ext T.ok T.en.nloc e₂
    refine bound_load T.en.kind B2 ?_ (by decide) (by decide)
    refine set_attr [] (hcls _ _ O2) O2 (inX0 _ r (by simp)) (inX0 _ d (by simp)) (kp _ _ _ e₂ (kp _ _ _ T.ext I)) rfl rfl look_mods hrC (fun _ z => absurd rfl z) (by simp) fun s₃ x₃ I₃ => ?_
    have O3 := O2.extO x₃ (inX0 _) (live _ _ I₃)
    have E2 := T.en.ext T.ok e₂
    have E3 := E2.extO O2 x₃ (inX0 _) (lfr _ (T.fresh _ List.mem_cons_self)) (fun x c hc => by cases hc)
    have B3 := B2.extO O2 T.en.nloc x₃ (lfr _ (T.fresh _ List.mem_cons_self)) (fun x c hc => by cases hc)
    -- self._dirs
    refine wpAny_execs_cons (plainObj_wpAny_Assign_Attribute (wpAny_IfExp (wpAny_isTrue_Not (wpAny_isTrue_value (bound_load T.en.kind (v := .none) ?bd (truthy_none ?_) (by decide) (by decide))))))
    case bd =>
      obtain ⟨vd, bd, rd⟩ := E3.vars ("dirs", .none) (by simp)
      obtain ⟨_, rd⟩ := rd
      cases rd
      exact bd
    simp only [Bool.not_false, if_true]
    refine pv_list pvs_nil (by decide) (A.deeper _) _ s₃ _ hR.deeper O3 E3 fun lv s₄ e₄ r₄ => ?_
    obtain ⟨l, vs, rfl, hl, ra⟩ := r₄.isList
    have O4 := O3.ext e₄
    have B4 := B3.ext O3 E3.nloc e₄
    refine bound_load T.en.kind B4 ?_ (by decide) (by decide)
    refine set_attr [Str.ofString "_mods"] (hcls _ _ O4) O4 (inX0 _ r (by simp)) (inX0 _ d (by simp)) (kp _ _ _ e₄ I₃) rfl rfl look_dirs hrC (fun y z => by
      by_cases q : y = Str.ofString "_mods"
      · simp [q]
      · rw [if_neg q] at z; exact absurd rfl z) (by simp) fun s₅ x₅ I₅ => ?_
    have O5 := O4.extO x₅ (inX0 _) (live _ _ I₅)
    have E4 := E3.ext O3 e₄
    have E5 := E4.extO O4 x₅ (inX0 _) (lfr _ (T.fresh _ List.mem_cons_self)) (fun x c hc => by cases hc)
    have B5 := B4.extO O4 T.en.nloc x₅ (lfr _ (T.fresh _ List.mem_cons_self)) (fun x c hc => by cases hc)
    -- self._ignore
    refine wpAny_execs_cons (plainObj_wpAny_Assign_Attribute (dict_one fun h₆ t₆ D₆ k₆ t₆' => ?_))
    have e₆ : Ext tb s₅ { s₅ with heap := h₆, toks := t₆' } := .of_sub k₆ rfl rfl
    have O6 := O5.ext e₆
    have B6 := B5.ext O5 E5.nloc e₆
    refine bound_load (s := { s₅ with heap := h₆, toks := t₆' }) T.en.kind B6 ?_ (by decide) (by decide)
    refine set_attr [Str.ofString "_mods", Str.ofString "_dirs"] (hcls _ _ O6) O6 (inX0 _ r (by simp)) (inX0 _ d (by simp)) (kp _ _ _ e₆ I₅) rfl rfl look_ignore hrC (fun y z => by
      by_cases q : y = Str.ofString "_dirs"
      · simp [q]
      · rw [if_neg q] at z
        by_cases q : y = Str.ofString "_mods"
        · simp [q]
        · rw [if_neg q] at z; exact absurd rfl z) (by simp) fun s₇ x₇ I₇ => ?_
    refine wpAny_execs_nil ?_
    have y4 : ExtO tb [r, d] s₂ s₇ := (((x₃.trans (.of e₄)).trans x₅).trans (.of e₆)).trans x₇
    have y5 : ExtO tb [r, d] s s₅ := ((((ExtO.of T.ext).trans (.of e₂)).trans x₃).trans (.of e₄)).trans x₅
    have fc : s₅.heap.get? s₅.heap.objs.size = none := at_none (Nat.le_refl _)
    have fc0 := none_back y5 O5 (live _ _ I₅) fc
    have fm0 := none_back (Y := []) (ExtO.of T.ext) T.ok (fun _ z => nomatch z) fm
    refine h m l s₅.heap.objs.size t₆ s₇ ((y5.trans (.of e₆)).trans x₇) ?_ I₇ ?_ ?_ ?_
    · intro y hy
      rcases List.mem_cons.mp hy with rfl | hy
      · exact fm0
      · rw [List.mem_singleton] at hy; subst hy; exact fc0
    · obtain ⟨es, ep, t, g, _⟩ := S₂.ex
      exact S₂.at fun o e => y4.keep _ _ (O2.notTab g (fun ps z => by cases z) fun _ _ z => by cases z) (lfr m fm0) e
    · obtain rfl : vs = [] := List.length_eq_zero_iff.mp (by rw [ra.length]; rfl)
      obtain ⟨ol, gl, rl⟩ := hl
      have y6 : ExtO tb [r, d] s₄ s₇ := (x₅.trans (.of e₆)).trans x₇
      exact ⟨ol, vis_more (fun x hx => List.mem_append_right _ hx) _ _ (y6.vis (inX0 _) _ _ gl), rl⟩
    · obtain ⟨o, es, ep, g, rr⟩ := D₆
      refine ⟨o, es, ep, x₇.keep _ _ (fun z => ?_) (lfr _ fc0) g, rr⟩
      obtain ⟨q, hq, e⟩ := List.mem_map.mp z
      obtain ⟨_, g', _⟩ := (O5.tabs q hq).get
      rw [e, fc] at g'; cases g'
end
end Mine
end
section
open PySem PySem.W PySem.Calls PyProof.Rows
set_option maxRecDepth 100000
namespace Mine
theorem lookup_part {f : Addr → Bool} {a : Addr} {o : Obj} : ∀ {K : Frag}, (K.filter fun p => f p.1).lookup a = some o → K.lookup a = some o ∧ f a = true
  | [], h => by cases h
  | (b, ob) :: r, h => by
    by_cases e : f b = true
    · rw [List.filter_cons_of_pos (by exact e)] at h
      by_cases q : a = b
      · subst q
        simp only [List.lookup_cons_self] at h ⊢
        exact ⟨h, e⟩
      · have q' : (a == b) = false := by simpa using q
        simp only [List.lookup, q'] at h ⊢
        exact lookup_part h
    · rw [List.filter_cons_of_neg (by simpa using e)] at h
      obtain ⟨h1, h2⟩ := lookup_part h
      have q' : (a == b) = false := by
        have : a ≠ b := fun z => e (z ▸ h2)
        simpa using this
      simp only [List.lookup, q']
      exact ⟨h1, h2⟩
noncomputable abbrev K95 (W : Wd) : Frag := (K1 W).filter fun p => p.1 == 95 || p.1 == 94 || p.1 == 85 || p.1 == 92
section
variable {prog : Program} {w : World} {W : Wd} {off : List Addr} {tb : Tb} {k : Nat}
theorem k95_in {g : Heap} (t : TopOk (K1 W) off g) (h : ∀ a ∈ [85, 92, 94, 95], a ∉ off) : (K95 W).In g := by
  intro a o e
  obtain ⟨e1, e2⟩ := lookup_part (f := fun b => b == 95 || b == 94 || b == 85 || b == 92) e
  simp only [Bool.or_eq_true, beq_iff_eq] at e2
  refine t a o e1 (h a ?_)
  rcases e2 with ((e | e) | e) | e <;> simp [e]
theorem makes95 : makesIn (K95 W) 95 = true := by rfl
theorem init95 : findIn (K95 W) (.ref 95) "__init__" = some (some (.ref 85)) := by rfl
theorem type85 : typeIn (K95 W) (.ref 85) = some (.type "function") := by rfl

/-- a reader's objects -/
structure Reader (prog : Program) (w : World) (tb : Tb) (X : List Addr) (h : Heap) (mods : List Str) (r d m l c : Addr) : Prop where
  inst : InstD 95 h r d (mIgn m l c)
  set : SetR prog w h m (fun y => mods.any (· == y)) mods.length
  dirs : (vis tb X h).IsList l #[]

theorem ign_new {A : Around} {X : List Addr} {s : Shared} {v : Value} {mods : List Str} {Q : Value → Shared → Prop} (hR : Room A (k + 2)) (hoff : ∀ a ∈ [80, 84, 85, 92, 94, 95], a ∉ off) (G : Globs (K1 W) off (mg1 W) (mb1 W))
    (hO : Ok (K1 W) off tb X s) (rv : Rp (vis tb X s.heap) v (.list (sts mods))) (hn : mods.length < 4000)
    (h : ∀ r d m l c t s', Ext tb s s' → (∀ y ∈ [r, d, m, c], s.heap.get? y = none) → c ≠ r → c ≠ d → Reader prog w tb X s'.heap mods r d m l c → s'.heap.DictOf (strKind prog w) c [("<string>", .int 1 t)] → Q (.ref r) s') :
    wpAny (model prog w) A (call (.ref 95) [v]) Q NoE s := by
  refine wpAny_call ?_
  obtain ⟨hh, g, dr, tk, os⟩ := s
  have X0 : (K95 W).In hh := k95_in (hO.top.sub (vis_below _ _ _)) (sub_off hoff (by decide))
  refine make_core (makes_of X0 makes95) (looks_findIn X0 init95) (fun self => bind_fn X0 self type85) (.inl rfl) ?_
  generalize hd : hh.objs.size = d
  have hR' : Room (A.under (.builtin "type.__call__" ⟨[.ref 95, v], []⟩)) (k + 1) :=
    ⟨hR.handled, by have := hR.depth; show A.depth + 1 + (k + 1) ≤ 900; omega, by have := hR.units; show A.units + 1 + 20 * (k + 1) ≤ 9000; omega⟩
  have gd0 : hh.get? d = none := at_none (Nat.le_of_eq hd)
  have gr0 : hh.get? (d + 1) = none := at_none (by rw [hd]; exact Nat.le_succ _)
  have sub : Sub hh ((hh.push emptyDict).push (instObj 95 d)) := fun b o e => Heap.get?_push_of_some _ (Heap.get?_push_of_some _ e)
  have gd : ((hh.push emptyDict).push (instObj 95 d)).get? d = some emptyDict := Heap.get?_push_of_some _ (by rw [← hd]; exact Heap.get?_push_size _ rfl)
  have gr : ((hh.push emptyDict).push (instObj 95 d)).get? (d + 1) = some (instObj 95 d) := by
    have : (hh.push emptyDict).objs.size = d + 1 := by rw [Heap.size_push, hd]
    rw [← this]; exact Heap.get?_push_size _ rfl
  have e0 : Ext tb ⟨hh, g, dr, tk, os⟩ ⟨(hh.push emptyDict).push (instObj 95 d), g, dr, tk, os⟩ := .of_sub sub rfl rfl
  have O1 := hO.ext e0
  have fresh : ∀ y ∈ [d + 1, d], hh.get? y = none := fun y hy => by
    rcases List.mem_cons.mp hy with rfl | hy
    · exact gr0
    · rw [List.mem_singleton] at hy; subst hy; exact gd0
  have ntb : ∀ y ∈ [d + 1, d], y ∉ tb.map (·.1) := fun y hy m => by
    obtain ⟨q, hq, e⟩ := List.mem_map.mp m
    obtain ⟨_, g', _⟩ := (hO.tabs q hq).get
    rw [e] at g'; rw [show (Shared.mk hh g dr tk os).heap = hh from rfl, fresh y hy] at g'; cases g'
  have seen : Sub (vis tb X hh) (vis tb ([d + 1, d] ++ X) ((hh.push emptyDict).push (instObj 95 d))) := fun b o e => by
    obtain ⟨e1, n1, n2⟩ := vis_get e
    refine vis_mk (sub b o e1) n1 fun q => ?_
    rcases List.mem_append.mp q with q | q
    · rw [fresh b q] at e1; cases e1
    · exact n2 q
  have O2 : Ok (K1 W) off tb ([d + 1, d] ++ X) ⟨(hh.push emptyDict).push (instObj 95 d), g, dr, tk, os⟩ := by
    refine ⟨fun y hy => ?_, O1.tabs, hO.top.sub seen⟩
    rcases List.mem_append.mp hy with hy | hy
    · refine ⟨ntb y hy, ?_⟩
      rcases List.mem_cons.mp hy with rfl | hy
      · exact ⟨_, gr⟩
      · rw [List.mem_singleton] at hy; subst hy; exact ⟨_, gd⟩
    · exact O1.priv y hy
  refine ign_init hR' (sub_off hoff (by decide)) G O2 (by simp) (by simp)
    ⟨_, gr, rfl, rfl, rfl, Nat.ne_of_lt (Nat.lt_succ_self _), .of_empty ⟨_, #[], 0, gd, rfl, fun _ he => by simp at he, fun _ => rfl⟩⟩ (rv.sub seen) hn fun m l c t s' x f I S D C => ⟨rfl, ?_⟩
  have fr4 : ∀ y ∈ [d + 1, d, m, c], hh.get? y = none := fun y hy => by
    simp only [List.mem_cons, List.not_mem_nil, or_false] at hy
    have back : ∀ z, ((hh.push emptyDict).push (instObj 95 d)).get? z = none → hh.get? z = none := fun z hz => by
      cases q : hh.get? z with
      | none => rfl
      | some o => rw [sub z o q] at hz; cases hz
    rcases hy with rfl | rfl | rfl | rfl
    · exact gr0
    · exact gd0
    · exact back _ (f _ (by simp))
    · exact back _ (f _ (by simp))
  refine h (d + 1) d m l c t s' ⟨fun b o n e => x.keep b o n (fun q => ?_) (sub b o e), fun q hq z => x.tab q hq (e0.tab q hq z), x.gens, x.os⟩ fr4 (fun z => by have q := f c (by simp); rw [z] at q; have q : ((hh.push emptyDict).push (instObj 95 d)).get? (d + 1) = none := q; rw [gr] at q; cases q) (fun z => by have q := f c (by simp); rw [z] at q; have q : ((hh.push emptyDict).push (instObj 95 d)).get? d = none := q; rw [gd] at q; cases q) ⟨I, S, ?_⟩ C
  · have e : hh.get? b = some o := e
    rw [fresh b q] at e; cases e
  · obtain ⟨ol, gl, rl⟩ := D
    exact ⟨ol, vis_more (fun y hy => List.mem_append_right _ hy) _ _ gl, rl⟩
end
end Mine
end
section
open PySem PySem.W PySem.Calls PyProof.Rows
set_option maxRecDepth 100000
namespace Mine

def tell (mods : List Str) (y : Str) : Int := if mods.any (fun m => isAbove m y) then 1 else 0
def said (mods : List Str) (y : Str) : Int := if y = "<string>" then 1 else tell mods y
def CacheP (prog : Program) (w : World) (dom : List Str) (mods : List Str) (o : Obj) : Prop := ∃ kvs, o.IsDictOf (strKind prog w) kvs ∧ ∀ p ∈ kvs, p.1 ∈ dom ∧ ∃ t, p.2 = .int (said mods p.1) t

/-- a reader's objects, as they are seen -/
structure Rd (prog : Program) (w : World) (g : Heap) (mods : List Str) (C N r d m l c : Addr) (mN : Str → Option Value) : Prop where
  inst : InstD C g r d (mIgn m l c)
  set : SetR prog w g m (fun y => mods.any (· == y)) mods.length
  dirs : g.IsList l #[]
  cls : PlainCls g C N mN
theorem Rd.sub {prog : Program} {w : World} {g g' : Heap} {mods : List Str} {C N r d m l c : Addr} {mN : Str → Option Value} (x : Rd prog w g mods C N r d m l c mN) (k : Sub g g') : Rd prog w g' mods C N r d m l c mN :=
  ⟨x.inst.keeps fun b o _ e => k b o e, x.set.at fun o e => k _ o e, let ⟨o, e, q⟩ := x.dirs; ⟨o, k _ _ e, q⟩,
    ⟨let ⟨a, b, c, d, e, f, g, h, i, j, k', l, m, z⟩ := x.cls.obj; ⟨a, b, c, d, e, f, g, h, i, j, k', l, m, k _ _ z⟩, x.cls.ns.keeps k⟩⟩

section
variable {prog : Program} {w : World} {W : Wd} {K : Frag} {off : List Addr} {tb : Tb} {k : Nat} {env : Env} {ρ : Rho} {mg mb : Str → Option Value} {A : Around} {X : List Addr} {s : Shared}
  {mods : List Str} {C N r d m l c : Addr} {mN : Str → Option Value}

theorem eval_attr {E : Value → Shared → Prop} {x attr : Str} {p pos : Pos} {a : Addr} {Q : Value → Shared → Prop} (R : Rd prog w s.heap mods C N r d m l c mN) (hk : env.scope.kind = .function) (b : Bound env s.heap x (.ref r))
    (hng : mN "__getattribute__" = none) (hna : mN attr = none) (hB : typeLookup (.type "object") attr = pure none) (hv : mIgn m l c attr = some (.ref a)) (h : Q (.ref a) { s with toks := s.toks + 1 })
    (hd : (x == ("__debug__" : Str)) = false) (hn : (x == ("__classdict__" : Str)) = false) : wpAny (model prog w) A (eval (.Attribute (.Name x p) attr pos) env) Q E s := by
  refine Attribute_name (bound_load hk b ?_ hd hn)
  obtain ⟨nm, q, bs, sn, sub, ab, col, dd, k0, k1, k2, k3, k5, hC⟩ := R.cls.obj
  obtain ⟨hh, g, dr, t, os⟩ := s
  exact load_attr hC R.cls.ns hng hna hB R.inst.inst hv rfl h

structure CacheAt (prog : Program) (w : World) (tb : Tb) (c : Addr) (dom mods : List Str) : Prop where
  mem : (c, TK.own (CacheP prog w dom mods)) ∈ tb
  only : ∀ q ∈ tb, q.1 = c → q.2 = .own (CacheP prog w dom mods)
  few : dom.length ≤ 1000
  sys : (c == sysModules) = false
theorem few_of {α : Type} [BEq α] [LawfulBEq α] : ∀ (l dom : List α), l.Nodup → (∀ x ∈ l, x ∈ dom) → l.length ≤ dom.length
  | [], _, _, _ => Nat.zero_le _
  | a :: t, dom, hn, hs => by
    have hn' := List.nodup_cons.mp hn
    have := few_of t (dom.erase a) hn'.2 (fun x hx => (List.mem_erase_of_ne (show x ≠ a from fun e => hn'.1 (e ▸ hx))).mpr (hs x (List.mem_cons_of_mem _ hx)))
    rw [List.length_erase_of_mem (hs a List.mem_cons_self)] at this
    have : 0 < dom.length := List.length_pos_of_mem (hs a List.mem_cons_self)
    simp only [List.length_cons]; omega
theorem Ok.cache {dom : List Str} (o : Ok K off tb X s) (hc : CacheAt prog w tb c dom mods) : ∃ kvs, s.heap.DictOf (strKind prog w) c kvs ∧ (∀ p ∈ kvs, p.1 ∈ dom ∧ ∃ t, p.2 = .int (said mods p.1) t) ∧ kvs.length ≤ 1000 := by
  obtain ⟨ob, es, n, g, _, kvs, hd, hp⟩ := o.tabs _ hc.mem
  have hD : s.heap.DictOf (strKind prog w) c kvs := Heap.dictOf_iff.mpr ⟨ob, g, hd⟩
  refine ⟨kvs, hD, hp, ?_⟩
  obtain ⟨es', ep', _, _, _, _, hnd⟩ := hd
  have := few_of (kvs.map (·.1)) dom hnd (fun x hx => by obtain ⟨p, hp', rfl⟩ := List.mem_map.mp hx; exact (hp p hp').1)
  rw [List.length_map] at this
  exact Nat.le_trans this hc.few
theorem stored_mem {kvs : List (Str × Value)} {y : Str} {v : Value} {p : Str × Value} (h : p ∈ PySem.stored kvs y v) : p = (y, v) ∨ p ∈ kvs := by
  unfold PySem.stored at h
  split at h
  · obtain ⟨q, hq, rfl⟩ := List.mem_map.mp h
    split
    · rename_i e; left; rw [e]
    · exact .inr hq
  · rcases List.mem_append.mp h with h | h
    · exact .inr h
    · rw [List.mem_singleton] at h; exact .inl h

theorem cache_store {dom : List Str} {y : Str} {ty t : Tok} {i : Int} {Q : Unit → Shared → Prop} {E : Value → Shared → Prop} (hO : Ok K off tb X s) (hc : CacheAt prog w tb c dom mods) (hi : said mods y = i) (hy : y ∈ dom)
    (h : ∀ s', Ext tb s s' → Q () s') : wpAny (model prog w) A (setItem (.ref c) (.str y ty) (.int i t)) Q E s := by
  obtain ⟨kvs, hD, hp, hl⟩ := hO.cache hc
  refine wpAny_setItem_pairs (is_str y ty) hD (fun h' hD' hs => ?_) (Nat.le_trans hl (by decide))
  obtain ⟨oc, g, _⟩ := Heap.dictOf_iff.mp hD
  obtain ⟨oc0, es0, n0, g0, d0, _⟩ := hO.tabs _ hc.mem
  refine h _ ⟨fun b o n e => hs.extBut b o (fun z => n (z ▸ List.mem_map_of_mem hc.mem)) e, fun q hq z => ?_, rfl, rfl⟩
  by_cases e : q.1 = c
  · rw [hc.only q hq e, e]
    obtain ⟨o', g', hd'⟩ := Heap.dictOf_iff.mp hD'
    obtain ⟨es', ep', hx, hd, _⟩ := id hd'
    refine ⟨o', es', ep', g', hd, PySem.stored kvs y (.int i t), hd', fun p hp' => ?_⟩
    rcases stored_mem hp' with rfl | hp'
    · exact ⟨hy, t, by rw [← hi]⟩
    · exact hp p hp'
  · exact z.but hs.extBut g0 (noCode_dict d0) (Ne.symm e)

theorem store_ret {dom : List Str} {y xs xm : Str} {i : Int} {p1 p2 p3 p4 p5 p6 p7 p8 : Pos} {n n' : Nat} {rest : List Stmt} {Q : Flow → Shared → Prop} (R : Rd prog w (vis tb X s.heap) mods C N r d m l c mN) (hO : Ok K off tb X s) (hE : EnvOk tb X env ρ s) (b : Bound env s.heap xs (.ref r))
    (hng : mN "__getattribute__" = none) (hna : mN "_ignore" = none) (hx : ρ.lookup xm = some (.str y)) (hc : CacheAt prog w tb c dom mods) (hi : said mods y = i) (hy : y ∈ dom)
    (h : ∀ t s', Ext tb s s' → Q (.ret (.int i t)) s')
    (hd : (xs == ("__debug__" : Str)) = false := by decide) (hn : (xs == ("__classdict__" : Str)) = false := by decide) (hd' : (xm == ("__debug__" : Str)) = false := by decide) (hn' : (xm == ("__classdict__" : Str)) = false := by decide) :
    wpAny (model prog w) A (execs (.Assign [.Subscript (.Attribute (.Name xs p1) "_ignore" p2) (.Name xm p3) p4] (.Constant (.int i) n p5) p6 :: .Return (some (.Constant (.int i) n' p7)) p8 :: rest) env) Q NoE s := by
  refine wpAny_execs_cons (wpAny_Assign_Subscript (wpAny_Constant_int ?_))
  have e1 : Ext tb s { s with toks := s.toks + 1 } := ext_tok _ _
  refine eval_attr (s := { s with toks := s.toks + 1 }) (R.sub (vis_below _ _ _)) hE.kind b hng hna look_ignore (a := c) rfl ?_ hd hn
  have e2 : Ext tb s { s with toks := s.toks + 1 + 1 } := ext_tok _ _
  obtain ⟨v, bv, rv⟩ := (hE.ext hO e2).vars _ (PySem.mem_of_lookup hx)
  obtain ⟨t, rfl⟩ := rv.str
  refine bound_load (s := { s with toks := s.toks + 1 + 1 }) hE.kind bv ?_ hd' hn'
  refine cache_store (hO.ext e2) hc hi hy fun s' e3 => ?_
  refine wpAny_execs_cons (wpAny_Return_some (wpAny_Constant_int ?_))
  exact h _ _ ((e2.trans e3).trans (ext_tok _ _))
end
end Mine
end
section
open PySem PySem.W PySem.Calls PyProof.Rows
set_option maxRecDepth 100000
namespace Mine
section
variable {prog : Program} {w : World} {W : Wd} {K : Frag} {off : List Addr} {tb : Tb} {k : Nat} {env : Env} {ρ : Rho} {mg mb : Str → Option Value}

theorem fn_startswith {x y : Str} : Fn prog w K off tb k (.builtin "str.startswith") [.str x, .str y] (.bool (Txt.startswith x y)) := by
  intro A X s vs Q hR hO r0 h
  obtain ⟨v, u, rfl, r, q⟩ := r0.two
  obtain ⟨t, rfl⟩ := r.str
  obtain ⟨t', rfl⟩ := q.str
  exact SC.startswith (h _ _ (.refl _ _) .mkBool)
theorem EnvOk.some {ρ' : Rho} {X : List Addr} {s : Shared} (e : EnvOk tb X env ρ s) (h : ∀ p ∈ ρ', p ∈ ρ) : EnvOk tb X env ρ' s := ⟨e.kind, e.globals, e.builtins, e.nloc, fun p hp => e.vars p (h p hp)⟩
theorem stored_bound {x y : Str} {u v : Value} {m : Str → Option Value} {h h' : Heap} (b : Bound env h y u) (hLn : h.Ns env.locals m) (n' : h'.Ns env.locals (fun z => if z = x then some v else m z)) (sb : Heap.SameBut env.locals h h') (hn : y ≠ x) : Bound env h' y u := by
  obtain ⟨oL, esL, epL, gL, dL, _⟩ := id hLn
  rcases b with ⟨kl, m', n1, hm⟩ | ⟨kc, c, hc, hv⟩
  · refine .inl ⟨kl, _, n', ?_⟩
    have : m y = m' y := by
      obtain ⟨o1, es1, ep1, a1, a2, _, a3⟩ := n1
      obtain ⟨o2, es2, ep2, b1, b2, _, b3⟩ := hLn
      rw [a1] at b1; cases b1; rw [a2] at b2; cases b2
      rw [← a3, ← b3]
    simp only [if_neg hn, this, hm]
  · obtain ⟨oc, c1, c2⟩ := hv
    exact .inr ⟨kc, c, hc, oc, sb.extBut c oc (fun z => by rw [z, gL] at c1; cases c1; rw [dL] at c2; cases c2) c1, c2⟩

variable {A : Around} {X : List Addr} {s : Shared} {mods : List Str} {C N r d m l c : Addr} {mN : Str → Option Value}

/-- what stands while names runs -/
structure NSt (prog : Program) (w : World) (K : Frag) (off : List Addr) (tb : Tb) (X : List Addr) (env : Env) (ρ : Rho) (xs : Str) (mods : List Str) (C N r d m l c : Addr) (mN : Str → Option Value) (s : Shared) : Prop where
  rd : Rd prog w (vis tb X s.heap) mods C N r d m l c mN
  ok : Ok K off tb X s
  en : EnvOk tb X env ρ s
  self : Bound env s.heap xs (.ref r)
  loc : ∃ mL, s.heap.Ns env.locals mL
theorem NSt.ext {xs : Str} {s' : Shared} (x : NSt prog w K off tb X env ρ xs mods C N r d m l c mN s) (e : Ext tb s s') : NSt prog w K off tb X env ρ xs mods C N r d m l c mN s' :=
  ⟨x.rd.sub e.vis, x.ok.ext e, x.en.ext x.ok e, x.self.ext x.ok x.en.nloc e, let ⟨mL, o, es, ep, g, q⟩ := x.loc; ⟨mL, o, es, ep, e.keep _ _ x.en.nloc g, q⟩⟩

theorem pt_bool {e : Expr} {b : Bool} (h : PV prog w K off tb k env ρ e (.bool b)) (he : ∀ whole, isTrue e env whole = (do let v ← whole; standAt e.pos; holding [v] (truthy v)) := by intro _; rfl) : PT prog w K off tb k env ρ e b := by
  intro A X s Q hR hO hE hQ
  refine wpAny_isTrue_value (h A X s _ hR hO hE fun v s₁ e₁ r₁ => ?_) (he _)
  obtain rfl := r₁.bool
  exact wpAny_truthy_bool (hQ s₁ e₁)
theorem Ok.hide {I : Addr} {s' : Shared} (o : Ok K off tb X s) (e : Ext tb s s') (hI : s.heap.get? I = none) (hI' : ∃ ob, s'.heap.get? I = some ob) (nt : I ∉ tb.map (·.1)) : Ok K off tb (I :: X) s' ∧ Sub (vis tb X s.heap) (vis tb (I :: X) s'.heap) := by
  have sb : Sub (vis tb X s.heap) (vis tb (I :: X) s'.heap) := fun b ob g => by
    obtain ⟨g0, n, m⟩ := vis_get g
    refine vis_mk (e.keep b ob n g0) n fun z => ?_
    rcases List.mem_cons.mp z with rfl | z
    · rw [hI] at g0; cases g0
    · exact m z
  refine ⟨⟨fun y hy => ?_, fun q hq => e.tab q hq (o.tabs q hq), o.top.sub sb⟩, sb⟩
  rcases List.mem_cons.mp hy with rfl | hy
  · exact ⟨nt, hI'⟩
  · exact (o.ext e).priv y hy
theorem NSt.hide {xs : Str} {I : Addr} {s' : Shared} (x : NSt prog w K off tb X env ρ xs mods C N r d m l c mN s) (e : Ext tb s s') (hI : s.heap.get? I = none) (hI' : ∃ ob, s'.heap.get? I = some ob) (nt : I ∉ tb.map (·.1)) :
    NSt prog w K off tb (I :: X) env ρ xs mods C N r d m l c mN s' := by
  obtain ⟨o, sb⟩ := x.ok.hide e hI hI' nt
  have y := x.ext e
  exact ⟨x.rd.sub sb, o, ⟨y.en.kind, y.en.globals, y.en.builtins, y.en.nloc, fun p hp => let ⟨v, b, rv⟩ := x.en.vars p hp; ⟨v, b.ext x.ok x.en.nloc e, rv.sub sb⟩⟩, y.self, y.loc⟩
theorem NSt.turn {xs : Str} {I : Addr} {s' : Shared} (x : NSt prog w K off tb (I :: X) env ρ xs mods C N r d m l c mN s) (y : ExtO tb [I] s s') (hI : ∃ o, s'.heap.get? I = some o) (hl : env.locals ≠ I) (hc : env.cells = []) :
    NSt prog w K off tb (I :: X) env ρ xs mods C N r d m l c mN s' := by
  have m1 : ∀ z ∈ [I], z ∈ I :: X := fun z hz => by rw [List.mem_singleton] at hz; exact hz ▸ List.mem_cons_self
  have hl' : env.locals ∉ [I] := fun z => hl (List.mem_singleton.mp z)
  have hc' : ∀ x c, env.cells.lookup x = some c → c ∉ [I] := fun x c z => by rw [hc] at z; cases z
  refine ⟨x.rd.sub (y.vis m1), x.ok.extO y m1 (fun z hz => by rw [List.mem_singleton] at hz; exact hz ▸ hI), x.en.extO x.ok y m1 hl' hc', x.self.extO x.ok x.en.nloc y hl' hc', ?_⟩
  obtain ⟨mL, o, es, ep, g, q⟩ := x.loc
  exact ⟨mL, o, es, ep, y.keep _ _ x.en.nloc hl' g, q⟩

theorem NSt.leave {xs : Str} {I : Addr} {s' : Shared} (x : NSt prog w K off tb (I :: X) env ρ xs mods C N r d m l c mN s) (y : ExtO tb [I] s s') (hI : I ∉ X) (hl : env.locals ≠ I) (hc : env.cells = []) :
    NSt prog w K off tb X env ρ xs mods C N r d m l c mN s' := by
  have hl' : env.locals ∉ [I] := fun z => hl (List.mem_singleton.mp z)
  have hc' : ∀ x c, env.cells.lookup x = some c → c ∉ [I] := fun x c z => by rw [hc] at z; cases z
  have sb : Sub (vis tb (I :: X) s.heap) (vis tb X s'.heap) := fun b o g => by
    obtain ⟨g0, n, m⟩ := vis_get g
    exact vis_mk (y.keep b o n (fun z => m (List.mem_singleton.mp z ▸ List.mem_cons_self)) g0) n fun z => m (List.mem_cons_of_mem _ z)
  refine ⟨x.rd.sub sb, ⟨fun z hz => ?_, fun q hq => y.tab q hq (x.ok.tabs q hq), x.ok.top.sub sb⟩, ⟨x.en.kind, x.en.globals, x.en.builtins, x.en.nloc, fun p hp => ?_⟩, x.self.extO x.ok x.en.nloc y hl' hc', ?_⟩
  · obtain ⟨n, o, g⟩ := x.ok.priv z (List.mem_cons_of_mem _ hz)
    exact ⟨n, o, y.keep z o n (fun q => hI (List.mem_singleton.mp q ▸ hz)) g⟩
  · obtain ⟨v, b, rv⟩ := x.en.vars p hp
    exact ⟨v, b.extO x.ok x.en.nloc y hl' hc', rv.sub sb⟩
  · obtain ⟨mL, o, es, ep, g, q⟩ := x.loc
    exact ⟨mL, o, es, ep, y.keep _ _ x.en.nloc hl' g, q⟩

theorem SetIt.keeps2 {h h' : Heap} {I a : Addr} {ord : List Value} {i : Nat} (x : SetIt w h I a ord i) (k : ∀ b o, (∀ es n, o.data ≠ .dict es n) → o.cls ≠ .none → h.get? b = some o → h'.get? b = some o) : SetIt w h' I a ord i := by
  obtain ⟨es, ep, t, first, h1, h2, h3, h4⟩ := x
  refine ⟨es, ep, t, first, k _ _ (fun _ _ z => by cases z) (by simp) h1, k _ _ (fun _ _ z => by cases z) (by simp) h2, h3, ?_⟩
  rcases h4 with h4 | ⟨b, T, p, z1, z2, z3⟩ | h4
  · exact .inl h4
  · exact .inr (.inl ⟨b, T, p, z1, k _ _ (fun _ _ z => by cases z) (by simp) z2, z3⟩)
  · exact .inr (.inr h4)

set_option maxHeartbeats 1000000 in
theorem for_set {xt xm xs y : Str} {dom : List Str} {pt p1 p2 p3 p4 p5 p6 p7 p8 p9 p10 q1 q2 q3 q4 q5 q6 q7 q8 : Pos} {n0 n1 n2 : Nat} {Q : Flow → Shared → Prop} (hR : Room A k) (x : NSt prog w K off tb X env ρ xs mods C N r d m l c mN s)
    (hX : ∀ z ∈ own env, z ∈ X) (hkt : env.kindOf xt = some .local) (hρt : ∀ p ∈ ρ, p.1 ≠ xt) (hst : xs ≠ xt) (hmt : (xm == xt) = false) (hxm : ρ.lookup xm = some (.str y))
    (hng : mN "__getattribute__" = none) (hni : mN "_ignore" = none) (hnm : mN "_mods" = none) (hc : CacheAt prog w tb c dom mods) (hy : y ∈ dom) (hn : mods.length < 4000) (hshort : ∀ z ∈ mods, z.length ≤ 1000)
    (hi : mods.any (fun z => Txt.startswith y (z ++ dot)) = true → said mods y = 1)
    (h1 : ∀ t s', ExtO tb (own env) s s' → mods.any (fun z => Txt.startswith y (z ++ dot)) = true → Q (.ret (.int 1 t)) s')
    (h2 : ∀ s', ExtO tb (own env) s s' → NSt prog w K off tb X env ρ xs mods C N r d m l c mN s' → mods.any (fun z => Txt.startswith y (z ++ dot)) = false → Q .next s')
    (hline : (p4.endLine == p8.line) = true := by rfl)
    (hcl : env.cells = []) 
    (d1 : (xs == ("__debug__" : Str)) = false := by decide) (d2 : (xs == ("__classdict__" : Str)) = false := by decide) (d3 : (xm == ("__debug__" : Str)) = false := by decide) (d4 : (xm == ("__classdict__" : Str)) = false := by decide)
    (d5 : (xt == ("__debug__" : Str)) = false := by decide) (d6 : (xt == ("__classdict__" : Str)) = false := by decide) :
    wpAny (model prog w) A (exec (.For (.Name xt pt) (.Attribute (.Name xs p1) "_mods" p2) [.If (.Call (.Attribute (.Name xm p3) "startswith" p4) [.BinOp (.Name xt p5) .Add (.Constant (.str dot) n0 p6) p7] [] p8)
      [.Assign [.Subscript (.Attribute (.Name xs q1) "_ignore" q2) (.Name xm q3) q4] (.Constant (.int 1) n1 q5) q6, .Return (some (.Constant (.int 1) n2 q7)) q8] [] p9] [] p10) env) Q NoE s := by
  refine wpAny_For (eval_attr (x.rd.sub (vis_below _ _ _)) x.en.kind x.self hng hnm look_mods (a := m) rfl ?_ d1 d2)
  have e1 : Ext tb s { s with toks := s.toks + 1 } := ext_tok _ _
  obtain ⟨es, ep, t, gm, hel, hmem, hsz, hfit, hled, hpl⟩ := x.rd.set.ex
  have gm' := vis_below _ _ _ _ _ gm
  refine set_iter (s := { s with toks := s.toks + 1 }) gm' hfit hled hpl (by omega) fun I ord h₂ dr hperm hsub hI it => ?_
  have hI : s.heap.get? I = none := hI
  have e2 : Ext tb s { s with toks := s.toks + 1, heap := h₂, drawn := dr } := .of_sub hsub rfl rfl
  have nIt : I ∉ tb.map (·.1) := fun z => by
    obtain ⟨q, hq, e⟩ := List.mem_map.mp z
    obtain ⟨_, g', _⟩ := (x.ok.tabs q hq).get
    rw [e, hI] at g'; cases g'
  have nIX : I ∉ X := fun z => by obtain ⟨_, o, g⟩ := x.ok.priv I z; rw [hI] at g; cases g
  obtain ⟨es', ep', t', first, itI, _⟩ := id it.ex
  have x2 := x.hide e2 hI ⟨_, itI⟩ nIt
  have hlI : env.locals ≠ I := fun z => by obtain ⟨mL, o, es, ep, g, _⟩ := x.loc; rw [z, hI] at g; cases g
  have hmI : m ≠ I := fun z => by rw [z, hI] at gm'; cases gm'
  have hord : ∀ v ∈ ord, ∃ z t, v = .str z t ∧ z ∈ mods := fun v hv => by
    obtain ⟨e, he, rfl⟩ := List.mem_map.mp (hperm.mem_iff.mp hv)
    obtain ⟨⟨z, hz, _⟩, _⟩ := hel e he
    obtain ⟨t, et⟩ := Value.isStrOf_shape hz
    refine ⟨z, t, et, ?_⟩
    have := (hmem z).mpr ⟨e, he, hz⟩
    obtain ⟨z', hz', q⟩ := List.any_eq_true.mp this
    rw [beq_iff_eq] at q
    exact q ▸ hz'
  have hall : ∀ z ∈ mods, ∃ t, Value.str z t ∈ ord := fun z hz => by
    obtain ⟨e, he, q⟩ := (hmem z).mp (List.any_eq_true.mpr ⟨z, hz, by simp⟩)
    obtain ⟨t, et⟩ := Value.isStrOf_shape q
    exact ⟨t, hperm.mem_iff.mpr (et ▸ List.mem_map_of_mem he)⟩
  have hln : ord.length ≤ mods.length := by rw [hperm.length_eq]; simpa using hsz
  refine codeAny_forLoop (fun n s' => ∃ i, n + i = ord.length + 1 ∧ i ≤ ord.length ∧ ExtO tb (own env) s s' ∧ NSt prog w K off tb (I :: X) env ρ xs mods C N r d m l c mN s' ∧ SetIt w s'.heap I m ord i ∧
      ∀ j z t, j < i → ord[j]? = some (.str z t) → Txt.startswith y (z ++ dot) = false) (fun n s' hinv => ?_) (ord.length + 1) ⟨0, rfl, Nat.zero_le _, .of e2, x2, it, fun j z t hj => absurd hj (Nat.not_lt_zero _)⟩
  obtain ⟨i, hnn, hil, y1, x3, it3, hno⟩ := hinv
  have nte : ∀ h' : Heap, Heap.ExtBut I s'.heap h' → ∀ dd tt, ExtO tb [I] s' { s' with heap := h', drawn := dd, toks := tt } := fun h' hx dd tt => by
    obtain ⟨es, ep, t, first, gI, _⟩ := id it3.ex
    exact ⟨fun b o _ mm g => hx b o (fun z => mm (by simp [z])) g, fun q hq z => z.but hx gI (fun vs q t z => by cases z; simp) (ne_of_tab nIt hq), rfl, rfl⟩
  cases hv : ord[i]? with
  | none =>
    refine set_next_end hR.handled it3 hv fun h' hx => ?_
    refine wpAny_execs_nil ?_
    have y4 := nte h' hx s'.drawn s'.toks
    have x4 := x3.leave (s' := { s' with heap := h' }) y4 nIX hlI hcl
    refine h2 _ ⟨fun b o n1 n2 g => y4.keep b o n1 (fun z => ?_) (y1.keep b o n1 n2 g), fun q hq z => y4.tab q hq (y1.tab q hq z), y1.gens, y1.os⟩ x4 ?_
    · rw [List.mem_singleton.mp z, hI] at g; cases g
    · rw [List.any_eq_false]
      intro z hz
      obtain ⟨t, ht⟩ := hall z hz
      obtain ⟨j, hj⟩ := List.getElem?_of_mem ht
      have : j < i := by
        have h1 := (List.getElem?_eq_some_iff.mp hj).1
        have h2 := List.getElem?_eq_none_iff.mp hv
        omega
      rw [hno j z t this hj]; simp
  | some v =>
    refine set_next_item it3 hv fun h' hx it4 => ?_
    have y4 := nte h' hx s'.drawn s'.toks
    obtain ⟨_, _, _, _, gI4, _⟩ := id it4.ex
    have x4 := x3.turn (s' := { s' with heap := h' }) y4 ⟨_, gI4⟩ hlI hcl
    obtain ⟨mL, hLn⟩ := x4.loc
    obtain ⟨z, tz, rfl, hz⟩ := hord v (List.mem_of_getElem? hv)
    have hkd : env.scope.kind = .function := x.en.kind
    refine wpAny_assign_Name (wpAny_storeName_local hkt hLn (fun h5 n5 sb5 => ?_) (by rw [hkd]; rfl))
    obtain ⟨x5, O5, E5, _⟩ := stored (t := s'.toks + 1) (a := .str z) x4.ok x4.en (fun q hq => List.mem_cons_of_mem _ (hX q hq)) hkt hLn n5 sb5 .mkStr hρt (fun x c _ hc => by rw [hcl] at hc; cases hc)
    have S5 : NSt prog w K off tb (I :: X) env ((xt, .str z) :: ρ) xs mods C N r d m l c mN { s' with heap := h5, toks := s'.toks + 1 } :=
      ⟨x4.rd.sub (x5.vis fun q hq => List.mem_cons_of_mem _ (hX q hq)), O5, E5, stored_bound x4.self hLn n5 sb5 hst, ⟨_, n5⟩⟩
    have it5 : SetIt w h5 I m ord (i + 1) := it4.keeps fun b o nd g => sb5.extBut b o (fun q => by
      obtain ⟨oL, esL, epL, gL, dL, _⟩ := id hLn
      rw [q, gL] at g; cases g; exact nd _ _ dL) g
    have y5 : ExtO tb (own env) s { s' with heap := h5, toks := s'.toks + 1 } :=
      ⟨fun b o n1 n2 g => x5.keep b o n1 n2 (y4.keep b o n1 (fun q => by rw [List.mem_singleton.mp q, hI] at g; cases g) (y1.keep b o n1 n2 g)), fun q hq z => x5.tab q hq (y4.tab q hq (y1.tab q hq z)), y1.gens, y1.os⟩
    refine wpAny_mono (E := NoE) ?_ (fun _ _ q => q) fun _ _ q => q.elim
    have hzl : z.length + dot.length ≤ sizeLine := by have := hshort z hz; have e : dot.length = 1 := by decide
                                                      rw [e]; have : sizeLine = 2 ^ 24 := rfl; omega
    refine wpAny_execs_cons (wpAny_If (pt_bool (b := Txt.startswith y (z ++ dot)) (pv_strMethod F.slot_str_startswith F.type_str_startswith (pv_var (by rw [List.lookup_cons, hmt]; exact hxm) d3 d4)
      (pv_binop (pv_var (by simp) d5 d6) pv_str (op_add_str hzl)) fn_startswith (by rfl) (by rfl) hline (by rfl)) (by intro _; rfl) A (I :: X) _ _ hR S5.ok S5.en fun s₆ e₆ => ?_))
    have S6 := S5.ext e₆
    cases hb : Txt.startswith y (z ++ dot) with
    | true =>
      simp only [if_true]
      have hany : mods.any (fun z => Txt.startswith y (z ++ dot)) = true := List.any_eq_true.mpr ⟨z, hz, hb⟩
      refine store_ret S6.rd S6.ok S6.en S6.self hng hni (by rw [List.lookup_cons, hmt]; exact hxm) hc (hi hany) hy (fun t s₇ e₇ => ?_) d1 d2 d3 d4
      exact h1 t s₇ (y5.trans (.of (e₆.trans e₇))) hany
    | false =>
      simp only [Bool.false_eq_true, if_false]
      refine wpAny_execs_nil (wpAny_execs_nil ⟨n - 1, by omega, i + 1, by omega, (List.getElem?_eq_some_iff.mp hv).1, y5.trans (.of e₆), ⟨S6.rd, S6.ok, S6.en.some fun p hp => List.mem_cons_of_mem _ hp, S6.self, S6.loc⟩, ?_, ?_⟩)
      · exact it5.keeps2 fun b o nd ncl g => e₆.keep b o (S5.ok.notTab g (fun ps q => ncl (by rw [q])) nd) g
      · intro j z' t' hj hz'
        rcases Nat.lt_succ_iff_lt_or_eq.mp hj with hj | rfl
        · exact hno j z' t' hj hz'
        · rw [hv] at hz'; cases hz'; exact hb
end
end Mine
end
section
open PySem PySem.W PySem.Calls PyProof.Rows
set_option maxRecDepth 100000
set_option linter.all false
namespace Mine
theorem valueAt_mem {kvs : List (Str × Value)} {y : Str} {v : Value} (h : valueAt kvs y = some v) : (y, v) ∈ kvs := by
  unfold valueAt at h
  obtain ⟨p, hp, rfl⟩ := Option.map_eq_some_iff.mp h
  have := List.find?_some hp
  simp at this
  exact this ▸ List.mem_of_find?_eq_some hp
theorem SetR.setOf {prog : Program} {w : World} {h : Heap} {a : Addr} {S : Str → Bool} {n : Nat} (x : SetR prog w h a S n) (hn : n < 4000) : ∃ m, h.SetOf (strKind prog w) a S m := by
  obtain ⟨es, ep, t, g, el, mem, small, fits, _⟩ := x.ex
  exact ⟨es.size, _, es, ep, t, g, ⟨rfl, rfl, rfl⟩, rfl, el, mem, by show es.size < 4096; omega, fits, rfl⟩
theorem any_above (mods : List Str) (y : Str) : mods.any (fun m => isAbove m y) = (mods.any (· == y) || mods.any (fun z => Txt.startswith y (z ++ dot))) := by
  rw [Bool.eq_iff_iff]
  constructor
  · intro h
    obtain ⟨z, hz, q⟩ := List.any_eq_true.mp h
    rw [isAbove_eq] at q
    rcases Bool.or_eq_true_iff.mp q with q | q
    · exact Bool.or_eq_true_iff.mpr (.inl (List.any_eq_true.mpr ⟨z, hz, beq_iff_eq.mpr (beq_iff_eq.mp q).symm⟩))
    · exact Bool.or_eq_true_iff.mpr (.inr (List.any_eq_true.mpr ⟨z, hz, q⟩))
  · intro h
    rcases Bool.or_eq_true_iff.mp h with h | h
    · obtain ⟨z, hz, q⟩ := List.any_eq_true.mp h
      exact List.any_eq_true.mpr ⟨z, hz, by rw [isAbove_eq]; exact Bool.or_eq_true_iff.mpr (.inl (beq_iff_eq.mpr (beq_iff_eq.mp q).symm))⟩
    · obtain ⟨z, hz, q⟩ := List.any_eq_true.mp h
      exact List.any_eq_true.mpr ⟨z, hz, by rw [isAbove_eq]; exact Bool.or_eq_true_iff.mpr (.inr q)⟩

section
variable {prog : Program} {w : World} {W : Wd} {K : Frag} {off : List Addr} {tb : Tb} {k : Nat} {env : Env} {ρ : Rho} {mg mb : Str → Option Value}
variable {A : Around} {X : List Addr} {s : Shared} {mods : List Str} {C N r d m l c : Addr} {mN : Str → Option Value}

set_option maxHeartbeats 2000000 in
theorem names_body {xt xd xf xm xs y f : Str} {dom : List Str} {pt p1 p2 p3 p4 p5 p6 p7 p8 p9 p10 q1 q2 q3 q4 q5 q6 q7 q8 : Pos} {n0 n1 n2 : Nat} {Q : Flow → Shared → Prop}
    {a1 a2 a3 a4 a5 a6 a7 a8 a9 a10 b1 b2 b3 b4 b5 b6 b7 b8 b9 b10 b11 b12 b13 c1 c2 c3 c5 c6 c7 c8 c9 c10 c11 c12 c13 e1 e2 e3 e4 f1 f2 f3 f4 f5 f6 f7 f8 : Pos} {n3 n4 n5 n6 n7 n8 n9 : Nat} {body5 : List Stmt}
    (hR : Room A k) (x : NSt prog w K off tb X env ρ xs mods C N r d m l c mN s)
    (hX : ∀ z ∈ own env, z ∈ X) (hkt : env.kindOf xt = some .local) (hρt : ∀ p ∈ ρ, p.1 ≠ xt) (hst : xs ≠ xt) (hmt : (xm == xt) = false) (hxm : ρ.lookup xm = some (.str y)) (hxf : ρ.lookup xf = some (.str f))
    (hng : mN "__getattribute__" = none) (hni : mN "_ignore" = none) (hnm : mN "_mods" = none) (hnd : mN "_dirs" = none) (hc : CacheAt prog w tb c dom mods) (hy : y ∈ dom) (hn : mods.length < 4000) (hshort : ∀ z ∈ mods, z.length ≤ 1000)
    (hys : y ≠ "<string>") (hcl : env.cells = [])
    (h : ∀ t s', ExtO tb (own env) s s' → Q (.ret (.int (said mods y) t)) s')
    (hline : (p4.endLine == p8.line) = true := by rfl)
    (d1 : (xs == ("__debug__" : Str)) = false := by decide) (d2 : (xs == ("__classdict__" : Str)) = false := by decide) (d3 : (xm == ("__debug__" : Str)) = false := by decide) (d4 : (xm == ("__classdict__" : Str)) = false := by decide)
    (d5 : (xt == ("__debug__" : Str)) = false := by decide) (d6 : (xt == ("__classdict__" : Str)) = false := by decide) (d7 : (xf == ("__debug__" : Str)) = false := by decide) (d8 : (xf == ("__classdict__" : Str)) = false := by decide) :
    wpAny (model prog w) A (execs [
      .If (.Compare (.Name xm a1) [.In] [.Attribute (.Name xs a2) "_ignore" a3] a4) [.Return (some (.Subscript (.Attribute (.Name xs a5) "_ignore" a6) (.Name xm a7) a8)) a9] [] a10,
      .If (.Compare (.Name xm b1) [.In] [.Attribute (.Name xs b2) "_mods" b3] b4) [.Assign [.Subscript (.Attribute (.Name xs b5) "_ignore" b6) (.Name xm b7) b8] (.Constant (.int 1) n3 b9) b10, .Return (some (.Constant (.int 1) n4 b11)) b12] [] b13,
      .For (.Name xt pt) (.Attribute (.Name xs p1) "_mods" p2) [.If (.Call (.Attribute (.Name xm p3) "startswith" p4) [.BinOp (.Name xt p5) .Add (.Constant (.str dot) n0 p6) p7] [] p8)
        [.Assign [.Subscript (.Attribute (.Name xs q1) "_ignore" q2) (.Name xm q3) q4] (.Constant (.int 1) n1 q5) q6, .Return (some (.Constant (.int 1) n2 q7)) q8] [] p9] [] p10,
      .If (.Compare (.Name xf c1) [.Is] [.Constant .none n5 c2] c3) [.Assign [.Subscript (.Attribute (.Name xs c5) "_ignore" c6) (.Name xm c7) c8] (.Constant (.int 1) n6 c9) c10, .Return (some (.Constant (.int 1) n7 c11)) c12] [] c13,
      .For (.Name xd e1) (.Attribute (.Name xs e2) "_dirs" e3) body5 [] e4,
      .Assign [.Subscript (.Attribute (.Name xs f1) "_ignore" f2) (.Name xm f3) f4] (.Constant (.int 0) n8 f5) f6,
      .Return (some (.Constant (.int 0) n9 f7)) f8] env) Q NoE s := by
  have hsaid : said mods y = tell mods y := if_neg hys
  -- in the cache
  obtain ⟨v0, b0, r0⟩ := x.en.vars _ (PySem.mem_of_lookup hxm)
  obtain ⟨ty, rfl⟩ := r0.str
  obtain ⟨kvs, hD, hp, hl⟩ := x.ok.cache hc
  have e1' : Ext tb s { s with toks := s.toks + 1 } := ext_tok _ _
  have x1 := x.ext e1'
  refine wpAny_execs_cons (wpAny_If (wpAny_isTrue_Compare1 (bound_load x.en.kind b0 ?_ d3 d4) (by with_unfolding_all rfl)))
  refine eval_attr (x.rd.sub (vis_below _ _ _)) x.en.kind x.self hng hni look_ignore (a := c) rfl ?_ d1 d2
  refine wpAny_in_of (is_str y ty) hc.sys (s := { s with toks := s.toks + 1 }) hD.mapOf ?_
  refine wpAny_truthy_bool ?_
  have e2' : Ext tb s { s with toks := s.toks + 1 + 1 } := ext_tok _ _
  have x2 := x.ext e2'
  cases hv : valueAt kvs y with
  | some v =>
    simp only [Option.isSome_some, if_true]
    obtain ⟨_, t, hvt⟩ := hp _ (valueAt_mem hv)
    simp only at hvt
    subst hvt
    refine wpAny_execs_cons (wpAny_Return_some (Subscript_ (eval_attr (s := { s with toks := s.toks + 1 + 1 }) (x2.rd.sub (vis_below _ _ _)) x2.en.kind x2.self hng hni look_ignore (a := c) rfl ?_ d1 d2)))
    refine bound_load (s := { s with toks := s.toks + 1 + 1 + 1 }) x.en.kind b0 ?_ d3 d4
    refine tail_any (s := { s with toks := s.toks + 1 + 1 + 1 }) hD.mapOf.typeIs slot_dict_getitem.lookup (wpAny_getItem_of (s := { s with toks := s.toks + 1 + 1 + 1 }) (is_str y ty) hD.mapOf hv ?_) (by with_unfolding_all rfl)
    exact h _ _ (.of (ext_tok _ _))
  | none =>
    simp only [Option.isSome_none, Bool.false_eq_true, if_false]
    refine wpAny_execs_nil ?_
    obtain ⟨v1, b1', r1⟩ := x2.en.vars _ (PySem.mem_of_lookup hxm)
    obtain ⟨ty1, rfl⟩ := r1.str
    -- among the names
    refine wpAny_execs_cons (wpAny_If (wpAny_isTrue_Compare1 (bound_load (s := { s with toks := s.toks + 1 + 1 }) x.en.kind b1' ?_ d3 d4) (by with_unfolding_all rfl)))
    refine eval_attr (s := { s with toks := s.toks + 1 + 1 }) (x2.rd.sub (vis_below _ _ _)) x.en.kind x2.self hng hnm look_mods (a := m) rfl ?_ d1 d2
    obtain ⟨nn, hS⟩ := (x2.rd.sub (vis_below _ _ _)).set.setOf hn
    refine wpAny_inSet_of (s := { s with toks := s.toks + 1 + 1 + 1 }) (is_str y ty1) rfl hS ?_
    refine wpAny_truthy_bool ?_
    have e3' : Ext tb s { s with toks := s.toks + 1 + 1 + 1 + 1 } := ext_tok _ _
    have x3 := x.ext e3'
    have hab := any_above mods y
    cases hm : mods.any (· == y) with
    | true =>
      simp only [if_true]
      have hi : said mods y = 1 := by rw [hsaid, tell, hab, hm]; rfl
      refine store_ret (s := { s with toks := s.toks + 1 + 1 + 1 + 1 }) x3.rd x3.ok x3.en x3.self hng hni hxm hc hi hy (fun t s' e => ?_) d1 d2 d3 d4
      rw [hi] at h
      exact h _ _ (.of (e3'.trans e))
    | false =>
      simp only [Bool.false_eq_true, if_false]
      refine wpAny_execs_nil (wpAny_execs_cons ?_)
      rw [hm, Bool.false_or] at hab
      refine for_set (s := { s with toks := s.toks + 1 + 1 + 1 + 1 }) hR x3 hX hkt hρt hst hmt hxm hng hni hnm hc hy hn hshort (fun q => by rw [hsaid, tell, hab, q]; rfl) (fun t s' y1 q => ?_) (fun s₄ y1 x4 q => ?_) hline hcl d1 d2 d3 d4 d5 d6
      · have hi : said mods y = 1 := by rw [hsaid, tell, hab, q]; rfl
        rw [hi] at h
        exact h _ _ ((ExtO.of e3').trans y1)
      · -- the file is there
        have hi : said mods y = 0 := by rw [hsaid, tell, hab, q]; rfl
        obtain ⟨vf, bf, rf⟩ := x4.en.vars _ (PySem.mem_of_lookup hxf)
        obtain ⟨tf, rfl⟩ := rf.str
        refine wpAny_execs_cons (wpAny_If (wpAny_isTrue_Compare1 (bound_load x.en.kind bf (wpAny_Constant_none (wpAny_is_other rfl (by simp) (wpAny_truthy_bool ?_))) d7 d8) (by with_unfolding_all rfl)))
        simp only [Bool.false_eq_true, if_false]
        refine wpAny_execs_nil ?_
        -- no directories
        refine wpAny_execs_cons (wpAny_For (eval_attr (x4.rd.sub (vis_below _ _ _)) x4.en.kind x4.self hng hnd look_dirs (a := l) rfl ?_ d1 d2))
        have hL := (x4.rd.sub (vis_below _ _ _)).dirs
        refine wpAny_pyIter_list (s := { s₄ with toks := s₄.toks + 1 }) hL ?_
        refine codeAny_forLoop (fun n s' => s' = { s₄ with toks := s₄.toks + 1, heap := s₄.heap.push { cls := .type "list_iterator", data := .fields #[.ref l, .int 0 0] } }) (fun n s' hinv => ?_) 1 rfl
        subst hinv
        refine wpAny_pyNext_list_end (i := 0) (l := l) (items := #[]) hR.handled ⟨_, Heap.get?_push_size _ rfl, rfl, rfl⟩ (hL.push _) rfl fun h5 hx => ?_
        refine wpAny_execs_nil ?_
        have e5 : Ext tb s₄ { s₄ with toks := s₄.toks + 1, heap := h5 } := by
          refine .of_sub (fun b o g => hx b o (fun z => ?_) (Heap.get?_push_of_some _ g)) rfl rfl
          have := Heap.lt_size g
          rw [z] at this
          exact Nat.lt_irrefl _ this
        have x5 := x4.ext e5
        refine store_ret x5.rd x5.ok x5.en x5.self hng hni hxm hc hi hy (fun t s' e => ?_) d1 d2 d3 d4
        rw [hi] at h
        exact h _ _ (((ExtO.of e3').trans y1).trans (.of (e5.trans e)))
end
end Mine
end
section
open PySem PySem.W PySem.Calls PyProof.Rows
set_option maxRecDepth 100000
set_option linter.all false
namespace Mine
section
variable {prog : Program} {w : World} {W : Wd} {off : List Addr} {tb : Tb} {k : Nat}
variable {A : Around} {X : List Addr} {s : Shared} {mods : List Str} {r d m l c : Addr}

set_option maxHeartbeats 2000000 in
theorem call_names {y f : Str} {tf ty : Tok} {dom : List Str} {Q : Value → Shared → Prop} (hR : Room A (k + 1)) (hoff : ∀ a ∈ [91, 92], a ∉ off) (G : Globs (K1 W) off (mg1 W) (mb1 W)) (hO : Ok (K1 W) off tb X s)
    (R : Rd prog w (vis tb X s.heap) mods 95 94 r d m l c (nsOf (K1 W) 94)) (hc : CacheAt prog w tb c dom mods) (hy : y ∈ dom) (hn : mods.length < 4000) (hshort : ∀ z ∈ mods, z.length ≤ 1000) (hys : y ≠ "<string>")
    (h : ∀ t s', Ext tb s s' → Q (.int (said mods y) t) s') :
    wpAny (model prog w) A (call (.ref 92) [.ref r, .str f tf, .str y ty]) Q NoE s := by
  refine wpAny_call ?_
  refine codeAny_call_binds (binds := [("self", .ref r), ("filename", .str f tf), ("modulename", .str y ty)]) hR.lim (hO.get (a := 92) rfl (hoff 92 (by decide))) rfl (hO.globs G).2.2 ?_ rfl ?_ rfl ?_ (fun s₁ I₁ => ?_)
  · exact Heap.CodeRec.keeps (⟨91, _, _, _, rfl, hO.top 91 _ rfl (hoff 91 (by decide)), rfl, rfl⟩ : (vis tb X s.heap).CodeRec _ _) (vis_below _ _ _)
  · intro A' Q E' hq
    exact wpAny_pure hq
  · exact List.forall_mem_cons.mpr ⟨.inl rfl, List.forall_mem_cons.mpr ⟨.inl rfl, List.forall_mem_cons.mpr ⟨.inl rfl, fun _ h => nomatch h⟩⟩⟩
  · have T := entered (ρ := [("filename", .str f), ("modulename", .str y)]) rfl I₁ hO rfl rfl rfl (show (["self", "filename", "modulename"] : List Str).Nodup by decide)
      (List.forall_mem_cons.mpr ⟨.inl rfl, List.forall_mem_cons.mpr ⟨.inl rfl, List.forall_mem_cons.mpr ⟨.inl rfl, fun _ h => nomatch h⟩⟩⟩)
      (List.forall_mem_cons.mpr ⟨⟨.str f tf, by simp, .mkStr⟩, List.forall_mem_cons.mpr ⟨⟨.str y ty, by simp, .mkStr⟩, fun _ h => nomatch h⟩⟩)
    refine wpAny_mono (E := NoE) ?_ (fun _ _ z => z) fun _ _ z => z.elim
    refine names_body (xt := "mod") (xs := "self") (xm := "modulename") (xf := "filename") (y := y) (f := f) hR.deeper ⟨R.sub T.seen, T.ok, T.en, T.bound ("self", .ref r) (by simp), T.loc⟩ (fun z hz => List.mem_append_left _ hz) rfl (nmem rfl) (by decide) (by decide) rfl rfl rfl rfl rfl rfl hc hy hn hshort hys rfl
      fun t s' x => ?_
    refine h t s' ⟨fun b o n e => x.keep b o n (fun z => ?_) (T.ext.keep b o n e), fun q hq z => x.tab q hq (T.ext.tab q hq z), x.gens.trans T.ext.gens, x.os.trans T.ext.os⟩
    rw [T.fresh b z] at e; cases e
end
end Mine
end
section
open PySem PySem.W PySem.Calls PyProof.Rows
set_option maxRecDepth 100000
set_option linter.all false
namespace Mine
theorem lookup_app {a : Addr} : ∀ (K L : Frag), (K ++ L).lookup a = (K.lookup a).or (L.lookup a)
  | [], L => by simp
  | (b, o) :: K, L => by
    rw [List.cons_append]
    by_cases e : a = b
    · subst e; simp
    · have e' : (a == b) = false := by simpa using e
      simp only [List.lookup, e']
      exact lookup_app K L
theorem lookup_mem {a : Addr} {o : Obj} : ∀ {L : Frag}, L.lookup a = some o → (a, o) ∈ L
  | [], h => by cases h
  | (b, ob) :: L, h => by
    by_cases e : a = b
    · subst e; simp at h; subst h; exact List.mem_cons_self
    · have e' : (a == b) = false := by simpa using e
      simp only [List.lookup, e'] at h
      exact List.mem_cons_of_mem _ (lookup_mem h)

section
variable {prog : Program} {w : World} {W : Wd} {K L : Frag} {off : List Addr} {tb : Tb} {k : Nat} {env : Env} {ρ : Rho} {mg mb : Str → Option Value} {X : List Addr} {s s' s₀ : Shared} {c : Addr} {P : Obj → Prop}

theorem TopOk.shrink {g : Heap} (h : TopOk (K ++ L) off g) : TopOk K off g := fun a o e n => h a o (by rw [lookup_app, e]; rfl) n
theorem Ok.shrink (o : Ok (K ++ L) off tb X s) : Ok K off tb X s := ⟨o.priv, o.tabs, o.top.shrink⟩
theorem Ok.grow (o : Ok K off tb X s) (h : ∀ p ∈ L, (vis tb X s.heap).get? p.1 = some p.2) : Ok (K ++ L) off tb X s := by
  refine ⟨o.priv, o.tabs, fun a ob e n => ?_⟩
  rw [lookup_app] at e
  cases hK : K.lookup a with
  | some ob' => rw [hK] at e; cases e; exact o.top a _ hK n
  | none => rw [hK] at e; exact h _ (lookup_mem e)
theorem Globs.grow (G : Globs K off mg mb) : Globs (K ++ L) off mg mb := fun g h => G g h.shrink
/- a cache of one's own, for a while -/
theorem vis_in (e : Ext tb s₀ s) (hc : s₀.heap.get? c = none) : Sub (vis tb X s₀.heap) (vis ((c, .own P) :: tb) X s.heap) := fun b o g => by
  obtain ⟨g0, n, m⟩ := vis_get g
  refine vis_mk (e.keep b o n g0) (fun z => ?_) m
  rcases List.mem_cons.mp z with z | z
  · have z : b = c := z
    rw [z, hc] at g0; cases g0
  · exact n z
theorem Ok.cacheIn (o : Ok K off tb X s₀) (e : Ext tb s₀ s) (hc : s₀.heap.get? c = none) (t : TabOk s.heap c (.own P)) : Ok K off ((c, .own P) :: tb) X s := by
  refine ⟨fun y hy => ?_, fun q hq => ?_, o.top.sub (vis_in e hc)⟩
  · obtain ⟨n, ob, g⟩ := o.priv y hy
    refine ⟨fun z => ?_, ob, e.keep y ob n g⟩
    rcases List.mem_cons.mp z with z | z
    · have z : y = c := z
      rw [z, hc] at g; cases g
    · exact n z
  · rcases List.mem_cons.mp hq with rfl | hq
    · exact t
    · exact e.tab q hq (o.tabs q hq)
theorem EnvOk.cacheIn (x : EnvOk tb X env ρ s₀) (o : Ok K off tb X s₀) (e : Ext tb s₀ s) (hc : s₀.heap.get? c = none) (hl : env.locals ≠ c) : EnvOk ((c, .own P) :: tb) X env ρ s := by
  refine ⟨x.kind, x.globals, x.builtins, fun z => ?_, fun p hp => ?_⟩
  · rcases List.mem_cons.mp z with z | z
    · exact hl z
    · exact x.nloc z
  · obtain ⟨v, b, r⟩ := x.vars p hp
    exact ⟨v, b.ext o x.nloc e, r.sub (vis_in e hc)⟩
end

section
variable {prog : Program} {w : World} {W : Wd} {off : List Addr} {tb : Tb} {k : Nat} {env : Env} {ρ : Rho} {X : List Addr} {s s' s₀ : Shared}

theorem notTab_new {K : Frag} {y : Addr} (o : Ok K off tb X s₀) (h : s₀.heap.get? y = none) : y ∉ tb.map (·.1) ∧ y ∉ X := by
  refine ⟨fun m => ?_, fun m => ?_⟩
  · obtain ⟨q, hq, e⟩ := List.mem_map.mp m
    obtain ⟨_, g, _⟩ := (o.tabs q hq).get
    rw [e, h] at g; cases g
  · obtain ⟨_, ob, g⟩ := o.priv y m
    rw [h] at g; cases g

/-- a reader that was just made, with its cache marked -/
theorem reader_rd {mods dom : List Str} {r d m l c : Addr} {t : Tok} (o : Ok (K1 W) off tb X s₀) (e : Ext tb s₀ s) (fr : ∀ y ∈ [r, d, m, c], s₀.heap.get? y = none) (hcr : c ≠ r) (hcd : c ≠ d) (R : Reader prog w tb X s.heap mods r d m l c)
    (D : s.heap.DictOf (strKind prog w) c [("<string>", .int 1 t)]) (hoff : ∀ a ∈ [1, 94, 95], a ∉ off) (hdom : dom.length ≤ 900) :
    Ok (K1 W) off ((c, .own (CacheP prog w ("<string>" :: dom) mods)) :: tb) X s ∧ Rd prog w (vis ((c, .own (CacheP prog w ("<string>" :: dom) mods)) :: tb) X s.heap) mods 95 94 r d m l c (nsOf (K1 W) 94) ∧
      CacheAt prog w ((c, .own (CacheP prog w ("<string>" :: dom) mods)) :: tb) c ("<string>" :: dom) mods := by
  have fc := fr c (by simp)
  obtain ⟨oc, gc, hdo⟩ := Heap.dictOf_iff.mp D
  obtain ⟨es, ep, hx, hd, _⟩ := id hdo
  have T : TabOk s.heap c (.own (CacheP prog w ("<string>" :: dom) mods)) := ⟨oc, es, ep, gc, hd, _, hdo, fun p hp => by
    rw [List.mem_singleton] at hp; subst hp
    exact ⟨List.mem_cons_self, t, rfl⟩⟩
  have O := o.cacheIn e fc T
  have nt : ∀ y ∈ [r, d, m], y ≠ c → y ∉ ((c, TK.own (CacheP prog w ("<string>" :: dom) mods)) :: tb).map (·.1) ∧ y ∉ X := fun y hy hne => by
    obtain ⟨n1, n2⟩ := notTab_new o (fr y (by simp at hy; rcases hy with rfl | rfl | rfl <;> simp))
    refine ⟨fun z => ?_, n2⟩
    rcases List.mem_cons.mp z with z | z
    · exact hne z
    · exact n1 z
  have look : ∀ y ∈ [r, d, m], y ≠ c → ∀ ob, s.heap.get? y = some ob → (vis ((c, .own (CacheP prog w ("<string>" :: dom) mods)) :: tb) X s.heap).get? y = some ob := fun y hy hne ob g => vis_mk g (nt y hy hne).1 (nt y hy hne).2
  have hmc : m ≠ c := fun z => by
    obtain ⟨es', ep', t', g', _⟩ := R.set.ex
    rw [z, gc] at g'; cases g'; cases hd
  refine ⟨O, ⟨?_, ?_, ?_, ?_⟩, ⟨List.mem_cons_self, fun q hq hqc => ?_, by simp; omega, ?_⟩⟩
  · exact R.inst.keeps fun b ob hb g => by
      rcases List.mem_cons.mp hb with rfl | hb
      · exact look _ (by simp) (Ne.symm hcr) _ g
      · rw [List.mem_singleton] at hb; subst hb; exact look _ (by simp) (Ne.symm hcd) _ g
  · exact R.set.at fun ob g => look _ (by simp) hmc _ g
  · obtain ⟨ol, gl, rl⟩ := R.dirs
    obtain ⟨g0, n1, n2⟩ := vis_get gl
    refine ⟨ol, vis_mk g0 (fun z => ?_) n2, rl⟩
    rcases List.mem_cons.mp z with z | z
    · have z : l = c := z
      rw [z, gc] at g0; cases g0
      obtain ⟨_, n, q⟩ := rl
      rw [hd] at q; cases q
    · exact n1 z
  · exact cls95 O.top (sub_off hoff (by decide))
  · rcases List.mem_cons.mp hq with rfl | hq
    · rfl
    · exact absurd (hqc ▸ List.mem_map_of_mem hq) (notTab_new o fc).1
  · have h1 := o.get (a := 1) rfl (hoff 1 (by decide))
    have : c ≠ sysModules := fun z => by rw [z] at fc; rw [show sysModules = (1 : Nat) from rfl] at fc; rw [fc] at h1; cases h1
    simpa using this
end
end Mine
end
section
open PySem PySem.W PySem.Calls PyProof.Rows
set_option maxRecDepth 100000
set_option linter.all false
namespace Mine
section
variable {prog : Program} {w : World} {W : Wd} {K L : Frag} {off : List Addr} {tb : Tb} {k : Nat} {env : Env} {ρ : Rho} {mg mb : Str → Option Value} {X : List Addr} {s s' s₀ : Shared} {c : Addr} {P : Obj → Prop}

theorem frozen (o : Ok K off tb X s) (hL : ∀ p ∈ L, (vis tb X s.heap).get? p.1 = some p.2) (hoff : ∀ a ∈ off, a ∈ tb.map (·.1)) (g : Heap) (h : TopOk (K ++ L) off g) : ∀ p ∈ L, g.get? p.1 = some p.2 := by
  intro p hp
  have hv := hL p hp
  have hn : p.1 ∉ off := fun z => (vis_get hv).2.1 (hoff _ z)
  have hg := o.grow hL
  cases hl : (K ++ L).lookup p.1 with
  | none =>
    rw [lookup_app] at hl
    have : L.lookup p.1 = none := by
      cases hk : K.lookup p.1 with
      | none => rw [hk] at hl; exact hl
      | some _ => rw [hk] at hl; cases hl
    have := List.lookup_eq_none_iff.mp this p hp
    simp at this
  | some ob =>
    have h1 := hg.top _ _ hl hn
    rw [hv] at h1; cases h1
    exact h _ _ hl hn
theorem Rd.frag {g : Heap} {mods : List Str} {C N r d m l c : Addr} {mN : Str → Option Value} (x : Rd prog w g mods C N r d m l c mN) :
    ∃ L : Frag, (∀ p ∈ L, g.get? p.1 = some p.2) ∧ ∀ g', (∀ p ∈ L, g'.get? p.1 = some p.2) → PlainCls g' C N mN → Rd prog w g' mods C N r d m l c mN := by
  obtain ⟨o, g1, c1, p1, e1, n1, n2⟩ := x.inst
  obtain ⟨od, esd, epd, gd, hd⟩ := id n2
  obtain ⟨om, gm⟩ : ∃ om, g.get? m = some om := by obtain ⟨es, ep, t, gm, _⟩ := x.set.ex; exact ⟨_, gm⟩
  obtain ⟨ol, gl, hl⟩ := id x.dirs
  refine ⟨[(r, o), (d, od), (m, om), (l, ol)], ?_, fun g' h hc => ⟨?_, ?_, ?_, hc⟩⟩
  · intro p hp
    simp only [List.mem_cons, List.not_mem_nil, or_false] at hp
    rcases hp with rfl | rfl | rfl | rfl
    · exact g1
    · exact gd
    · exact gm
    · exact gl
  · refine ⟨o, h (r, o) (by simp), c1, p1, e1, n1, n2.at fun ob q => ?_⟩
    have : g.get? d = some ob := q
    rw [gd] at this; cases this
    exact h (d, od) (by simp)
  · exact x.set.at fun ob q => by
      rw [gm] at q; cases q
      exact h (m, om) (by simp)
  · exact ⟨ol, h (l, ol) (by simp), hl⟩
end

theorem look_names : typeLookup (.type "object") "names" = pure none := by rw [typeLookup_type, builtinLookup_eq_fast]; kernel_rfl

section
variable {prog : Program} {w : World} {W : Wd} {off : List Addr} {tb : Tb} {k : Nat} {env : Env} {ρ : Rho} {X : List Addr} {s s' s₀ : Shared} {A : Around}

theorem keep95 : keepIn (K95 W) (.ref 95) = true := by rfl
/-- _Ignore(e) -/
theorem eval_ignore {e : Expr} {p pos : Pos} {mods : List Str} {Q : Value → Shared → Prop} (G : Globs (K1 W) off (mg1 W) (mb1 W)) (hoff : ∀ a ∈ [80, 84, 85, 92, 94, 95], a ∉ off) (he : PV prog w (K1 W) off tb (k + 2) env ρ e (.list (sts mods)))
    (hn : mods.length < 4000) (hR : Room A (k + 2)) (hO : Ok (K1 W) off tb X s) (hE : EnvOk tb X env ρ s)
    (h : ∀ r d m l c t s', Ext tb s s' → (∀ y ∈ [r, d, m, c], s.heap.get? y = none) → c ≠ r → c ≠ d → Reader prog w tb X s'.heap mods r d m l c → s'.heap.DictOf (strKind prog w) c [("<string>", .int 1 t)] → Q (.ref r) s')
    (hx : env.kindOf "_Ignore" = some .globalImplicit := by rfl) (hst : starEach [e] env = [(false, eval e env)] := by rfl) :
    wpAny (model prog w) A (eval (.Call (.Name "_Ignore" p) [e] [] pos) env) Q NoE s := by
  refine wpAny_Call_NameR (load_global G hO hE rfl hx (by decide) ?_)
  have hk : ∀ a ∈ [85, 92, 94, 95], a ∉ off := sub_off hoff (by decide)
  refine callWith_of (P := fun h => (K95 W).In h) (by rw [hst]; rfl) (keeps_K keep95) ?_
  rw [hst]
  refine evalArgs_plain (spliced_cons (he A X s _ hR hO hE fun v s₁ e₁ r₁ => spliced_nil ⟨k95_in ((hO.ext e₁).top.sub (vis_below _ _ _)) hk, ?_⟩))
  refine ign_new hR hoff G (hO.ext e₁) r₁ hn fun r d m l c t s₂ e₂ f q1 q2 R D => ?_
  refine h r d m l c t s₂ (e₁.trans e₂) (fun y hy => ?_) q1 q2 R D
  have hy' := f y hy
  cases hg : s.heap.get? y with
  | none => rfl
  | some ob =>
    by_cases hm : y ∈ tb.map (·.1)
    · obtain ⟨q, hq, z⟩ := List.mem_map.mp hm
      obtain ⟨_, g', _⟩ := ((hO.ext e₁).tabs q hq).get
      rw [z, hy'] at g'; cases g'
    · rw [e₁.keep y ob hm hg] at hy'; cases hy'

theorem callWith_fn {M : Model} {A : Around} {E : Value → Shared → Prop} {f : Addr} {o : Obj} {fd : FuncData} {first : List Value} {pos : Pos} {e : Expr} {rest : List Expr} {Q : Value → Shared → Prop} (hdat : o.data = .func fd)
    (h : wpAny M A (spliced (backTo pos (starEach (e :: rest) env))) (fun vs s₁ => s₁.heap.get? f = some o ∧ wpAny M A (call (.ref f) (first ++ vs)) Q E s₁) E s)
    (he : starEach (e :: rest) env = (false, eval e env) :: starEach rest env) : wpAny M A (callWith pos (.ref f) first (backTo pos (starEach (e :: rest) env)) []) Q E s := by
  rw [he] at h ⊢
  exact callWith_function (o := o) (fd := fd) (evalArgs_plain (wpAny_mono h (fun vs s₁ h₁ => ⟨⟨h₁.1, hdat⟩, h₁.2⟩) fun _ _ x => x))

theorem method_names {r d : Addr} {mA : Str → Option Value} {pl : Sem Bool} {E : Value → Shared → Prop} {Q : Value × List Value → Shared → Prop} (hO : Ok (K1 W) off tb X s) (hoff : ∀ a ∈ [80, 84, 85, 92, 94, 95], a ∉ off) (I : InstD 95 s.heap r d mA) (hsh : mA "names" = none)
    (h : Q (.ref 92, [.ref r]) s) : wpAny (model prog w) A (getMethod (.ref r) "names" pl) Q E s := by
  obtain ⟨⟨nm, q, bs, sn, sub, ab, col, dd, k0, k1, k2, k3, k5, hC⟩, hns⟩ := cls95 (hO.top.sub (vis_below _ _ _)) (sub_off hoff (by decide))
  have h92 := hO.get (a := 92) rfl (hoff 92 (by decide))
  obtain ⟨hh, g, dr, t, os⟩ := s
  exact method_of hC hns rfl rfl rfl h92 rfl look_names I.inst hsh h

end
end Mine
end
section
open PySem PySem.W PySem.Calls PyProof.Rows
set_option maxRecDepth 100000
set_option linter.all false
namespace Mine
mutual
theorem reads_seqs {h h' : Heap} (hk : ∀ b o, ((∃ a n, o.data = .seq a n) ∨ (∃ a n, o.data = .dict a n)) → h.get? b = some o → h'.get? b = some o) : ∀ {v : Value} {d : PyData} {as : List Addr}, Reads h v d as → Reads h' v d as
  | _, _, _, .none => .none
  | _, _, _, .bool _ => .bool _
  | _, _, _, .int _ _ => .int _ _
  | _, _, _, .str _ _ => .str _ _
  | _, _, _, .list e c d r => .list (hk _ _ (.inl ⟨_, _, d⟩) e) c d (readsAll_seqs hk r)
  | _, _, _, .tuple e c d r => .tuple (hk _ _ (.inl ⟨_, _, d⟩) e) c d (readsAll_seqs hk r)
  | _, _, _, .dict e c d r q => .dict (hk _ _ (.inr ⟨_, _, d⟩) e) c d (readsAll_seqs hk r) (readsAll_seqs hk q)
theorem readsAll_seqs {h h' : Heap} (hk : ∀ b o, ((∃ a n, o.data = .seq a n) ∨ (∃ a n, o.data = .dict a n)) → h.get? b = some o → h'.get? b = some o) : ∀ {vs : List Value} {ds : List PyData} {as : List Addr}, ReadsAll h vs ds as → ReadsAll h' vs ds as
  | _, _, _, .nil => .nil
  | _, _, _, .cons r q => .cons (reads_seqs hk r) (readsAll_seqs hk q)
end
theorem Rp.seqs {h h' : Heap} {v : Value} {d : PyData} (x : Rp h v d) (hk : ∀ b o, ((∃ a n, o.data = .seq a n) ∨ (∃ a n, o.data = .dict a n)) → h.get? b = some o → h'.get? b = some o) : Rp h' v d := let ⟨as, r⟩ := x; ⟨as, reads_seqs hk r⟩

section
variable {prog : Program} {w : World} {W : Wd} {K L : Frag} {off : List Addr} {tb : Tb} {k : Nat} {env : Env} {ρ : Rho} {mg mb : Str → Option Value} {X : List Addr} {s s' s₀ s₁ : Shared}

theorem storedC {x : Str} {c : Addr} {v : Value} {v0 : Option Value} {h' : Heap} (O1 : Ok K off tb X s₁) (E1 : EnvOk tb X env ρ s₁) (cx : c ∈ X) (hc : env.cells.lookup x = some c) (hv0 : s₁.heap.IsCell c v0) (n' : h'.IsCell c (some v)) (sb : Heap.SameBut c s₁.heap h')
    (hn : ∀ p ∈ ρ, p.1 ≠ x) (hU : ∀ x y c, env.cells.lookup x = some c → env.cells.lookup y = some c → x = y) :
    ExtO tb [c] s₁ { s₁ with heap := h' } ∧ Ok K off tb X { s₁ with heap := h' } ∧ EnvOk tb X env ρ { s₁ with heap := h' } := by
  obtain ⟨oc, c1, c2⟩ := id hv0
  obtain ⟨oc', g', d'⟩ := id n'
  have inX : ∀ y ∈ [c], y ∈ X := fun y hy => by rw [List.mem_singleton] at hy; exact hy ▸ cx
  have x1 : ExtO tb [c] s₁ { s₁ with heap := h' } :=
    ⟨fun b o _ m e => sb.extBut b o (fun z => m (by simp [z])) e, fun q hq z => z.but sb.extBut c1 (noCode_cell c2) (ne_of_tab (O1.cellTab hv0) hq), rfl, rfl⟩
  refine ⟨x1, O1.extO x1 inX (fun y hy => by rw [List.mem_singleton] at hy; exact hy ▸ ⟨_, g'⟩), ⟨E1.kind, E1.globals, E1.builtins, E1.nloc, fun q hq => ?_⟩⟩
  obtain ⟨u, b, ru⟩ := E1.vars q hq
  refine ⟨u, ?_, ru.sub (x1.vis inX)⟩
  rcases b with ⟨kl, m', ⟨o1, es1, ep1, a1, a2, a3⟩, hm⟩ | ⟨kc, c', hc', hv⟩
  · exact .inl ⟨kl, m', ⟨o1, es1, ep1, sb.extBut _ _ (fun z => by rw [z, c1] at a1; cases a1; rw [c2] at a2; cases a2) a1, a2, a3⟩, hm⟩
  · obtain ⟨o', b1, b2⟩ := hv
    exact .inr ⟨kc, c', hc', o', sb.extBut c' o' (fun z => hn q hq (hU _ _ c (z ▸ hc') hc)) b1, b2⟩
end

section
variable {prog : Program} {w : World} {W : Wd} {L : Frag} {off : List Addr} {tb : Tb} {k : Nat} {env : Env} {ρ : Rho} {mg mb : Str → Option Value} {X : List Addr} {s s' s₀ s₁ : Shared}

/-- x.names(f, e₂), x a reader in a cell that is known -/
theorem pv_names {x f y : Str} {e₂ : Expr} {nf : Nat} {p1 pa pf pos : Pos} {mods dom : List Str} {cc r d m l c : Addr} (G : Globs (K1 W) off (mg1 W) (mb1 W)) (hoff : ∀ a ∈ [1, 80, 84, 85, 91, 92, 94, 95], a ∉ off)
    (hF : ∀ g, TopOk (K1 W ++ L) off g → Rd prog w g mods 95 94 r d m l c (nsOf (K1 W) 94) ∧ g.IsCell cc (some (.ref r))) (hx : CellKind env x) (hcc : env.cells.lookup x = some cc) (hC : CacheAt prog w tb c dom mods) (hy : y ∈ dom)
    (h2 : PV prog w (K1 W ++ L) off tb (k + 2) env ρ e₂ (.str y)) (hn : mods.length < 4000) (hshort : ∀ z ∈ mods, z.length ≤ 1000) (hys : y ≠ "<string>") (pl : Sem Bool)
    (hs2 : starEach [.Constant (.str f) nf pf, e₂] env = (false, eval (.Constant (.str f) nf pf) env) :: starEach [e₂] env := by rfl) (hs3 : starEach [e₂] env = [(false, eval e₂ env)] := by rfl)
    (he : eval (.Call (.Attribute (.Name x p1) "names" pa) [.Constant (.str f) nf pf, e₂] [] pos) env = (do
      let ov ← eval (.Name x p1) env
      standAt pa.atName
      let (f', first) ← holding [ov] (getMethod ov "names" pl)
      callWith pos f' first (backTo pos (starEach [.Constant (.str f) nf pf, e₂] env)) []) := by rfl)
    (hd : (x == ("__debug__" : Str)) = false := by decide) (hcd : (x == ("__classdict__" : Str)) = false := by decide) :
    PV prog w (K1 W ++ L) off tb (k + 2) env ρ (.Call (.Attribute (.Name x p1) "names" pa) [.Constant (.str f) nf pf, e₂] [] pos) (.int (said mods y)) := by
  intro A X s Q hR hO hE h
  have ho6 : ∀ a ∈ [80, 84, 85, 92, 94, 95], a ∉ off := sub_off hoff (by decide)
  obtain ⟨R, oc, gc, dc⟩ := hF _ hO.top
  refine MethodCall_ (pl := pl) (bound_load (v := .ref r) hE.kind (.inr ⟨hx, cc, hcc, oc, (vis_get gc).1, dc⟩) ?_ hd hcd) he
  refine method_names hO.shrink ho6 (R.sub (vis_below _ _ _)).inst rfl ?_
  obtain ⟨o92, fd92, l92, d92⟩ : ∃ o fd, (K1 W).lookup 92 = some o ∧ o.data = .func fd := ⟨_, _, rfl, rfl⟩
  refine callWith_fn d92 ?_ hs2
  rw [hs2, hs3]
  refine spliced_cons (wpAny_Constant_str (k := nf) (pos := pf) (spliced_cons ?_))
  have e2' : Ext tb s { s with toks := s.toks + 1 } := ext_tok _ _
  refine h2 A X _ _ hR (hO.ext e2') (hE.ext hO e2') fun v s₂ e₂' r₂ => spliced_nil ?_
  have e3 : Ext tb s s₂ := e2'.trans e₂'
  have O3 := hO.ext e3
  refine ⟨O3.shrink.get l92 (hoff 92 (by decide)), ?_⟩
  obtain ⟨ty, rfl⟩ := r₂.str
  refine call_names (k := k + 1) hR (sub_off hoff (by decide)) G O3.shrink (hF _ O3.top).1 hC hy hn hshort hys fun t' s₃ e4 => ?_
  exact h _ s₃ (e3.trans e4) .mkInt

/-- x = _Ignore(e); return e₂, x a cell -/
theorem pb_reader {x : Str} {e e₂ : Expr} {p1 p2 p3 p pos : Pos} {rest : List Stmt} {cc : Addr} {mods dom : List Str} {d₀ : PyData} (G : Globs (K1 W) off (mg1 W) (mb1 W)) (hoff : ∀ a ∈ [1, 80, 84, 85, 91, 92, 94, 95], a ∉ off) (hoffT : ∀ a ∈ off, a ∈ tb.map (·.1))
    (hk : env.kindOf x = some .cell) (hcc : env.cells.lookup x = some cc) (he : PV prog w (K1 W) off tb (k + 2) env ρ e (.list (sts mods))) (hn : mods.length < 4000) (hdom : dom.length ≤ 900) (hρ : ∀ p ∈ ρ, p.1 ≠ x)
    (h2 : ∀ (L : Frag) r d m l c tb', (∀ g, TopOk (K1 W ++ L) off g → Rd prog w g mods 95 94 r d m l c (nsOf (K1 W) 94) ∧ g.IsCell cc (some (.ref r))) → CacheAt prog w tb' c ("<string>" :: dom) mods → (∀ a ∈ off, a ∈ tb'.map (·.1)) →
      PV prog w (K1 W ++ L) off tb' (k + 2) env ρ e₂ d₀)
    (hs : swapsWith (.Call (.Name "_Ignore" p) [e] [] pos) (some (.Name x p1)) p2.line env = pure false := by rfl)
    (hx : env.kindOf "_Ignore" = some .globalImplicit := by rfl) (hst : starEach [e] env = [(false, eval e env)] := by rfl) :
    PB prog w (K1 W) off tb (k + 2) env ρ (.Assign [.Name x p1] (.Call (.Name "_Ignore" p) [e] [] pos) p2 :: .Return (some e₂) p3 :: rest) d₀ := by
  intro A X s Q hR hO hE hX hL hC hU hQ
  have ho6 : ∀ a ∈ [80, 84, 85, 92, 94, 95], a ∉ off := sub_off hoff (by decide)
  have ho3 : ∀ a ∈ [1, 94, 95], a ∉ off := sub_off hoff (by decide)
  refine wpAny_execs_cons (wpAny_Assign_Name (eval_ignore G ho6 he hn hR hO hE (fun r d m l c t s₁ e₁ fr q1 q2 R D => ?_) hx hst) hs)
  have fc := fr c (by simp)
  obtain ⟨O1, R1, C1⟩ := reader_rd (dom := dom) hO e₁ fr q1 q2 R D ho3 hdom
  generalize htb : ((c, TK.own (CacheP prog w ("<string>" :: dom) mods)) :: tb) = tb' at O1 R1 C1
  have hl : env.locals ≠ c := fun z => by obtain ⟨m, o, es, ep, g, _⟩ := hL; rw [z, fc] at g; cases g
  have E1 : EnvOk tb' X env ρ s₁ := htb ▸ hE.cacheIn hO e₁ fc hl
  obtain ⟨v0, oc, c1, c2⟩ := hC x cc hk hcc
  have c1' := e₁.keep _ _ (hO.cellTab ⟨oc, c1, c2⟩) c1
  have hkd : env.scope.kind = .function := hE.kind
  have cx : cc ∈ X := hX _ (own_cell hk hcc)
  refine wpAny_storeName_cell hkd hk hcc ⟨oc, c1', c2⟩ fun h' n' sb => ?_
  obtain ⟨x2, O2, E2⟩ := storedC O1 E1 cx hcc ⟨oc, c1', c2⟩ n' sb hρ hU
  obtain ⟨ob, gb, db⟩ := id n'
  have hf : ∀ y ∈ X.filter (fun z => z != cc), y ∈ X := fun y hy => (List.mem_filter.mp hy).1
  have hnf : cc ∉ X.filter (fun z => z != cc) := fun hy => by have := (List.mem_filter.mp hy).2; simp at this
  have O3 := O2.less hf
  have E3 := E2.less hf
  have inX : ∀ y ∈ [cc], y ∈ X := fun y hy => by rw [List.mem_singleton] at hy; exact hy ▸ cx
  have R3 : Rd prog w (vis tb' (X.filter fun z => z != cc) h') mods 95 94 r d m l c (nsOf (K1 W) 94) := (R1.sub (x2.vis inX)).sub (vis_more hf)
  obtain ⟨L₀, hL1, hL2⟩ := R3.frag
  have ct : cc ∉ tb'.map (·.1) := O2.cellTab (s := { s₁ with heap := h' }) n'
  have hLall : ∀ p ∈ (cc, ob) :: L₀, (vis tb' (X.filter fun z => z != cc) h').get? p.1 = some p.2 := fun p hp => by
    rcases List.mem_cons.mp hp with rfl | hp
    · exact vis_mk gb ct hnf
    · exact hL1 p hp
  have hT : ∀ a ∈ off, a ∈ tb'.map (·.1) := fun a ha => by rw [← htb]; exact List.mem_cons_of_mem _ (hoffT a ha)
  have O4 := O3.grow (L := (cc, ob) :: L₀) hLall
  have fz := frozen O3 hLall hT
  refine wpAny_execs_cons (wpAny_Return_some (h2 ((cc, ob) :: L₀) r d m l c tb' (fun g tg => ⟨?_, ?_⟩) C1 hT A _ _ _ hR O4 E3 fun v s₃ e₃ r₃ => ?_))
  · exact hL2 g (fun p hp => fz g tg p (List.mem_cons_of_mem _ hp)) (cls95 tg.shrink (sub_off hoff (by decide)))
  · exact ⟨ob, fz g tg (cc, ob) List.mem_cons_self, db⟩
  · refine hQ v s₃ ⟨fun b o n1 n2 g => ?_, fun q hq z => ?_, ?_, ?_⟩ ?_
    · have ne : b ≠ c := fun z => by rw [z, fc] at g; cases g
      have n1' : b ∉ tb'.map (·.1) := fun z => by
        rw [← htb] at z
        rcases List.mem_cons.mp z with z | z
        · exact ne z
        · exact n1 z
      refine e₃.keep b o n1' (x2.keep b o n1' (fun z => n2 ?_) (e₁.keep b o n1 g))
      rw [List.mem_singleton] at z; rw [z]; exact own_cell hk hcc
    · have hq' : q ∈ tb' := by rw [← htb]; exact List.mem_cons_of_mem _ hq
      exact e₃.tab q hq' (x2.tab q hq' (e₁.tab q hq z))
    · exact e₃.gens.trans (x2.gens.trans e₁.gens)
    · exact e₃.os.trans (x2.os.trans e₁.os)
    · refine r₃.seqs fun b o hd g => ?_
      obtain ⟨g0, n1, n2⟩ := vis_get g
      refine vis_mk g0 (fun z => n1 (by rw [← htb]; exact List.mem_cons_of_mem _ z)) fun z => ?_
      refine n2 (List.mem_filter.mpr ⟨z, ?_⟩)
      have : b ≠ cc := fun q => by
        have := e₃.keep cc ob ct gb
        rw [← q, g0] at this; cases this
        rcases hd with ⟨_, _, hd⟩ | ⟨_, _, hd⟩ <;> (rw [db] at hd; cases hd)
      simpa using this
end
end Mine
end
section
open PySem PySem.W PySem.Calls PyProof.Rows
set_option maxRecDepth 100000
set_option linter.all false
namespace Mine
/-- names in use: not many, short, none of them the reader's own -/
structure Nms (xs : List Str) : Prop where
  few : xs.length ≤ 100
  nm : ∀ x ∈ xs, Nm x ∧ x ≠ "<string>"
theorem filter_all (l : List PyData) : l.filter (fun _ => true) = l := List.filter_eq_self.mpr (by simp)
theorem said_eq {mods : List Str} {y : Str} (h : y ≠ "<string>") : said mods y = tell mods y := if_neg h
section
variable {prog : Program} {w : World} {W : Wd} {off : List Addr} {tb : Tb} {k : Nat}

set_option maxHeartbeats 1000000 in
theorem fn_answers {name : Str} {asked : List Str} (hm : Nm name ∧ name ≠ "<string>") (ha : Nms asked) (G : Globs (K1 W) off (mg1 W) (mb1 W)) (hoff : ∀ a ∈ [1, 80, 84, 85, 91, 92, 94, 95, 115, 116], a ∉ off) (hoffT : ∀ a ∈ off, a ∈ tb.map (·.1)) :
    Fn prog w (K1 W) off tb (k + 3) (.ref 116) [.str name, .list (sts asked)] (.list (asked.map fun y => .int (tell [name] y))) := by
  have ho8 : ∀ a ∈ [1, 80, 84, 85, 91, 92, 94, 95], a ∉ off := sub_off hoff (by decide)
  have hf2 := ha.few
  have hz : sizeLine = 2 ^ 24 := rfl
  refine fn_enter (xs := ["name", "names"]) G (ho := by exact rfl) (hoff 116 (by decide)) (hdat := by exact rfl) (hbody := by exact rfl) rfl rfl rfl (fun g t => ⟨115, _, _, _, rfl, t 115 _ rfl (hoff 115 (by decide)), rfl, rfl⟩) rfl ?_ (by decide) ?_ ?_ rfl rfl rfl fun L => ?_
  · intro vs hv
    match vs, hv with
    | [a, b], _ => rfl
  · exact List.forall_mem_cons.mpr ⟨.inl rfl, List.forall_mem_cons.mpr ⟨.inl rfl, fun _ h => nomatch h⟩⟩
  · intro L x y c h1 h2
    have hx := PySem.mem_of_lookup h1
    have hy := PySem.mem_of_lookup h2
    replace hx : (x, c) ∈ [((Str.ofString "reader"), L)] := hx
    replace hy : (y, c) ∈ [((Str.ofString "reader"), L)] := hy
    simp at hx hy
    rw [hx.1, hy.1]
  · refine pb_reader (x := "reader") (mods := [name]) (dom := asked) G ho8 hoffT rfl rfl (pv_list (pvs_cons (pv_var rfl) pvs_nil)) (by simp) (by omega) (nmem rfl) fun L' r d m l c tb' hF hC hT => ?_
    refine pv_comp (ds := sts asked) (ρ' := []) (fun _ => true) (fun d => match d with | .str y => .int (said [name] y) | _ => .none) rfl rfl (by decide) (by decide) rfl (fun C => fun _ h => nomatch h) (fun _ h => nomatch h) (by simp [sts]; omega)
      (pv_var rfl) (fun d hd C => .inl ⟨rfl, rfl⟩) (fun d hd _ C => ?_) ?_
    · obtain ⟨y, hy, rfl⟩ := List.mem_map.mp hd
      exact pv_names G ho8 hF (.inl rfl) rfl hC (List.mem_cons_of_mem _ hy) (pv_var rfl) (by simp) (fun z hz => by rw [List.mem_singleton] at hz; subst hz; exact hm.1.short) (ha.nm y hy).2 _
    · rw [filter_all, List.map_map]
      exact List.map_congr_left fun y hy => by show PyData.int (tell [name] y) = PyData.int (said [name] y); rw [said_eq (ha.nm y hy).2]

theorem eqv_int (a b : Int) : PyData.eqv (.int a) (.int b) = decide (a = b) := by
  show (a == b) = decide (a = b)
  rw [Bool.eq_iff_iff]; simp

end
end Mine
end
section
open PySem PySem.W PySem.Calls PyProof.Rows
set_option maxRecDepth 100000
set_option linter.all false
namespace Mine
abbrev Raw := List (Str × Value)
section
variable {prog : Program} {w : World} {W : Wd} {K L : Frag} {off : List Addr} {tb : Tb} {k : Nat} {env : Env} {ρ ρ' : Rho} {β β' : Raw} {mg mb : Str → Option Value} {X : List Addr} {s s' s₀ s₁ : Shared} {A : Around}

/-- a state within a call: names with data, names with values -/
structure St (K : Frag) (off : List Addr) (tb : Tb) (X : List Addr) (env : Env) (ρ : Rho) (β : Raw) (s : Shared) : Prop where
  ok : Ok K off tb X s
  en : EnvOk tb X env ρ s
  raw : ∀ p ∈ β, Bound env s.heap p.1 p.2
  loc : ∃ m, s.heap.Ns env.locals m
theorem St.ext (x : St K off tb X env ρ β s) (e : Ext tb s s') : St K off tb X env ρ β s' :=
  ⟨x.ok.ext e, x.en.ext x.ok e, fun p hp => (x.raw p hp).ext x.ok x.en.nloc e, let ⟨mL, o, es, ep, g, q⟩ := x.loc; ⟨mL, o, es, ep, e.keep _ _ x.en.nloc g, q⟩⟩
theorem St.part (x : St K off tb X env ρ β s) (h : ∀ p ∈ ρ', p ∈ ρ) (h2 : ∀ p ∈ β', p ∈ β) : St K off tb X env ρ' β' s := ⟨x.ok, x.en.some h, fun p hp => x.raw p (h2 p hp), x.loc⟩
theorem St.less {Y : List Addr} (x : St K off tb Y env ρ β s) (h : ∀ z ∈ X, z ∈ Y) : St K off tb X env ρ β s := ⟨x.ok.less h, x.en.less h, x.raw, x.loc⟩
theorem St.hide {I : Addr} (x : St K off tb X env ρ β s) (e : Ext tb s s') (hI : s.heap.get? I = none) (hI' : ∃ ob, s'.heap.get? I = some ob) (nt : I ∉ tb.map (·.1)) : St K off tb (I :: X) env ρ β s' := by
  obtain ⟨o, sb⟩ := x.ok.hide e hI hI' nt
  have y := x.ext e
  exact ⟨o, ⟨y.en.kind, y.en.globals, y.en.builtins, y.en.nloc, fun p hp => let ⟨v, b, rv⟩ := x.en.vars p hp; ⟨v, b.ext x.ok x.en.nloc e, rv.sub sb⟩⟩, y.raw, y.loc⟩
theorem St.turn {Y : List Addr} (x : St K off tb X env ρ β s) (y : ExtO tb Y s s') (hY : ∀ z ∈ Y, z ∈ X) (hI : ∀ z ∈ Y, ∃ o, s'.heap.get? z = some o) (hl : env.locals ∉ Y) (hc : ∀ x c, env.cells.lookup x = some c → c ∉ Y) :
    St K off tb X env ρ β s' := by
  refine ⟨x.ok.extO y hY hI, x.en.extO x.ok y hY hl hc, fun p hp => (x.raw p hp).extO x.ok x.en.nloc y hl hc, ?_⟩
  obtain ⟨mL, o, es, ep, g, q⟩ := x.loc
  exact ⟨mL, o, es, ep, y.keep _ _ x.en.nloc hl g, q⟩
/-- a private object goes its way: the rest stands -/
theorem St.leave {I : Addr} (x : St K off tb (I :: X) env ρ β s) (y : ExtO tb [I] s s') (hI : I ∉ X) (hl : env.locals ≠ I) (hc : ∀ x c, env.cells.lookup x = some c → c ≠ I) : St K off tb X env ρ β s' := by
  have hl' : env.locals ∉ [I] := fun z => hl (List.mem_singleton.mp z)
  have hc' : ∀ x c, env.cells.lookup x = some c → c ∉ [I] := fun x c z q => hc x c z (List.mem_singleton.mp q)
  have sb : Sub (vis tb (I :: X) s.heap) (vis tb X s'.heap) := fun b o g => by
    obtain ⟨g0, n, m⟩ := vis_get g
    exact vis_mk (y.keep b o n (fun z => m (List.mem_singleton.mp z ▸ List.mem_cons_self)) g0) n fun z => m (List.mem_cons_of_mem _ z)
  refine ⟨⟨fun z hz => ?_, fun q hq => y.tab q hq (x.ok.tabs q hq), x.ok.top.sub sb⟩, ⟨x.en.kind, x.en.globals, x.en.builtins, x.en.nloc, fun p hp => ?_⟩, fun p hp => (x.raw p hp).extO x.ok x.en.nloc y hl' hc', ?_⟩
  · obtain ⟨n, o, g⟩ := x.ok.priv z (List.mem_cons_of_mem _ hz)
    exact ⟨n, o, y.keep z o n (fun q => hI (List.mem_singleton.mp q ▸ hz)) g⟩
  · obtain ⟨v, b, rv⟩ := x.en.vars p hp
    exact ⟨v, b.extO x.ok x.en.nloc y hl' hc', rv.sub sb⟩
  · obtain ⟨mL, o, es, ep, g, q⟩ := x.loc
    exact ⟨mL, o, es, ep, y.keep _ _ x.en.nloc hl' g, q⟩

/-- x := v for a local name -/
theorem St.store {x : Str} {v : Value} {Q : Unit → Shared → Prop} {E : Value → Shared → Prop} (S : St K off tb X env ρ β s) (hX : ∀ y ∈ own env, y ∈ X) (hk : env.kindOf x = some .local)
    (h : ∀ s', ExtO tb (own env) s s' → Ext tb { s with heap := s'.heap } s' → (∀ ρ' β', (∀ p ∈ ρ', (p.1 = x ∧ Rp (vis tb X s.heap) v p.2) ∨ (p ∈ ρ ∧ p.1 ≠ x)) → (∀ p ∈ β', p = (x, v) ∨ (p ∈ β ∧ p.1 ≠ x)) → St K off tb X env ρ' β' s') →
      (∀ b o, b ≠ env.locals → s.heap.get? b = some o → s'.heap.get? b = some o) → Q () s') :
    wpAny (model prog w) A (storeName env x v) Q E s := by
  obtain ⟨m, hLn⟩ := S.loc
  have hkd : env.scope.kind = .function := S.en.kind
  refine wpAny_storeName_local hk hLn (fun h' n' sb => ?_) (by rw [hkd]; rfl)
  obtain ⟨oL, esL, epL, gL, dL, _⟩ := id hLn
  obtain ⟨oL', esL', epL', gL', dL', _⟩ := id n'
  have lx : env.locals ∈ X := hX _ List.mem_cons_self
  have x1 : ExtO tb (own env) s { s with heap := h', toks := s.toks + 1 } :=
    ⟨fun b o _ m e => sb.extBut b o (fun z => m (z ▸ List.mem_cons_self)) e, fun q hq z => z.but sb.extBut gL (noCode_dict dL) (ne_of_tab S.en.nloc hq), rfl, rfl⟩
  refine h _ x1 (ext_tok _ _) (fun ρ' β' h1 h2 => ⟨?_, ⟨S.en.kind, S.en.globals, S.en.builtins, S.en.nloc, fun q hq => ?_⟩, fun q hq => ?_, ⟨_, n'⟩⟩) (fun b o ne g => sb.extBut b o ne g)
  · refine ⟨fun y hy => ⟨(S.ok.priv y hy).1, ?_⟩, fun q hq => x1.tab q hq (S.ok.tabs q hq), S.ok.top.sub (x1.vis hX)⟩
    by_cases z : y = env.locals
    · subst z; exact ⟨_, gL'⟩
    · obtain ⟨o, e⟩ := (S.ok.priv y hy).2; exact ⟨o, sb.extBut y o z e⟩
  · rcases h1 q hq with ⟨e, r⟩ | ⟨hq, ne⟩
    · exact ⟨v, by rw [e]; exact .inl ⟨hk, _, n', by simp⟩, r.sub (x1.vis hX)⟩
    · obtain ⟨u, b, ru⟩ := S.en.vars q hq
      exact ⟨u, stored_bound b hLn n' sb ne, ru.sub (x1.vis hX)⟩
  · rcases h2 q hq with rfl | ⟨hq, ne⟩
    · exact .inl ⟨hk, _, n', by simp⟩
    · exact stored_bound (S.raw q hq) hLn n' sb ne

theorem call_iter {v : Value} {Q : Value → Shared → Prop} {E : Value → Shared → Prop} (h : wpAny (model prog w) A.in1 (pyIter v) Q E s) : wpAny (model prog w) A (call (.builtin "iter") [v]) Q E s := by
  refine call_function_entry (by decide +kernel) (by decide +kernel) kdk_entry_iter (kdk_args_iter _) ?_
  unfold Builtin.«iter»
  refine wpAny_bind (m := someArgs "iter" 1 2 _) (wpAny_of_eq (a := [v]) (by first | rfl | kernel_rfl!) ?_)
  show wpAny _ _ (pyIter v >>= _) _ _ _
  refine wpAny_bind (wpAny_mono h (fun x s₁ q => ?_) fun _ _ q => q)
  exact wpAny_pure ⟨_, rfl, q⟩
end
end Mine
end
section
open PySem PySem.W PySem.Calls PyProof.Rows
set_option maxRecDepth 100000
set_option linter.all false
namespace Mine
/-- what reduce may begin with -/
def Begin : PyData → Prop
  | .int _ => True
  | .list _ => True
  | _ => False
section
variable {prog : Program} {w : World} {W : Wd} {K L : Frag} {off : List Addr} {tb : Tb} {k : Nat} {env : Env} {ρ ρ' : Rho} {β β' : Raw} {mg mb : Str → Option Value} {X : List Addr} {s s' s₀ s₁ : Shared} {A : Around}

end
end Mine
end
section
open PySem PySem.W PySem.Calls PyProof.Rows
set_option maxRecDepth 100000
set_option linter.all false
namespace Mine
section
variable {prog : Program} {w : World} {W : Wd} {L : Frag} {off : List Addr} {tb : Tb} {k : Nat} {X : List Addr} {s : Shared} {A : Around}
end
end Mine
end
section
open PySem PySem.W PySem.Calls PyProof.Rows
set_option maxRecDepth 100000
set_option maxHeartbeats 2000000
set_option linter.all false
namespace Mine
theorem ns_get {M : Model} {A : Around} {E : Value → Shared → Prop} {s : Shared} {a : Addr} {x : Str} {m : Str → Option Value} {v : Option Value} {Q : Option Value → Shared → Prop} (hn : s.heap.Ns a m) (hv : m x = v) (h : Q v s) : wpAny M A (nsGet a x) Q E s :=
  wpAny_nsGet hn (by rw [hv]; exact h)
section
variable {α β : Type} {M : Model} {A : Around} {E : Value → Shared → Prop} {s : Shared} {Q : β → Shared → Prop}
theorem wp_for_nil {b : β} {f : α → β → Sem (ForInStep β)} (h : Q b s) : wpAny M A (forIn ([] : List α) b f) Q E s := by rw [List.forIn_nil]; exact wpAny_pure h
theorem wp_for_cons {b : β} {x : α} {xs : List α} {f : α → β → Sem (ForInStep β)} (h : wpAny M A (f x b) (fun r s₁ => match r with | .done b' => Q b' s₁ | .yield b' => wpAny M A (forIn xs b' f) Q E s₁) E s) : wpAny M A (forIn (x :: xs) b f) Q E s := by
  rw [List.forIn_cons]
  refine wpAny_bind (wpAny_mono h (fun r s₁ h₁ => ?_) fun _ _ e => e)
  cases r with
  | done b' => exact wpAny_pure h₁
  | yield b' => exact h₁
theorem be {m : Sem α} {f : α → Sem β} {a : α} (e : m = pure a) (h : wpAny M A (f a) Q E s) : wpAny M A (m >>= f) Q E s := wpAny_bind (wpAny_of_eq e h)
end
theorem forIn_arr1 {α β : Type} {x : α} {b : β} {f : α → β → Sem (ForInStep β)} : forIn (#[x] : Array α) b f = (do let r ← f x b; match r with | .done b => pure b | .yield b => pure b) := by
  simp; rfl
theorem nsFind_some {es : Array DictEntry} {x : Str} {v : Value} (h : nsFind es x = some v) : ∃ e, es.find? (fun e => e.key.isStr x) = some e ∧ e.val = v := by
  unfold nsFind findBy at h
  obtain ⟨e, h1, h2⟩ := Option.map_eq_some_iff.mp h
  exact ⟨e, h1, h2⟩
theorem nsFind_none {es : Array DictEntry} {x : Str} (h : nsFind es x = none) : es.any (fun e => e.key.isStr x) = false := by
  unfold nsFind findBy at h
  rw [Option.map_eq_none_iff, Array.find?_eq_none] at h
  rw [Array.any_eq_false']
  intro e he
  simpa using h e he
theorem slots_read {prog : Program} {w : World} {A : Around} {E : Value → Shared → Prop} {Q : Builtin.Slots.Plan → Shared → Prop} {s : Shared} {sl : Addr} {tk : Tok} {n : Nat} {o : Obj} {es : Array DictEntry}
   (hsl : s.heap.get? sl = some o) (hc : o.cls = .type "list") (hd : o.data = .seq #[.str "obj" tk] n) (h1 : nsFind es "__slots__" = some (.ref sl)) (h2 : nsFind es "obj" = none)
   (h : ∀ h', (∀ b o', s.heap.get? b = some o' → h'.get? b = some o') → Q { names := ["obj"], dict := false, weak := false, inherited := [] } { s with heap := h' }) :
   wpAny (model prog w) A (Builtin.Slots.read "K" [.type "object"] es) Q E s := by
  obtain ⟨e, he1, he2⟩ := nsFind_some h1
  have hany := nsFind_none h2
  unfold Builtin.Slots.read
  refine be (a := .type "object") (by kernel_rfl) ?_
  refine be (a := []) (by kernel_rfl) ?_
  refine be (a := false) (by kernel_rfl) ?_
  refine be (a := false) (by kernel_rfl) ?_
  refine be (a := false) (by kernel_rfl) ?_
  rw [he1]
  wp_delta
  refine wpAny_bind (wpAny_rule ?_)
  rw [he2]
  have hT : s.TypeIs (.ref sl) "list" := ⟨_, hsl, hc⟩
  have ea : ∀ (Q' : Option Str → Shared → Prop), Q' none s → wpAny (model prog w) A (asStr? (.ref sl)) Q' E s := by
    intro Q' hq
    unfold asStr?
    wp_delta
    refine wpAny_bind (wpAny_load hsl ?_)
    rw [hd]
    exact wpAny_pure hq
  refine wpAny_bind (ea _ ?_)
  wp_delta
  refine wpAny_ite_false (by rfl) ?_
  refine wpAny_bind (wpAny_collect_seq sl (.inl rfl) hsl hc hd (fun h' hk => ?_) (by simp; decide))
  wp_delta
  refine wpAny_ite_true (by rfl) ?_
  refine be (a := false) (by kernel_rfl) ?_
  refine wpAny_ite_false (by rfl) ?_
  wp_delta
  refine be (a := (false, false, #["obj"], [])) (by kernel_rfl) ?_
  wp_delta
  have hm : Builtin.Slots.mangle "K" "obj" = "obj" := by kernel_rfl
  rw [forIn_arr1, hm]
  refine wpAny_bind (wpAny_bind ?_)
  wp_delta
  refine wpAny_ite_false (by kernel_rfl) ?_
  wp_delta
  refine wpAny_ite_false (by rw [hany]; rfl) ?_
  wp_delta
  refine wpAny_ite_false (by kernel_rfl) ?_
  wp_delta
  refine wpAny_pure ?_
  refine wpAny_pure ?_
  wp_delta
  refine be (a := (false, false)) (by kernel_rfl) ?_
  exact wpAny_pure (h h' hk)
section
variable {prog : Program} {w : World} {W : Wd} {A : Around} {E : Value → Shared → Prop} {s : Shared}
theorem put_slot {a : Addr} {i : Nat} {v : Option Value} {o : Obj} {Q : Unit → Shared → Prop} (ho : s.heap.get? a = some o) (hi : i < 1000)
    (h : ∀ h', h'.get? a = some { o with slots := (o.slots ++ Array.replicate (i + 1 - o.slots.size) none).setIfInBounds i v } → Heap.SameBut a s.heap h' → Q () { s with heap := h' }) : wpAny (model prog w) A (setSlotAt a i v) Q E s := by
  unfold setSlotAt
  have hz : sizeLine = 2 ^ 24 := rfl
  wp_delta
  refine wpAny_ite_false (by simp; omega) ?_
  refine wpAny_updatePart ho (h _ (Heap.get?_update_self _ ho ?_) (Heap.SameBut.update ..))
  have := (Heap.get?_some_iff.mp ho).2
  obtain ⟨c, d, dt, sl⟩ := o
  cases dt <;> first | rfl | exact this
theorem upd_cls {a : Addr} {c : Value} {d : Option Addr} {cd : ClassData} {sl : Array (Option Value)} {f : ClassData → ClassData} {Q : Unit → Shared → Prop} (ho : s.heap.get? a = some ⟨c, d, .cls cd, sl⟩) (hl : (Data.cls (f cd)).pastItsLine = none)
    (h : ∀ h', h'.get? a = some ⟨c, d, .cls (f cd), sl⟩ → Heap.SameBut a s.heap h' → Q () { s with heap := h' }) : wpAny (model prog w) A (updateCls a f) Q E s := by
  unfold updateCls
  refine wpAny_bind (wpAny_load ho ?_)
  refine wpAny_bind (wpAny_update ho ?_)
  have g := Heap.get?_update_self (Obj.mapCls f) ho rfl
  refine wpAny_lookBehind (s := { s with heap := s.heap.update a (Obj.mapCls f) }) g hl (h _ g (Heap.SameBut.update ..))
theorem look_cls {a : Addr} {c : Value} {d : Option Addr} {cd : ClassData} {sl : Array (Option Value)} {name : Str} {mN : Str → Option Value} {y : Option Value} {Q : Option Value → Shared → Prop} (hC : s.heap.get? a = some ⟨c, d, .cls cd, sl⟩) (hm : cd.mro = [.ref a, .type "object"])
    (hn : s.heap.Ns cd.ns mN) (hB : typeLookup (.type "object") name = pure y) (hq : Q (match mN name with | some v => some v | none => y) s) : wpAny (model prog w) A (typeLookup (.ref a) name) Q E s := by
  have hrest : lookupAlong [.type "object"] name = pure y := by rw [typeLookup_eq, PySem.F.mro_object] at hB; exact hB
  rw [typeLookup_eq]
  have h1 : ∀ (Q' : ClassData → Shared → Prop), Q' cd s → wpAny (model prog w) A (classData a) Q' E s := by
    intro Q' hq'
    unfold classData
    refine wpAny_bind (wpAny_load hC ?_)
    exact wpAny_pure hq'
  refine wpAny_bind (m := mroOf (.ref a)) ?_
  unfold mroOf
  refine wpAny_bind (h1 _ (wpAny_pure ?_))
  rw [hm, lookupAlong_cons]
  refine wpAny_bind ?_
  show wpAny _ _ (classData a >>= fun x => nsGet x.ns name) _ _ _
  refine wpAny_bind (h1 _ (wpAny_nsGet hn ?_))
  cases hv : mN name with
  | some v => rw [hv] at hq; exact wpAny_pure hq
  | none => rw [hv] at hq; dsimp only; rw [hrest]; exact wpAny_pure hq
end
theorem wp_forL {α β : Type} {M : Model} {A : Around} {E : Value → Shared → Prop} (I : Shared → Prop) {b : β} {f : α → β → Sem (ForInStep β)} {Q : β → Shared → Prop} (hQ : ∀ s, I s → Q b s) :
    ∀ (l : List α) (s : Shared), I s → (∀ e ∈ l, ∀ s, I s → wpAny M A (f e b) (fun r s' => r = .yield b ∧ I s') E s) → wpAny M A (forIn l b f) Q E s
  | [], s, hI, _ => wp_for_nil (hQ s hI)
  | x :: xs, s, hI, h => by
    refine wp_for_cons (wpAny_mono (h x List.mem_cons_self s hI) (fun r s' hr => ?_) fun _ _ e => e)
    obtain ⟨rfl, hI'⟩ := hr
    exact wp_forL I hQ xs s' hI' fun e he => h e (List.mem_cons_of_mem _ he)
theorem wp_forA {α β : Type} {M : Model} {A : Around} {E : Value → Shared → Prop} {s : Shared} (I : Shared → Prop) {b : β} {f : α → β → Sem (ForInStep β)} {Q : β → Shared → Prop} {l : Array α} (hI : I s)
    (h : ∀ e ∈ l, ∀ s, I s → wpAny M A (f e b) (fun r s' => r = .yield b ∧ I s') E s) (hQ : ∀ s, I s → Q b s) : wpAny M A (forIn l b f) Q E s := by
  rw [← Array.forIn_toList]
  exact wp_forL I hQ l.toList s hI fun e he => h e (Array.mem_toList_iff.mp he)
section
variable {prog : Program} {w : World} {W : Wd} {A : Around} {E : Value → Shared → Prop} {s : Shared}
theorem set_byval {a : Addr} {m : Str → Option Value} {nms : List Str} {name : Str} {v : Value} {Q : Unit → Shared → Prop} (hn : s.heap.Ns1 a m) (W : Within m nms) (hz : nms.length ≤ 100)
    (hQ : ∀ h', h'.Ns1 a (fun x => if x = name then some v else m x) → Heap.SameBut a s.heap h' → Q () { s with heap := h', toks := s.toks + 1 }) : wpAny (model prog w) A (nsSetByValue a name v) Q E s := by
  obtain ⟨o, es, ep, g, d, hc⟩ := hn.count W
  unfold nsSetByValue
  refine wpAny_bind (wpAny_loadPart g ?_)
  rw [d]
  have hzl : sizeLine = 2 ^ 24 := rfl
  wp_delta
  refine wpAny_ite_false (by have : ¬ es.size > sizeLine := by omega
                             simp [this]) ?_
  wp_delta
  exact wpAny_nsSet1 hn hQ

theorem slots_install {a ns : Addr} {c : Value} {d : Option Addr} {cd : ClassData} {sl : Array (Option Value)} {m : Str → Option Value} {nms : List Str} {Q : Unit → Shared → Prop} (hA : s.heap.get? a = some ⟨c, d, .cls cd, sl⟩) (hn : s.heap.Ns1 ns m) (W : Within m nms) (hz : nms.length ≤ 100)
    (ho : m "obj" = none) (hna : ns ≠ a) (hpl : (Data.cls { cd with hasDict := false, slotNames := ["obj"] }).pastItsLine = none)
    (h : ∀ p t t' h', s.heap.get? p = none → p ≠ ns → h'.get? p = some { cls := .type "member_descriptor", data := .fields #[.str "obj" t, .ref a, .builtin "proto.slot", .builtin "proto.slot#set", rawInt 0] } → h'.Ns1 ns (fun x => if x = "obj" then some (.ref p) else m x) →
      h'.get? a = some ⟨c, d, .cls { cd with hasDict := false, slotNames := ["obj"] }, sl⟩ → (∀ b o, b ≠ a → b ≠ ns → s.heap.get? b = some o → h'.get? b = some o) → Q () { s with heap := h', toks := t' }) :
    wpAny (model prog w) A (Builtin.Slots.install (.ref a) ns [.type "object"] { names := ["obj"], dict := false, weak := false, inherited := [] }) Q E s := by
  unfold Builtin.Slots.install
  wp_delta
  refine wpAny_bind (wp_for_cons ?_)
  wp_delta
  refine wpAny_bind (ns_get hn.ns (ho) ?_)
  refine wpAny_ite_true (by rfl) ?_
  refine wpAny_bind (wpAny_mkStr ?_ (by decide))
  refine wpAny_bind ?_
  unfold newFields
  refine wpAny_newObj_type ?_ (by simp [sizeOk]; decide)
  generalize hp : s.heap.objs.size = p
  generalize ho : ({ cls := .type "member_descriptor", dict := none, data := .fields _ } : Obj) = om
  have g1 : (s.heap.push om).get? p = some om := by rw [← hp]; exact Heap.get?_push_size _ (by rw [← ho]; rfl)
  have n1 : (s.heap.push om).Ns1 ns m := hn.at fun o g => Heap.get?_push_of_some _ g
  have gp : s.heap.get? p = none := at_none (Nat.le_of_eq hp)
  have hpn : p ≠ ns := fun z => by obtain ⟨o, _, _, g, _⟩ := hn; rw [← z, gp] at g; cases g
  have hpa : p ≠ a := fun z => by rw [← z, gp] at hA; cases hA
  refine wpAny_bind (set_byval (s := { s with toks := s.toks + 1, heap := s.heap.push om }) n1 W hz fun h2 n2 sb2 => ?_)
  refine wpAny_pure ?_
  refine wp_for_nil ?_
  wp_delta
  refine be (a := false) (by kernel_rfl) ?_
  wp_delta
  refine wpAny_ite_false (by kernel_rfl) ?_
  have gA2 : h2.get? a = some ⟨c, d, .cls cd, sl⟩ := (sb2.2 a (Ne.symm hna)).trans (Heap.get?_push_of_some _ hA)
  refine upd_cls gA2 hpl fun h3 gA3 sb3 => ?_
  refine h p s.toks _ h3 gp hpn ?_ (n2.sameBut sb3 hna) gA3 (fun b o hb1 hb2 g => (sb3.2 b hb1).trans ((sb2.2 b hb2).trans (Heap.get?_push_of_some _ g)))
  rw [sb3.2 p hpa, sb2.2 p hpn]
  show (s.heap.push om).get? p = _
  rw [g1, ← ho]; rfl
end
end Mine
end
section
open PySem PySem.W PySem.Calls PyProof.Rows
set_option maxRecDepth 100000
set_option maxHeartbeats 2000000
set_option linter.all false
namespace Mine
theorem slot_cmg : Slot "classmethod_descriptor" "__get__" "classmethod_descriptor.__get__" := .of (owner := "classmethod_descriptor") (n := "__get__") (by rw [typeLookup_type, builtinLookup_eq_fast]; kernel_rfl) (by decide +kernel) (by decide +kernel) (by decide +kernel)
    (by first | exact .inl (by decide +kernel) | exact .inr (by decide +kernel)) (by rw [isSubtype_type]; kernel_rfl)
theorem entry_cmg : entryFor table "classmethod_descriptor.__get__" = some Builtin.«classmethod_descriptor.__get__» := entryFor_of_tree (by kernel_rfl)
theorem args_cmg (a b c : Value) : argsOk "classmethod_descriptor.__get__" ⟨[a, b, c], []⟩ := by unfold argsOk; kernel_rfl
theorem entry_ois : entryFor table "object.__init_subclass__" = some Builtin.«object.__init_subclass__» := entryFor_of_tree (by kernel_rfl)
section
variable {prog : Program} {w : World} {W : Wd} {A : Around} {E : Value → Shared → Prop} {h : Heap} {g : Array GenState} {d : Drawn} {t : Nat} {os : OsState}
theorem sub_self {a : Addr} {oc : Value} {od : Option Addr} {cd : ClassData} {sl : Array (Option Value)} (hC : h.get? a = some ⟨oc, od, .cls cd, sl⟩) (hm : cd.mro = [.ref a, .type "object"]) : Looks (model prog w) h (isSubtype (.ref a) (.ref a)) true := by
  intro A Q E s k hq
  unfold isSubtype
  refine wpAny_bind ?_
  unfold mroOf classData
  refine wpAny_bind (wpAny_bind (wpAny_load (k _ _ hC) (wpAny_pure ?_)))
  refine wpAny_pure ?_
  rw [hm]
  wp_delta
  refine wpAny_ite_false (by rfl) ?_
  wp_delta
  refine wpAny_pure ?_
  have : [Value.ref a, .type "object"].contains (Value.ref a) = true := by simp
  rw [this]; exact hq
theorem sub_obj {a : Addr} {oc : Value} {od : Option Addr} {cd : ClassData} {sl : Array (Option Value)} (hC : h.get? a = some ⟨oc, od, .cls cd, sl⟩) (hm : cd.mro = [.ref a, .type "object"]) : Looks (model prog w) h (isSubtype (.ref a) (.type "object")) true := by
  intro A Q E s k hq
  unfold isSubtype
  refine wpAny_bind ?_
  unfold mroOf classData
  refine wpAny_bind (wpAny_bind (wpAny_load (k _ _ hC) (wpAny_pure ?_)))
  refine wpAny_pure ?_
  rw [hm]
  wp_delta
  refine wpAny_ite_false (by rfl) ?_
  wp_delta
  refine wpAny_pure ?_
  have : [Value.ref a, .type "object"].contains (Value.type "object") = true := by simp
  rw [this]; exact hq
theorem call_super_cls {D : Addr} {oD : Obj} {cdD : ClassData} {Q : Value → Shared → Prop}
    (hD : h.get? D = some oD) (hDt : oD.data = .cls cdD)
    (hsub : Looks (model prog w) h (isSubtype (.ref D) (.ref D)) true)
    (hq : ∀ h', h'.get? h.objs.size = some { cls := .type "super", dict := none, data := .fields #[.ref D, .ref D, .ref D], slots := #[] } → (∀ y o, h.get? y = some o → h'.get? y = some o) → Q (.ref h.objs.size) ⟨h', g, d, t, os⟩) :
    wpAny (model prog w) A (call (.type "super") [.ref D, .ref D]) Q E ⟨h, g, d, t, os⟩ := by
  refine ks_callType_codesW (Q₁ := fun obj s₁ => obj = .ref h.objs.size ∧ s₁ = ⟨h.push { cls := .type "super", data := .fields #[.none, .none, .none] }, g, d, t, os⟩) F.ks_called_super (ks_wpAny_checkTypeCall_super hD hDt) F.ks_entry_super_init
    (ks_code_super_new _ _ ⟨rfl, rfl⟩) fun obj s₁ h₁ => ?_
  obtain ⟨rfl, rfl⟩ := h₁
  have up : ∀ y o, h.get? y = some o → (h.push { cls := .type "super", data := .fields #[.none, .none, .none] }).get? y = some o := fun y o e => Heap.get?_push_of_some _ e
  have hso : (h.push { cls := .type "super", data := .fields #[.none, .none, .none] }).get? h.objs.size = some { cls := .type "super", dict := none, data := .fields #[.none, .none, .none], slots := #[] } := Heap.get?_push_at rfl rfl
  have hD' := up _ _ hD
  have hsub' := hsub.keeps up
  refine ⟨⟨_, hso, rfl⟩, F.ks_initArgs_super _ _ _, ?_⟩
  unfold Builtin.«super.__init__» noKeywords
  repeat (first | (with_reducible refine ks_wpAny_isType_cls hD' hDt ?_) | (with_reducible refine Looks.at hsub' ?_) | (with_reducible refine ks_wpAny_super_set3 hso ?_) | wp_step)
  all_goals first
    | (intro h' e k; exact ⟨rfl, hq h' e fun y o ey => k y o (Nat.ne_of_lt (Heap.lt_size ey)) (up y o ey)⟩)
    | (refine ks_wpAny_super_set3 hso ?_; intro h' e k; exact ⟨rfl, hq h' e fun y o ey => k y o (Nat.ne_of_lt (Heap.lt_size ey)) (up y o ey)⟩)

theorem super_ga {so D : Addr} {cd : ClassData} {oc : Value} {od : Option Addr} {sl : Array (Option Value)} {tk : Tok} {Q : Fin → Shared → Prop}
    (hso : h.get? so = some { cls := .type "super", dict := none, data := .fields #[.ref D, .ref D, .ref D], slots := #[] }) (hno : Looks (model prog w) h (opaqueClassAbove (.ref D)) none)
    (hC : h.get? D = some ⟨oc, od, .cls cd, sl⟩) (hm : cd.mro = [.ref D, .type "object"])
    (hq : Q (.done (.ret (.ref h.objs.size))) ⟨h.push { cls := .type "builtin_function_or_method", data := .fields #[.builtin "object.__init_subclass__", .ref D] }, g, d, t, os⟩) :
    wpAny (model prog w) A (Builtin.«super.__getattribute__» ⟨[.ref so, .str "__init_subclass__" tk], []⟩) Q E ⟨h, g, d, t, os⟩ := by
  have hdt : ({ cls := .type "super", dict := none, data := .fields #[.ref D, .ref D, .ref D], slots := #[] } : Obj).data = .fields #[.ref D, .ref D, .ref D] := rfl
  have f0 : (#[.ref D, .ref D, .ref D] : Array Value)[0]? = some (.ref D) := rfl
  have f1 : (#[.ref D, .ref D, .ref D] : Array Value)[1]? = some (.ref D) := rfl
  have f2 : (#[.ref D, .ref D, .ref D] : Array Value)[2]? = some (.ref D) := rfl
  have hmr : Looks (model prog w) h (mroOf (.ref D)) [.ref D, .type "object"] := by
    intro A Q E s k hq
    unfold mroOf classData
    refine wpAny_bind (wpAny_bind (wpAny_load (k _ _ hC) (wpAny_pure ?_)))
    refine wpAny_pure ?_
    rw [hm]; exact hq
  unfold Builtin.«super.__getattribute__»
  try wp_delta
  refine be (a := some "__init_subclass__") (by rfl) ?_
  try wp_delta
  refine wpAny_ite_false (by rfl) ?_
  try wp_delta
  refine be (a := some "__init_subclass__") (by rfl) ?_
  try wp_delta
  refine wpAny_bind (wpAny_field hso hdt f0 ?_)
  refine wpAny_bind (wpAny_field hso hdt f1 ?_)
  refine wpAny_bind (wpAny_field hso hdt f2 ?_)
  try wp_delta
  refine wpAny_ite_false (by simp; decide) ?_
  try wp_delta
  refine wpAny_bind (ks_wpAny_notOpaque hno ?_)
  try wp_delta
  refine wpAny_ite_false (by simp) ?_
  try wp_delta
  refine wpAny_bind (Looks.at hmr ?_)
  try wp_delta
  have hl : (List.dropWhile (fun x => x != Value.ref D) [Value.ref D, .type "object"]).drop 1 = [.type "object"] := by simp
  rw [hl]
  refine wpAny_bind (wp_for_cons ?_)
  refine be (a := some (.builtin "object.__init_subclass__")) (by kernel_rfl) ?_
  refine be (a := .type "classmethod_descriptor") (by kernel_rfl) ?_
  refine be (a := some (.builtin "classmethod_descriptor.__get__")) (by kernel_rfl) ?_
  refine wpAny_bind (wpAny_holding ?_)
  rw [if_pos (by simp)]
  have hTd : (⟨h, g, d, t, os⟩ : Shared).TypeIs (.builtin "object.__init_subclass__") "classmethod_descriptor" := (by kernel_rfl : typeOf (.builtin "object.__init_subclass__") = pure (.type "classmethod_descriptor"))
  refine wpAny_call_entry slot_cmg hTd entry_cmg ?_ (args_cmg _ _ _)
  unfold Builtin.«classmethod_descriptor.__get__»
  refine be (a := (.builtin "object.__init_subclass__", none, some (.ref D))) (by kernel_rfl) ?_
  try wp_delta
  refine wpAny_bind (wpAny_pure ?_)
  refine wpAny_bind (ks_wpAny_isType_cls hC rfl ?_)
  try wp_delta
  refine wpAny_ite_false (by rfl) ?_
  try wp_delta
  have hown : ".".intercalate ("object.__init_subclass__".cutAt '.').dropLast = "object" := by kernel_rfl
  rw [hown]
  refine wpAny_bind (Looks.at (sub_obj hC hm) ?_)
  try wp_delta
  refine wpAny_ite_false (by rfl) ?_
  try wp_delta
  refine wpAny_bind ?_
  unfold newFields
  refine wpAny_newObj_type ?_ (by simp [sizeOk])
  refine wpAny_pure ⟨_, rfl, ?_⟩
  refine wpAny_bind (wpAny_pure ?_)
  refine wpAny_pure ?_
  exact wpAny_pure hq

theorem super_attr {so D : Addr} {cd : ClassData} {oc : Value} {od : Option Addr} {sl : Array (Option Value)} {Q : Value → Shared → Prop}
    (hso : h.get? so = some { cls := .type "super", dict := none, data := .fields #[.ref D, .ref D, .ref D], slots := #[] }) (hno : Looks (model prog w) h (opaqueClassAbove (.ref D)) none)
    (hC : h.get? D = some ⟨oc, od, .cls cd, sl⟩) (hm : cd.mro = [.ref D, .type "object"])
    (hq : Q (.ref h.objs.size) ⟨h.push { cls := .type "builtin_function_or_method", data := .fields #[.builtin "object.__init_subclass__", .ref D] }, g, d, t + 1, os⟩) :
    wpAny (model prog w) A (getAttr (.ref so) "__init_subclass__") Q E ⟨h, g, d, t, os⟩ := by
  have hlk := F.ks_slot_super_ga.lookup
  have hT : ∀ t', (⟨h, g, d, t', os⟩ : Shared).TypeIs (.ref so) "super" := fun _ => ⟨_, hso, rfl⟩
  unfold getAttr getAttrBy
  refine wpAny_bind (wpAny_mkText (wpAny_holding (wpAny_bind (wpAny_typeOf (hT _) (wpAny_bind (wpAny_of_eq hlk ?_))))))
  show wpAny _ _ (getAttrByItsOwn (.ref so) (.str "__init_subclass__" t) (.type "super") (.builtin "super.__getattribute__") true false) _ _ _
  unfold getAttrByItsOwn hookBefore callGetattribute boundAndCalled
  refine wpAny_bind (wpAny_of_eq (show (if onTheHeap (.type "super") then typeLookup (.type "super") "__getattr__" else pure none) = pure none from rfl) ?_)
  refine wpAny_bind (wpAny_attempt (wpAny_holding ?_))
  show wpAny _ _ (bindSpecial (.builtin "super.__getattribute__") (.ref so) >>= _) _ _ _
  refine wpAny_bind (wpAny_of_eq (F.ks_slot_super_ga.bind _) ?_)
  refine wpAny_mono (Q := fun v s' => v = .ref h.objs.size ∧ s' = ⟨h.push { cls := .type "builtin_function_or_method", data := .fields #[.builtin "object.__init_subclass__", .ref D] }, g, d, t + 1, os⟩) (E := fun _ _ => False)
    (wpAny_call_entry F.ks_slot_super_ga (hT _) F.ks_entry_super_ga (super_ga hso hno hC hm ⟨_, rfl, rfl, rfl⟩) (F.ks_gaArgs_super _ _)) (fun v s' hv => ?_) fun _ _ z => z.elim
  obtain ⟨rfl, rfl⟩ := hv
  exact wpAny_pure hq

theorem sig_some : (Manifest.signature? "object.__init_subclass__").isSome = true := by kernel_rfl
theorem check_bm {D : Addr} {cd : ClassData} {od : Option Addr} {sl : Array (Option Value)} {Q : Unit → Shared → Prop} (hC : h.get? D = some ⟨.type "type", od, .cls cd, sl⟩) (hqn : cd.qualname = "cmp_to_key.<locals>.K") (hq : Q () ⟨h, g, d, t, os⟩) :
    wpAny (model prog w) A (checkBoundCall "object.__init_subclass__" ⟨[.ref D], []⟩) Q E ⟨h, g, d, t, os⟩ := by
  have hs : Manifest.signature? "object.__init_subclass__" = some ((Manifest.signature? "object.__init_subclass__").get sig_some) := (Option.some_get sig_some).symm
  have hk : builtinKind "object.__init_subclass__" = some .classMethod := by kernel_rfl
  have hT : (⟨h, g, d, t, os⟩ : Shared).TypeIs (.ref D) "type" := ⟨_, hC, rfl⟩
  have hv : Manifest.varargsMethods.contains "object.__init_subclass__" = false := by kernel_rfl
  unfold checkBoundCall
  rw [hs, hk]
  try wp_delta
  refine wpAny_ite_false (by kernel_rfl) ?_
  try wp_delta
  refine wpAny_bind (wpAny_isInstance hT (by kernel_rfl : isSubtype (.type "type") (.type "module") = pure false) ?_)
  try wp_delta
  refine wpAny_ite_false (by rw [hv]; rfl) ?_
  try wp_delta
  refine wpAny_bind (ks_wpAny_isType_cls hC rfl ?_)
  try wp_delta
  refine wpAny_ite_true (by rfl) ?_
  refine wpAny_bind (wpAny_pure ?_)
  try wp_delta
  refine wpAny_bind ?_
  unfold classData
  refine wpAny_bind (wpAny_load hC (wpAny_pure ?_))
  try wp_delta
  refine wpAny_bind (wpAny_typeOf hT ?_)
  try wp_delta
  refine wpAny_ite_true (by rfl) ?_
  rw [hqn]
  exact wpAny_of_eq (by kernel_rfl) hq
theorem call_bm {b D : Addr} {cd : ClassData} {od : Option Addr} {sl : Array (Option Value)} {Q : Value → Shared → Prop} (hb : h.get? b = some { cls := .type "builtin_function_or_method", data := .fields #[.builtin "object.__init_subclass__", .ref D] })
    (hC : h.get? D = some ⟨.type "type", od, .cls cd, sl⟩) (hqn : cd.qualname = "cmp_to_key.<locals>.K") (hq : Q .none ⟨h, g, d, t, os⟩) : wpAny (model prog w) A (call (.ref b) []) Q E ⟨h, g, d, t, os⟩ := by
  refine wpAny_call (codeAny_of_tree ?_)
  show wpAny _ _ (callAny (.ref b) _) _ _ _
  unfold callAny
  refine wpAny_bind (wpAny_load hb ?_)
  dsimp only
  refine wpAny_ite_true (by rfl) ?_
  try wp_delta
  refine wpAny_ite_true (by rfl) ?_
  refine wpAny_bind (check_bm hC hqn ?_)
  refine wpAny_pure ⟨Code.quiet_builtin _ (by decide +kernel), codeAny_builtin entry_ois ?_⟩
  unfold Builtin.«object.__init_subclass__»
  try wp_delta
  refine wpAny_ite_true (by rfl) ?_
  exact wpAny_pure hq
end
end Mine
end
section
open PySem PySem.W PySem.Calls PyProof.Rows
set_option maxRecDepth 100000
set_option maxHeartbeats 2000000
set_option linter.all false
namespace Mine
/-- what stands in the block of the class, ahead of the making -/
structure Blk (m : Str → Option Value) (q : Str) (tq : Tok) (sl : Addr) : Prop where
  module : ∃ v, m "__module__" = some v
  qual : m "__qualname__" = some (.str q tq)
  slots : m "__slots__" = some (.ref sl)
  eq : ∃ v, m "__eq__" = some v
  hash : ∃ v, m "__hash__" = some v
  no : ∀ x ∈ (["__doc__", "__new__", "__init_subclass__", "__class_getitem__", "__classcell__", "__classdictcell__", "obj", "__del__"] : List Str), m x = none

theorem any_some {es : Array DictEntry} {x : Str} {v : Value} (h : nsFind es x = some v) : es.any (fun e => e.key.isStr x) = true := by
  obtain ⟨e, h1, _⟩ := nsFind_some h
  rw [Array.any_eq_true']
  exact ⟨e, Array.mem_of_find?_eq_some h1, by simpa using Array.find?_some h1⟩

theorem uniq_find {es : Array DictEntry} {e : DictEntry} {x : Str} {t : Tok} (hu : UniqKeys es) (he : e ∈ es) (hk : e.key = .str x t) : nsFind es x = some e.val := by
  have hx : e.key.isStr x = true := by rw [hk]; simp [Value.isStr]
  unfold nsFind findBy
  cases hf : es.find? (fun e => e.key.isStr x) with
  | none =>
    have := Array.find?_eq_none.mp hf e he
    exact absurd hx this
  | some e' =>
    have h1 := Array.find?_some hf
    have h2 := Array.mem_of_find?_eq_some hf
    have : e' = e := by
      obtain ⟨i, hi, rfl⟩ := Array.mem_iff_getElem.mp he
      obtain ⟨j, hj, rfl⟩ := Array.mem_iff_getElem.mp h2
      have hp := List.pairwise_iff_getElem.mp hu
      rcases Nat.lt_trichotomy i j with hij | hij | hij
      · exact (hp i j (by simpa using hi) (by simpa using hj) hij x (by simpa using hx) (by simpa using h1)).elim
      · subst hij; rfl
      · exact (hp j i (by simpa using hj) (by simpa using hi) hij x (by simpa using h1) (by simpa using hx)).elim
    rw [this]; rfl

/-- a value that takes no note of its name -/
def Pl (s : Shared) (v : Value) : Prop := (∀ id, v ≠ .builtin id) ∧ ∃ T, s.TypeIs v T ∧ typeLookup (.type T) "__set_name__" = pure none
theorem Pl.keeps {s s' : Shared} {v : Value} (x : Pl s v) (k : ∀ b o, s.heap.get? b = some o → s'.heap.get? b = some o) : Pl s' v := by
  obtain ⟨a, T, hT, hl⟩ := x
  refine ⟨a, T, ?_, hl⟩
  cases v with
  | ref b => obtain ⟨o, g, c⟩ := hT; exact ⟨o, k _ _ g, c⟩
  | _ => exact hT

abbrev clsObj (a ns bT : Addr) (tk tq : Tok) : Obj := ⟨.type "type", none, .cls { name := "K", bases := [.type "object"], mro := [.ref a, .type "object"], ns := ns, qualname := "cmp_to_key.<locals>.K", hasDict := false, slotNames := ["obj"] },
  #[some (.ref bT), none, some (.str "K" tk), some (.str "cmp_to_key.<locals>.K" tq), some (.builtin "object.__new__"), some (.bool false)]⟩
abbrev memObj (a : Addr) (t : Tok) : Obj := { cls := .type "member_descriptor", data := .fields #[.str "obj" t, .ref a, .builtin "proto.slot", .builtin "proto.slot#set", rawInt 0] }
/-- the class, made -/
structure Made (h h' : Heap) (a ns p bT : Addr) (m : Str → Option Value) : Prop where
  cls : ∃ tk tq, h'.get? a = some (clsObj a ns bT tk tq)
  names : h'.Ns1 ns (fun x => if x = "__doc__" then some .none else if x = "obj" then some (.ref p) else if x = "__qualname__" then none else m x)
  mem : ∃ t, h'.get? p = some (memObj a t)
  keep : ∀ b o, h.get? b = some o → h'.get? b = some o
  new : h.get? a = none ∧ h.get? ns = none ∧ h.get? p = none

theorem type_new {prog : Program} {w : World} {A : Around} {Q : Fin → Shared → Prop} {s : Shared} {bT nsA sl : Addr} {tk tq ts : Tok} {m : Str → Option Value} {osl : Obj} {n : Nat}
   (hb : s.heap.get? bT = some { cls := .type "tuple", data := .seq #[.type "object"] }) (hn : s.heap.Ns1 nsA m) (hT : s.TypeIs (.ref nsA) "dict") (hs : (nsA == sysModules) = false) (B : Blk m "cmp_to_key.<locals>.K" tq sl)
   (hsl : s.heap.get? sl = some osl) (hc : osl.cls = .type "list") (hd : osl.data = .seq #[.str "obj" ts] n) {nms : List Str} (W : Within m nms) (hz : nms.length ≤ 50) (hV : ∀ x v, m x = some v → Pl s v) (hno : ∀ h' a, (∀ b o, s.heap.get? b = some o → h'.get? b = some o) → Looks (model prog w) h' (opaqueClassAbove (.ref a)) none)
   (hQ : ∀ a ns p h' t', Made s.heap h' a ns p bT m → Q (.done (.ret (.ref a))) { s with heap := h', toks := t' }) :
   wpAny (model prog w) A (Builtin.«type.__new__» ⟨[.type "type", .str "K" tk, .ref bT, .ref nsA], []⟩) Q NoE s := by
  have hTb : s.TypeIs (.ref bT) "tuple" := ⟨_, hb, rfl⟩
  have e1 : isSubtype (.type "tuple") (.type "tuple") = pure true := by kernel_rfl
  have e2 : isSubtype (.type "dict") (.type "dict") = pure true := by kernel_rfl
  obtain ⟨oN, es, ep, hoN, hdN, hkN, huN, hfN⟩ := id hn
  have hesz : es.size ≤ nms.length := by
    obtain ⟨o', es', ep', g', d', c'⟩ := hn.count W
    rw [hoN] at g'; cases g'; rw [hdN] at d'; cases d'; exact c'
  unfold Builtin.«type.__new__»
  wp_delta
  refine be (a := some "K") (by kernel_rfl) ?_
  wp_delta
  refine wpAny_bind (wpAny_isInstance hTb e1 ?_)
  wp_delta
  refine wpAny_ite_false (by rfl) ?_
  refine wpAny_bind (wpAny_isInstance hT e2 ?_)
  wp_delta
  refine wpAny_ite_false (by rfl) ?_
  wp_delta
  refine wpAny_bind (wpAny_seqItems hb rfl ?_)
  wp_delta
  refine wpAny_ite_false (by simp) ?_
  wp_delta
  refine be (a := PUnit.unit) (by kernel_rfl) ?_
  wp_delta
  refine be (a := .type "type") (by kernel_rfl) ?_
  wp_delta
  refine wpAny_ite_false (by simp) ?_
  wp_delta
  refine be (a := PUnit.unit) (by kernel_rfl) ?_
  refine be (a := .type "object") (by kernel_rfl) ?_
  wp_delta
  refine wpAny_ite_false (by simp [hs]) ?_
  wp_delta
  refine wpAny_bind (wpAny_dictEntries hoN hdN ?_)
  refine wpAny_bind (wpAny_specialOf hT (r := some (.builtin "dict.__iter__")) (by kernel_rfl) ?_)
  wp_delta
  refine wpAny_ite_true (by simp) ?_
  refine wpAny_bind (wpAny_pure ?_)
  wp_delta
  refine wpAny_bind (wpAny_holding ?_)
  refine slots_read hsl hc hd ((hfN _).trans B.slots) ((hfN _).trans (B.no _ (by simp))) fun h1 k1 => ?_
  refine wpAny_bind (wpAny_newObj_type ?_ (by have hz : sizeLine = 2 ^ 24 := rfl; simp [sizeOk]; omega))
  wp_delta
  refine wpAny_ite_false (by show decide ((!(es.any fun x => x.key.isStr "__module__")) = true) = false; rw [any_some ((hfN _).trans B.module.choose_spec)]; rfl) ?_
  wp_delta
  refine be (a := ()) (by kernel_rfl) ?_
  wp_delta
  refine wpAny_ite_false (by kernel_rfl) ?_
  wp_delta
  generalize hns : h1.objs.size = ns
  generalize hh2 : h1.push { cls := .type "dict", data := .dict es } = h2
  have N2 : h2.Ns1 ns m := by rw [← hh2, ← hns]; exact ⟨_, es, _, Heap.get?_push_size _ rfl, rfl, hkN, huN, hfN⟩
  refine wpAny_bind (ns_get N2.ns (B.qual) ?_)
  wp_delta
  refine wpAny_bind (ns_get N2.ns (B.qual) ?_)
  wp_delta
  refine be (a := some "cmp_to_key.<locals>.K") (by rfl) ?_
  wp_delta
  refine wpAny_bind (wpAny_pure ?_)
  wp_delta
  refine wpAny_bind (ns_get N2.ns (B.no _ (by simp)) ?_)
  wp_delta
  refine wpAny_bind (wpAny_alloc ?_)
  wp_delta
  generalize ha : h2.objs.size = a
  generalize hoc : (⟨.type "type", none, .cls _, #[]⟩ : Obj) = oc0
  generalize hh3 : h2.push oc0 = h3
  have gA3 : h3.get? a = some oc0 := by rw [← hh3, ← ha]; exact Heap.get?_push_size _ (by rw [← hoc]; rfl)
  have hna : ns ≠ a := fun z => by
    obtain ⟨o, _, _, g, _⟩ := N2
    have := Heap.lt_size g
    rw [z, ha] at this; exact Nat.lt_irrefl _ this
  have N3 : h3.Ns1 ns m := by rw [← hh3]; exact N2.at fun o g => Heap.get?_push_of_some _ g
  refine wpAny_ite_true (by rfl) ?_
  refine wpAny_bind (put_slot gA3 (by decide) fun h4 gA4 sb4 => ?_)
  wp_delta
  refine wpAny_bind (put_slot gA4 (by decide) fun h5 gA5 sb5 => ?_)
  wp_delta
  refine wpAny_bind (put_slot gA5 (by decide) fun h6 gA6 sb6 => ?_)
  wp_delta
  have N6 : h6.Ns1 ns m := ((N3.sameBut sb4 hna).sameBut sb5 hna).sameBut sb6 hna
  refine wpAny_bind (wpAny_nsDel1 N6 fun h7 N7 sb7 => ?_)
  have gA7 := (sb7.2 a (Ne.symm hna)).trans gA6
  generalize hm7 : (fun x => if x = Str.ofString "__qualname__" then none else m x) = m7 at N7
  have no7 : ∀ x ∈ (["__doc__", "__new__", "__init_subclass__", "__class_getitem__", "__classcell__", "__classdictcell__", "obj", "__del__"] : List Str), m7 x = none := fun x hx => by
    rw [← hm7]; dsimp only; split
    · rfl
    · exact B.no x hx
  refine wpAny_bind (ns_get N7.ns (no7 _ (by simp)) ?_)
  wp_delta
  refine wpAny_bind (wp_for_cons ?_)
  refine wpAny_bind (ns_get N7.ns (no7 _ (by simp)) ?_)
  refine wpAny_pure ?_
  refine wp_for_cons ?_
  refine wpAny_bind (ns_get N7.ns (no7 _ (by simp)) ?_)
  refine wpAny_pure ?_
  refine wp_for_nil ?_
  refine wpAny_bind (ns_get N7.ns (no7 _ (by simp)) ?_)
  wp_delta
  refine wpAny_bind (ns_get N7.ns (no7 _ (by simp)) ?_)
  wp_delta
  refine be (a := none) (by kernel_rfl) ?_
  try wp_delta
  refine be (a := [.type "object"]) (by kernel_rfl) ?_
  refine wpAny_bind (wpAny_pure ?_)
  try wp_delta
  have hfil : List.filter (fun x => x != Value.ref a) [Value.ref a, .type "object"] = [.type "object"] := by simp
  rw [hfil]
  refine be (a := false) (by kernel_rfl) ?_
  subst hoc
  refine wpAny_bind (upd_cls gA7 (by rfl) fun h8 gA8 sb8 => ?_)
  try wp_delta
  refine be (a := some "object.__new__") (by kernel_rfl) ?_
  refine wpAny_bind (put_slot gA8 (by decide) fun h9 gA9 sb9 => ?_)
  have N9 := (N7.sameBut sb8 hna).sameBut sb9 hna
  have hdel : (es.any fun x => x.key.isStr "__del__") = false := nsFind_none ((hfN _).trans (B.no _ (by simp)))
  have gA9' : h9.get? a = some ⟨.type "type", none, .cls { name := "K", bases := [.type "object"], mro := [.ref a, .type "object"], ns := ns, qualname := "cmp_to_key.<locals>.K", hasDel := (es.any fun x => x.key.isStr "__del__") || false }, #[some (.ref bT), none, some (.str "K" tk), some (.str "cmp_to_key.<locals>.K" tq), some (.builtin "object.__new__")]⟩ := gA9.trans (by kernel_rfl)
  rw [hdel] at gA9'
  have eN : typeLookup (.type "object") "__new__" = pure (some (.builtin "object.__new__")) := by rw [typeLookup_type, builtinLookup_eq_fast]; kernel_rfl
  refine wpAny_bind ?_
  unfold Bind.refreshMaker
  refine wpAny_bind (wpAny_bind (wpAny_loadPart gA9' (wpAny_pure ?_)))
  refine wpAny_ite_false (by rfl) ?_
  refine wpAny_bind (look_cls gA9' rfl N9.ns eN ?_)
  rw [no7 _ (by simp)]
  dsimp only
  refine wpAny_ite_false (by kernel_rfl) ?_
  refine wpAny_pure ?_
  have W7 : Within m7 nms := fun y hy => W y (by
    rw [← hm7] at hy; dsimp only at hy
    split at hy
    · exact absurd rfl hy
    · exact hy)
  refine wpAny_bind (slots_install gA9' N9 W7 (by omega) (no7 _ (by simp)) hna (by rfl) fun p tp t10 h10 gp hpn gP10 N10 gA10 k10 => ?_)
  refine be (a := false) (by kernel_rfl) ?_
  refine wpAny_bind (put_slot gA10 (by decide) fun h11 gA11 sb11 => ?_)
  try wp_delta
  refine wpAny_ite_false (by rfl) ?_
  try wp_delta
  refine wpAny_ite_false (by rfl) ?_
  try wp_delta
  have N11 := N10.sameBut sb11 hna
  generalize hm10 : (fun x => if x = Str.ofString "obj" then some (Value.ref p) else m7 x) = m10 at N10 N11
  have d10 : m10 (Str.ofString "__doc__") = none := by rw [← hm10]; exact (if_neg (by decide)).trans (no7 _ (by simp))
  refine wpAny_bind (ns_get N11.ns (d10) ?_)
  refine wpAny_ite_true (by rfl) ?_
  refine wpAny_bind (wpAny_nsSet1 N11 fun h12 N12 sb12 => ?_)
  generalize hm12 : (fun x => if x = Str.ofString "__doc__" then some Value.none else m10 x) = m12 at N12
  have q12 : ∀ x, x ≠ Str.ofString "__doc__" → x ≠ Str.ofString "obj" → x ≠ Str.ofString "__qualname__" → m12 x = m x := fun x h1 h2 h3 => by
    rw [← hm12, ← hm10, ← hm7]; dsimp only; rw [if_neg h1, if_neg h2, if_neg h3]
  refine wpAny_bind (ns_get N12.ns (by rw [q12 _ (by decide) (by decide) (by decide), B.eq.choose_spec]) ?_)
  refine wpAny_ite_true (by rfl) ?_
  refine wpAny_bind (ns_get N12.ns (by rw [q12 _ (by decide) (by decide) (by decide), B.hash.choose_spec]) ?_)
  refine wpAny_ite_false (by rfl) ?_
  refine wpAny_bind (wp_for_cons ?_)
  refine be (a := ()) (by kernel_rfl) ?_
  refine wpAny_pure ?_
  refine wp_for_nil ?_
  refine wpAny_bind (wpAny_tryCatch (wpAny_holding ?_))
  obtain ⟨o12, es12, ep12, g12, d12, k12, u12, f12⟩ := id N12
  refine wpAny_bind (wpAny_dictEntries g12 d12 ?_)
  refine wpAny_bind (wp_forA (fun s' => s' = _) rfl (fun e he s' hs' => ?_) fun s' hs' => ?_)
  · obtain ⟨x, tx, hx⟩ := k12 e he
    rw [hx]
    refine be (a := some x) (by rfl) ?_
    refine wpAny_ite_false (by rfl) ?_
    exact wpAny_pure ⟨rfl, hs'⟩
  subst hs'
  try wp_delta
  refine wpAny_ite_false (by rfl) ?_
  try wp_delta
  refine wpAny_bind (wpAny_dictEntries g12 d12 ?_)
  have ltns : ∀ b o, s.heap.get? b = some o → b ≠ ns := fun b o g z => by
    have := Heap.lt_size (k1 b o g)
    rw [z, hns] at this; exact Nat.lt_irrefl _ this
  have k2 : ∀ b o, s.heap.get? b = some o → h2.get? b = some o := fun b o g => by rw [← hh2]; exact Heap.get?_push_of_some _ (k1 b o g)
  have lta : ∀ b o, s.heap.get? b = some o → b ≠ a := fun b o g z => by
    have := Heap.lt_size (k2 b o g)
    rw [z, ha] at this; exact Nat.lt_irrefl _ this
  have k3 : ∀ b o, s.heap.get? b = some o → h3.get? b = some o := fun b o g => by rw [← hh3]; exact Heap.get?_push_of_some _ (k2 b o g)
  have k12' : ∀ b o, s.heap.get? b = some o → h12.get? b = some o := fun b o g => by
    have na := lta b o g
    have nn := ltns b o g
    have g9 : h9.get? b = some o := (sb9.2 b na).trans ((sb8.2 b na).trans ((sb7.2 b nn).trans ((sb6.2 b na).trans ((sb5.2 b na).trans ((sb4.2 b na).trans (k3 b o g))))))
    exact (sb12.2 b nn).trans ((sb11.2 b na).trans (k10 b o na nn g9))
  have hpa : p ≠ a := fun z => by rw [z] at gp; rw [gA9'] at gp; cases gp
  have gP12 : h12.get? p = some (memObj a tp) := (sb12.2 p hpn).trans ((sb11.2 p hpa).trans gP10)
  have gA12 : h12.get? a = some (clsObj a ns bT tk tq) := (sb12.2 a (Ne.symm hna)).trans (gA11.trans (by kernel_rfl))
  refine wpAny_bind (wp_forA (fun s' => s' = _) rfl (fun e he s' hs' => ?_) fun s' hs' => ?_)
  · obtain ⟨x, tx, hx⟩ := k12 e he
    have hval : m12 x = some e.val := (f12 x).symm.trans (uniq_find u12 he hx)
    have hpl : Pl s' e.val := by
      subst hs'
      by_cases c1 : x = Str.ofString "__doc__"
      · rw [← hm12, c1] at hval; simp at hval
        rw [← hval]
        exact ⟨(fun _ z => by cases z), "NoneType", (by kernel_rfl : typeOf .none = pure (.type "NoneType")), by kernel_rfl⟩
      · by_cases c2 : x = Str.ofString "obj"
        · rw [← hm12, ← hm10, c2] at hval
          dsimp only at hval
          rw [if_neg (by decide), if_pos rfl] at hval
          rw [← Option.some.inj hval]
          exact ⟨(fun _ z => by cases z), "member_descriptor", ⟨_, gP12, rfl⟩, by kernel_rfl⟩
        · by_cases c3 : x = Str.ofString "__qualname__"
          · rw [← hm12, ← hm10, ← hm7, c3] at hval
            dsimp only at hval
            rw [if_neg (by decide), if_neg (by decide), if_pos rfl] at hval
            cases hval
          · rw [q12 x c1 c2 c3] at hval
            exact (hV x _ hval).keeps k12'
    have hlaid : Builtin.laidUnderItsOwnName e.key e.val = false := by
      rw [hx]
      cases hev : e.val with
      | builtin id => exact absurd hev (hpl.1 id)
      | _ => rfl
    refine wpAny_ite_false (by simp [hlaid]) ?_
    obtain ⟨T, hT', hl'⟩ := hpl.2
    refine wpAny_bind (wpAny_specialOf hT' hl' ?_)
    exact wpAny_pure ⟨rfl, hs'⟩
  subst hs'
  refine wpAny_bind (call_super_cls gA12 rfl (sub_self gA12 rfl) fun h13 gS k13 => ?_)
  generalize hso : h12.objs.size = so at gS
  refine wpAny_bind (wpAny_holding ?_)
  have gA13 := k13 _ _ gA12
  refine super_attr gS (hno _ _ fun b o g => k13 b o (k12' b o g)) gA13 rfl ?_
  have gB : (h13.push { cls := .type "builtin_function_or_method", data := .fields #[.builtin "object.__init_subclass__", .ref a] }).get? h13.objs.size = some { cls := .type "builtin_function_or_method", data := .fields #[.builtin "object.__init_subclass__", .ref a] } := Heap.get?_push_size _ rfl
  refine wpAny_bind (call_bm gB (Heap.get?_push_of_some _ gA13) rfl ?_)
  refine wpAny_pure ?_
  refine wpAny_pure ?_
  have up : ∀ b o, h12.get? b = some o → (h13.push { cls := .type "builtin_function_or_method", data := .fields #[.builtin "object.__init_subclass__", .ref a] }).get? b = some o := fun b o g => Heap.get?_push_of_some _ (k13 b o g)
  refine hQ a ns p _ _ ⟨⟨tk, tq, up _ _ gA12⟩, ?_, ⟨tp, up _ _ gP12⟩, fun b o g => up b o (k12' b o g), ?_, ?_, ?_⟩
  · have := N12.at (h' := h13.push { cls := .type "builtin_function_or_method", data := .fields #[.builtin "object.__init_subclass__", .ref a] }) fun o g => up _ _ g
    rw [← hm12, ← hm10, ← hm7] at this
    exact this
  · cases hg : s.heap.get? a with
    | none => rfl
    | some o => exact absurd rfl (lta a o hg)
  · cases hg : s.heap.get? ns with
    | none => rfl
    | some o => exact absurd rfl (ltns ns o hg)
  · cases hg : s.heap.get? p with
    | none => rfl
    | some o =>
      have g9 : h9.get? p = some o := (sb9.2 p hpa).trans ((sb8.2 p hpa).trans ((sb7.2 p hpn).trans ((sb6.2 p hpa).trans ((sb5.2 p hpa).trans ((sb4.2 p hpa).trans (k3 p o hg))))))
      rw [gp] at g9; cases g9
end Mine
end
section
open PySem PySem.W PySem.Calls PyProof.Rows
set_option maxRecDepth 100000
set_option maxHeartbeats 2000000
set_option linter.all false
namespace Mine
theorem entry_tn : entryFor table "type.__new__" = some Builtin.«type.__new__» := entryFor_of_tree (by kernel_rfl)
theorem slot_ti : Slot "type" "__init__" "type.__init__" := .of (owner := "type") (n := "__init__") (by rw [typeLookup_type, builtinLookup_eq_fast]; kernel_rfl) (by decide +kernel) (by decide +kernel) (by decide +kernel)
    (by first | exact .inl (by decide +kernel) | exact .inr (by decide +kernel)) (by rw [isSubtype_type]; kernel_rfl)
theorem entry_ti : entryFor table "type.__init__" = some Builtin.«type.__init__» := entryFor_of_tree (by kernel_rfl)
theorem args_ti (a b c d : Value) : argsOk "type.__init__" ⟨[a, b, c, d], []⟩ := by unfold argsOk; kernel_rfl
theorem call_type3 {prog : Program} {w : World} {A : Around} {Q : Value → Shared → Prop} {s : Shared} {bT nsA sl : Addr} {tk tq ts : Tok} {m : Str → Option Value} {osl : Obj} {n : Nat}
   (hb : s.heap.get? bT = some { cls := .type "tuple", data := .seq #[.type "object"] }) (hn : s.heap.Ns1 nsA m) (hT : s.TypeIs (.ref nsA) "dict") (hs : (nsA == sysModules) = false) (B : Blk m "cmp_to_key.<locals>.K" tq sl)
   (hsl : s.heap.get? sl = some osl) (hc : osl.cls = .type "list") (hd : osl.data = .seq #[.str "obj" ts] n) {nms : List Str} (W : Within m nms) (hz : nms.length ≤ 50) (hV : ∀ x v, m x = some v → Pl s v) (hno : ∀ h' a, (∀ b o, s.heap.get? b = some o → h'.get? b = some o) → Looks (model prog w) h' (opaqueClassAbove (.ref a)) none)
   (hQ : ∀ a ns p h' t', Made s.heap h' a ns p bT m → Q (.ref a) { s with heap := h', toks := t' }) :
   wpAny (model prog w) A (call (.type "type") [.str "K" tk, .ref bT, .ref nsA]) Q NoE s := by
  refine wpAny_call (codeAny_of_tree ?_)
  show wpAny _ _ (callAny (.type "type") _) _ _ _
  refine wpAny_pure ⟨Code.quiet_builtin _ (by decide +kernel), codeAny_builtin F.entry_type_call ?_⟩
  unfold Builtin.«type.__call__»
  try wp_delta
  refine wpAny_ite_true (by rfl) ?_
  try wp_delta
  refine wpAny_ite_false (by rfl) ?_
  try wp_delta
  refine wpAny_ite_false (by rfl) ?_
  try wp_delta
  refine wpAny_ite_false (by kernel_rfl) ?_
  try wp_delta
  refine be (a := ()) (by kernel_rfl) ?_
  try wp_delta
  refine be (a := [.type "type", .type "object"]) (by kernel_rfl) ?_
  try wp_delta
  refine wpAny_ite_false (by rfl) ?_
  try wp_delta
  refine be (a := some "type.__new__") (by kernel_rfl) ?_
  try wp_delta
  refine wpAny_bind (wpAny_pure ?_)
  try wp_delta
  refine wpAny_bind (wpAny_holding (wpAny_call (codeAny_of_tree ?_)))
  show wpAny _ _ (callAny (.builtin "type.__new__") _) _ _ _
  unfold callAny
  refine be (a := ()) (by kernel_rfl) ?_
  refine wpAny_pure ⟨Code.quiet_builtin _ (by decide +kernel), codeAny_builtin entry_tn ?_⟩
  refine wpAny_mono (type_new hb hn hT hs B hsl hc hd W hz hV hno (Q := fun fin s' => ∃ a ns p h' t', fin = .done (.ret (.ref a)) ∧ s' = { s with heap := h', toks := t' } ∧ Made s.heap h' a ns p bT m) (fun a ns p h' t' M => ⟨a, ns, p, h', t', rfl, rfl, M⟩)) (fun fin s' hf => ?_) (fun _ _ z => z.elim)
  obtain ⟨a, ns, p, h', t', rfl, rfl, M⟩ := hf
  obtain ⟨tk', tq', gA⟩ := M.cls
  have hTa : ({ s with heap := h', toks := t' } : Shared).TypeIs (.ref a) "type" := ⟨_, gA, rfl⟩
  show wpAny _ _ _ _ _ _
  refine wpAny_bind (wpAny_isInstance hTa (by kernel_rfl : isSubtype (.type "type") (.type "type") = pure true) ?_)
  try wp_delta
  refine wpAny_ite_false (by rfl) ?_
  try wp_delta
  refine wpAny_bind (wpAny_holding (wpAny_callSpecial?_slot (name := Str.ofString "__init__") hTa slot_ti (wpAny_call_entry slot_ti hTa entry_ti ?_ (args_ti _ _ _ _))))
  unfold Builtin.«type.__init__»
  try wp_delta
  refine wpAny_ite_false (by rfl) ?_
  try wp_delta
  refine wpAny_ite_false (by rfl) ?_
  refine wpAny_pure ⟨_, rfl, ?_⟩
  try wp_delta
  refine wpAny_ite_false (by rfl) ?_
  try wp_delta
  exact wpAny_pure (hQ a ns p h' t' M)
end Mine
end
section
open PySem PySem.W PySem.Calls PyProof.Rows
set_option maxRecDepth 100000
set_option maxHeartbeats 2000000
set_option linter.all false
namespace Mine
section
variable {prog : Program} {w : World} {W : Wd} {A : Around} {E : Value → Shared → Prop} {s : Shared}
/-- the code of a class block that is met for the first time -/
theorem class_code {env : Env} {c P : Addr} {pos : Pos} {firstLine : Nat} {name qual : Str} {scope : Scope} {Q : Value → Shared → Prop} (hc : env.code = .ref c) (C : CodeHd s.heap c P) (hP : s.heap.get? P = some (tabObj #[]))
    (hQ : ∀ c' P' h' tk, Heap.ExtBut P s.heap h' → s.heap.get? c' = none → s.heap.get? P' = none → CodeHd h' c' P' → h'.get? P' = some (tabObj #[]) → (∃ ps, h'.get? P = some (tabObj ps) ∧ TriplesOk ps.toList) → h'.CodeRec (.ref c') qual → Q (.ref c') { s with heap := h', toks := tk }) :
    wpAny (model prog w) A (classCode env pos firstLine name qual scope) Q E s := by
  obtain ⟨o, vs, file, tf, flags, tg, inF, text, tt, ho, hcl, hd, h11, h11', h18, h7, h9, h10, hne⟩ := id C
  unfold classCode codeAt
  rw [hc]
  refine wpAny_ite_false (by rfl) ?_
  refine wpAny_bind (wpAny_fieldsOf ho hd ?_)
  rw [h11']
  refine wpAny_bind (wpAny_fieldsOf hP rfl ?_)
  rw [show codeAmong pos (#[] : Array Value).toList = none from rfl, h18, h7, h9, h10]
  refine wpAny_bind (wpAny_newCodeX fun c' P' h' tk hk hc' hP' hcode' htab' hrec' => ?_)
  have gP := hk _ _ hP
  refine wpAny_bind (wpAny_updateFieldsOfTheText gP rfl ?_)
  have hget := Heap.get?_update_self (h := h') (fun o => Obj.mapFields (fun vs => if (codeAmong pos vs.toList).isSome = true then vs else vs ++ #[rawInt pos.line, rawInt pos.col, .ref c']) o) gP rfl
  refine wpAny_bind (wpAny_fieldsOf hget rfl ?_)
  have hf : codeAmong pos [rawInt pos.line, rawInt pos.col, .ref c'] = some (.ref c') := by simp [codeAmong, rawInt]
  show wpAny _ _ (match codeAmong pos [rawInt pos.line, rawInt pos.col, .ref c'] with | some c => pure c | none => unsupported "internal:code-record") _ _ _
  rw [hf]
  have ltP := Heap.lt_size hP
  have hcP : c' ≠ P := Nat.ne_of_gt (Nat.lt_of_lt_of_le ltP hc')
  have hP'P : P' ≠ P := Nat.ne_of_gt (Nat.lt_of_lt_of_le ltP hP')
  have sb : Heap.SameBut P h' (h'.update P (fun o => Obj.mapFields (fun vs => if (codeAmong pos vs.toList).isSome = true then vs else vs ++ #[rawInt pos.line, rawInt pos.col, .ref c']) o)) := Heap.SameBut.update ..
  refine wpAny_pure (hQ c' P' _ _ (fun b o' hb e => sb.extBut b o' hb (hk b o' e)) (at_none hc') (at_none hP') ?_ ?_ ⟨_, hget, trivial⟩ ?_)
  · exact CodeHd.of (hcode'.extBut sb.extBut hcP hP'P) (htab'.extBut sb.extBut hcP hP'P)
  · exact (sb.2 P' hP'P).trans htab'.2
  · obtain ⟨c₂, o₂, vs₂, t₂, e₂, g₂, r₂⟩ := hrec'
    cases e₂
    exact ⟨_, o₂, vs₂, t₂, rfl, sb.extBut _ _ hcP g₂, r₂⟩
end
end Mine
end
section
open PySem PySem.W PySem.Calls PyProof.Rows
set_option maxRecDepth 100000
set_option maxHeartbeats 2000000
set_option linter.all false
namespace Mine
/-- a plain dict that is a block's names -/
def Bd (h : Heap) (a : Addr) (m : Str → Option Value) : Prop := ∃ o es ep, h.get? a = some o ∧ o.cls = .type "dict" ∧ o.data = .dict es ep ∧ StrKeys es ∧ UniqKeys es ∧ ∀ name, nsFind es name = m name
theorem Bd.ns1 {h : Heap} {a : Addr} {m : Str → Option Value} (x : Bd h a m) : h.Ns1 a m := let ⟨o, es, ep, g, _, r⟩ := x; ⟨o, es, ep, g, r⟩
theorem Bd.at {h h' : Heap} {a : Addr} {m : Str → Option Value} (x : Bd h a m) (k : ∀ o, h.get? a = some o → h'.get? a = some o) : Bd h' a m := let ⟨o, es, ep, g, r⟩ := x; ⟨o, es, ep, k o g, r⟩
theorem Bd.typeIs {s : Shared} {a : Addr} {m : Str → Option Value} (x : Bd s.heap a m) : s.TypeIs (.ref a) "dict" := let ⟨o, _, _, g, c, _⟩ := x; ⟨o, g, c⟩
section
variable {prog : Program} {w : World} {W : Wd} {A : Around} {E : Value → Shared → Prop} {s : Shared}
theorem set_bd {a : Addr} {m : Str → Option Value} {name : Str} {v : Value} {Q : Unit → Shared → Prop} (hn : Bd s.heap a m)
    (hQ : ∀ h', Bd h' a (fun x => if x = name then some v else m x) → Heap.SameBut a s.heap h' → Q () { s with heap := h', toks := s.toks + 1 }) : wpAny (model prog w) A (nsSet a name v) Q E s := by
  obtain ⟨o, es, ep, ho, hc, hd, hk, hu, hm⟩ := hn
  have hany : es.any (·.refKey) = false := by
    rw [Array.any_eq_false']; intro e he; obtain ⟨n, t, h⟩ := hk e he; simp [DictEntry.refKey, h]
  unfold nsSet strHash
  refine wpAny_bind (wpAny_bind (wpAny_askSetting (wpAny_pure ?_)))
  refine wpAny_bind (wpAny_mkText ?_)
  refine wpAny_bind (wpAny_loadPart ho ?_)
  rw [hd]
  dsimp only
  refine wpAny_ite_false (by simp only [aRefKeyMayBeTheName_eq, aRefKeyMayBeTheNameByArray, hany, Bool.and_false]; rfl) ?_
  refine wpAny_updatePart ho (hQ _ ?_ (Heap.SameBut.update ..))
  obtain ⟨c, d, dt, sl⟩ := o
  subst hd
  cases hi : es.findIdx? (·.key.isStr name) with
  | some i =>
    refine ⟨_, _, ep, Heap.get?_update_self _ ho (by simp only [Obj.putName_eq, Obj.putNameByArray, hi]; rfl), by simp only [Obj.putName_eq, Obj.putNameByArray, hi]; exact hc, by simp only [Obj.putName_eq, Obj.putNameByArray, hi]; rfl, hk.modify _ _, hu.modify _ _, fun x => ?_⟩
    show _ = if x = name then some v else m x
    rw [← hm]; exact findBy_modify (fun n v => v.isStr n) Value.isStr_inj es name x v i hi
  | none =>
    refine ⟨_, _, ep + 1, Heap.get?_update_self _ ho (by simp only [Obj.putName_eq, Obj.putNameByArray, hi]; rfl), by simp only [Obj.putName_eq, Obj.putNameByArray, hi]; exact hc, by simp only [Obj.putName_eq, Obj.putNameByArray, hi]; rfl, hk.push _ _ _ _, hu.push _ _ _ _ hi, fun x => ?_⟩
    show _ = if x = name then some v else m x
    rw [← hm]
    refine findBy_push (fun n v => v.isStr n) es name x _ _ v (fun y => ?_) hi
    show (name == y) = decide (y = name)
    by_cases h : y = name
    · subst h; simp
    · have : ¬ name = y := fun e => h e.symm
      simp [h, this]

theorem store_cls {env : Env} {nsA : Addr} {m : Str → Option Value} {name : Str} {v : Value} {Q : Unit → Shared → Prop} (hl : env.locals = nsA) (hn : Bd s.heap nsA m) (hs : storeName env name v = localSet env name v)
    (hQ : ∀ h', Bd h' nsA (fun x => if x = name then some v else m x) → Heap.SameBut nsA s.heap h' → Q () { s with heap := h', toks := s.toks + 1 }) : wpAny (model prog w) A (storeName env name v) Q E s := by
  rw [hs]
  unfold localSet
  rw [hl]
  obtain ⟨o, es, ep, ho, hc, _⟩ := id hn
  refine wpAny_bind (wpAny_load ho ?_)
  refine wpAny_ite_true (by rw [hc]; rfl) ?_
  exact set_bd hn hQ
end
end Mine
end
section
open PySem PySem.W PySem.Calls PyProof.Rows
set_option maxRecDepth 100000
set_option maxHeartbeats 2000000
set_option linter.all false
namespace Mine
/-- what stands while the block of a class runs -/
structure Bks (h : Heap) (nsA c P : Addr) (m : Str → Option Value) (ps : Array Value) (mg : Str → Option Value) : Prop where
  bd : Bd h nsA m
  code : CodeHd h c P
  tab : h.get? P = some (tabObj ps)
  tri : TriplesOk ps.toList
  glob : h.Ns mainGlobals mg
  blt : h.BuiltinsAt mg P
  gP : mainGlobals ≠ P
  nP : nsA ≠ P
  nc : nsA ≠ c
  ng : nsA ≠ mainGlobals
  nb : ∀ bm, mg "__builtins__" = some (.ref bm) → nsA ≠ bm
section
variable {prog : Program} {w : World} {W : Wd} {A : Around} {E : Value → Shared → Prop} {s : Shared}
theorem Bks.set {h h' : Heap} {nsA c P : Addr} {m m' : Str → Option Value} {ps : Array Value} {mg : Str → Option Value} (x : Bks h nsA c P m ps mg) (sb : Heap.SameBut nsA h h') (hb : Bd h' nsA m') : Bks h' nsA c P m' ps mg := by
  refine ⟨hb, ?_, (sb.2 P (Ne.symm x.nP)).trans x.tab, x.tri, x.glob.sameBut sb (Ne.symm x.ng), ?_, x.gP, x.nP, x.nc, x.ng, x.nb⟩
  · obtain ⟨o, vs, file, tf, flags, tg, inF, text, tt, ho, r⟩ := x.code
    exact ⟨o, vs, file, tf, flags, tg, inF, text, tt, (sb.2 c (Ne.symm x.nc)).trans ho, r⟩
  · obtain ⟨bm, o, h1, h2, h3, h4, g, r⟩ := x.blt
    exact ⟨bm, o, h1, h2, h3, h4, (sb.2 bm (Ne.symm (x.nb bm h1))).trans g, r⟩
theorem Bks.grow {h h' : Heap} {nsA c P : Addr} {m : Str → Option Value} {ps ps' : Array Value} {mg : Str → Option Value} (x : Bks h nsA c P m ps mg) (e : Heap.ExtBut P h h') (ht : h'.get? P = some (tabObj ps')) (tr : TriplesOk ps'.toList) : Bks h' nsA c P m ps' mg := by
  refine ⟨x.bd.at fun o g => e _ _ x.nP g, ?_, ht, tr, x.glob.extBut e x.gP, ?_, x.gP, x.nP, x.nc, x.ng, x.nb⟩
  · obtain ⟨o, vs, file, tf, flags, tg, inF, text, tt, ho, h1, h2, h3, h4, h5, h6, h7, h8, ne⟩ := x.code
    exact ⟨o, vs, file, tf, flags, tg, inF, text, tt, e _ _ ne ho, h1, h2, h3, h4, h5, h6, h7, h8, ne⟩
  · obtain ⟨bm, o, h1, h2, h3, h4, g, r⟩ := x.blt
    exact ⟨bm, o, h1, h2, h3, h4, e _ _ h4 g, r⟩

theorem def_cls {env : Env} {nsA c P : Addr} {m mg : Str → Option Value} {ps : Array Value} {clos : List (Str × Addr)} {name : Str} {args : Arguments} {body : List Stmt} {scope : Scope} {pos : Pos} {Q : Flow → Shared → Prop}
    (x : Bks s.heap nsA c P m ps mg) (hcode : env.code = .ref c) (hge : env.globals = mainGlobals) (hl : env.locals = nsA) (hnf : codeAmong pos ps.toList = none) (hcl : closureFor scope env = pure clos)
    (hdef : defaultsOf args env = ([], [])) (hann : annTrees args none env = []) (hs : ∀ v, storeName env name v = localSet env name v)
    (h : ∀ f c' ctv doc h' tk, (∀ b o, b ≠ nsA → b ≠ P → s.heap.get? b = some o → h'.get? b = some o) → s.heap.get? f = none → s.heap.get? c' = none → h'.get? f = some (kdv_obj name (qualnameIn env name name) args (.stmts body) scope clos .none doc ((mg "__name__").getD .none) c' ctv) →
      h'.CodeRec (.ref c') (qualnameIn env name name) → Bks h' nsA c P (fun y => if y = name then some (.ref f) else m y) (ps ++ #[rawInt pos.line, rawInt pos.col, .ref c']) mg → Q .next { s with heap := h', toks := tk }) :
    wpAny (model prog w) A (exec (.FunctionDef name args body [] none [] scope none name pos) env) Q E s := by
  rw [exec_def, hdef, hann]
  refine wpAny_bind (wpAny_standAt ?_)
  refine wpAny_bind (wpAny_holding ?_)
  refine be (a := []) (by rfl) ?_
  refine wpAny_bind (wpAny_holding ?_)
  refine wpAny_of_eq (a := []) (by rfl) ?_
  refine wpAny_holding ?_
  refine be (a := []) (by rfl) ?_
  rw [makeFunction_eq]
  simp only [List.zip_nil_right, List.filterMap_nil, List.isEmpty_nil, if_true, pure_bind]
  refine kdv_makeTail hcl hge x.glob hcode x.code x.tab x.tri hnf x.gP x.blt fun c' ctv doc h1 tk hx hge' hlt hrec ht => ?_
  refine wpAny_bind (wpAny_standAt ?_)
  generalize hf : h1.objs.size = f
  generalize hof : kdv_obj name (qualnameIn env name name) args (.stmts body) scope clos .none doc ((mg "__name__").getD .none) c' ctv = of
  have tr : TriplesOk (ps ++ #[rawInt pos.line, rawInt pos.col, .ref c']).toList := by
    rw [show (ps ++ #[rawInt pos.line, rawInt pos.col, Value.ref c']).toList = ps.toList ++ [rawInt pos.line, rawInt pos.col, .ref c'] by simp]
    exact TriplesOk_snoc _ _ _ _ x.tri
  have x1 := x.grow (ps' := ps ++ #[rawInt pos.line, rawInt pos.col, .ref c']) hx ht tr
  have gf : (h1.push of).get? f = some of := by rw [← hf]; exact Heap.get?_push_size _ (by rw [← hof]; rfl)
  have x2 : Bks (h1.push of) nsA c P m (ps ++ #[rawInt pos.line, rawInt pos.col, .ref c']) mg := x1.grow (fun b o _ g => Heap.get?_push_of_some _ g) (Heap.get?_push_of_some _ x1.tab) tr
  refine wpAny_bind (wpAny_bindName (store_cls (s := { s with heap := h1.push of, toks := tk }) hl x2.bd (hs _) fun h3 b3 sb3 => ?_))
  refine wpAny_pure ?_
  have fn : s.heap.get? f = none := by
    cases hg : s.heap.get? f with
    | none => rfl
    | some o =>
      have h0 := Heap.lt_size hg
      by_cases hfP : f = P
      · have := Heap.lt_size ht
        rw [← hfP, hf] at this; exact absurd this (Nat.lt_irrefl _)
      · have := Heap.lt_size (hx f o hfP hg)
        rw [hf] at this; exact absurd this (Nat.lt_irrefl _)
  have hfn : f ≠ nsA := fun z => by obtain ⟨o, _, _, g, _⟩ := x.bd; rw [← z, fn] at g; cases g
  refine h f c' ctv doc h3 _ (fun b o hb1 hb2 g => (sb3.2 b hb1).trans (Heap.get?_push_of_some _ (hx b o hb2 g))) fn (at_none hge') ((sb3.2 f hfn).trans (by rw [hof]; exact gf)) ?_ (x2.set sb3 b3)
  obtain ⟨c₂, o₂, vs₂, t₂, e₂, g₂, r₂⟩ := hrec
  have hcn : c₂ ≠ nsA := fun z => by
    obtain ⟨o, es, ep, g, cc, dd, _⟩ := x1.bd
    rw [z, g] at g₂; cases g₂; rw [dd] at r₂; cases r₂.1
  exact ⟨c₂, o₂, vs₂, t₂, e₂, (sb3.2 c₂ hcn).trans (Heap.get?_push_of_some _ g₂), r₂⟩
end
end Mine
end
section
open PySem PySem.W PySem.Calls PyProof.Rows
set_option maxRecDepth 100000
set_option maxHeartbeats 4000000
set_option linter.all false
namespace Mine
theorem slot_tga : Slot "type" "__getattribute__" "type.__getattribute__" := .of (owner := "type") (n := "__getattribute__") (by rw [typeLookup_type, builtinLookup_eq_fast]; kernel_rfl) (by decide +kernel) (by decide +kernel) (by decide +kernel)
    (by first | exact .inl (by decide +kernel) | exact .inr (by decide +kernel)) (by rw [isSubtype_type]; kernel_rfl)
theorem entry_tga : entryFor table "type.__getattribute__" = some Builtin.«type.__getattribute__» := entryFor_of_tree (by kernel_rfl)
theorem args_tga (a b : Value) : argsOk "type.__getattribute__" ⟨[a, b], []⟩ := by unfold argsOk; kernel_rfl
theorem entry_tp : entryFor table "type.__prepare__" = some Builtin.«type.__prepare__» := entryFor_of_tree (by kernel_rfl)
section
variable {prog : Program} {w : World} {W : Wd} {A : Around} {E : Value → Shared → Prop} {s : Shared}
theorem ga_prep {t : Tok} {Q : Fin → Shared → Prop} (hq : Q (.done (.ret (.ref s.heap.objs.size))) { s with heap := s.heap.push { cls := .type "builtin_function_or_method", data := .fields #[.builtin "type.__prepare__", .type "type"] } }) :
    wpAny (model prog w) A (Builtin.«type.__getattribute__» ⟨[.type "type", .str "__prepare__" t], []⟩) Q E s := by
  unfold Builtin.«type.__getattribute__»
  try wp_delta
  refine be (a := some "__prepare__") (by rfl) ?_
  try wp_delta
  refine be (a := none) (by kernel_rfl) ?_
  try wp_delta
  refine be (a := .type "type") (by kernel_rfl) ?_
  refine be (a := some (.builtin "type.__prepare__")) (by kernel_rfl) ?_
  try wp_delta
  refine be (a := some (.builtin "classmethod_descriptor.__get__")) (by kernel_rfl) ?_
  try wp_delta
  refine be (a := none) (by kernel_rfl) ?_
  try wp_delta
  refine wpAny_ite_false (by rfl) ?_
  refine be (a := none) (by kernel_rfl) ?_
  refine wpAny_bind (wpAny_pure ?_)
  try wp_delta
  refine wpAny_ite_false (by rfl) ?_
  try wp_delta
  refine be (a := some (.builtin "type.__prepare__")) (by kernel_rfl) ?_
  try wp_delta
  refine wpAny_ite_false (by kernel_rfl) ?_
  try wp_delta
  refine be (a := .type "classmethod_descriptor") (by kernel_rfl) ?_
  try wp_delta
  refine wpAny_ite_false (by rfl) ?_
  try wp_delta
  refine be (a := some (.builtin "classmethod_descriptor.__get__")) (by kernel_rfl) ?_
  try wp_delta
  refine wpAny_bind (wpAny_holding ?_)
  have hTd : s.TypeIs (.builtin "type.__prepare__") "classmethod_descriptor" := (by kernel_rfl : typeOf (.builtin "type.__prepare__") = pure (.type "classmethod_descriptor"))
  refine wpAny_call_entry slot_cmg hTd entry_cmg ?_ (args_cmg _ _ _)
  unfold Builtin.«classmethod_descriptor.__get__»
  refine be (a := (.builtin "type.__prepare__", none, some (.type "type"))) (by kernel_rfl) ?_
  try wp_delta
  refine wpAny_bind (wpAny_pure ?_)
  refine be (a := true) (by kernel_rfl) ?_
  try wp_delta
  refine wpAny_ite_false (by rfl) ?_
  try wp_delta
  refine be (a := true) (by kernel_rfl) ?_
  try wp_delta
  refine wpAny_ite_false (by rfl) ?_
  try wp_delta
  refine wpAny_bind ?_
  unfold newFields
  refine wpAny_newObj_type ?_ (by simp [sizeOk])
  refine wpAny_pure ⟨_, rfl, ?_⟩
  exact wpAny_pure hq

theorem attr_prep {Q : Option Value → Shared → Prop} (hq : Q (some (.ref s.heap.objs.size)) { s with heap := s.heap.push { cls := .type "builtin_function_or_method", data := .fields #[.builtin "type.__prepare__", .type "type"] }, toks := s.toks + 1 }) :
    wpAny (model prog w) A (getAttr? (.type "type") "__prepare__") Q E s := by
  unfold getAttr? getAttrBy?
  refine wpAny_bind (wpAny_mkText ?_)
  refine wpAny_bind (wpAny_attempt ?_)
  have hT : ({ s with toks := s.toks + 1 } : Shared).TypeIs (.type "type") "type" := (by kernel_rfl : typeOf (.type "type") = pure (.type "type"))
  unfold getAttrBy
  refine wpAny_holding ?_
  refine be (a := .type "type") (by kernel_rfl) ?_
  refine be (a := some (.builtin "type.__getattribute__")) (by kernel_rfl) ?_
  show wpAny _ _ (getAttrByItsOwn (.type "type") (.str "__prepare__" s.toks) (.type "type") (.builtin "type.__getattribute__") false false) _ _ _
  unfold getAttrByItsOwn hookBefore callGetattribute boundAndCalled
  refine be (a := none) (by rfl) ?_
  refine wpAny_bind (wpAny_attempt (wpAny_holding ?_))
  refine wpAny_ite_false (by rfl) ?_
  refine be (a := (.builtin "type.__getattribute__", [.type "type"])) (by kernel_rfl) ?_
  refine wpAny_mono (Q := fun v s' => v = .ref s.heap.objs.size ∧ s' = { s with heap := s.heap.push { cls := .type "builtin_function_or_method", data := .fields #[.builtin "type.__prepare__", .type "type"] }, toks := s.toks + 1 }) (E := fun _ _ => False)
    (wpAny_call_entry slot_tga hT entry_tga (ga_prep (s := { s with toks := s.toks + 1 }) ⟨_, rfl, rfl, rfl⟩) (args_tga _ _)) (fun v s' hv => ?_) fun _ _ z => z.elim
  obtain ⟨rfl, rfl⟩ := hv
  exact wpAny_pure (wpAny_pure hq)
theorem call_prep {b bT : Addr} {tk : Tok} {Q : Value → Shared → Prop} (hb : s.heap.get? b = some { cls := .type "builtin_function_or_method", data := .fields #[.builtin "type.__prepare__", .type "type"] })
    (hq : Q (.ref s.heap.objs.size) { s with heap := s.heap.push { cls := .type "dict", data := .dict #[] } }) : wpAny (model prog w) A (call (.ref b) [.str "K" tk, .ref bT]) Q E s := by
  refine wpAny_call (codeAny_of_tree ?_)
  show wpAny _ _ (callAny (.ref b) _) _ _ _
  unfold callAny
  refine wpAny_bind (wpAny_load hb ?_)
  dsimp only
  refine wpAny_ite_true (by rfl) ?_
  try wp_delta
  refine wpAny_ite_true (by rfl) ?_
  refine be (a := ()) (by kernel_rfl) ?_
  refine wpAny_pure ⟨Code.quiet_builtin _ (by decide +kernel), codeAny_builtin entry_tp ?_⟩
  unfold Builtin.«type.__prepare__»
  refine wpAny_bind ?_
  unfold newDict
  refine wpAny_newObj_type ?_ (by simp [sizeOk])
  exact wpAny_pure hq
end
end Mine
end
section
open PySem PySem.W PySem.Calls PyProof.Rows
set_option maxRecDepth 100000
set_option maxHeartbeats 4000000
set_option linter.all false
namespace Mine
theorem among_snoc {pos : Pos} {a : Int} {b : Int} {c : Value} (hne : a ≠ pos.line) (l : List Value) (h : TriplesOk l) (hn : codeAmong pos l = none) : codeAmong pos (l ++ [rawInt a, rawInt b, c]) = none := by
  fun_induction TriplesOk l with
  | case1 =>
    show (if (a == (pos.line : Int) && b == (pos.col : Int)) = true then some c else codeAmong pos []) = none
    rw [if_neg (by simp [hne])]; rfl
  | case2 x t y u z rest ih =>
    simp only [List.cons_append, codeAmong] at hn ⊢
    split at hn
    · cases hn
    · rename_i hc; rw [if_neg hc]; exact ih h hn
  | case3 l h1 h2 => exact h.elim
/-- codes of earlier rows -/
def Rows (ps : Array Value) (n : Nat) : Prop := TriplesOk ps.toList ∧ ∀ pos : Pos, n ≤ pos.line → codeAmong pos ps.toList = none
theorem Rows.nil (n : Nat) : Rows #[] n := ⟨trivial, fun _ _ => rfl⟩
theorem Rows.snoc {ps : Array Value} {n n' : Nat} {pos : Pos} {c : Value} (x : Rows ps n) (h : pos.line < n') (h0 : n ≤ n') : Rows (ps ++ #[rawInt pos.line, rawInt pos.col, c]) n' := by
  have e : (ps ++ #[rawInt pos.line, rawInt pos.col, c]).toList = ps.toList ++ [rawInt pos.line, rawInt pos.col, c] := by simp
  refine ⟨by rw [e]; exact TriplesOk_snoc _ _ _ _ x.1, fun q hq => ?_⟩
  rw [e]
  exact among_snoc (by omega) _ x.1 (x.2 q (by omega))

section
variable {prog : Program} {w : World} {W : Wd} {A : Around} {s : Shared}
abbrev up (m : Str → Option Value) (name : Str) (v : Value) : Str → Option Value := fun y => if y = name then some v else m y
/-- a function of the block -/
structure FnAt (h₀ h : Heap) (f : Addr) (mg : Str → Option Value) (name qual : Str) (args : Arguments) (body : List Stmt) (scope : Scope) (cl : List (Str × Addr)) : Prop where
  ex : ∃ c' ctv doc, h.get? f = some (kdv_obj name qual args (.stmts body) scope cl .none doc ((mg "__name__").getD .none) c' ctv) ∧ h.CodeRec (.ref c') qual ∧ h₀.get? f = none ∧ h₀.get? c' = none
theorem FnAt.keeps {h₀ h h' : Heap} {f : Addr} {mg : Str → Option Value} {name qual : Str} {args : Arguments} {body : List Stmt} {scope : Scope} {cl : List (Str × Addr)} (x : FnAt h₀ h f mg name qual args body scope cl) {nsA P : Addr}
    (hP : ∃ ps, h.get? P = some (tabObj ps) ∧ TriplesOk ps.toList) (hN : ∃ o es ep, h.get? nsA = some o ∧ o.data = .dict es ep) (k : ∀ b o, b ≠ nsA → b ≠ P → h.get? b = some o → h'.get? b = some o) : FnAt h₀ h' f mg name qual args body scope cl := by
  obtain ⟨c', ctv, doc, g, ⟨c₂, o₂, vs₂, t₂, e₂, g₂, r₂, r₃⟩, nf, nc⟩ := x
  obtain ⟨ps, gP, tr⟩ := hP
  obtain ⟨oN, es, ep, gN, dN⟩ := hN
  refine ⟨c', ctv, doc, k _ _ (fun z => ?_) (fun z => ?_) g, ⟨c₂, o₂, vs₂, t₂, e₂, k _ _ (fun z => ?_) (fun z => ?_) g₂, r₂, r₃⟩, nf, nc⟩
  · rw [z, gN] at g; cases g; cases dN
  · rw [z, gP] at g; cases g
  · rw [z, gN] at g₂; cases g₂; rw [dN] at r₂; cases r₂
  · rw [z, gP] at g₂; cases g₂
    have e := Data.fields.inj r₂
    rw [← e] at r₃
    rw [← Array.getElem?_toList] at r₃
    cases hl : ps.toList with
    | nil => rw [hl] at r₃; cases r₃
    | cons a l =>
      cases hl2 : l with
      | nil => rw [hl, hl2] at r₃; cases r₃
      | cons b l' =>
        rw [hl, hl2] at r₃ tr
        have r₃ : some b = some (Value.str qual t₂) := r₃
        cases r₃
        unfold TriplesOk at tr
        split at tr
        · rename_i e; cases e
        · rename_i e; cases e
        · exact tr

theorem block_def {h₀ : Heap} {env : Env} {nsA c P : Addr} {m mg : Str → Option Value} {ps : Array Value} {clos : List (Str × Addr)} {name : Str} {args : Arguments} {body : List Stmt} {scope : Scope} {pos : Pos} {rest : List Stmt} {n n' : Nat} {Q : Flow → Shared → Prop}
    (hbase : ∀ b o, h₀.get? b = some o → ∃ o', s.heap.get? b = some o') (x : Bks s.heap nsA c P m ps mg) (r : Rows ps n) (hn : n ≤ pos.line) (hn' : pos.line < n') (hcode : env.code = .ref c) (hge : env.globals = mainGlobals) (hl : env.locals = nsA) (hcl : closureFor scope env = pure clos)
    (hdef : defaultsOf args env = ([], [])) (hann : annTrees args none env = []) (hs : ∀ v, storeName env name v = localSet env name v)
    (h : ∀ f ps' h' tk, (∀ b o, b ≠ nsA → b ≠ P → s.heap.get? b = some o → h'.get? b = some o) → (∀ b o, h₀.get? b = some o → ∃ o', h'.get? b = some o') → s.heap.get? f = none → FnAt h₀ h' f mg name (qualnameIn env name name) args body scope clos →
      Bks h' nsA c P (up m name (.ref f)) ps' mg → Rows ps' n' → wpAny (model prog w) A (execs rest env) Q NoE { s with heap := h', toks := tk }) :
    wpAny (model prog w) A (execs (.FunctionDef name args body [] none [] scope none name pos :: rest) env) Q NoE s := by
  refine wpAny_execs_cons (def_cls x hcode hge hl (r.2 pos hn) hcl hdef hann hs fun f c' ctv doc h' tk k fn fc gf rec b => ?_)
  have back : ∀ a, s.heap.get? a = none → h₀.get? a = none := fun a ha => by
    cases hg : h₀.get? a with
    | none => rfl
    | some o => obtain ⟨o', g'⟩ := hbase a o hg; rw [ha] at g'; cases g'
  refine h f _ h' tk k (fun a o hg => ?_) fn ⟨c', ctv, doc, gf, rec, back _ fn, back _ fc⟩ b (r.snoc hn' (by omega))
  obtain ⟨o', g'⟩ := hbase a o hg
  by_cases h1 : a = nsA
  · obtain ⟨ob, _, _, gb, _⟩ := b.bd; exact ⟨ob, h1 ▸ gb⟩
  · by_cases h2 : a = P
    · exact ⟨_, h2 ▸ b.tab⟩
    · exact ⟨o', k a o' h1 h2 g'⟩
theorem Bks.tabs {h : Heap} {nsA c P : Addr} {m mg : Str → Option Value} {ps : Array Value} (x : Bks h nsA c P m ps mg) : ∃ ps, h.get? P = some (tabObj ps) ∧ TriplesOk ps.toList := ⟨ps, x.tab, x.tri⟩
theorem Bks.dct {h : Heap} {nsA c P : Addr} {m mg : Str → Option Value} {ps : Array Value} (x : Bks h nsA c P m ps mg) : ∃ o es ep, h.get? nsA = some o ∧ o.data = .dict es ep := let ⟨o, es, ep, g, _, d, _⟩ := x.bd; ⟨o, es, ep, g, d⟩
theorem Bks.tok {h : Heap} {nsA c P : Addr} {m mg : Str → Option Value} {ps : Array Value} (x : Bks h nsA c P m ps mg) {h' : Heap} (k : ∀ b o, h.get? b = some o → h'.get? b = some o) : Bks h' nsA c P m ps mg := x.grow (fun b o _ g => k b o g) (k _ _ x.tab) x.tri

/-- the block of the class: what it leaves -/
structure Left (h h' : Heap) (nsA P sl f1 f2 f3 f4 f5 f6 : Addr) : Prop where
  keep : ∀ b o, b ≠ nsA → b ≠ P → h.get? b = some o → h'.get? b = some o
  list : ∃ t, h'.get? sl = some { cls := .type "list", data := .seq #[.str "obj" t] }
  fns : ∀ f ∈ [f1, f2, f3, f4, f5, f6], ∃ o, h'.get? f = some o ∧ o.cls = .type "function"
  fresh : ∀ a ∈ [sl, f1, f2], h.get? a = none

set_option maxHeartbeats 8000000 in
theorem block_run {h₀ : Heap} {env : Env} {nsA c P : Addr} {m mg : Str → Option Value} {md : Str} {a1 a2 a3 a4 a5 a6 : Arguments} {b1 b2 b3 b4 b5 b6 : List Stmt} {s1 s2 s3 s4 s5 s6 : Scope} {p1 p2 p3 p4 p5 p6 q1 q2 q3 q4 q5 q6 q7 q8 q9 q10 : Pos} {n1 n2 n3 : Nat}
    {l1 l2 l3 l4 l5 l6 : List (Str × Addr)} {Q : Flow → Shared → Prop} (hbase : ∀ b o, h₀.get? b = some o → ∃ o', s.heap.get? b = some o') (x : Bks s.heap nsA c P m #[] mg) (hcode : env.code = .ref c) (hge : env.globals = mainGlobals) (hl : env.locals = nsA)
    (hst : ∀ n ∈ (["__module__", "__slots__", "__init__", "__lt__", "__gt__", "__eq__", "__le__", "__ge__", "__hash__"] : List Str), ∀ v, storeName env n v = localSet env n v)
    (hcl : closureFor s1 env = pure l1 ∧ closureFor s2 env = pure l2 ∧ closureFor s3 env = pure l3 ∧ closureFor s4 env = pure l4 ∧ closureFor s5 env = pure l5 ∧ closureFor s6 env = pure l6)
    (hdf : ∀ a ∈ [a1, a2, a3, a4, a5, a6], defaultsOf a env = ([], []) ∧ annTrees a none env = [])
    (hp : p1.line < p2.line ∧ p2.line < p3.line ∧ p3.line < p4.line ∧ p4.line < p5.line ∧ p5.line < p6.line)
    (h : ∀ sl f1 f2 f3 f4 f5 f6 tm ps h' tk, Left s.heap h' nsA P sl f1 f2 f3 f4 f5 f6 → FnAt h₀ h' f1 mg "__init__" (qualnameIn env "__init__" "__init__") a1 b1 s1 l1 → FnAt h₀ h' f2 mg "__lt__" (qualnameIn env "__lt__" "__lt__") a2 b2 s2 l2 →
      Bks h' nsA c P (up (up (up (up (up (up (up (up (up m "__module__" (.str md tm)) "__slots__" (.ref sl)) "__init__" (.ref f1)) "__lt__" (.ref f2)) "__gt__" (.ref f3)) "__eq__" (.ref f4)) "__le__" (.ref f5)) "__ge__" (.ref f6)) "__hash__" .none) ps mg → Q .next { s with heap := h', toks := tk })
    (sw1 : swapsWith (.Constant (.str md) n1 q2) (some (.Name "__module__" q1)) q3.line env = pure false := by rfl) (sw2 : swapsWith (.List [.Constant (.str "obj") n2 q5] q6) (some (.Name "__slots__" q4)) q7.line env = pure false := by rfl)
    (sw3 : swapsWith (.Constant .none n3 q9) (some (.Name "__hash__" q8)) q10.line env = pure false := by rfl) :
    wpAny (model prog w) A (execs [.Assign [.Name "__module__" q1] (.Constant (.str md) n1 q2) q3, .Assign [.Name "__slots__" q4] (.List [.Constant (.str "obj") n2 q5] q6) q7,
      .FunctionDef "__init__" a1 b1 [] none [] s1 none "__init__" p1, .FunctionDef "__lt__" a2 b2 [] none [] s2 none "__lt__" p2, .FunctionDef "__gt__" a3 b3 [] none [] s3 none "__gt__" p3,
      .FunctionDef "__eq__" a4 b4 [] none [] s4 none "__eq__" p4, .FunctionDef "__le__" a5 b5 [] none [] s5 none "__le__" p5, .FunctionDef "__ge__" a6 b6 [] none [] s6 none "__ge__" p6,
      .Assign [.Name "__hash__" q8] (.Constant .none n3 q9) q10] env) Q NoE s := by
  refine wpAny_execs_cons (wpAny_Assign_Name (wpAny_Constant_str ?_) sw1)
  refine store_cls (s := { s with toks := s.toks + 1 }) hl x.bd (hst _ (by simp) _) fun h1 bd1 sb1 => ?_
  have x1 := x.set sb1 bd1
  refine wpAny_execs_cons (wpAny_Assign_Name (wpAny_List (wpAny_items_cons (wpAny_Constant_str (wpAny_items_nil ⟨by simp; decide, ?_⟩)))) sw2)
  generalize hsl : h1.objs.size = sl
  generalize hol : ({ cls := .type "list", dict := none, data := .seq _ } : Obj) = ol
  have gsl : (h1.push ol).get? sl = some ol := by rw [← hsl]; exact Heap.get?_push_size _ (by rw [← hol]; rfl)
  have x1' : Bks (h1.push ol) nsA c P (up m "__module__" (.str md s.toks)) #[] mg := x1.tok fun b o g => Heap.get?_push_of_some _ g
  refine store_cls (s := { s with heap := h1.push ol, toks := s.toks + 1 + 1 + 1 }) hl x1'.bd (hst _ (by simp) _) fun h2 bd2 sb2 => ?_
  have x2 := x1'.set sb2 bd2
  have kp1 : ∀ b o, b ≠ nsA → s.heap.get? b = some o → (h1.push ol).get? b = some o := fun b o hb g => Heap.get?_push_of_some _ ((sb1.2 b hb).trans g)
  have fsl : s.heap.get? sl = none := by
    cases hg : s.heap.get? sl with
    | none => rfl
    | some o =>
      by_cases hn : sl = nsA
      · obtain ⟨o', _, _, g', _⟩ := bd1
        have := Heap.lt_size g'
        rw [← hn, hsl] at this; exact absurd this (Nat.lt_irrefl _)
      · have := Heap.lt_size ((sb1.2 sl hn).trans hg)
        rw [hsl] at this; exact absurd this (Nat.lt_irrefl _)
  have nsl : sl ≠ nsA := fun z => by obtain ⟨o', _, _, g', _⟩ := x.bd; rw [← z, fsl] at g'; cases g'
  have nslP : sl ≠ P := fun z => by have := x.tab; rw [← z, fsl] at this; cases this
  have gsl2 : h2.get? sl = some ol := (sb2.2 sl nsl).trans gsl
  have kp2 : ∀ b o, b ≠ nsA → b ≠ P → s.heap.get? b = some o → h2.get? b = some o := fun b o hb _ g => (sb2.2 b hb).trans (kp1 b o hb g)
  obtain ⟨c1, c2, c3, c4, c5, c6⟩ := hcl
  obtain ⟨o1, o2, o3, o4, o5⟩ := hp
  have D := fun a ha => hdf a ha
  have B2 : ∀ b o, h₀.get? b = some o → ∃ o', h2.get? b = some o' := fun a o hg => by
    obtain ⟨o', g'⟩ := hbase a o hg
    by_cases h1 : a = nsA
    · obtain ⟨ob, _, _, gb, _⟩ := bd2; exact ⟨ob, h1 ▸ gb⟩
    · by_cases h2 : a = P
      · exact ⟨_, h2 ▸ x2.tab⟩
      · exact ⟨o', kp2 a o' h1 h2 g'⟩
  refine block_def (s := { s with heap := h2, toks := s.toks + 1 + 1 + 1 + 1 }) (n := p1.line) (n' := p2.line) B2 x2 (Rows.nil _) (Nat.le_refl _) o1 hcode hge hl c1 (D a1 (by simp)).1 (D a1 (by simp)).2 (hst _ (by simp)) fun f1 ps1 h3 t3 k3 B3 n3' F1 x3 r3 => ?_
  refine block_def (s := { s with heap := h3, toks := t3 }) (n := p2.line) (n' := p3.line) B3 x3 r3 (Nat.le_refl _) o2 hcode hge hl c2 (D a2 (by simp)).1 (D a2 (by simp)).2 (hst _ (by simp)) fun f2 ps2 h4 t4 k4 B4 n4 F2 x4 r4 => ?_
  refine block_def (s := { s with heap := h4, toks := t4 }) (n := p3.line) (n' := p4.line) B4 x4 r4 (Nat.le_refl _) o3 hcode hge hl c3 (D a3 (by simp)).1 (D a3 (by simp)).2 (hst _ (by simp)) fun f3 ps3 h5 t5 k5 B5 n5 F3 x5 r5 => ?_
  refine block_def (s := { s with heap := h5, toks := t5 }) (n := p4.line) (n' := p5.line) B5 x5 r5 (Nat.le_refl _) o4 hcode hge hl c4 (D a4 (by simp)).1 (D a4 (by simp)).2 (hst _ (by simp)) fun f4 ps4 h6 t6 k6 B6 n6 F4 x6 r6 => ?_
  refine block_def (s := { s with heap := h6, toks := t6 }) (n := p5.line) (n' := p6.line) B6 x6 r6 (Nat.le_refl _) o5 hcode hge hl c5 (D a5 (by simp)).1 (D a5 (by simp)).2 (hst _ (by simp)) fun f5 ps5 h7 t7 k7 B7 n7 F5 x7 r7 => ?_
  refine block_def (s := { s with heap := h7, toks := t7 }) (n := p6.line) (n' := p6.line + 1) B7 x7 r7 (Nat.le_refl _) (Nat.lt_succ_self _) hcode hge hl c6 (D a6 (by simp)).1 (D a6 (by simp)).2 (hst _ (by simp)) fun f6 ps6 h8 t8 k8 B8 n8 F6 x8 r8 => ?_
  refine wpAny_execs_cons (wpAny_Assign_Name (wpAny_Constant_none ?_) sw3)
  refine store_cls (s := { s with heap := h8, toks := t8 }) hl x8.bd (hst _ (by simp) _) fun h9 bd9 sb9 => ?_
  have x9 := x8.set sb9 bd9
  refine wpAny_execs_nil ?_
  have k3 : ∀ b o, b ≠ nsA → b ≠ P → h2.get? b = some o → h3.get? b = some o := k3
  have k4 : ∀ b o, b ≠ nsA → b ≠ P → h3.get? b = some o → h4.get? b = some o := k4
  have k5 : ∀ b o, b ≠ nsA → b ≠ P → h4.get? b = some o → h5.get? b = some o := k5
  have k6 : ∀ b o, b ≠ nsA → b ≠ P → h5.get? b = some o → h6.get? b = some o := k6
  have k7 : ∀ b o, b ≠ nsA → b ≠ P → h6.get? b = some o → h7.get? b = some o := k7
  have k8 : ∀ b o, b ≠ nsA → b ≠ P → h7.get? b = some o → h8.get? b = some o := k8
  have k9 : ∀ b o, b ≠ nsA → b ≠ P → h8.get? b = some o → h9.get? b = some o := fun b o hb _ g => (sb9.2 b hb).trans g
  have k38 : ∀ b o, b ≠ nsA → b ≠ P → h3.get? b = some o → h9.get? b = some o := fun b o u v g => k9 b o u v (k8 b o u v (k7 b o u v (k6 b o u v (k5 b o u v (k4 b o u v g)))))
  have F1' := F1.keeps x3.tabs x3.dct k38
  have F2' := F2.keeps x4.tabs x4.dct fun b o u v g => k9 b o u v (k8 b o u v (k7 b o u v (k6 b o u v (k5 b o u v g))))
  have F3' := F3.keeps x5.tabs x5.dct fun b o u v g => k9 b o u v (k8 b o u v (k7 b o u v (k6 b o u v g)))
  have F4' := F4.keeps x6.tabs x6.dct fun b o u v g => k9 b o u v (k8 b o u v (k7 b o u v g))
  have F5' := F5.keeps x7.tabs x7.dct fun b o u v g => k9 b o u v (k8 b o u v g)
  have F6' := F6.keeps x8.tabs x8.dct k9
  have isf : ∀ {f : Addr} {nm ql : Str} {a : Arguments} {b : List Stmt} {sc : Scope} {cl : List (Str × Addr)}, FnAt h₀ h9 f mg nm ql a b sc cl → ∃ o, h9.get? f = some o ∧ o.cls = .type "function" := fun x => let ⟨_, _, _, g, _⟩ := x.ex; ⟨_, g, rfl⟩
  refine h sl f1 f2 f3 f4 f5 f6 s.toks ps6 h9 _ ⟨fun b o u v g => k38 b o u v (k3 b o u v (kp2 b o u v g)), ⟨s.toks + 1 + 1, ?_⟩, ?_, ?_⟩ F1' F2' x9
  · rw [k38 sl ol nsl nslP (k3 sl ol nsl nslP gsl2), ← hol]
  · intro f hf
    simp only [List.mem_cons, List.not_mem_nil, or_false] at hf
    rcases hf with rfl | rfl | rfl | rfl | rfl | rfl
    · exact isf F1'
    · exact isf F2'
    · exact isf F3'
    · exact isf F4'
    · exact isf F5'
    · exact isf F6'
  · intro a ha
    simp only [List.mem_cons, List.not_mem_nil, or_false] at ha
    have back : ∀ (a : Addr), h2.get? a = none → s.heap.get? a = none := fun a ha => by
      cases hg : s.heap.get? a with
      | none => rfl
      | some o =>
        by_cases hn : a = nsA
        · obtain ⟨o', _, _, g', _⟩ := bd2; rw [hn, g'] at ha; cases ha
        · by_cases hP : a = P
          · have := x2.tab; rw [hP, this] at ha; cases ha
          · rw [kp2 a o hn hP hg] at ha; cases ha
    rcases ha with rfl | rfl | rfl
    · exact fsl
    · exact back _ n3'
    · refine back _ ?_
      cases hg : h2.get? a with
      | none => rfl
      | some o =>
        have n4 : h3.get? a = none := n4
        by_cases hn : a = nsA
        · obtain ⟨o', _, _, g', _⟩ := x3.bd; rw [hn, g'] at n4; cases n4
        · by_cases hP : a = P
          · have := x3.tab; rw [hP, this] at n4; cases n4
          · rw [k3 a o hn hP hg] at n4; cases n4
end
end Mine
end
section
open PySem PySem.W PySem.Calls PyProof.Rows
set_option maxRecDepth 100000
set_option maxHeartbeats 4000000
set_option linter.all false
namespace Mine
section
variable {prog : Program} {w : World} {W : Wd} {A : Around} {E : Value → Shared → Prop} {s : Shared}
theorem load_cls_name {env : Env} {nsA : Addr} {m mg : Str → Option Value} {v : Value} {Q : Value → Shared → Prop} (hk : env.scope.kind = .class) (hn : env.kindOf "__name__" = none) (hl : env.locals = nsA) (hbd : Bd s.heap nsA m) (hm : m "__name__" = none)
    (hge : env.globals = mainGlobals) (hg : s.heap.Ns mainGlobals mg) (hv : mg "__name__" = some v) (h : Q v s) : wpAny (model prog w) A (loadName env "__name__") Q E s := by
  have hb : env.blockKind = .class := by unfold Env.blockKind; rw [hk]; rfl
  unfold loadName
  rw [hk, hb, hn]
  try wp_delta
  refine wpAny_ite_false (by rfl) ?_
  try wp_delta
  refine wpAny_ite_false (by kernel_rfl) ?_
  try wp_delta
  refine wpAny_bind ?_
  unfold localGet
  rw [hl]
  obtain ⟨o, es, ep, ho, hc, _⟩ := id hbd
  refine wpAny_bind (wpAny_load ho ?_)
  refine wpAny_ite_true (by rw [hc]; rfl) ?_
  refine wpAny_nsGet hbd.ns1.ns ?_
  rw [hm]
  try wp_delta
  unfold loadGlobal
  rw [hge]
  refine wpAny_bind (ns_get hg (hv) ?_)
  exact wpAny_pure h
/-- the run of a block of a class -/
theorem run_body {env : Env} {body : List Stmt} {Q : Flow → Shared → Prop} (hb : blockStart body env = pure ()) (h : wpAny (model prog w) (A.under (.body body env)) (execs body env) Q NoE s) : wpAny (model prog w) A (run (.body body env)) Q NoE s := by
  refine wpAny_run (codeAny_of_tree ?_)
  show wpAny _ _ (do blockStart body env; return Fin.done (← (execs body env).onRaise (leaving env))) _ _ _
  refine be hb ?_
  refine wpAny_bind (wpAny_onRaise (wpAny_mono h (fun f s' hf => ?_) fun _ _ z => z.elim))
  exact wpAny_pure hf
end
end Mine
end
section
open PySem PySem.W PySem.Calls PyProof.Rows
set_option maxRecDepth 100000
set_option maxHeartbeats 4000000
set_option linter.all false
namespace Mine
section
variable {prog : Program} {w : World} {W : Wd} {off : List Addr} {tb : Tb} {k : Nat}
abbrev keyNames : List Str := ["__doc__", "obj", "__module__", "__firstlineno__", "__slots__", "__init__", "__lt__", "__gt__", "__eq__", "__le__", "__ge__", "__hash__", "__static_attributes__"]
/-- the class of keys, as it stands when it is made -/
structure KeyMade (h h' : Heap) (P C N p f1 f2 : Addr) (mg : Str → Option Value) (q1 q2 : Str) (a1 a2 : Arguments) (b1 b2 : List Stmt) (s1 s2 : Scope) (l1 l2 : List (Str × Addr)) : Prop where
  cls : ∃ bT tk tq, h'.get? C = some (clsObj C N bT tk tq)
  names : ∃ m, h'.Ns1 N m ∧ m "__init__" = some (.ref f1) ∧ m "__lt__" = some (.ref f2) ∧ m "obj" = some (.ref p) ∧ ∀ x, x ∉ keyNames → m x = none
  mem : ∃ t, h'.get? p = some (memObj C t)
  fi : FnAt h h' f1 mg "__init__" q1 a1 b1 s1 l1
  fl : FnAt h h' f2 mg "__lt__" q2 a2 b2 s2 l2
  keep : ∀ b o, b ≠ P → h.get? b = some o → h'.get? b = some o
  tab : ∃ ps, h'.get? P = some (tabObj ps) ∧ TriplesOk ps.toList
  new : h.get? C = none ∧ h.get? N = none ∧ h.get? p = none
theorem opaque_none {prog : Program} {w : World} {h : Heap} {a : Addr} {mS : Str → Option Value} (hc : h.Ns cStatics mS) (hm : mS "thirdparty.any" = none) : Looks (model prog w) h (opaqueClassAbove (.ref a)) none := by
  intro A Q E s k hq
  unfold opaqueClassAbove
  try wp_delta
  refine wpAny_bind ?_
  unfold anyOpaqueLoaded
  refine wpAny_bind (ns_get (hc.keeps k) (hm) ?_)
  refine wpAny_pure ?_
  refine wpAny_ite_true (by rfl) ?_
  exact wpAny_pure hq
theorem ite_some {x n : Str} {v u : Value} {z : Option Value} (h : (if x = n then some v else z) = some u) : u = v ∨ z = some u := by
  split at h
  · exact .inl (Option.some.inj h).symm
  · exact .inr h
theorem pl_val {s : Shared} {v : Value} {T : String} (h0 : ∀ id, v ≠ .builtin id) (h1 : s.TypeIs v T) (h2 : typeLookup (.type T) "__set_name__" = pure none) : Pl s v := ⟨h0, T, h1, h2⟩
set_option maxHeartbeats 16000000 in
theorem build_class {A : Around} {X : List Addr} {s : Shared} {env : Env} {c P : Addr} {pos : Pos} {body : List Stmt} {scope : Scope} {statics : List Str} {qual : Str} {fl : Nat} {Q : Value → Shared → Prop} {cl : List (Str × Addr)}
    (hO : Ok (K1 W) off tb X s) (G : Globs (K1 W) off (mg1 W) (mb1 W)) (hg : env.globals = mainGlobals) (hbl : env.builtins = builtinsNs) (hcode : env.code = .ref c) (C : CodeHd s.heap c P) (hP : s.heap.get? P = some (tabObj #[]))
    (hsc1 : scope.names.lookup ("__class__" : Str) = none) (hsc2 : scope.names.lookup ("__classdict__" : Str) = none) (hcl : closureFor scope env = pure cl) (hd : A.depth < recursionLimit) (hsys : s.heap.get? sysModules ≠ none) (hB : s.heap.BuiltinsAt (mg1 W) P) (hPt : P ≠ mainGlobals) (hPc : P ≠ cStatics) (hck : scope.kind = .class) (hkn : scope.names.lookup ("__name__" : Str) = none)
    (hst : ∀ (cenv : Env), cenv.scope = scope → ∀ n ∈ (["__module__", "__qualname__", "__firstlineno__", "__static_attributes__"] : List Str), ∀ v, storeName cenv n v = localSet cenv n v)
    {a1 a2 : Arguments} {b1 b2 : List Stmt} {s1 s2 : Scope} {l1 l2 : List (Str × Addr)} {q1 q2 md : Str}
    (hbs : ∀ cenv : Env, cenv.scope = scope → blockStart body cenv = pure ())
    (hbody : ∀ (cenv : Env) (nsA c' P' : Addr) (A' : Around) (s' : Shared) (m : Str → Option Value) (Q' : Flow → Shared → Prop), cenv.scope = scope → cenv.locals = nsA → cenv.globals = mainGlobals → cenv.cells = cl → cenv.qual = qual ++ Str.ofString "." → cenv.code = .ref c' → (∀ b o, s.heap.get? b = some o → ∃ o', s'.heap.get? b = some o') → Bks s'.heap nsA c' P' m #[] (mg1 W) →
      (∀ sl f1 f2 f3 f4 f5 f6 tm ps h' tk, Left s'.heap h' nsA P' sl f1 f2 f3 f4 f5 f6 → FnAt s.heap h' f1 (mg1 W) "__init__" q1 a1 b1 s1 l1 → FnAt s.heap h' f2 (mg1 W) "__lt__" q2 a2 b2 s2 l2 →
        Bks h' nsA c' P' (up (up (up (up (up (up (up (up (up m "__module__" (.str md tm)) "__slots__" (.ref sl)) "__init__" (.ref f1)) "__lt__" (.ref f2)) "__gt__" (.ref f3)) "__eq__" (.ref f4)) "__le__" (.ref f5)) "__ge__" (.ref f6)) "__hash__" .none) ps (mg1 W) → Q' .next { s' with heap := h', toks := tk }) →
      wpAny (model prog w) A' (execs body cenv) Q' NoE s')
    (hqual : qual = "cmp_to_key.<locals>.K") {mS : Str → Option Value} (hcs : s.heap.Ns cStatics mS) (hcm : mS "thirdparty.any" = none) (hnt : ∃ tt x, mg1 W "__name__" = some (.str x tt))
    (hQ : ∀ C N p f1 f2 h' t', KeyMade s.heap h' P C N p f1 f2 (mg1 W) q1 q2 a1 a2 b1 b2 s1 s2 l1 l2 → Q (.ref C) { s with heap := h', toks := t' }) :
    wpAny (model prog w) A (buildClass "K" qual [.type "object"] [] body scope statics fl env pos none) Q NoE s := by
  obtain ⟨gg, _, nol⟩ := hO.globs G
  obtain ⟨bm, ob, hbm, hne0, hneG, hneP, hbo, hcls, hdict, hdata⟩ := id hB
  obtain ⟨mainO, _, _, mainG, _⟩ := id gg
  obtain ⟨tt, nx, hnv⟩ := hnt
  unfold buildClass
  refine wpAny_bind ?_
  unfold newTuple
  refine wpAny_newObj_type ?_ (by simp [sizeOk]; decide)
  generalize hbT : s.heap.objs.size = bT
  generalize hobT : ({ cls := .type "tuple", dict := none, data := .seq _ } : Obj) = obT
  try wp_delta
  refine be (a := ([.type "object"], false)) (by kernel_rfl) ?_
  try wp_delta
  refine be (a := .type "type") (by kernel_rfl) ?_
  try wp_delta
  refine be (a := true) (by kernel_rfl) ?_
  try wp_delta
  refine wpAny_ite_true (by rfl) ?_
  try wp_delta
  refine be (a := .type "type") (by kernel_rfl) ?_
  try wp_delta
  refine wpAny_bind (wpAny_mkText ?_)
  try wp_delta
  refine wpAny_ite_false (by rfl) ?_
  refine wpAny_bind (wpAny_pure ?_)
  try wp_delta
  refine wpAny_holding ?_
  refine wpAny_bind (attr_prep ?_)
  try wp_delta
  have gB : ((s.heap.push obT).push { cls := .type "builtin_function_or_method", data := .fields #[.builtin "type.__prepare__", .type "type"] }).get? (s.heap.push obT).objs.size = some { cls := .type "builtin_function_or_method", data := .fields #[.builtin "type.__prepare__", .type "type"] } := Heap.get?_push_size _ rfl
  refine wpAny_bind (call_prep gB ?_)
  generalize hh2 : (s.heap.push obT).push { cls := .type "builtin_function_or_method", data := .fields #[.builtin "type.__prepare__", .type "type"] } = h2
  generalize hns : h2.objs.size = nsA
  generalize hh3 : h2.push { cls := .type "dict", data := .dict #[] } = h3
  have k3 : ∀ b o, s.heap.get? b = some o → h3.get? b = some o := fun b o g => by
    rw [← hh3, ← hh2]; exact Heap.get?_push_of_some _ (Heap.get?_push_of_some _ (Heap.get?_push_of_some _ g))
  have gN3 : h3.get? nsA = some { cls := .type "dict", data := .dict #[] } := by rw [← hh3, ← hns]; exact Heap.get?_push_size _ rfl
  have bd3 : Bd h3 nsA (fun _ => none) := ⟨_, #[], 0, gN3, rfl, rfl, fun e he => by simp at he, .nil, fun _ => rfl⟩
  have gT3 : h3.get? bT = some obT := by
    rw [← hh3, ← hh2, ← hbT]; exact Heap.get?_push_of_some _ (Heap.get?_push_of_some _ (Heap.get?_push_size _ (by rw [← hobT]; rfl)))
  have fN : s.heap.get? nsA = none := by
    cases hg' : s.heap.get? nsA with
    | none => rfl
    | some o =>
      have : h2.get? nsA = some o := by rw [← hh2]; exact Heap.get?_push_of_some _ (Heap.get?_push_of_some _ hg')
      have := Heap.lt_size this
      rw [hns] at this; exact absurd this (Nat.lt_irrefl _)
  try wp_delta
  have hsy : (nsA == sysModules) = false := by
    have : nsA ≠ sysModules := fun z => hsys (z ▸ fN)
    simpa using this
  refine wpAny_bind ?_
  unfold notTheModulesDict
  refine wpAny_ite_false (by simp [hsy]) ?_
  refine wpAny_pure ?_
  refine wpAny_bind (wpAny_specialOf (Bd.typeIs (s := { s with heap := h3, toks := s.toks + 1 + 1 }) bd3) (r := some (.builtin "dict.__getitem__")) (by kernel_rfl) ?_)
  try wp_delta
  refine wpAny_ite_false (by rfl) ?_
  try wp_delta
  refine wpAny_holding ?_
  try wp_delta
  refine wpAny_ite_false (by rw [hsc1]; rfl) ?_
  refine wpAny_bind (wpAny_pure ?_)
  try wp_delta
  refine wpAny_ite_false (by rw [hsc2]; rfl) ?_
  refine wpAny_bind (wpAny_pure ?_)
  try wp_delta
  have C3 : CodeHd h3 c P := C.keeps k3
  have gP3 := k3 _ _ hP
  refine wpAny_bind (class_code (s := { s with heap := h3, toks := s.toks + 1 + 1 }) hcode C3 gP3 fun c' P' h4 tk4 x4 fc' fP' C4 gP4' gP4 rec4 => ?_)
  have fc' : h3.get? c' = none := fc'
  have fP' : h3.get? P' = none := fP'
  have x4 : Heap.ExtBut P h3 h4 := x4
  have gg4 : h4.Ns mainGlobals (mg1 W) := (gg.keeps k3).extBut x4 (Ne.symm hPt)
  refine wpAny_bind (wpAny_builtinsFor (s := { s with heap := h4, toks := tk4 }) (by rw [hg]; exact gg4) hbm hne0 (x4 _ _ hneP (k3 _ _ hbo)) hcls hdict hdata ?_)
  refine wpAny_bind ?_
  unfold newBodyFrame
  refine wpAny_bind (wpAny_nsGet (s := { s with heap := h4, toks := tk4 }) (by rw [hg]; exact gg4) ?_)
  refine wpAny_alloc ?_
  refine be hcl ?_
  generalize hof : ({ cls := .type "frame", slots := _ } : Obj) = ofr
  generalize hh5 : h4.push ofr = h5
  have k5 : ∀ b o, h4.get? b = some o → h5.get? b = some o := fun b o g => by rw [← hh5]; exact Heap.get?_push_of_some _ g
  try wp_delta
  refine wpAny_holding ?_
  refine wpAny_bind (wpAny_enterFrame ?_ hd ?_)
  · obtain ⟨mc, hns', hnone⟩ := nol
    exact ⟨mc, (((hns'.keeps k3).extBut x4 (Ne.symm hPc)).keeps k5), hnone⟩
  generalize hce : ({ scope := scope, locals := nsA, globals := env.globals, cells := _, qual := qual ++ Str.ofString ".", code := Value.ref c', frame := _, builtins := builtinsNs } : Env) = cenv
  have ce1 : cenv.scope = scope := by rw [← hce]
  have ce2 : cenv.locals = nsA := by rw [← hce]
  have ce3 : cenv.globals = mainGlobals := by rw [← hce]; exact hg
  have ce4 : cenv.cells = cl := by rw [← hce]; simp
  have ce5 : cenv.qual = qual ++ Str.ofString "." := by rw [← hce]
  have ce6 : cenv.code = .ref c' := by rw [← hce]
  have ce7 : cenv.builtins = builtinsNs := by rw [← hce]
  clear hce
  have nN : ∀ b o, s.heap.get? b = some o → nsA ≠ b := fun b o g z => by rw [← z, fN] at g; cases g
  have fcN : c' ≠ nsA := fun z => by rw [z, gN3] at fc'; cases fc'
  have fPN : P' ≠ nsA := fun z => by rw [z, gN3] at fP'; cases fP'
  have hPN : P ≠ nsA := Ne.symm (nN _ _ hP)
  have bd5 : Bd h5 nsA (fun _ => none) := (bd3.at fun o g => x4 _ _ (Ne.symm hPN) g).at fun o g => k5 _ _ g
  have hneP' : bm ≠ P' := fun z => by rw [← z, k3 _ _ hbo] at fP'; cases fP'
  have hgP' : mainGlobals ≠ P' := fun z => by rw [← z, k3 _ _ mainG] at fP'; cases fP'
  have x5 : Bks h5 nsA c' P' (fun _ => none) #[] (mg1 W) := by
    refine ⟨bd5, C4.keeps k5, k5 _ _ gP4', trivial, gg4.keeps k5, ⟨bm, ob, hbm, hne0, hneG, hneP', k5 _ _ (x4 _ _ hneP (k3 _ _ hbo)), hcls, hdict, hdata⟩, hgP', Ne.symm fPN, Ne.symm fcN, nN _ _ mainG, fun b hb' => ?_⟩
    rw [hbm] at hb'; cases hb'; exact nN _ _ hbo
  refine wpAny_bind (wpAny_onRaise ?_)
  refine wpAny_bind (load_cls_name (by rw [ce1]; exact hck) (by show cenv.scope.names.lookup _ = none; rw [ce1]; exact hkn) ce2 bd5 rfl ce3 x5.glob hnv ?_)
  refine wpAny_bind (store_cls ce2 bd5 (hst cenv ce1 _ (by simp) _) fun h6 bd6 sb6 => ?_)
  have x6 := x5.set sb6 bd6
  refine wpAny_bind (wpAny_mkText ?_)
  refine wpAny_bind (store_cls ce2 bd6 (hst cenv ce1 _ (by simp) _) fun h7 bd7 sb7 => ?_)
  have x7 := x6.set sb7 bd7
  refine wpAny_bind (wpAny_mkInt ?_)
  refine wpAny_bind (store_cls ce2 bd7 (hst cenv ce1 _ (by simp) _) fun h8 bd8 sb8 => ?_)
  have x8 := x7.set sb8 bd8
  refine wpAny_pure ?_
  try wp_delta
  have hbase8 : ∀ b o, s.heap.get? b = some o → ∃ o', h8.get? b = some o' := fun b o g => by
    have u : b ≠ nsA := Ne.symm (nN b o g)
    by_cases z : b = P
    · obtain ⟨psP, gP, _⟩ := gP4
      exact ⟨_, (sb8.2 b u).trans ((sb7.2 b u).trans ((sb6.2 b u).trans (k5 b _ (z ▸ gP))))⟩
    · exact ⟨o, (sb8.2 b u).trans ((sb7.2 b u).trans ((sb6.2 b u).trans (k5 b _ (x4 b o z (k3 b o g)))))⟩
  refine wpAny_bind (run_body (hbs _ ce1) (hbody cenv nsA c' P' _ _ _ _ ce1 ce2 ce3 ce4 ce5 ce6 hbase8 x8 fun sl f1 f2 f3 f4 f5 f6 tm ps h9 t9 L9 F1 F2 x9 => ?_))
  refine wpAny_bind (wpAny_onRaise ?_)
  refine wpAny_bind (wpAny_mkStrs fun vs => ?_)
  refine wpAny_bind (wpAny_newTextTuple ?_)
  generalize hst' : h9.objs.size = sT
  generalize hoT : ({ cls := .type "tuple", dict := none, data := .seq vs.toArray } : Obj) = oT
  have x10 : Bks (h9.push oT) nsA c' P' _ ps (mg1 W) := x9.tok fun b o g => Heap.get?_push_of_some _ g
  refine wpAny_bind (store_cls ce2 x10.bd (hst cenv ce1 _ (by simp) _) fun h11 bd11 sb11 => ?_)
  try wp_delta
  refine wpAny_pure ?_
  try wp_delta
  have chain : ∀ b o, b ≠ nsA → b ≠ P' → h5.get? b = some o → h11.get? b = some o := fun b o u v g =>
    (sb11.2 b u).trans (Heap.get?_push_of_some _ (L9.keep b o u v ((sb8.2 b u).trans ((sb7.2 b u).trans ((sb6.2 b u).trans g)))))
  have chain3 : ∀ b o, b ≠ nsA → b ≠ P' → b ≠ P → h3.get? b = some o → h11.get? b = some o := fun b o u v z g => chain b o u v (k5 b o (x4 b o z g))
  have nP' : ∀ b o, s.heap.get? b = some o → b ≠ P' := fun b o g z => by rw [← z, k3 _ _ g] at fP'; cases fP'
  have chainS : ∀ b o, b ≠ P → s.heap.get? b = some o → h11.get? b = some o := fun b o z g => chain3 b o (Ne.symm (nN b o g)) (nP' b o g) z (k3 b o g)
  have gT11 : h11.get? bT = some obT := chain3 bT obT (fun z => by rw [z, gN3] at gT3; rw [← hobT] at gT3; simp at gT3) (fun z => by rw [z] at gT3; rw [fP'] at gT3; cases gT3) (fun z => by
    have := Heap.lt_size hP; rw [← z, hbT] at this; exact Nat.lt_irrefl _ this) gT3
  refine wpAny_ite_false (by rfl) ?_
  try wp_delta
  obtain ⟨tsl, gsl⟩ := L9.list
  have nsl : sl ≠ nsA := fun z => by obtain ⟨o', _, _, g', c', _⟩ := x9.bd; rw [z, g'] at gsl; cases gsl; simp at c'
  have gsl11 := (sb11.2 sl nsl).trans (Heap.get?_push_of_some _ gsl)
  have gsT : (h9.push oT).get? sT = some oT := by rw [← hst']; exact Heap.get?_push_size _ (by rw [← hoT]; rfl)
  have nsT : sT ≠ nsA := fun z => by
    obtain ⟨o', _, _, g', _⟩ := x9.bd
    have := Heap.lt_size g'
    rw [← z, hst'] at this; exact Nat.lt_irrefl _ this
  have gsT11 := (sb11.2 sT nsT).trans gsT
  have fnT : ∀ f ∈ [f1, f2, f3, f4, f5, f6], ∃ o, h11.get? f = some o ∧ o.cls = .type "function" := fun f hf => by
    obtain ⟨o, g, c⟩ := L9.fns f hf
    refine ⟨o, (sb11.2 f fun z => ?_).trans (Heap.get?_push_of_some _ g), c⟩
    obtain ⟨o', _, _, g', c', _⟩ := x9.bd
    rw [z, g'] at g; cases g; rw [c] at c'; simp at c'
  subst hqual
  have x11 := x10.set sb11 bd11
  refine wpAny_bind (call_type3 (s := { s with heap := h11, toks := _ }) (tq := _) (gT11.trans (by rw [← hobT])) bd11.ns1 (Bd.typeIs (s := { s with heap := h11, toks := _ }) bd11) hsy ⟨⟨_, rfl⟩, rfl, rfl, ⟨_, rfl⟩, ⟨_, rfl⟩, ?_⟩ gsl11 rfl rfl (by within_ways) (by decide) ?_ ?_ fun a ns p h12 t12 M => ?_)
  · exact List.forall_mem_cons.mpr ⟨rfl, List.forall_mem_cons.mpr ⟨rfl, List.forall_mem_cons.mpr ⟨rfl, List.forall_mem_cons.mpr ⟨rfl, List.forall_mem_cons.mpr ⟨rfl, List.forall_mem_cons.mpr ⟨rfl, List.forall_mem_cons.mpr ⟨rfl, List.forall_mem_cons.mpr ⟨rfl, fun _ h => nomatch h⟩⟩⟩⟩⟩⟩⟩⟩
  · intro x v hv
    have pf : ∀ (tk : Nat) (f : Addr), f ∈ [f1, f2, f3, f4, f5, f6] → Pl { s with heap := h11, toks := tk } (.ref f) := fun tk f hf => let ⟨o, g, c⟩ := fnT f hf; pl_val (fun _ z => by cases z) (T := "function") ⟨o, g, c⟩ (by kernel_rfl)
    have ps' : ∀ (tk : Nat) z tz, Pl { s with heap := h11, toks := tk } (.str z tz) := fun tk z tz => pl_val (fun _ z => by cases z) (T := "str") (typeIs_str _ _ _) (by kernel_rfl)
    rcases ite_some hv with rfl | hv
    · exact pl_val (fun _ z => by cases z) (T := "tuple") ⟨_, gsT11, by rw [← hoT]⟩ (by kernel_rfl)
    rcases ite_some hv with rfl | hv
    · exact pl_val (fun _ z => by cases z) (T := "NoneType") (by kernel_rfl : typeOf .none = pure (.type "NoneType")) (by kernel_rfl)
    rcases ite_some hv with rfl | hv
    · exact pf _ _ (by simp)
    rcases ite_some hv with rfl | hv
    · exact pf _ _ (by simp)
    rcases ite_some hv with rfl | hv
    · exact pf _ _ (by simp)
    rcases ite_some hv with rfl | hv
    · exact pf _ _ (by simp)
    rcases ite_some hv with rfl | hv
    · exact pf _ _ (by simp)
    rcases ite_some hv with rfl | hv
    · exact pf _ _ (by simp)
    rcases ite_some hv with rfl | hv
    · exact pl_val (fun _ z => by cases z) (T := "list") ⟨_, gsl11, rfl⟩ (by kernel_rfl)
    rcases ite_some hv with rfl | hv
    · exact ps' _ _ _
    rcases ite_some hv with rfl | hv
    · exact pl_val (fun _ z => by cases z) (T := "int") (typeIs_int _ _ _) (by kernel_rfl)
    rcases ite_some hv with rfl | hv
    · exact ps' _ _ _
    rcases ite_some hv with rfl | hv
    · exact ps' _ _ _
    · cases hv
  · intro h' a k
    obtain ⟨oS, esS, epS, gS, rS⟩ := id hcs
    exact opaque_none (mS := mS) ⟨oS, esS, epS, k _ _ (chainS _ _ (Ne.symm hPc) gS), rS⟩ hcm
  · try wp_delta
    obtain ⟨psP, gP4, tP4⟩ := gP4
    have alive : ∀ b o, s.heap.get? b = some o → ∃ o', h11.get? b = some o' := fun b o g => by
      by_cases z : b = P
      · exact ⟨_, z ▸ chain P _ hPN (nP' _ _ hP) (k5 _ _ gP4)⟩
      · exact ⟨o, chainS b o z g⟩
    have back : ∀ b, h11.get? b = none → s.heap.get? b = none := fun b hb => by
      cases hg : s.heap.get? b with
      | none => rfl
      | some o => obtain ⟨o', g'⟩ := alive b o hg; rw [hb] at g'; cases g'
    refine wpAny_pure (hQ a ns p f1 f2 h12 t12 ⟨⟨bT, M.cls⟩, ⟨_, M.names, rfl, rfl, rfl, fun x hx => ?_⟩, M.mem, F1.keeps x9.tabs x9.dct fun b o u _ g => M.keep b o ((sb11.2 b u).trans (Heap.get?_push_of_some _ g)),
      F2.keeps x9.tabs x9.dct fun b o u _ g => M.keep b o ((sb11.2 b u).trans (Heap.get?_push_of_some _ g)), fun b o z g => M.keep b o (chainS b o z g), ⟨psP, M.keep _ _ (chain P _ hPN (nP' _ _ hP) (k5 _ _ gP4)), tP4⟩, ⟨back _ M.new.1, back _ M.new.2.1, back _ M.new.2.2⟩⟩)
    simp only [keyNames, List.mem_cons, List.not_mem_nil, or_false, not_or] at hx
    obtain ⟨e1, e2, e3, e4, e5, e6, e7, e8, e9, e10, e11, e12, e13⟩ := hx
    dsimp only [up]
    rw [if_neg e1, if_neg e2]
    by_cases e14 : x = Str.ofString "__qualname__"
    · rw [if_pos e14]
    · rw [if_neg e14, if_neg e13, if_neg e12, if_neg e11, if_neg e10, if_neg e9, if_neg e8, if_neg e7, if_neg e6, if_neg e5, if_neg e3, if_neg e4, if_neg e14, if_neg e3]
end
end Mine
end
section
open PySem PySem.W PySem.Calls PyProof.Rows
set_option maxRecDepth 100000
set_option maxHeartbeats 16000000
set_option linter.all false
namespace Mine
section
variable {prog : Program} {w : World} {W : Wd} {off : List Addr} {tb : Tb} {k : Nat}
/-- class K(object): .. in the block of a def -/
theorem class_stmt {A : Around} {X : List Addr} {s : Shared} {env : Env} {ρ : Rho} {bp pos : Pos} {body : List Stmt} {scope : Scope} {x1 : Option Scope} {statics : List Str} {Q : Flow → Shared → Prop}
    (hO : Ok (K1 W) off tb X s) (hE : EnvOk tb X env ρ s) (G : Globs (K1 W) off (mg1 W) (mb1 W)) (hkx : env.kindOf "object" = some .globalImplicit)
    (h : ∀ (Q' : Value → Shared → Prop), (∀ C s', wpAny (model prog w) A (storeName env "K" (.ref C)) (fun _ s'' => Q .next s'') NoE s' → Q' (.ref C) s') → wpAny (model prog w) A (buildClass "K" (qualnameIn env "K" "K") [.type "object"] [] body scope statics (firstLineOf [] pos) env pos none) Q' NoE s) :
    wpAny (model prog w) A (exec (.ClassDef "K" [.Name "object" bp] [] body [] [] scope x1 "K" statics pos) env) Q NoE s := by
  rw [arm_exec_ClassDef]
  refine be (a := []) (by rfl) ?_
  refine wpAny_bind (wpAny_standAt ?_)
  refine wpAny_bind ?_
  unfold buildClassGuard
  refine wpAny_bind (ns_get (by rw [hE.builtins]; exact (hO.globs G).2.1) (show mb1 W "__build_class__" = some (.builtin "__build_class__") from W.bBuild) ?_)
  refine wpAny_pure ?_
  refine wpAny_bind (wpAny_holding ?_)
  refine wpAny_bind ?_
  unfold evalArgs
  show wpAny _ _ (spliced [(false, eval (.Name "object" bp) env)] >>= _) _ _ _
  refine wpAny_bind (spliced_cons (load_builtin (v := .type "object") G hO hE rfl W.bObject hkx (by decide) (spliced_nil ?_)))
  refine wpAny_bind (wpAny_pure ?_)
  try wp_delta
  refine wpAny_holding ?_
  try wp_delta
  refine wpAny_ite_true (by rfl) ?_
  refine be (a := []) (by rfl) ?_
  refine wpAny_bind (wpAny_pure ?_)
  refine wpAny_pure ?_
  refine wpAny_bind (wpAny_standAt (wpAny_holding ?_))
  refine h _ fun C s' hs => ?_
  refine wpAny_bind (wpAny_pure ?_)
  refine wpAny_bind (wpAny_standAt ?_)
  exact wpAny_bind (wpAny_bindName (wpAny_mono hs (fun _ _ q => wpAny_pure q) fun _ _ z => z))
end
end Mine
end
section
open PySem PySem.W PySem.Calls PyProof.Rows
set_option maxRecDepth 100000
set_option maxHeartbeats 16000000
set_option linter.all false
namespace Mine
def bodyOf : Option Obj → List Stmt
  | some ⟨_, _, .func fd, _⟩ => (match fd.body with | .stmts b => b | .expr _ => [])
  | _ => []
def blockOf : List Stmt → List Stmt
  | .ClassDef _ _ _ b _ _ _ _ _ _ _ :: _ => b
  | _ => []
def defArgs : Option Stmt → Arguments
  | some (.FunctionDef _ a _ _ _ _ _ _ _ _) => a
  | _ => ⟨[], [], none, [], [], none, []⟩
def defBody : Option Stmt → List Stmt
  | some (.FunctionDef _ _ b _ _ _ _ _ _ _) => b
  | _ => []
def defScope : Option Stmt → Scope
  | some (.FunctionDef _ _ _ _ _ _ s _ _ _) => s
  | _ => ⟨.function, [], false, false, []⟩
noncomputable abbrev kInit (W : Wd) : Option Stmt := (blockOf (bodyOf ((K1 W).lookup 28)))[2]?
noncomputable abbrev kLt (W : Wd) : Option Stmt := (blockOf (bodyOf ((K1 W).lookup 28)))[3]?
section
variable {prog : Program} {w : World} {W : Wd} {off : List Addr} {tb : Tb} {k : Nat}
example : mg1 W "__builtins__" = some (.ref 4) := rfl
theorem blt1 {g : Heap} (t : TopOk (K1 W) off g) (h : (4 : Nat) ∉ off) : g.BuiltinsAt (mg1 W) 23 := ⟨4, _, rfl, by decide, by decide, by decide, t 4 W.o4 rfl h, W.d4.1, W.d4.2.1, W.d4.2.2⟩
theorem code27 {g : Heap} (t : TopOk (K1 W) off g) (h : (27 : Nat) ∉ off) : CodeHd g 27 23 := ⟨_, _, _, _, _, _, _, _, _, t 27 _ rfl h, rfl, rfl, rfl, rfl, rfl, rfl, rfl, rfl, by decide⟩
theorem FnAt.after {h₀ h₁ h h' : Heap} {f : Addr} {mg : Str → Option Value} {name qual : Str} {args : Arguments} {body : List Stmt} {scope : Scope} {cl : List (Str × Addr)} (x : FnAt h₁ h f mg name qual args body scope cl) {L : Addr} (hL : ∃ o, h₁.get? L = some o)
    (sb : Sub h₀ h₁) (kp : ∀ b o, b ≠ L → h.get? b = some o → h'.get? b = some o) : FnAt h₀ h' f mg name qual args body scope cl := by
  obtain ⟨c', ctv, doc, g, ⟨c₂, o₂, vs₂, t₂, e₂, g₂, r₂, r₃⟩, nf, nc⟩ := x
  obtain ⟨oL, gL⟩ := hL
  have back : ∀ a, h₁.get? a = none → h₀.get? a = none := fun a ha => by
    cases hg : h₀.get? a with
    | none => rfl
    | some o => rw [sb a o hg] at ha; cases ha
  cases e₂
  refine ⟨c', ctv, doc, kp _ _ (fun z => ?_) g, ⟨c', o₂, vs₂, t₂, rfl, kp _ _ (fun z => ?_) g₂, r₂, r₃⟩, back _ nf, back _ nc⟩
  · rw [z, gL] at nf; cases nf
  · rw [z, gL] at nc; cases nc
theorem KeyMade.after {h₀ h₁ h h' : Heap} {P C N p f1 f2 : Addr} {mg : Str → Option Value} {q1 q2 : Str} {a1 a2 : Arguments} {b1 b2 : List Stmt} {s1 s2 : Scope} {l1 l2 : List (Str × Addr)} (x : KeyMade h₁ h P C N p f1 f2 mg q1 q2 a1 a2 b1 b2 s1 s2 l1 l2) {L : Addr} (hL : ∃ o, h₁.get? L = some o)
    (sb : Sub h₀ h₁) (nL : h₀.get? L = none) (nP : P ≠ L) (kp : ∀ b o, b ≠ L → h.get? b = some o → h'.get? b = some o) : KeyMade h₀ h' P C N p f1 f2 mg q1 q2 a1 a2 b1 b2 s1 s2 l1 l2 := by
  obtain ⟨oL, gL⟩ := id hL
  have back : ∀ a, h₁.get? a = none → h₀.get? a = none := fun a ha => by
    cases hg : h₀.get? a with
    | none => rfl
    | some o => rw [sb a o hg] at ha; cases ha
  have ne : ∀ a, h₁.get? a = none → a ≠ L := fun a ha z => by rw [z, gL] at ha; cases ha
  obtain ⟨n1, n2, n3⟩ := x.new
  obtain ⟨bT, tk, tq, gc⟩ := x.cls
  obtain ⟨m, ⟨o, es, ep, gn, rest⟩, hm⟩ := x.names
  obtain ⟨t, gm⟩ := x.mem
  obtain ⟨ps, gt, tt⟩ := x.tab
  exact ⟨⟨bT, tk, tq, kp _ _ (ne _ n1) gc⟩, ⟨m, ⟨o, es, ep, kp _ _ (ne _ n2) gn, rest⟩, hm⟩, ⟨t, kp _ _ (ne _ n3) gm⟩, x.fi.after hL sb kp, x.fl.after hL sb kp,
    fun b o z g => kp b o (fun y => by rw [y, nL] at g; cases g) (x.keep b o z (sb b o g)), ⟨ps, kp _ _ nP gt, tt⟩, ⟨back _ n1, back _ n2, back _ n3⟩⟩
theorem noCode_tab0 : NoCode (tabObj #[]) := fun vs q t z => (by cases z; intro y; cases y)
/-- what cmp_to_key(v) leaves: the class, its two functions, the cell of the comparer -/
structure CmpMade (W : Wd) (tb : Tb) (s s' : Shared) (v : Value) (cc C N p f1 f2 : Addr) : Prop where
  ext : ExtO tb [23] s s'
  key : KeyMade s.heap s'.heap 23 C N p f1 f2 (mg1 W) "cmp_to_key.<locals>.K.__init__" "cmp_to_key.<locals>.K.__lt__" (defArgs (kInit W)) (defArgs (kLt W)) (defBody (kInit W)) (defBody (kLt W)) (defScope (kInit W)) (defScope (kLt W)) [] [("mycmp", cc)]
  cell : s'.heap.IsCell cc (some v)
  newc : s.heap.get? cc = none
theorem call_cmp {A : Around} {X : List Addr} {s : Shared} {v : Value} {Q : Value → Shared → Prop} (hR : Room A (k + 1)) (hO : Ok (K1 W) off tb X s) (G : Globs (K1 W) off (mg1 W) (mb1 W)) (hoff : ∀ a ∈ [1, 2, 4, 27, 28], a ∉ off)
    (h23 : s.heap.get? 23 = some (tabObj #[])) (nt23 : 23 ∉ tb.map (·.1))
    (hQ : ∀ s' cc C N p f1 f2, CmpMade W tb s s' v cc C N p f1 f2 → Q (.ref C) s') :
    wpAny (model prog w) A (call (.ref 28) [v]) Q NoE s := by
  refine wpAny_call ?_
  refine codeAny_call_binds (binds := [("mycmp", v)]) hR.lim (hO.get (a := 28) rfl (hoff 28 (by decide))) rfl (hO.globs G).2.2 ?_ rfl ?_ rfl ?_ (fun s₁ I₁ => ?_)
  · exact Heap.CodeRec.keeps (⟨27, _, _, _, rfl, hO.top 27 _ rfl (hoff 27 (by decide)), rfl, rfl⟩ : (vis tb X s.heap).CodeRec _ _) (vis_below _ _ _)
  · intro A' Q E' hq
    exact wpAny_pure hq
  · exact List.forall_mem_cons.mpr ⟨.inr ⟨rfl, rfl⟩, fun _ h => nomatch h⟩
  · have T := entered (ρ := []) rfl I₁ hO rfl rfl rfl (show (["mycmp"] : List Str).Nodup by decide)
      (List.forall_mem_cons.mpr ⟨.inr ⟨rfl, rfl⟩, fun _ h => nomatch h⟩)
      (fun _ h => nomatch h)
    refine wpAny_mono (E := NoE) ?_ (fun _ _ z => z) fun _ _ z => z.elim
    refine wpAny_execs_cons (class_stmt T.ok T.en G rfl fun Q' hQ' => ?_)
    have tp := T.ok.top.sub (vis_below _ _ _)
    refine build_class (md := "cpy313.functools") (q1 := "cmp_to_key.<locals>.K.__init__") (q2 := "cmp_to_key.<locals>.K.__lt__") (a1 := defArgs (kInit W)) (a2 := defArgs (kLt W)) (b1 := defBody (kInit W)) (b2 := defBody (kLt W)) (s1 := defScope (kInit W)) (s2 := defScope (kLt W))
      (l1 := []) (l2 := [("mycmp", s.heap.objs.size + 1)]) (mS := nsOf (K1 W) 2)
      T.ok G rfl rfl rfl (code27 tp (hoff 27 (by decide))) (T.ext.keep 23 _ nt23 h23) rfl rfl rfl hR.deeper.lim ?_ (blt1 tp (hoff 4 (by decide))) (by decide) (by decide) rfl rfl ?_ ?_ ?_ rfl (ns_of tp rfl rfl rfl (hoff 2 (by decide))) rfl ⟨_, _, rfl⟩ ?_
    · rw [show sysModules = (1 : Nat) from rfl, tp 1 _ rfl (hoff 1 (by decide))]; simp
    · intro cenv hc n hn v
      obtain ⟨⟩ := cenv
      subst hc
      simp only [List.mem_cons, List.not_mem_nil, or_false] at hn
      rcases hn with rfl | rfl | rfl | rfl <;> rfl
    · intro cenv hc
      obtain ⟨⟩ := cenv
      subst hc
      rfl
    · intro cenv nsA c' P' A' s' m Q' h1 h2 h3 h4 h5 h6 hba x h
      obtain ⟨⟩ := cenv
      simp only at h1 h2 h3 h4 h5 h6
      subst h1 h2 h3 h4 h5 h6
      refine block_run hba x rfl rfl rfl ?_ ⟨rfl, rfl, rfl, rfl, rfl, rfl⟩ ?_ ⟨by decide, by decide, by decide, by decide, by decide⟩ fun sl f1 f2 f3 f4 f5 f6 tm ps h' tk L F1 F2 B => h sl f1 f2 f3 f4 f5 f6 tm ps h' tk L F1 F2 B
      · intro n hn v
        simp only [List.mem_cons, List.not_mem_nil, or_false] at hn
        rcases hn with rfl | rfl | rfl | rfl | rfl | rfl | rfl | rfl | rfl <;> rfl
      · exact List.forall_mem_cons.mpr ⟨⟨rfl, rfl⟩, List.forall_mem_cons.mpr ⟨⟨rfl, rfl⟩, List.forall_mem_cons.mpr ⟨⟨rfl, rfl⟩, List.forall_mem_cons.mpr ⟨⟨rfl, rfl⟩, List.forall_mem_cons.mpr ⟨⟨rfl, rfl⟩, List.forall_mem_cons.mpr ⟨⟨rfl, rfl⟩, fun _ h => nomatch h⟩⟩⟩⟩⟩⟩
    · intro C N p f1 f2 h' t' M
      refine hQ' C _ ?_
      obtain ⟨mL, hLn⟩ := T.loc
      obtain ⟨oL, esL, epL, gL, rL⟩ := id hLn
      have nl23 : (23 : Nat) ≠ s.heap.objs.size := fun z => by
        have := Heap.lt_size h23
        rw [← z] at this; exact Nat.lt_irrefl _ this
      have nL : s.heap.get? s.heap.objs.size = none := by
        cases hg : s.heap.get? s.heap.objs.size with
        | none => rfl
        | some o => exact absurd (Heap.lt_size hg) (Nat.lt_irrefl _)
      have gL' := M.keep _ _ (Ne.symm nl23) gL
      refine wpAny_storeName_local (m := mL) rfl ⟨oL, esL, epL, gL', rL⟩ (fun h2 n2 sb2 => ?_) rfl
      refine wpAny_execs_cons (wpAny_Return_some (bound_load (v := .ref C) T.en.kind (.inl ⟨rfl, _, n2, if_pos rfl⟩) ?_ (by decide) (by decide)))
      show Q (.ref C) _
      have kS : Sub s.heap s₁.heap := I₁.toInCall.keep
      have x2 : Heap.ExtBut s.heap.objs.size h' h2 := sb2.extBut
      have g23 := h23
      have ke : ∀ b o, b ≠ (23 : Nat) → s.heap.get? b = some o → h2.get? b = some o := fun b o z g => x2 b o (fun y => by rw [y, nL] at g; cases g) (M.keep b o z (kS b o g))
      have cell : s₁.heap.IsCell (s.heap.objs.size + 1) (some v) := by
        rcases T.bound ("mycmp", v) (by simp) with ⟨k1, _⟩ | ⟨_, c, hc, cell⟩
        · cases k1
        · cases hc; exact cell
      obtain ⟨oc, gc, dc⟩ := cell
      have ncc : s.heap.get? (s.heap.objs.size + 1) = none := by
        cases hg : s.heap.get? (s.heap.objs.size + 1) with
        | none => rfl
        | some o => have := Heap.lt_size hg; exact absurd this (by show ¬ (_ : Nat) < _; omega)
      refine hQ _ (s.heap.objs.size + 1) C N p f1 f2 ⟨⟨fun b o _ m g => ke b o (fun z => m (by simp [z])) g, fun q hq z => ?_, T.ext.gens, T.ext.os⟩, M.after ⟨_, gL⟩ kS nL nl23 x2, ⟨oc, x2 _ _ (by show (_ : Nat) ≠ _; omega) (M.keep _ _ (fun z => ?_) gc), dc⟩, ncc⟩
      · have e1 := T.ext.tab q hq z
        have e2 := e1.but (y := 23) (fun b o z g => M.keep b o z g) (kS _ _ g23) noCode_tab0 (ne_of_tab nt23 hq)
        exact e2.but x2 gL' (noCode_dict rL.1) (ne_of_tab T.en.nloc hq)
      · rw [z] at ncc; rw [g23] at ncc; cases ncc
end
end Mine
end
section
open PySem PySem.W PySem.Calls PyProof.Rows
set_option maxRecDepth 100000
set_option maxHeartbeats 16000000
set_option linter.all false
namespace Mine
section
variable {prog : Program} {w : World} {W : Wd} {off : List Addr} {tb : Tb} {k : Nat}
theorem look_self {C : Addr} {o : Obj} : List.lookup C [(C, o)] = some o := by simp [List.lookup]
theorem in_one {h : Heap} {C : Addr} {o : Obj} (g : h.get? C = some o) : Frag.In [(C, o)] h := fun b o' e => by
  have e : List.lookup b [(C, o)] = some o' := e
  by_cases z : b = C
  · subst z; rw [look_self] at e; cases e; exact g
  · have y : (b == C) = false := by simpa using z
    simp only [List.lookup, y] at e
    cases e
/-- the class of keys with its names and its member, as a fragment -/
structure KeyFrag (K : Frag) (C N p f1 f2 : Addr) : Prop where
  cls : ∃ bT tk tq, K.lookup C = some (clsObj C N bT tk tq)
  mem : ∃ t, K.lookup p = some (memObj C t)
  names : ∃ m : Str → Option Value, (∀ x, nsIn K N x = some (m x)) ∧ m "__init__" = some (.ref f1) ∧ m "__lt__" = some (.ref f2) ∧ m "obj" = some (.ref p) ∧ ∀ x, x ∉ keyNames → m x = none
theorem KeyFrag.find {K : Frag} {C N p f1 f2 : Addr} (x : KeyFrag K C N p f1 f2) : findIn K (.ref C) "obj" = some (some (.ref p)) ∧ findIn K (.ref C) "__init__" = some (some (.ref f1)) ∧ findIn K (.ref C) "__lt__" = some (some (.ref f2)) ∧
    findIn K (.ref C) "__setattr__" = some (some (.builtin "object.__setattr__")) ∧ findIn K (.ref C) "__getattribute__" = some (some (.builtin "object.__getattribute__")) ∧ findIn K (.ref C) "__getattr__" = some none := by
  obtain ⟨bT, tk, tq, hc⟩ := x.cls
  obtain ⟨m, hm, m1, m2, m3, m4⟩ := x.names
  have go : ∀ n, findIn K (.ref C) n = (match m n with | some v => some (some v) | none => alongIn K n [.type "object"]) := fun n => by
    unfold findIn
    simp only [hc]
    unfold alongIn ownIn
    simp only [hc, hm]
    cases m n <;> rfl
  have no : ∀ n, n ∉ keyNames → findIn K (.ref C) n = alongIn K n [.type "object"] := fun n hn => by rw [go, m4 n hn]
  refine ⟨by rw [go, m3], by rw [go, m1], by rw [go, m2], ?_, ?_, ?_⟩
  · rw [no _ (by decide)]; kernel_rfl
  · rw [no _ (by decide)]; kernel_rfl
  · rw [no _ (by decide)]; kernel_rfl
theorem KeyFrag.slots {K : Frag} {C N p f1 f2 : Addr} (x : KeyFrag K C N p f1 f2) : slotIn K p C = some 0 ∧ typeIn K (.ref p) = some (.type "member_descriptor") ∧ takesIn K (.ref p) = some true ∧ specialIn K (.ref p) "__get__" = some (some (.builtin "member_descriptor.__get__")) ∧
    plainOver K C = true ∧ isClsIn K C = true ∧ makesIn K C = true := by
  obtain ⟨bT, tk, tq, hc⟩ := x.cls
  obtain ⟨t, hp⟩ := x.mem
  have cl : clsIn K C = some { name := "K", bases := [.type "object"], mro := [.ref C, .type "object"], ns := N, qualname := "cmp_to_key.<locals>.K", hasDict := false, slotNames := ["obj"] } := by unfold clsIn; rw [hc]
  have tp : typeIn K (.ref p) = some (.type "member_descriptor") := by show (K.lookup p).map (·.cls) = _; rw [hp]; rfl
  have tc : typeIn K (.ref C) = some (.type "type") := by show (K.lookup C).map (·.cls) = _; rw [hc]; rfl
  have rp : recIn K p "member_descriptor" = some [.str "obj" t, .ref C, .builtin "proto.slot", .builtin "proto.slot#set", rawInt 0] := by unfold recIn; rw [hp]; rfl
  refine ⟨?_, tp, ?_, ?_, ?_, ?_, ?_⟩
  · unfold slotIn; rw [rp, cl]; simp [rawInt]
  · unfold takesIn specialIn; rw [tp]; kernel_rfl
  · unfold specialIn; rw [tp]; kernel_rfl
  · unfold plainOver; rw [cl]; rfl
  · unfold isClsIn; rw [cl]; rfl
  · have a : specialIn K (.ref C) "__call__" = some (some (.builtin "type.__call__")) := by unfold specialIn; rw [tc]; kernel_rfl
    have b : instIn K (.ref C) (.type "type") = some true := by unfold instIn; rw [tc]; kernel_rfl
    unfold makesIn
    rw [hc, a, b]
    simp
theorem look_three {a b c : Addr} {x y z : Obj} (ab : b ≠ a) (ac : c ≠ a) (bc : c ≠ b) : List.lookup a [(a, x), (b, y), (c, z)] = some x ∧ List.lookup b [(a, x), (b, y), (c, z)] = some y ∧ List.lookup c [(a, x), (b, y), (c, z)] = some z := by
  have e1 : (b == a) = false := by simpa using ab
  have e2 : (c == a) = false := by simpa using ac
  have e3 : (c == b) = false := by simpa using bc
  refine ⟨by simp [List.lookup], by simp [List.lookup, e1], by simp [List.lookup, e2, e3]⟩
theorem KeyMade.frag {h h' : Heap} {P C N p f1 f2 : Addr} {mg : Str → Option Value} {q1 q2 : Str} {a1 a2 : Arguments} {b1 b2 : List Stmt} {s1 s2 : Scope} {l1 l2 : List (Str × Addr)} (M : KeyMade h h' P C N p f1 f2 mg q1 q2 a1 a2 b1 b2 s1 s2 l1 l2) :
    ∃ K : Frag, KeyFrag K C N p f1 f2 ∧ K.In h' ∧ K.map (·.1) = [C, N, p] := by
  obtain ⟨bT, tk, tq, gc⟩ := M.cls
  obtain ⟨m, ⟨oN, es, ep, gn, dn, sk, uk, fm⟩, m1, m2, m3, m4⟩ := M.names
  obtain ⟨t, gp⟩ := M.mem
  have ab : N ≠ C := fun z => by rw [z, gc] at gn; cases gn; cases dn
  have ac : p ≠ C := fun z => by rw [z, gc] at gp; have := congrArg Obj.data (Option.some.inj gp); cases this
  have bc : p ≠ N := fun z => by rw [z, gn] at gp; cases gp; cases dn
  obtain ⟨l1, l2, l3⟩ := look_three (x := clsObj C N bT tk tq) (y := oN) (z := memObj C t) ab ac bc
  refine ⟨[(C, clsObj C N bT tk tq), (N, oN), (p, memObj C t)], ⟨⟨bT, tk, tq, l1⟩, ⟨t, l3⟩, m, fun x => ?_, m1, m2, m3, m4⟩, fun a o e => ?_, rfl⟩
  · obtain ⟨c', d', da, sl⟩ := oN
    cases dn
    unfold nsIn
    rw [l2]
    dsimp only
    have hf := fm x
    have nr : es.toList.any (·.refKey) = false := by
      rw [List.any_eq_false]
      intro e he
      obtain ⟨n, tn, hk⟩ := sk e (by simpa using he)
      unfold DictEntry.refKey
      simp [hk]
    rw [nr]
    obtain ⟨l⟩ := es
    simp only [nsFind, findBy, List.find?_toArray] at hf
    rw [← hf]
    dsimp only
    cases l.find? fun e => e.key.isStr x <;> rfl
  · have e : List.lookup a [(C, clsObj C N bT tk tq), (N, oN), (p, memObj C t)] = some o := e
    by_cases z1 : a = C
    · subst z1; rw [l1] at e; cases e; exact gc
    · by_cases z2 : a = N
      · subst z2; rw [l2] at e; cases e; exact gn
      · by_cases z3 : a = p
        · subst z3; rw [l3] at e; cases e; exact gp
        · have y1 : (a == C) = false := by simpa using z1
          have y2 : (a == N) = false := by simpa using z2
          have y3 : (a == p) = false := by simpa using z3
          simp only [List.lookup, y1, y2, y3] at e
          cases e
end
end Mine
end
section
open PySem PySem.W PySem.Calls PyProof.Rows
set_option maxRecDepth 100000
set_option maxHeartbeats 16000000
set_option linter.all false
namespace Mine
section
variable {prog : Program} {w : World} {W : Wd} {off : List Addr} {tb : Tb} {k : Nat}
/-- an instance of the class of keys -/
abbrev keyObj (C dx : Addr) (v : Value) : Obj := { cls := .ref C, dict := some dx, data := .plain, slots := #[some v] }
theorem type_one {f : Addr} {o : Obj} : typeIn [(f, o)] (.ref f) = some o.cls := by show (List.lookup f [(f, o)]).map (fun z : Obj => z.cls) = _; rw [look_self]; rfl
theorem call_key {A : Around} {s : Shared} {K : Frag} {C N p f1 f2 : Addr} {h₀ : Heap} {v : Value} {Q : Value → Shared → Prop} (hd : A.depth + 1 < recursionLimit) (kf : KeyFrag K C N p f1 f2) (X : K.In s.heap)
    (F1 : FnAt h₀ s.heap f1 (mg1 W) "__init__" "cmp_to_key.<locals>.K.__init__" (defArgs (kInit W)) (defBody (kInit W)) (defScope (kInit W)) []) (hl : s.heap.NoLimit)
    (hQ : ∀ x dx h' t', (∀ b o, s.heap.get? b = some o → h'.get? b = some o) → s.heap.get? x = none → s.heap.get? dx = none → h'.get? x = some (keyObj C dx v) → h'.get? dx = some emptyDict → Q (.ref x) { s with heap := h', toks := t' }) :
    wpAny (model prog w) A (call (.ref C) [v]) Q NoE s := by
  obtain ⟨c', ctv, doc, gf, rec, _, _⟩ := F1
  obtain ⟨n1, n2, n3, n4, n5, n6⟩ := kf.find
  obtain ⟨e1, e2, e3, e4, e5, e6, e7⟩ := kf.slots
  refine wpAny_call ?_
  obtain ⟨hh, gg, dr, t, os⟩ := s
  have gf : hh.get? f1 = some _ := gf
  refine make_core (makes_of X e7) (looks_findIn X n2) (fun self => bind_fn (in_one gf) self type_one) (.inl rfl) ?_
  have kp : ∀ b o, hh.get? b = some o → ((hh.push emptyDict).push (instObj C hh.objs.size)).get? b = some o := fun b o e => Heap.get?_push_of_some _ (Heap.get?_push_of_some _ e)
  have gx : ((hh.push emptyDict).push (instObj C hh.objs.size)).get? (hh.objs.size + 1) = some (instObj C hh.objs.size) := by heap_get
  have gd : ((hh.push emptyDict).push (instObj C hh.objs.size)).get? hh.objs.size = some emptyDict := Heap.get?_push_of_some _ (Heap.get?_push_size _ rfl)
  have sz : hh.objs.size + 2 ≤ ((hh.push emptyDict).push (instObj C hh.objs.size)).objs.size := by simp only [Heap.size_push]; exact Nat.le_refl _
  generalize ((hh.push emptyDict).push (instObj C hh.objs.size)) = h1 at kp gx gd sz ⊢
  refine codeAny_call_binds (s := ⟨h1, gg, dr, t, os⟩) (binds := [("self", .ref (hh.objs.size + 1)), ("obj", v)]) hd (kp _ _ gf) rfl (hl.keeps kp) ?_ rfl ?_ rfl ?_ (fun s₁ I₁ => ?_)
  · exact rec.keeps kp
  · intro A' Q E' hq
    exact wpAny_pure hq
  · exact List.forall_mem_cons.mpr ⟨.inl rfl, List.forall_mem_cons.mpr ⟨.inl rfl, fun _ h => nomatch h⟩⟩
  · obtain ⟨h2, t2, hs2⟩ := I₁.toInCall.same
    have kp2 := I₁.toInCall.keep
    have ns2 := I₁.toInCall.ns
    refine wpAny_mono (E := NoE) ?_ (fun _ _ z => z) fun _ _ z => z.elim
    refine wpAny_execs_cons (plainObj_wpAny_Assign_Attribute (bound_load rfl (.inl ⟨rfl, _, ns2, rfl⟩) (bound_load rfl (.inl ⟨rfl, _, ns2, rfl⟩) ?_ (by decide) (by decide)) (by decide) (by decide)))
    subst hs2
    have nx : hh.get? (hh.objs.size + 1) = none := Heap.get?_none_of_le (Nat.le_succ _)
    have nd : hh.get? hh.objs.size = none := Heap.get?_none_of_le (Nat.le_refl _)
    have F : Fr hh h1.objs.size h2 _ := ⟨ns2, fun b o g => kp2 b o (kp b o g), by show (_ : Nat) ≤ _; omega⟩
    have NN : News hh h1.objs.size h2 [(hh.objs.size + 1, instObj C hh.objs.size), (hh.objs.size, emptyDict)] :=
      List.forall_mem_cons.mpr ⟨⟨kp2 _ _ gx, by show (_ : Nat) ≠ _; omega, nx⟩, List.forall_mem_cons.mpr ⟨⟨kp2 _ _ gd, by show (_ : Nat) ≠ _; omega, nd⟩, fun _ h => nomatch h⟩⟩
    have II : InstAt h2 (hh.objs.size + 1) (instObj C hh.objs.size) C (some emptyDict) := ⟨kp2 _ _ gx, rfl, rfl, kp2 _ _ gd⟩
    refine set_slot (ox' := keyObj C hh.objs.size v) (news' := [(hh.objs.size + 1, keyObj C hh.objs.size v), (hh.objs.size, emptyDict)]) F X NN II n4 e5 ?_ e2 e1 (by decide) rfl rfl ?_ fun h3 F3 N3 => ?_
    · unfold takerIn; rw [n1, Option.bind_some]; simp only [e3]; rfl
    · exact .head (List.forall_mem_cons.mpr ⟨by show (_ : Nat) ≠ _; omega, fun _ h => nomatch h⟩)
    · refine wpAny_execs_nil ⟨rfl, ?_⟩
      exact hQ _ _ h3 _ F3.keep nx nd (N3 _ (List.mem_cons_self)).1 (N3 _ (List.mem_cons_of_mem _ List.mem_cons_self)).1
end
end Mine
end
section
open PySem PySem.W PySem.Calls PyProof.Rows
set_option maxRecDepth 100000
set_option maxHeartbeats 16000000
set_option linter.all false
namespace Mine
section
variable {prog : Program} {w : World} {W : Wd} {off : List Addr} {tb : Tb} {k : Nat}
/-- self.obj of a key -/
theorem get_key {A : Around} {s : Shared} {K : Frag} {C N p f1 f2 x dx L : Addr} {v : Value} {h₀ : Heap} {m : Str → Option Value} {expr : Bool} {Q : Value → Shared → Prop} {E : Value → Shared → Prop} (kf : KeyFrag K C N p f1 f2) (F : Fr h₀ L s.heap m) (X : K.In h₀)
    (gx : s.heap.get? x = some { cls := .ref C, dict := some dx, data := .plain, slots := #[some v] }) (gd : s.heap.get? dx = some emptyDict) (hh : handedIn v = true) (h : Q v { s with toks := s.toks + 1 }) : wpAny (model prog w) A (getAttr (.ref x) "obj" expr) Q E s := by
  obtain ⟨n1, n2, n3, n4, n5, n6⟩ := kf.find
  obtain ⟨e1, e2, e3, e4, e5, e6, e7⟩ := kf.slots
  refine get_slot (od := emptyDict) F X ⟨gx, rfl, rfl, gd⟩ ?_ e6 n1 e4 e3 e1 rfl hh h
  unfold plainGet
  rw [n5, n6]
  rfl
end
end Mine
end
section
open PySem PySem.W PySem.Calls PyProof.Rows
set_option maxRecDepth 100000
set_option maxHeartbeats 16000000
set_option linter.all false
namespace Mine
section
variable {prog : Program} {w : World} {W : Wd}
/-- the block of a def that has free names and no cells of its own -/
theorem code_closed {A : Around} {s : Shared} {R : Result → Shared → Prop} {a : Addr} {o : Obj} {fd : FuncData} {body : List Stmt} {args : Args} {binds : List (Str × Value)} {env : Env}
    (henv : env = newEnv fd.scope s.heap.objs.size fd.globals fd.closure (fd.qualname ++ ".<locals>.") (some a) fd.code none fd.builtins)
    (hroom : A.depth < recursionLimit) (ho : s.heap.get? a = some o) (hdata : o.data = .func fd) (hlim : s.heap.NoLimit) (hcd : s.heap.CodeRec fd.code fd.qualname) (hbody : fd.body = .stmts body)
    (hbind : ∀ (A' : Around) (Q : List (Str × Value) → Shared → Prop) (E' : Value → Shared → Prop), Q binds s → wpAny (model prog w) A' (bindArgs fd args) Q E' s)
    (hc : ∀ x ∈ fd.scope.names, x.2 ≠ .cell) (hl : ∀ x ∈ binds, fd.scope.names.lookup x.1 = some .local)
    (h : ∀ h' t', h'.Ns s.heap.objs.size (fun x => binds.reverse.lookup x) → (∀ b o, s.heap.get? b = some o → h'.get? b = some o) →
      wpAny (model prog w) (A.deeper env) (execs body env) (fun f s' => R (.ok (.ret (match f with | .ret v => v | _ => .none))) s')
        (fun e s' => wpAny (model prog w) (A.deeper env) (leaving env e) (fun _ s'' => R (.error e) s'') (fun e' s'' => R (.error e') s'') s') { s with heap := h', toks := t' })
    (hco : fd.scope.isCoroutine = false := by rfl) (hgen : fd.scope.isGenerator = false := by rfl) (hk : fd.scope.kind = .function := by rfl) :
    codeAny (model prog w) A (.call (.ref a) args) R s := by
  refine codeAny_call_function hroom ho hdata hco hgen hbody hcd ?_
  refine hbind _ _ _ (wpAny_newFunctionEnv hc hl (fun h' n sb => ?_) hk)
  rw [← henv]
  have kp : ∀ b o, s.heap.get? b = some o → h'.get? b = some o := fun b o g => (sb.2 b (Nat.ne_of_lt (Heap.lt_size g))).trans (Heap.get?_push_of_some _ g)
  exact ⟨hlim.keeps kp, codeAny_func (h h' _ n kp)⟩
end
end Mine
end
section
open PySem PySem.W PySem.Calls PyProof.Rows
set_option maxRecDepth 100000
set_option linter.all false
namespace Mine
theorem lookup_of_mem {α β : Type} [BEq α] [LawfulBEq α] : ∀ {l : List (α × β)}, (l.map (·.1)).Nodup → ∀ p ∈ l, l.lookup p.1 = some p.2
  | [], _, p, hp => nomatch hp
  | (a, b) :: r, h, p, hp => by
    rw [List.map_cons, List.nodup_cons] at h
    rcases List.mem_cons.mp hp with rfl | hp
    · simp
    · have ne : (p.1 == a) = false := by
        have : p.1 ≠ a := fun z => h.1 (List.mem_map.mpr ⟨p, hp, z⟩)
        simpa using this
      simp only [List.lookup, ne]
      exact lookup_of_mem h.2 p hp

section
variable {prog : Program} {w : World} {W : Wd} {K L : Frag} {off : List Addr} {tb : Tb} {k : Nat} {env : Env} {ρ : Rho} {mg mb : Str → Option Value} {X : List Addr} {s s' s₀ : Shared}

theorem frag_all (g : Heap) : ∃ L : Frag, (∀ p ∈ L, g.get? p.1 = some p.2) ∧ ∀ a o, g.get? a = some o → (a, o) ∈ L := by
  refine ⟨(List.range g.objs.size).filterMap fun a => (g.get? a).map fun o => (a, o), fun p hp => ?_, fun a o e => ?_⟩
  · obtain ⟨a, _, z⟩ := List.mem_filterMap.mp hp
    cases hg : g.get? a with
    | none => rw [hg] at z; cases z
    | some o => rw [hg] at z; cases z; exact hg
  · exact List.mem_filterMap.mpr ⟨a, List.mem_range.mpr (Heap.lt_size e), by rw [e]; rfl⟩
abbrev lamEnv (fd : FuncData) (L f : Addr) : Env := newEnv fd.scope L fd.globals fd.closure (fd.qualname ++ ".<locals>.") (some f) fd.code none fd.builtins

/-- a lambda: its block is an expression, its free names lie in cells that are held fast -/
theorem fn_lambda {f : Addr} {o : Obj} {fd : FuncData} {body : Expr} {xs : List Str} {ds : List PyData} {d : PyData} {ρF : Rho} (G : Globs K off mg mb) (ho : K.lookup f = some o) (hf : f ∉ off) (hdat : o.data = .func fd)
    (hbody : fd.body = .expr body) (hglob : fd.globals = mainGlobals) (hbuilt : fd.builtins = builtinsNs) (hcd : ∀ X s, Ok K off tb X s → s.heap.CodeRec fd.code fd.qualname)
    (hlen : xs.length = ds.length) (hbind : ∀ vs : List Value, vs.length = xs.length → bindArgs fd ⟨vs, []⟩ = pure (xs.zip vs)) (hnd : xs.Nodup)
    (hkind : ∀ x ∈ xs, fd.scope.names.lookup x = some .local) (hcell : ∀ x ∈ fd.scope.names, x.2 ≠ .cell)
    (hfree : ∀ g, TopOk K off g → ∀ p ∈ ρF, ∃ c v, fd.closure.lookup p.1 = some c ∧ fd.scope.names.lookup p.1 = some .free ∧ g.IsCell c (some v) ∧ Rp g v p.2)
    (hco : fd.scope.isCoroutine = false) (hgen : fd.scope.isGenerator = false) (hk : fd.scope.kind = .function)
    (h : ∀ L, PV prog w K off tb k (lamEnv fd L f) (xs.zip ds ++ ρF) body d) : Fn prog w K off tb (k + 1) (.ref f) ds d := by
  intro A X s vs Q hR hO r hQ
  have hvl : vs.length = xs.length := by rw [r.length, hlen]
  have hmem : ∀ p ∈ xs.zip vs, p.1 ∈ xs := fun p hp => (List.of_mem_zip hp).1
  have hnd' : ((xs.zip vs).map (·.1)).Nodup := by
    rw [List.map_fst_zip (by omega)]; exact hnd
  refine wpAny_call (kla_callFunE hR.lim (hO.get ho hf) hdat hco hgen hbody (hcd _ _ hO) ?_)
  rw [hbind vs hvl]
  refine wpAny_pure (wpAny_newFunctionEnv hcell (fun p hp => hkind p.1 (hmem p hp)) (fun h₁ hns hsb => ⟨((hO.globs G).2.2).fresh _ hsb, ?_⟩) hk)
  refine kla_codeExpr (wpAny_mono (E := NoE) ?_ (fun _ _ z => z) fun _ _ z => z.elim)
  generalize hL : s.heap.objs.size = L at hns hsb ⊢
  have old : ∀ (b : Nat) o, s.heap.get? b = some o → b < L := fun b o e => hL ▸ Heap.lt_size e
  have kp : ∀ b o, s.heap.get? b = some o → h₁.get? b = some o := fun b o e => hsb.extBut b o (Nat.ne_of_lt (old b o e)) (Heap.get?_push_of_some _ e)
  have gL0 : s.heap.get? L = none := at_none (Nat.le_of_eq hL)
  have nL := notTab_new hO gL0
  obtain ⟨oL, esL, epL, gL, rL⟩ := id hns
  have e₁ : Ext tb s { s with heap := h₁, toks := s.toks + (xs.zip vs).length } := .of_sub kp rfl rfl
  obtain ⟨O1, visS⟩ := hO.hide e₁ gL0 ⟨_, gL⟩ nL.1
  have E1 : EnvOk tb (L :: X) (lamEnv fd L f) (xs.zip ds ++ ρF) { s with heap := h₁, toks := s.toks + (xs.zip vs).length } := by
    refine ⟨hk, hglob, hbuilt, nL.1, fun p hp => ?_⟩
    rcases List.mem_append.mp hp with hp | hp
    · obtain ⟨v, hv, rv⟩ := zip_rp r p hp
      refine ⟨v, .inl ⟨hkind p.1 (hmem (p.1, v) hv), _, hns, ?_⟩, rv.sub visS⟩
      refine lookup_of_mem (l := (xs.zip vs).reverse) ?_ (p.1, v) (List.mem_reverse.mpr hv)
      rw [List.map_reverse]
      exact List.pairwise_reverse.mpr (hnd'.imp fun h => Ne.symm h)
    · obtain ⟨c, v, h1, h2, ⟨oc, h3, h3'⟩, h4⟩ := hfree _ hO.top p hp
      exact ⟨v, .inr ⟨.inr h2, c, h1, oc, kp _ _ (vis_get h3).1, h3'⟩, h4.sub visS⟩
  refine wpAny_mono (h L (A.deeper _) (L :: X) _ (fun v s' => Q v s') hR.deeper O1 E1 fun v s' e r => ?_) (fun v s' z => z) fun _ _ z => z.elim
  exact hQ v s' (e₁.trans e) (r.sub (vis_more fun x hx => List.mem_cons_of_mem _ hx))
end
end Mine
end
section
open PySem PySem.W PySem.Calls PyProof.Rows
set_option maxRecDepth 100000
set_option linter.all false
namespace Mine
theorem among_app {pos : Pos} {i j : Int} {c cv : Value} : ∀ (l : List Value), TriplesOk l → codeAmong pos (l ++ [rawInt i, rawInt j, c]) = some cv → codeAmong pos l = some cv ∨ cv = c
  | [], _, h => by
    right
    simp only [List.nil_append, rawInt, codeAmong] at h
    split at h
    · exact (Option.some.inj h).symm
    · cases h
  | .int a _ :: .int b _ :: x :: r, t, h => by
    simp only [List.cons_append, codeAmong] at h ⊢
    split at h
    · rename_i q; rw [if_pos q]; exact .inl h
    · rename_i q; rw [if_neg q]; exact among_app r t h
theorem noCode_tab {ps : Array Value} (t : TriplesOk ps.toList) : NoCode (tabObj ps) := fun vs q tt z => by
  cases z
  have := triples_no_str t q tt
  simpa using this

section
variable {prog : Program} {w : World} {W : Wd} {K L : Frag} {off : List Addr} {tb : Tb} {k : Nat} {env : Env} {ρ : Rho} {mg mb : Str → Option Value} {X : List Addr} {s s' s₀ : Shared} {A : Around} {E : Value → Shared → Prop}

theorem Ok.recTab (o : Ok K off tb X s) {c : Addr} {q : Str} (r : s.heap.CodeRec (.ref c) q) : c ∉ tb.map (·.1) := fun m => by
  obtain ⟨p, hp, e⟩ := List.mem_map.mp m
  obtain ⟨c₂, oc, vs, t, e₂, g, d, v⟩ := r
  cases e₂
  have T := o.tabs p hp
  rw [e] at T
  cases hq : p.2 with
  | code q2 =>
    rw [hq] at T
    obtain ⟨ps, g', tr, _⟩ := T
    rw [g] at g'; cases g'
    exact noCode_tab tr _ _ _ d v
  | own G =>
    rw [hq] at T
    obtain ⟨o', es, n, g', d', _⟩ := T
    rw [g] at g'; cases g'
    rw [d] at d'; cases d'
  | any =>
    rw [hq] at T
    obtain ⟨ps, g', tr⟩ := T
    rw [g] at g'; cases g'
    exact noCode_tab tr _ _ _ d v

/-- a table of codes, marked -/
structure TabAt (K : Frag) (off : List Addr) (tb : Tb) (mg : Str → Option Value) (env : Env) (c P : Addr) (q : Str) : Prop where
  code : env.code = .ref c
  hd : ∀ g, TopOk K off g → CodeHd g c P
  mem : (P, TK.code q) ∈ tb
  only : ∀ p ∈ tb, p.1 = P → p.2 = .code q
  main : mainGlobals ≠ P
  blt : ∀ g, TopOk K off g → g.BuiltinsAt mg P

/-- a lambda without defaults -/
theorem eval_lambda {params : Arguments} {body : Expr} {scope : Scope} {pos : Pos} {c P : Addr} {q : Str} {clos : List (Str × Addr)} {Q : Value → Shared → Prop} (G : Globs K off mg mb) (T : TabAt K off tb mg env c P q) (hO : Ok K off tb X s) (hE : EnvOk tb X env ρ s)
    (hcl : closureFor scope env = pure clos) (hq : env.qual ++ "<lambda>" = q) (hdef : defaultsOf params env = ([], []))
    (h : ∀ f c' ctv s', Ext tb s s' → s.heap.get? f = none → s'.heap.get? f = some (kla_obj "<lambda>" q params body scope clos ((mg "__name__").getD .none) c' ctv) → s'.heap.CodeRec (.ref c') q → Q (.ref f) s') :
    wpAny (model prog w) A (eval (.Lambda params body scope pos) env) Q E s := by
  have tp := hO.top.sub (vis_below _ _ _)
  have T0 := hO.tabs _ T.mem
  obtain ⟨ps, gP, tr, rc⟩ := T0
  refine kla_eval hdef ?_
  rw [hq]
  cases hf : codeAmong pos ps.toList with
  | none =>
    refine kla_makeFunction (c := c) (P := P) (ps := ps) (mg := mg) hcl hE.globals (hO.globs G).1 T.code (T.hd _ tp) gP tr hf T.main (T.blt _ tp) fun c' ctv h' tk hx hge hlt hrec htb => ?_
    have kp : ∀ b o, b ≠ P → s.heap.get? b = some o → (h'.push (kla_obj "<lambda>" q params body scope clos ((mg "__name__").getD .none) c' ctv)).get? b = some o := fun b o n g => Heap.get?_push_of_some _ (hx b o n g)
    refine h h'.objs.size c' ctv { s with heap := h'.push (kla_obj "<lambda>" q params body scope clos ((mg "__name__").getD .none) c' ctv), toks := tk } ⟨fun b o n g => kp b o (fun z => n (z ▸ List.mem_map_of_mem T.mem)) g, fun p hp z => ?_, rfl, rfl⟩ (at_none (Nat.le_trans hge (Nat.le_of_lt hlt))) (Heap.get?_push_size _ rfl) (hrec.push _)
    by_cases e : p.1 = P
    · rw [T.only p hp e, e]
      refine ⟨ps ++ #[rawInt pos.line, rawInt pos.col, .ref c'], Heap.get?_push_of_some _ htb, by simpa using TriplesOk_snoc _ _ _ _ tr, fun pos' cv hcv => ?_⟩
      rcases among_app ps.toList tr (by simpa using hcv) with hcv | rfl
      · obtain ⟨c₂, o₂, vs₂, t₂, e₂, g₂, r₂, r₃⟩ := rc pos' cv hcv
        refine ⟨c₂, o₂, vs₂, t₂, e₂, kp _ _ (fun z => ?_) g₂, r₂, r₃⟩
        rw [z, gP] at g₂; cases g₂
        exact noCode_tab tr _ _ _ r₂ r₃
      · exact hrec.push _
    · exact z.but (fun b o n g => kp b o n g) gP (noCode_tab tr) (Ne.symm e)
  | some cv =>
    refine kla_makeFunctionHit (c := c) (P := P) (ps := ps) (mg := mg) hcl hE.globals (hO.globs G).1 T.code (T.hd _ tp) gP tr hf (T.blt _ tp) fun ctv h' tk hk hsz => ?_
    have hr := rc pos cv hf
    obtain ⟨c₂, o₂, vs₂, t₂, e₂, g₂, r₂⟩ := id hr
    subst e₂
    refine h h'.objs.size c₂ ctv { s with heap := h'.push (kla_obj "<lambda>" q params body scope clos ((mg "__name__").getD .none) c₂ ctv), toks := tk } (.of_sub (fun b o g => Heap.get?_push_of_some _ (hk b o g)) rfl rfl) (at_none hsz) (Heap.get?_push_size _ rfl) (hr.keeps fun b o g => Heap.get?_push_of_some _ (hk b o g))
end
end Mine
end
section
open PySem PySem.W PySem.Calls PyProof.Rows
set_option maxRecDepth 100000
set_option maxHeartbeats 4000000
set_option linter.all false
namespace Mine
/-- the class of keys and what it needs, as it stands in a heap -/
structure KeyEnv (W : Wd) (g : Heap) (KF : Frag) (C N p f1 f2 cc : Addr) (v : Value) : Prop where
  kf : KeyFrag KF C N p f1 f2
  inn : KF.In g
  fi : ∃ h₀, FnAt h₀ g f1 (mg1 W) "__init__" "cmp_to_key.<locals>.K.__init__" (defArgs (kInit W)) (defBody (kInit W)) (defScope (kInit W)) []
  fl : ∃ h₀, FnAt h₀ g f2 (mg1 W) "__lt__" "cmp_to_key.<locals>.K.__lt__" (defArgs (kLt W)) (defBody (kLt W)) (defScope (kLt W)) [("mycmp", cc)]
  cell : g.IsCell cc (some v)
theorem FnAt.sub {h₀ h h' : Heap} {f : Addr} {mg : Str → Option Value} {name qual : Str} {args : Arguments} {body : List Stmt} {scope : Scope} {cl : List (Str × Addr)} (x : FnAt h₀ h f mg name qual args body scope cl) (kp : Sub h h') : FnAt h₀ h' f mg name qual args body scope cl := by
  obtain ⟨c', ctv, doc, g, r, nf, nc⟩ := x
  exact ⟨c', ctv, doc, kp _ _ g, r.keeps kp, nf, nc⟩
theorem KeyEnv.sub {W : Wd} {g g' : Heap} {KF : Frag} {C N p f1 f2 cc : Addr} {v : Value} (x : KeyEnv W g KF C N p f1 f2 cc v) (k : Sub g g') : KeyEnv W g' KF C N p f1 f2 cc v :=
  ⟨x.kf, fun a o e => k _ _ (x.inn a o e), let ⟨h, z⟩ := x.fi; ⟨h, z.sub k⟩, let ⟨h, z⟩ := x.fl; ⟨h, z.sub k⟩, x.cell.keeps k⟩

section
variable {prog : Program} {w : World} {W : Wd} {K : Frag} {off : List Addr} {tb : Tb} {k : Nat} {env : Env} {ρ : Rho} {mg mb : Str → Option Value} {X : List Addr} {s s' s₀ : Shared} {A : Around}
  {KF : Frag} {C N p f1 f2 cc x y dx dy : Addr} {u v : Value}

theorem key_inst {h : Heap} (gx : h.get? x = some (keyObj C dx u)) (gd : h.get? dx = some emptyDict) : InstAt h x (keyObj C dx u) C (some emptyDict) := ⟨gx, rfl, rfl, gd⟩

theorem lt_bound {M : Model} {E : Value → Shared → Prop} {b : Value} {o2 : Obj} {Q : Option Value → Shared → Prop} (kf : KeyFrag KF C N p f1 f2) (X : KF.In s.heap) (gx : s.heap.get? x = some (keyObj C dx u)) (gd : s.heap.get? dx = some emptyDict)
    (gf : s.heap.get? f2 = some o2) (hc : o2.cls = .type "function") (h : wpAny M A (call (.ref f2) [.ref x, b]) (fun v => Q (some v)) E s) : wpAny M A (callSpecialIfBound? (.ref x) "__lt__" [b]) Q E s := by
  obtain ⟨n1, n2, n3, n4, n5, n6⟩ := kf.find
  have tf : typeIn [(f2, o2)] (.ref f2) = some (.type "function") := by rw [type_one, hc]
  simp only [callSpecialIfBound?, bindSpecialIfBound?]
  refine wpAny_holding (wpAny_bind (wpAny_bind (wpAny_bind ((key_inst gx gd).type.here ((looks_findIn X n3).here ?_)))))
  refine wpAny_bind (wpAny_askSetting (wpAny_ite ?_))
  have fin : wpAny M A (call (.ref f2) ([.ref x] ++ [b]) >>= fun v => pure (some v)) Q E s := wpAny_bind (wpAny_mono h (fun v s' h' => wpAny_pure h') fun _ _ h' => h')
  split
  · exact wpAny_bind ((bind_fn (in_one gf) _ tf).here (wpAny_pure (by exact fin)))
  · exact wpAny_tryCatch (wpAny_bind ((bind_fn (in_one gf) _ tf).here (wpAny_pure (by exact fin))))

theorem call_lt {a b c : Int} {tu tv : Tok} {f0 : Addr} {of0 : Obj} {fd0 : FuncData} {Q : Value → Shared → Prop} (hR : Room A (k + 1)) (G : Globs K off mg mb) (hO : Ok K off tb X s) (KE : KeyEnv W s.heap KF C N p f1 f2 cc (.ref f0))
    (gx : s.heap.get? x = some (keyObj C dx (.int a tu))) (gdx : s.heap.get? dx = some emptyDict) (gy : s.heap.get? y = some (keyObj C dy (.int b tv))) (gdy : s.heap.get? dy = some emptyDict)
    (hf0 : K.lookup f0 = some of0) (hfo : f0 ∉ off) (hfd : of0.data = .func fd0) (hfn : Fn prog w K off tb k (.ref f0) [.int a, .int b] (.int c)) (hQ : ∀ s', Ext tb s s' → Q (.bool (decide (c < 0))) s') :
    wpAny (model prog w) A (call (.ref f2) [.ref x, .ref y]) Q NoE s := by
  obtain ⟨h₀, c', ctv, doc, gf, rec, _, _⟩ := KE.fl
  refine wpAny_call ?_
  refine code_closed (binds := [("self", .ref x), ("other", .ref y)]) rfl hR.lim gf rfl (hO.globs G).2.2 rec rfl ?_ ?_ ?_ (fun h1 t1 ns1 kp => ?_)
  · intro A' Q E' hq
    exact wpAny_pure hq
  · exact List.forall_mem_cons.mpr ⟨by decide, List.forall_mem_cons.mpr ⟨by decide, List.forall_mem_cons.mpr ⟨by decide, fun _ h => nomatch h⟩⟩⟩
  · exact List.forall_mem_cons.mpr ⟨rfl, List.forall_mem_cons.mpr ⟨rfl, fun _ h => nomatch h⟩⟩
  · have gL0 : s.heap.get? s.heap.objs.size = none := at_none (Nat.le_refl _)
    have nL := notTab_new hO gL0
    obtain ⟨oL, esL, epL, gL, rL⟩ := id ns1
    have FF : Fr s.heap s.heap.objs.size h1 _ := ⟨ns1, kp, Nat.le_refl _⟩
    refine wpAny_mono (E := NoE) ?_ (fun _ _ z => z) fun _ _ z => z.elim
    refine wpAny_execs_cons (wpAny_Return_some (wpAny_Compare1 (wpAny_Call_NameR (bound_load (v := .ref f0) rfl (.inr ⟨.inr rfl, cc, rfl, KE.cell.keeps kp⟩) (callWith_fn hfd ?_ rfl) (by decide) (by decide))) (by with_unfolding_all rfl)))
    refine spliced_cons (Attribute_name (bound_load (v := .ref x) rfl (.inl ⟨rfl, _, ns1, rfl⟩) (get_key KE.kf FF KE.inn (kp _ _ gx) (kp _ _ gdx) rfl ?_) (by decide) (by decide)))
    refine spliced_cons (Attribute_name (bound_load (s := { s with heap := h1, toks := t1 + 1 }) (v := .ref y) rfl (.inl ⟨rfl, _, ns1, rfl⟩) (get_key KE.kf FF KE.inn (kp _ _ gy) (kp _ _ gdy) rfl ?_) (by decide) (by decide)))
    have e₁ : Ext tb s { s with heap := h1, toks := t1 + 1 + 1 } := .of_sub kp rfl rfl
    obtain ⟨O1, visS⟩ := hO.hide e₁ gL0 ⟨_, gL⟩ nL.1
    refine spliced_nil ⟨O1.get hf0 hfo, ?_⟩
    refine hfn _ _ _ _ _ hR.deeper O1 (.cons .mkInt (.cons .mkInt .nil)) fun v' s₂ e₂ r₂ => ?_
    obtain ⟨t', rfl⟩ := r₂.int
    refine wpAny_Constant_int (lt_int ?_)
    exact hQ _ ((e₁.trans e₂).trans (ext_tok _ _))

end
end Mine
end
section
open PySem PySem.W PySem.Calls PyProof.Rows
set_option maxRecDepth 100000
set_option linter.all false
namespace Mine
section
variable {prog : Program} {w : World} {W : Wd} {K L : Frag} {off : List Addr} {tb : Tb} {k : Nat} {env : Env} {ρ ρ' : Rho} {β β' : Raw} {mg mb : Str → Option Value} {X : List Addr} {s s' s₀ s₁ : Shared} {A : Around}

/-- x := v for a name that lies in a cell -/
theorem St.storeC {x : Str} {c : Addr} {v : Value} {Q : Unit → Shared → Prop} {E : Value → Shared → Prop} (S : St K off tb X env ρ β s) (hX : c ∈ X) (hk : env.kindOf x = some .cell) (hc : env.cells.lookup x = some c) (hv0 : ∃ v0, s.heap.IsCell c v0)
    (hU : ∀ x y c, env.cells.lookup x = some c → env.cells.lookup y = some c → x = y)
    (h : ∀ s', ExtO tb [c] s s' → s'.heap.IsCell c (some v) → (∀ ρ' β', (∀ p ∈ ρ', (p.1 = x ∧ Rp (vis tb X s.heap) v p.2) ∨ (p ∈ ρ ∧ p.1 ≠ x)) → (∀ p ∈ β', p = (x, v) ∨ (p ∈ β ∧ p.1 ≠ x)) → St K off tb X env ρ' β' s') →
      (∀ b o, b ≠ c → s.heap.get? b = some o → s'.heap.get? b = some o) → Q () s') :
    wpAny (model prog w) A (storeName env x v) Q E s := by
  obtain ⟨m, hLn⟩ := S.loc
  obtain ⟨v0, hv0⟩ := hv0
  refine wpAny_storeName_cell S.en.kind hk hc hv0 fun h' n' sb => ?_
  obtain ⟨oc, c1, c2⟩ := id hv0
  obtain ⟨oc', g', d'⟩ := id n'
  have inX : ∀ y ∈ [c], y ∈ X := fun y hy => by rw [List.mem_singleton] at hy; exact hy ▸ hX
  have x1 : ExtO tb [c] s { s with heap := h' } :=
    ⟨fun b o _ m e => sb.extBut b o (fun z => m (by simp [z])) e, fun q hq z => z.but sb.extBut c1 (noCode_cell c2) (ne_of_tab (S.ok.cellTab hv0) hq), rfl, rfl⟩
  have O' : Ok K off tb X { s with heap := h' } := S.ok.extO x1 inX (fun y hy => by rw [List.mem_singleton] at hy; exact hy ▸ ⟨_, g'⟩)
  have bnd : ∀ y u, y ≠ x → Bound env s.heap y u → Bound env h' y u := fun y u hn b => by
    rcases b with ⟨kl, m', ⟨o1, es1, ep1, a1, a2, a3⟩, hm⟩ | ⟨kc, c', hc', hv⟩
    · exact .inl ⟨kl, m', ⟨o1, es1, ep1, sb.extBut _ _ (fun z => by rw [z, c1] at a1; cases a1; rw [c2] at a2; cases a2) a1, a2, a3⟩, hm⟩
    · obtain ⟨o', b1, b2⟩ := hv
      exact .inr ⟨kc, c', hc', o', sb.extBut c' o' (fun z => hn (hU _ _ c (z ▸ hc') hc)) b1, b2⟩
  have hL' : ∃ m, h'.Ns env.locals m := by
    obtain ⟨o1, es1, ep1, a1, a2, a3⟩ := hLn
    exact ⟨m, o1, es1, ep1, sb.extBut _ _ (fun z => by rw [z, c1] at a1; cases a1; rw [c2] at a2; cases a2) a1, a2, a3⟩
  refine h _ x1 n' (fun ρ' β' h1 h2 => ⟨O', ⟨S.en.kind, S.en.globals, S.en.builtins, S.en.nloc, fun q hq => ?_⟩, fun q hq => ?_, hL'⟩) (fun b o ne g => sb.extBut b o ne g)
  · rcases h1 q hq with ⟨e, r⟩ | ⟨hq, ne⟩
    · exact ⟨v, by rw [e]; exact .inr ⟨.inl hk, c, hc, n'⟩, r.sub (x1.vis inX)⟩
    · obtain ⟨u, b, ru⟩ := S.en.vars q hq
      exact ⟨u, bnd _ _ ne b, ru.sub (x1.vis inX)⟩
  · rcases h2 q hq with rfl | ⟨hq, ne⟩
    · exact .inr ⟨.inl hk, c, hc, n'⟩
    · exact bnd _ _ ne (S.raw q hq)

/-- a table that has changed is marked and put aside -/
theorem Ok.mark {P : Addr} {ps : Array Value} (O : Ok K off tb X s) (x : ExtO tb [P] s s') (hP0 : (vis tb X s.heap).get? P = some (tabObj ps)) (hP1 : TabOk s'.heap P .any) : Ok K (P :: off) ((P, .any) :: tb) X s' ∧
    (∀ b o, b ≠ P → (vis tb X s.heap).get? b = some o → (vis ((P, .any) :: tb) X s'.heap).get? b = some o) := by
  obtain ⟨gP, nt, nx⟩ := vis_get hP0
  have sb : ∀ b o, b ≠ P → (vis tb X s.heap).get? b = some o → (vis ((P, .any) :: tb) X s'.heap).get? b = some o := fun b o ne g => by
    obtain ⟨g0, n, m⟩ := vis_get g
    refine vis_mk (x.keep b o n (fun z => ne (List.mem_singleton.mp z)) g0) (fun z => ?_) m
    rcases List.mem_cons.mp z with z | z
    · exact ne z
    · exact n z
  refine ⟨⟨fun y hy => ?_, fun q hq => ?_, fun a o e n => ?_⟩, sb⟩
  · obtain ⟨n, o, g⟩ := O.priv y hy
    have ne : y ≠ P := fun z => nx (z ▸ hy)
    refine ⟨fun z => ?_, o, x.keep y o n (fun z => ne (List.mem_singleton.mp z)) g⟩
    rcases List.mem_cons.mp z with z | z
    · exact ne z
    · exact n z
  · rcases List.mem_cons.mp hq with rfl | hq
    · exact hP1
    · exact x.tab q hq (O.tabs q hq)
  · exact sb a o (fun z => n (z ▸ List.mem_cons_self)) (O.top a o e fun z => n (List.mem_cons_of_mem _ z))
theorem Rp.mark {P : Addr} {ps : Array Value} {g g' : Heap} {v : Value} {d : PyData} (hP0 : g.get? P = some (tabObj ps)) (sb : ∀ b o, b ≠ P → g.get? b = some o → g'.get? b = some o) (r : Rp g v d) : Rp g' v d :=
  r.seqs fun b o hd e => sb b o (fun z => by
    rw [z, hP0] at e; cases e
    rcases hd with ⟨_, _, hd⟩ | ⟨_, _, hd⟩ <;> cases hd) e
theorem St.mark {P : Addr} {ps : Array Value} (S : St K off tb X env ρ β s) (x : ExtO tb [P] s s') (hP0 : (vis tb X s.heap).get? P = some (tabObj ps)) (hP1 : TabOk s'.heap P .any) : St K (P :: off) ((P, .any) :: tb) X env ρ β s' := by
  obtain ⟨O', sb⟩ := S.ok.mark x hP0 hP1
  obtain ⟨gP, nt, nx⟩ := vis_get hP0
  have nl : env.locals ≠ P := fun z => by
    obtain ⟨m, o, es, ep, g, d, _⟩ := S.loc
    rw [z, gP] at g; cases g; cases d
  have nl' : env.locals ∉ [P] := fun z => nl (List.mem_singleton.mp z)
  have bnd : ∀ y u, Bound env s.heap y u → Bound env s'.heap y u := fun y u b => by
    rcases b with ⟨k, m, ⟨ob, es, ep, h1, h2, h3⟩, hm⟩ | ⟨k, c, hcc, ob, h1, h2⟩
    · exact .inl ⟨k, m, ⟨ob, es, ep, x.keep _ _ S.en.nloc nl' h1, h2, h3⟩, hm⟩
    · exact .inr ⟨k, c, hcc, ob, x.keep _ _ (S.ok.cellTab ⟨ob, h1, h2⟩) (fun z => by
        rw [List.mem_singleton.mp z, gP] at h1; cases h1; cases h2) h1, h2⟩
  refine ⟨O', ⟨S.en.kind, S.en.globals, S.en.builtins, fun z => ?_, fun q hq => ?_⟩, fun q hq => bnd _ _ (S.raw q hq), ?_⟩
  · rcases List.mem_cons.mp z with z | z
    · exact nl z
    · exact S.en.nloc z
  · obtain ⟨u, b, ru⟩ := S.en.vars q hq
    exact ⟨u, bnd _ _ b, ru.mark hP0 sb⟩
  · obtain ⟨m, o, es, ep, g, r⟩ := S.loc
    exact ⟨m, o, es, ep, x.keep _ _ S.en.nloc nl' g, r⟩
end

section
variable {prog : Program} {w : World} {W : Wd} {K L : Frag} {off : List Addr} {tb : Tb} {k : Nat} {env : Env} {ρ ρ' : Rho} {β β' : Raw} {mg mb : Str → Option Value} {X : List Addr} {s s' s₀ s₁ : Shared} {A : Around}
/-- all that is seen now is held fast from now on, by name -/
theorem freeze' (o : Ok K off tb X s) (hoff : ∀ a ∈ off, a ∈ tb.map (·.1)) : ∃ L : Frag, Ok (K ++ L) off tb X s ∧ (∀ g, TopOk (K ++ L) off g → Sub (vis tb X s.heap) g) ∧ ∀ a ob, (vis tb X s.heap).get? a = some ob → (K ++ L).lookup a = some ob ∧ a ∉ off := by
  obtain ⟨L, h1, h2⟩ := frag_all (vis tb X s.heap)
  have og := o.grow h1
  refine ⟨L, og, fun g t b ob e => frozen o h1 hoff g t (b, ob) (h2 b ob e), fun a ob e => ?_⟩
  have hn : a ∉ off := fun z => (vis_get e).2.1 (hoff _ z)
  refine ⟨?_, hn⟩
  cases hl : (K ++ L).lookup a with
  | none =>
    have := List.lookup_eq_none_iff.mp hl (a, ob) (List.mem_append_right _ (h2 a ob e))
    simp at this
  | some ob' =>
    have h3 := og.top _ _ hl hn
    rw [e] at h3; exact h3.symm
end
end Mine
end
section
open PySem PySem.W PySem.Calls PyProof.Rows
set_option maxRecDepth 100000
set_option linter.all false
namespace Mine
/-- what a tree of questions answers, when lt answers -/
def Spec (n : Nat) (lt : Nat → Nat → Bool) {α : Type} : KasT α → (α → Prop) → Prop
  | .ret a, R => R a
  | .ask i j k, R => i < n ∧ j < n ∧ Spec n lt (k (lt i j)) R
theorem Spec.mono {n : Nat} {lt : Nat → Nat → Bool} {α : Type} {R R' : α → Prop} (h : ∀ a, R a → R' a) : ∀ {t : KasT α}, Spec n lt t R → Spec n lt t R'
  | .ret a, x => h a x
  | .ask i j k, x => ⟨x.1, x.2.1, Spec.mono h x.2.2⟩
theorem Spec.bind {n : Nat} {lt : Nat → Nat → Bool} {α β : Type} {R : β → Prop} {f : α → KasT β} : ∀ {t : KasT α}, Spec n lt t (fun a => Spec n lt (f a) R) → Spec n lt (t.bind f) R
  | .ret a, x => x
  | .ask i j k, x => ⟨x.1, x.2.1, Spec.bind x.2.2⟩
structure Ord (n : Nat) (lt : Nat → Nat → Bool) : Prop where
  irr : ∀ i, i < n → lt i i = false
  tr : ∀ i j k, i < n → j < n → k < n → lt i j = true → lt j k = true → lt i k = true
  tot : ∀ i j, i < n → j < n → i ≠ j → lt i j = true ∨ lt j i = true
abbrev g (p : Array Nat) (i : Nat) : Nat := p.getD i 0
theorem g_eq (p : Array Nat) (i : Nat) : g p i = (p[i]?).getD 0 := by simp [g, Array.getD_eq_getD_getElem?]
structure Pm (n : Nat) (p : Array Nat) : Prop where
  size : p.size = n
  perm : p.toList.Perm (List.range n)
section
variable {n : Nat} {lt : Nat → Nat → Bool} {p : Array Nat}
theorem Pm.bnd (h : Pm n p) {i : Nat} (hi : i < n) : g p i < n := by
  have hs : i < p.size := by rw [h.size]; exact hi
  have e : g p i = p[i] := by simp [g, Array.getD, hs]
  have : p[i] ∈ p.toList := by rw [← Array.getElem_toList]; exact List.getElem_mem _
  rw [e]
  exact List.mem_range.mp (h.perm.mem_iff.mp this)
theorem Pm.ne (h : Pm n p) {i j : Nat} (hi : i < n) (hj : j < n) (hij : i ≠ j) : g p i ≠ g p j := by
  have hs : i < p.size := by rw [h.size]; exact hi
  have hs' : j < p.size := by rw [h.size]; exact hj
  have e : g p i = p[i] := by simp [g, Array.getD, hs]
  have e' : g p j = p[j] := by simp [g, Array.getD, hs']
  have nd : p.toList.Nodup := h.perm.nodup_iff.mpr List.nodup_range
  rw [e, e']
  intro z
  have pw := List.pairwise_iff_getElem.mp nd
  rcases Nat.lt_or_gt_of_ne hij with q | q
  · exact pw i j (by simpa using hs) (by simpa using hs') q (by simpa using z)
  · exact pw j i (by simpa using hs') (by simpa using hs) q (by simpa using z.symm)
theorem Ord.no (O : Ord n lt) (h : Pm n p) {i j : Nat} (hi : i < n) (hj : j < n) (hij : i ≠ j) (x : lt (g p i) (g p j) = false) : lt (g p j) (g p i) = true := by
  rcases O.tot _ _ (h.bnd hi) (h.bnd hj) (h.ne hi hj hij) with a | a
  · rw [x] at a; cases a
  · exact a
theorem Ord.tr3 (O : Ord n lt) (h : Pm n p) {i j k : Nat} (hi : i < n) (hj : j < n) (hk : k < n) (x : lt (g p i) (g p j) = true) (y : lt (g p j) (g p k) = true) : lt (g p i) (g p k) = true := O.tr _ _ _ (h.bnd hi) (h.bnd hj) (h.bnd hk) x y
def Up (lt : Nat → Nat → Bool) (p : Array Nat) (m : Nat) : Prop := ∀ i j, i < j → j < m → lt (g p i) (g p j) = true
def Dn (lt : Nat → Nat → Bool) (p : Array Nat) (m : Nat) : Prop := ∀ i j, i < j → j < m → lt (g p j) (g p i) = true

theorem ar1 {a f n : Nat} (h : a + (f + 1) ≤ n) : a < n := Nat.lt_of_lt_of_le (Nat.lt_add_of_pos_right (Nat.succ_pos f)) h
theorem ar2 {a n : Nat} (h : a < n) : a - 1 < n := Nat.lt_of_le_of_lt (Nat.sub_le a 1) h
theorem ar3 {a : Nat} (h : 1 ≤ a) : a ≠ a - 1 := by omega
theorem ar4 {a f n : Nat} (h : a + (f + 1) ≤ n) : a + 1 + f ≤ n := by omega
theorem ar5 {i j : Nat} (h : i < j) (e : i ≠ j - 1) : i < j - 1 := by omega
theorem ar6 {i j : Nat} (h : i < j) : j - 1 < j := by omega
theorem ar7 {j a : Nat} (h : j < a + 1) (e : j ≠ a) : j < a := by omega
theorem Up.more {p : Array Nat} (O : Ord n lt) (P : Pm n p) {a : Nat} (ha : a < n) (h : Up lt p a) (h3 : lt (g p (a - 1)) (g p a) = true) : Up lt p (a + 1) := fun i j hij hj => by
  by_cases e : j = a
  · subst e
    by_cases e2 : i = j - 1
    · subst e2; exact h3
    · exact O.tr3 P (Nat.lt_trans hij ha) (ar2 ha) ha (h i (j - 1) (ar5 hij e2) (ar6 hij)) h3
  · exact h i j hij (ar7 hj e)
theorem Dn.more {p : Array Nat} (O : Ord n lt) (P : Pm n p) {a : Nat} (ha : a < n) (h : Dn lt p a) (h3 : lt (g p a) (g p (a - 1)) = true) : Dn lt p (a + 1) := fun i j hij hj => by
  by_cases e : j = a
  · subst e
    by_cases e2 : i = j - 1
    · subst e2; exact h3
    · exact O.tr3 P ha (ar2 ha) (Nat.lt_trans hij ha) h3 (h i (j - 1) (ar5 hij e2) (ar6 hij))
  · exact h i j hij (ar7 hj e)
theorem ar8 {a f m : Nat} (h : a + 1 ≤ m) : a ≤ m := Nat.le_of_succ_le h
theorem ar9 {a f m : Nat} (h : m ≤ a + 1 + f) : m ≤ a + (f + 1) := by omega
theorem ar10 {a f m : Nat} (h : m < a + (f + 1)) : m < a + 1 + f := by omega
theorem spec_asc (O : Ord n lt) (P : Pm n p) : ∀ f a : Nat, 1 ≤ a → a + f ≤ n → Up lt p a → Spec n lt (kas_asc p f a) fun m => a ≤ m ∧ m ≤ a + f ∧ Up lt p m ∧ (m < a + f → lt (g p m) (g p (m - 1)) = true)
  | 0, a, _, _, h => ⟨Nat.le_refl _, Nat.le_refl _, h, fun z => absurd z (Nat.lt_irrefl _)⟩
  | f + 1, a, h1, h2, h => by
    have ha := ar1 h2
    refine ⟨P.bnd ha, P.bnd (ar2 ha), ?_⟩
    cases hc : lt (p.getD a 0) (p.getD (a - 1) 0) with
    | true =>
      dsimp only
      rw [if_pos rfl]
      exact ⟨Nat.le_refl _, Nat.le_add_right _ _, h, fun _ => hc⟩
    | false =>
      dsimp only
      rw [if_neg Bool.false_ne_true]
      have h3 := O.no P (i := a) (j := a - 1) ha (ar2 ha) (ar3 h1) hc
      exact (spec_asc O P f (a + 1) (Nat.le_succ_of_le h1) (ar4 h2) (h.more O P ha h3)).mono fun m ⟨x1, x2, x3, x4⟩ => ⟨ar8 (f := f) x1, ar9 x2, x3, fun z => x4 (ar10 z)⟩
theorem spec_desc (O : Ord n lt) (P : Pm n p) : ∀ f a : Nat, 1 ≤ a → a + f ≤ n → Dn lt p a → Spec n lt (kas_desc f p a 0) fun r => r.1 = p ∧ a ≤ r.2.1 ∧ r.2.1 ≤ a + f ∧ r.2.2 = 0 ∧ Dn lt p r.2.1
  | 0, a, _, _, h => ⟨rfl, Nat.le_refl _, Nat.le_refl _, rfl, h⟩
  | f + 1, a, h1, h2, h => by
    have ha := ar1 h2
    refine ⟨P.bnd ha, P.bnd (ar2 ha), ?_⟩
    cases hc : lt (p.getD a 0) (p.getD (a - 1) 0) with
    | true =>
      dsimp only
      rw [if_pos rfl, if_neg (Nat.lt_irrefl 0)]
      exact (spec_desc O P f (a + 1) (Nat.le_succ_of_le h1) (ar4 h2) (h.more O P ha hc)).mono fun r ⟨x0, x1, x2, x3, x4⟩ => ⟨x0, ar8 (f := f) x1, ar9 x2, x3, x4⟩
    | false =>
      dsimp only
      rw [if_neg Bool.false_ne_true]
      refine ⟨P.bnd (ar2 ha), P.bnd ha, ?_⟩
      have h3 : lt (p.getD (a - 1) 0) (p.getD a 0) = true := O.no P (i := a) (j := a - 1) ha (ar2 ha) (ar3 h1) hc
      rw [h3]
      dsimp only
      rw [if_pos rfl]
      exact ⟨rfl, Nat.le_refl _, Nat.le_add_right a (f + 1), rfl, h⟩
theorem Pm.rev (P : Pm n p) (m : Nat) : Pm n (kas_rev p 0 m) := ⟨(kas_rev_size _ _).trans P.size, (mirror_perm p 0 m _).toList.trans P.perm⟩
theorem g_rev {m : Nat} (P : Pm n p) (hm : m ≤ n) {i : Nat} (hi : i < m) : g (kas_rev p 0 m) i = g p (m - 1 - i) := by
  rw [g_eq, g_eq]
  unfold kas_rev
  rw [getElem?_mirror_all (by rw [P.size]; exact hm), if_pos ⟨Nat.zero_le _, hi⟩]
  congr 2
  omega
/-- what a count of the first run leaves -/
def Ran (n : Nat) (lt : Nat → Nat → Bool) (r : Nat × Array Nat) : Prop := 1 ≤ r.1 ∧ r.1 ≤ n ∧ Pm n r.2 ∧ Up lt r.2 r.1
theorem dr1 {i j m : Nat} (h : i < j) (h2 : j < m) : m - 1 - j < m - 1 - i := by omega
theorem dr2 {i m : Nat} (h : i < m) : m - 1 - i < m := by omega
theorem dr3 {i j : Nat} (h : i < j) (h2 : j < 1) : False := by omega
theorem dr4 {n : Nat} (h : 1 ≤ n) : 1 + (n - 1) = n := by omega
theorem dr5 {n : Nat} (h : 2 ≤ n) : 2 + (n - 2) = n := by omega
theorem dr6 {a : Nat} (h : 1 ≤ a) (h2 : ¬ a > 1) : a = 1 := by omega
theorem dr7 {i j : Nat} (h : i < j) (h2 : j < 2) : i = 0 ∧ j = 1 := by omega
theorem spec_tail (O : Ord n lt) (P : Pm n p) {m : Nat} (h1 : 1 ≤ m) (h2 : m ≤ n) (h : Dn lt p m) : Spec n lt (kas_tail3 m n p) (Ran n lt) := by
  unfold kas_tail3
  have hm : m + (n - m) = n := Nat.add_sub_cancel' h2
  refine Spec.bind ((spec_asc O (P.rev m) (n - m) m h1 (Nat.le_of_eq hm) fun i j hij hj => ?_).mono fun a ⟨x1, x2, x3, _⟩ => ?_)
  · rw [g_rev P h2 (Nat.lt_trans hij hj), g_rev P h2 hj]
    exact h _ _ (dr1 hij hj) (dr2 (Nat.lt_trans hij hj))
  · show Ran n lt (a, kas_rev p 0 m)
    exact ⟨Nat.le_trans h1 x1, hm ▸ x2, P.rev m, x3⟩
theorem spec_count (O : Ord n lt) (P : Pm n p) (h2 : 2 ≤ n) : Spec n lt (kas_count n p) (Ran n lt) := by
  have hn : 1 ≤ n := Nat.le_of_succ_le h2
  have hm := dr4 hn
  unfold kas_count
  refine Spec.bind ((spec_asc O P (n - 1) 1 (Nat.le_refl _) (Nat.le_of_eq hm) fun i j hij hj => (dr3 hij hj).elim).mono fun a ⟨x1, x2, x3, x4⟩ => ?_)
  rw [hm] at x2 x4
  by_cases e : a = n
  · subst e
    rw [if_pos (beq_self_eq_true a)]
    exact ⟨x1, Nat.le_refl _, P, x3⟩
  · rw [if_neg (fun z => e (eq_of_beq z))]
    by_cases e2 : a > 1
    · rw [if_pos e2]
      refine ⟨P.bnd hn, P.bnd (Nat.lt_of_lt_of_le (ar6 e2) x2), ?_⟩
      have : lt (p.getD 0 0) (p.getD (a - 1) 0) = true := x3 0 (a - 1) (Nat.sub_pos_of_lt e2) (ar6 e2)
      rw [this]
      dsimp only
      rw [if_pos rfl]
      exact ⟨x1, x2, P, x3⟩
    · rw [if_neg e2]
      obtain rfl := dr6 x1 e2
      have h5 := dr5 h2
      unfold kas_descPart
      refine Spec.bind ((spec_desc O P (n - 2) 2 (Nat.le_succ 1) (Nat.le_of_eq h5) fun i j hij hj => ?_).mono fun r ⟨y0, y1, y2, y3, y4⟩ => ?_)
      · obtain ⟨rfl, rfl⟩ := dr7 hij hj
        exact x4 h2
      · rw [if_neg (Nat.not_lt_of_le (Nat.le_of_eq y3)), y0]
        exact spec_tail O P (Nat.le_of_succ_le y1) (h5 ▸ y2) y4
theorem br1 {l r k : Nat} (h : r ≤ k) (e : ¬ l ≥ r) : (l + r) / 2 < k := by omega
theorem br2 {l r : Nat} (e : ¬ l ≥ r) : l ≤ (l + r) / 2 := by omega
theorem br3 {l r f : Nat} (e : ¬ l ≥ r) (h : r - l ≤ f + 1) : (l + r) / 2 - l ≤ f := by omega
theorem br4 {l r f : Nat} (e : ¬ l ≥ r) (h : r - l ≤ f + 1) : r - ((l + r) / 2 + 1) ≤ f := by omega
theorem br5 {l r : Nat} (e : ¬ l ≥ r) : (l + r) / 2 + 1 ≤ r := by omega
theorem br6 {i m : Nat} (h : i < m + 1) (e : i ≠ m) : i < m := by omega
theorem br7 {i m : Nat} (h : m ≤ i) (e : i ≠ m) : m < i := by omega
theorem br8 {l r : Nat} (h : l ≤ r) (h2 : r - l ≤ 0) : l = r := by omega
theorem spec_place (O : Ord n lt) (P : Pm n p) {k : Nat} (hk : k < n) (hu : Up lt p k) : ∀ f l r : Nat, l ≤ r → r ≤ k → r - l ≤ f → (∀ i, i < l → lt (g p i) (g p k) = true) → (∀ i, r ≤ i → i < k → lt (g p k) (g p i) = true) →
    Spec n lt (kas_place p k f l r) fun m => m ≤ k ∧ (∀ i, i < m → lt (g p i) (g p k) = true) ∧ ∀ i, m ≤ i → i < k → lt (g p k) (g p i) = true
  | 0, l, r, h1, h2, h3, a, b => by
    obtain rfl := br8 h1 h3
    exact ⟨h2, a, b⟩
  | f + 1, l, r, h1, h2, h3, a, b => by
    unfold kas_place
    by_cases e : l ≥ r
    · rw [if_pos e]
      obtain rfl := Nat.le_antisymm h1 e
      exact ⟨h2, a, b⟩
    · rw [if_neg e]
      have hm := br1 h2 e
      have hmn := Nat.lt_trans hm hk
      refine ⟨P.bnd hk, P.bnd hmn, ?_⟩
      cases hc : lt (p.getD k 0) (p.getD ((l + r) / 2) 0) with
      | true =>
        dsimp only
        rw [if_pos rfl]
        refine spec_place O P hk hu f l ((l + r) / 2) (br2 e) (Nat.le_of_lt hm) (br3 e h3) a fun i h4 h5 => ?_
        by_cases e2 : i = (l + r) / 2
        · rw [e2]; exact hc
        · exact O.tr3 P hk hmn (Nat.lt_trans h5 hk) hc (hu _ _ (br7 h4 e2) h5)
      | false =>
        dsimp only
        rw [if_neg Bool.false_ne_true]
        have h6 := O.no P (i := k) (j := (l + r) / 2) hk hmn (Nat.ne_of_gt hm) hc
        refine spec_place O P hk hu f ((l + r) / 2 + 1) r (br5 e) h2 (br4 e h3) (fun i h4 => ?_) b
        by_cases e2 : i = (l + r) / 2
        · rw [e2]; exact h6
        · have h7 := br6 h4 e2
          exact O.tr3 P (Nat.lt_trans h7 hmn) hmn hk (hu _ _ h7 hm) h6
theorem g_bubble {k l : Nat} (P : Pm n p) (hk : k < n) (hl : l ≤ k) (i : Nat) : g (bubble p k (k - l)) i = if i = l then g p k else if l < i ∧ i ≤ k then g p (i - 1) else g p i := by
  rw [g_eq, getElem?_bubble (by rw [P.size]; exact hk) (k - l) (Nat.sub_le k l), Nat.sub_sub_self hl]
  split
  · rw [g_eq]
  · split
    · rw [g_eq]
    · rw [g_eq]
theorem cr1 {i j k : Nat} (h : i < j) (hj : j < k + 1) : j - 1 < k := by omega
theorem cr2 {l j : Nat} (h : l < j) : l ≤ j - 1 := by omega
theorem cr3 {i l k : Nat} (h : i < l) (h2 : l ≤ k) : i < k := Nat.lt_of_lt_of_le h h2
theorem cr4 {i j l : Nat} (h : i < j) (h2 : l < i) : i - 1 < j - 1 := by omega
theorem cr5 {i l : Nat} (h : i ≠ l) (h2 : ¬ l < i) : i < l := by omega
theorem Up.bub {p : Array Nat} (P : Pm n p) {k l : Nat} (hk : k < n) (u : Up lt p k) (x1 : l ≤ k) (x2 : ∀ i, i < l → lt (g p i) (g p k) = true) (x3 : ∀ i, l ≤ i → i < k → lt (g p k) (g p i) = true) : Up lt (bubble p k (k - l)) (k + 1) := fun i j hij hj => by
  rw [g_bubble P hk x1, g_bubble P hk x1]
  have hjk := Nat.le_of_lt_succ hj
  by_cases ei : i = l
  · subst ei
    rw [if_pos rfl, if_neg (Nat.ne_of_gt hij), if_pos ⟨hij, hjk⟩]
    exact x3 _ (cr2 hij) (cr1 hij hj)
  · rw [if_neg ei]
    by_cases ej : j = l
    · subst ej
      rw [if_pos rfl, if_neg (fun z => Nat.lt_asymm z.1 hij)]
      exact x2 _ hij
    · rw [if_neg ej]
      by_cases ei2 : l < i
      · rw [if_pos ⟨ei2, Nat.le_trans (Nat.le_of_lt hij) hjk⟩, if_pos ⟨Nat.lt_trans ei2 hij, hjk⟩]
        exact u _ _ (cr4 hij ei2) (cr1 hij hj)
      · rw [if_neg (fun z => ei2 z.1)]
        have hil := cr5 ei ei2
        by_cases ej2 : l < j
        · rw [if_pos ⟨ej2, hjk⟩]
          exact u _ _ (Nat.lt_of_lt_of_le hil (cr2 ej2)) (cr1 hij hj)
        · rw [if_neg (fun z => ej2 z.1)]
          exact u _ _ hij (cr3 (cr5 ej ej2) x1)
theorem spec_bin (O : Ord n lt) : ∀ (f k : Nat) (p : Array Nat), Pm n p → k + f = n → Up lt p k → Spec n lt (kas_bin f p k) fun p' => Pm n p' ∧ Up lt p' n
  | 0, k, p, P, h, u => by
    obtain rfl : k = n := h
    exact ⟨P, u⟩
  | f + 1, k, p, P, h, u => by
    have hk : k < n := ar1 (Nat.le_of_eq h)
    unfold kas_bin
    refine Spec.bind ((spec_place O P hk u k 0 k (Nat.zero_le _) (Nat.le_refl _) (Nat.le_refl _) (fun i hi => absurd hi (Nat.not_lt_zero _)) (fun i h1 h2 => absurd h2 (Nat.not_lt_of_le h1))).mono fun l ⟨x1, x2, x3⟩ => ?_)
    exact spec_bin O f (k + 1) _ ⟨(bubble_size _ _ _).trans P.size, (bubble_perm p k _).toList.trans P.perm⟩ ((Nat.add_right_comm k 1 f).trans h) (u.bub P hk x1 x2 x3)
theorem pm_range : Pm n (List.toArray (List.range n)) := ⟨by simp, by simp⟩
theorem spec_sort (O : Ord n lt) (h2 : 2 ≤ n) : Spec n lt (kas_sort n) fun p => Pm n p ∧ Up lt p n := by
  unfold kas_sort
  refine Spec.bind ((spec_count O pm_range h2).mono fun r ⟨x1, x2, x3, x4⟩ => ?_)
  by_cases e : r.1 < n
  · rw [if_pos e, Nat.max_eq_left x1]
    exact spec_bin O _ _ _ x3 (Nat.add_sub_cancel' x2) x4
  · rw [if_neg e]
    exact ⟨x3, Nat.le_antisymm x2 (Nat.le_of_not_lt e) ▸ x4⟩
theorem up_pairwise (P : Pm n p) (u : Up lt p n) : p.toList.Pairwise fun a b => lt a b = true := by
  rw [List.pairwise_iff_getElem]
  intro i j hi hj hij
  have hi' : i < p.size := by simpa using hi
  have hj' : j < p.size := by simpa using hj
  have := u i j hij (by rw [← P.size]; exact hj')
  simpa [g, Array.getD, hi', hj'] using this
end
end Mine
end
section
open PySem PySem.W PySem.Calls PyProof.Rows
set_option maxRecDepth 100000
set_option linter.all false
namespace Mine
theorem t1 {n i l : Nat} (h : n + i = l + 1) (h2 : i < l) : n - 1 < n := by omega
theorem t2 {n i l : Nat} (h : n + i = l + 1) (h2 : i < l) : n - 1 + (i + 1) = l + 1 := by omega
theorem sm0 {i : Nat} (h : i ≤ 99) : ((i : Nat) : Int) < 2 ^ 62 := by omega
theorem sm3 {u : Int} {i : Nat} (h : i ≤ 99) (h2 : u < (i : Nat)) : u < 2 ^ 62 := by omega
theorem sm1 {k n : Nat} (h : k < n) (h2 : n ≤ 99) : ((k : Nat) : Int) < 2 ^ 62 := by omega
theorem sm2 {j : Int} {n : Nat} (h0 : 0 ≤ j) (h : j.toNat < n) (h2 : n ≤ 99) : j < 2 ^ 62 := by omega
theorem snd_inj : ∀ {l : List (Str × Addr)}, (l.map (·.2)).Nodup → ∀ {p q : Str × Addr}, p ∈ l → q ∈ l → p.2 = q.2 → p = q
  | [], _, _, _, h, _, _ => nomatch h
  | a :: l, h, p, q, hp, hq, e => by
    rw [List.map_cons, List.nodup_cons] at h
    rcases List.mem_cons.mp hp with e1 | hp'
    · rcases List.mem_cons.mp hq with e2 | hq'
      · rw [e1, e2]
      · exact absurd (show a.2 ∈ l.map (·.2) from e1 ▸ e ▸ List.mem_map_of_mem hq') h.1
    · rcases List.mem_cons.mp hq with e2 | hq'
      · exact absurd (show a.2 ∈ l.map (·.2) from e2 ▸ e ▸ List.mem_map_of_mem hp') h.1
      · exact snd_inj h.2 hp' hq' e
theorem uniq_of_nodup {l : List (Str × Addr)} (h : (l.map (·.2)).Nodup) {x y : Str} {c : Addr} (h1 : l.lookup x = some c) (h2 : l.lookup y = some c) : x = y :=
  congrArg Prod.fst (snd_inj h (PySem.mem_of_lookup h1) (PySem.mem_of_lookup h2) rfl)
/-- four that differ -/
theorem nd4 {a b c d : Addr} (n1 : a ≠ b) (n2 : a ≠ c) (n3 : a ≠ d) (n4 : b ≠ c) (n5 : b ≠ d) (n6 : c ≠ d) : [a, b, c, d].Nodup := by
  simp only [List.nodup_cons, List.mem_cons, List.not_mem_nil, or_false, not_or, List.nodup_nil, not_false_eq_true, and_true]
  exact ⟨⟨n1, n2, n3⟩, ⟨n4, n5⟩, n6⟩
theorem nd4n (L : Nat) : ([L + 1 + 1 + 1, L + 1 + 1, L + 1, L] : List Addr).Nodup := by
  have h : ∀ a b : Nat, b < a → @Ne Addr a b := fun a b h => Nat.ne_of_gt h
  have z := Nat.lt_succ_self
  exact nd4 (h _ _ (z _)) (h _ _ (Nat.lt_succ_of_lt (z _))) (h _ _ (Nat.lt_succ_of_lt (Nat.lt_succ_of_lt (z _)))) (h _ _ (z _)) (h _ _ (Nat.lt_succ_of_lt (z _))) (h _ _ (z _))
theorem nd5 {E I U N O : Nat} (h1 : U < N) (h2 : N < O) (h3 : O < I) (h4 : I < E) : ([E, I, U, N, O] : List Addr).Nodup := by
  have h : ∀ a b : Nat, b < a → @Ne Addr a b := fun a b h => Nat.ne_of_gt h
  have h' : ∀ a b : Nat, a < b → @Ne Addr a b := fun a b h => Nat.ne_of_lt h
  simp only [List.nodup_cons, List.mem_cons, List.not_mem_nil, or_false, not_or, List.nodup_nil, not_false_eq_true, and_true]
  have a2 := Nat.lt_trans h2 h3
  have a1 := Nat.lt_trans h1 a2
  exact ⟨⟨h _ _ h4, h _ _ (Nat.lt_trans a1 h4), h _ _ (Nat.lt_trans a2 h4), h _ _ (Nat.lt_trans h3 h4)⟩, ⟨h _ _ a1, h _ _ a2, h _ _ h3⟩, ⟨h' _ _ h1, h' _ _ (Nat.lt_trans h1 h2)⟩, h' _ _ h2⟩
theorem Rp.ofTuple {h : Heap} {a : Addr} {vs : List Value} {ds : List PyData} {o : Obj} {n : Nat} (e1 : h.get? a = some o) (e2 : o.cls = .type "tuple") (e3 : o.data = .seq vs.toArray n) (x : RpAll h vs ds) : Rp h (.ref a) (.tuple ds) := by
  obtain ⟨as, r⟩ := x
  exact ⟨_, .tuple e1 e2 e3 (by simpa using r)⟩
theorem Rp.isTuple {h : Heap} {v : Value} {ds : List PyData} (x : Rp h v (.tuple ds)) : ∃ a vs, v = .ref a ∧ h.IsTuple a vs.toArray ∧ RpAll h vs ds := by
  obtain ⟨as, r⟩ := x
  cases r with
  | tuple e1 e2 e3 e4 => rename_i a o vs n; exact ⟨a, vs.toList, rfl, ⟨o, e1, e2, n, by simpa using e3⟩, _, e4⟩
section
variable {prog : Program} {w : World} {W : Wd} {K L : Frag} {off : List Addr} {tb : Tb} {k : Nat} {env : Env} {ρ ρ' : Rho} {β β' : Raw} {mg mb : Str → Option Value} {X : List Addr} {s s' s₀ s₁ : Shared} {A : Around}

/-- one list of one's own is changed -/
theorem ExtO.oneList {U : Addr} {us : Array Value} {h' : Heap} {t : Nat} (g : s.heap.PlainList U us) (hn : U ∉ tb.map (·.1)) (sb : Heap.SameBut U s.heap h') : ExtO tb [U] s { s with heap := h', toks := t } := by
  obtain ⟨n, g⟩ := g
  exact ⟨fun b o _ m e => sb.extBut b o (fun z => m (List.mem_singleton.mpr z)) e, fun q hq z => z.but sb.extBut g (noCode_seq rfl) (ne_of_tab hn hq), rfl, rfl⟩

theorem eval_append {o e : Expr} {p2 p3 : Pos} {U : Addr} {us : List Value} {P : Value → Shared → Prop} {Q : Value → Shared → Prop}
    (ho : ∀ Q : Value → Shared → Prop, (∀ s₁, Ext tb s s₁ → Q (.ref U) s₁) → wpAny (model prog w) A (eval o env) Q NoE s)
    (gU : s.heap.PlainList U us.toArray) (hn : U ∉ tb.map (·.1)) (hz : us.length ≤ 1000)
    (he : ∀ (s₁ : Shared) (Q : Value → Shared → Prop), Ext tb s s₁ → (∀ v s', Ext tb s₁ s' → P v s' → Q v s') → wpAny (model prog w) A (eval e env) Q NoE s₁)
    (h : ∀ v s₁ h', P v s₁ → Ext tb s s₁ → Heap.SameBut U s₁.heap h' → h'.PlainList U (us ++ [v]).toArray → Q .none { s₁ with heap := h' })
    (hbase : attributeBase o "append" env (eval o env) = eval o env := by rfl) (hline : (p2.endLine == p3.line) = true := by rfl)
    (hst : starEach [e] env = [(false, eval e env)] := by rfl) :
    wpAny (model prog w) A (eval (.Call (.Attribute o "append" p2) [e] [] p3) env) Q NoE s := by
  refine wpAny_Call_method hbase (by rw [hst]; rfl) hline F.plainAttrs_list slot_list_append F.type_list_append (ho _ fun s₁ e₁ => ?_)
  have g1 : s₁.heap.PlainList U us.toArray := let ⟨n, g⟩ := gU; ⟨n, e₁.keep _ _ hn g⟩
  refine ⟨let ⟨n, g⟩ := g1; ⟨_, g, rfl⟩, fun a e => by cases e; exact let ⟨n, g⟩ := g1; ⟨_, g, rfl⟩, ?_⟩
  rw [hst]
  refine callWith_builtin rfl (evalArgs_plain (spliced_cons (he s₁ _ e₁ fun v s₂ e₂ p => spliced_nil ?_)))
  have g2 : s₂.heap.PlainList U us.toArray := let ⟨n, g⟩ := g1; ⟨n, e₂.keep _ _ hn g⟩
  have hz' : sizeLine = 2 ^ 24 := rfl
  exact wpAny_list_append_plain g2 (fun h' g' sb => h v s₂ h' p (e₁.trans e₂) sb (by simpa using g')) (by rw [List.size_toArray]; omega)

theorem eval_insert {o e f : Expr} {p2 p3 : Pos} {U : Addr} {us : List Value} {x y : Int} {Q : Value → Shared → Prop}
    (ho : ∀ Q : Value → Shared → Prop, (∀ s₁, Ext tb s s₁ → Q (.ref U) s₁) → wpAny (model prog w) A (eval o env) Q NoE s)
    (gU : s.heap.PlainList U us.toArray) (hn : U ∉ tb.map (·.1)) (hz : us.length ≤ 1000) (hx : 0 ≤ x) (hi : x.toNat ≤ us.length)
    (he : ∀ (s₁ : Shared) (Q : Value → Shared → Prop), Ext tb s s₁ → (∀ t s', Ext tb s₁ s' → Q (.int x t) s') → wpAny (model prog w) A (eval e env) Q NoE s₁)
    (hf : ∀ (s₁ : Shared) (Q : Value → Shared → Prop), Ext tb s s₁ → (∀ t s', Ext tb s₁ s' → Q (.int y t) s') → wpAny (model prog w) A (eval f env) Q NoE s₁)
    (h : ∀ t s₁ h', Ext tb s s₁ → Heap.SameBut U s₁.heap h' → h'.PlainList U (us.take x.toNat ++ .int y t :: us.drop x.toNat).toArray → Q .none { s₁ with heap := h' })
    (hbase : attributeBase o "insert" env (eval o env) = eval o env := by rfl) (hline : (p2.endLine == p3.line) = true := by rfl)
    (hst : starEach [e, f] env = [(false, eval e env), (false, eval f env)] := by rfl) :
    wpAny (model prog w) A (eval (.Call (.Attribute o "insert" p2) [e, f] [] p3) env) Q NoE s := by
  refine wpAny_Call_method hbase (by rw [hst]; rfl) hline F.plainAttrs_list F.slot_list_insert F.type_list_insert (ho _ fun s₁ e₁ => ?_)
  have g1 : s₁.heap.PlainList U us.toArray := let ⟨n, g⟩ := gU; ⟨n, e₁.keep _ _ hn g⟩
  refine ⟨let ⟨n, g⟩ := g1; ⟨_, g, rfl⟩, fun a e => by cases e; exact let ⟨n, g⟩ := g1; ⟨_, g, rfl⟩, ?_⟩
  rw [hst]
  refine callWith_builtin rfl (evalArgs_plain (spliced_cons (he s₁ _ e₁ fun t s₂ e₂ => spliced_cons (hf s₂ _ (e₁.trans e₂) fun t' s₃ e₃ => spliced_nil ?_))))
  obtain ⟨n, g2⟩ := g1
  have g3 := e₃.keep _ _ hn (e₂.keep _ _ hn g2)
  have hz' : sizeLine = 2 ^ 24 := rfl
  have hfit : ¬(!Builtin.List.listFitsIndex x) = true := by
    have h1 : (-(2 ^ 63 : Int) ≤ x) := by omega
    have h2 : (x < 2 ^ 63) := by omega
    have : Builtin.List.listFitsIndex x = true := by
      unfold Builtin.List.listFitsIndex
      rw [decide_eq_true h1, decide_eq_true h2]; rfl
    simp [this]
  have hsz : us.toArray.size ≤ sizeLine := by rw [List.size_toArray]; exact Nat.le_trans hz (by rw [hz']; decide)
  show wpAny (model prog w) _ (call (.builtin "list.insert") [.ref U, .int x t, .int y t']) _ _ _
  refine call_meets F.slot_list_insert ⟨_, g3, rfl⟩ F.entry_list_insert (F.args_list_insert_3 _ _ _) (AutoSeq1.list_insert_list_int_val_1 U us.toArray n x t _ hfit hsz) ⟨g3, ?_⟩
  have e1 : (if x < 0 then (x + (us.toArray.size : Int)).toNat else min x.toNat us.toArray.size) = x.toNat := by
    rw [if_neg (by omega), List.size_toArray]; omega
  have e2 := get?_update_seq (c := "list") g3 fun xs => have k := if x < 0 then (x + (xs.size : Int)).toNat else min x.toNat xs.size; (xs.extract 0 k).push (Value.int y t') ++ xs.extract k
  dsimp only at e2
  rw [e1, kl_ins_eq] at e2
  exact h t' s₃ _ ((e₁.trans e₂).trans e₃) (Heap.SameBut.update s₃.heap U _) ⟨_, e2⟩
end
end Mine
end
section
open PySem PySem.W PySem.Calls PyProof.Rows
set_option maxRecDepth 100000
set_option linter.all false
namespace Mine
/-- n letters m -/
def ms (n : Nat) : Str := ⟨(List.replicate n ("m" : Str).cps).foldl (· ++ ·) #[]⟩
structure Dr where
  ups : List Int
  names : List Str
  order : List Int
def dpart (D : Dr) (u : Int) : Str := if 0 ≤ u then D.names.getD u.toNat "" ++ "." else ""
def drUp (k : Nat) (x : Int) : Int := x.fmod ((k : Nat) + 1) - 1
def drPl (k : Nat) (x : Int) : Int := (x.fdiv ((k : Nat) + 1)).fmod ((k : Nat) + 1)
def drStep (D : Dr) (k : Nat) (x : Int) : Dr :=
  { ups := D.ups ++ [drUp k x], names := D.names ++ [dpart D (drUp k x) ++ ms (k + 1)], order := D.order.take (drPl k x).toNat ++ ((k : Nat) : Int) :: D.order.drop (drPl k x).toNat }
def drAt (xs : List Int) : Nat → Dr
  | 0 => ⟨[], [], []⟩
  | i + 1 => drStep (drAt xs i) i (xs.getD i 0)
theorem drUp_lo (k : Nat) (x : Int) : -1 ≤ drUp k x := by
  have := Int.fmod_nonneg_of_pos x (show (0 : Int) < (k : Nat) + 1 by omega)
  unfold drUp; omega
theorem drUp_hi (k : Nat) (x : Int) : drUp k x < (k : Nat) := by
  have := Int.fmod_lt_of_pos x (show (0 : Int) < (k : Nat) + 1 by omega)
  unfold drUp; omega
theorem drPl_lo (k : Nat) (x : Int) : 0 ≤ drPl k x := Int.fmod_nonneg_of_pos _ (by omega)
theorem drPl_hi (k : Nat) (x : Int) : (drPl k x).toNat ≤ k := by
  have := Int.fmod_lt_of_pos (x.fdiv ((k : Nat) + 1)) (show (0 : Int) < (k : Nat) + 1 by omega)
  have := drPl_lo k x
  unfold drPl at *; omega
theorem drAt_len (xs : List Int) : ∀ i, (drAt xs i).ups.length = i ∧ (drAt xs i).names.length = i ∧ (drAt xs i).order.length = i
  | 0 => ⟨rfl, rfl, rfl⟩
  | i + 1 => by
    obtain ⟨a, b, c⟩ := drAt_len xs i
    have h := drPl_hi i (xs.getD i 0)
    refine ⟨by simp [drAt, drStep, a], by simp [drAt, drStep, b], ?_⟩
    simp only [drAt, drStep]
    rw [List.length_append, List.length_cons, List.length_take, List.length_drop, c]; omega
theorem m_cps : ("m" : Str).cps = #[109] := by decide +kernel
theorem fold_toList : ∀ (l : List (Array Nat)) (acc : Array Nat), (l.foldl (· ++ ·) acc).toList = acc.toList ++ (l.map Array.toList).flatten
  | [], acc => by simp
  | a :: l, acc => by rw [List.foldl_cons, fold_toList l]; simp
theorem tl_ms (n : Nat) : tl (ms n) = List.replicate n 109 := by
  show ((List.replicate n ("m" : Str).cps).foldl (· ++ ·) #[]).toList = _
  rw [fold_toList, m_cps]
  simp
theorem len_tl (x : Str) : x.length = (tl x).length := by
  show x.cps.size = _
  simp
theorem ms_length (n : Nat) : (ms n).length = n := by rw [len_tl, tl_ms, List.length_replicate]
theorem nl1 {a i : Nat} (h : i + 1 ≤ 15) (h2 : a ≤ 20 * i + 1) : a + (i + 1) ≤ 20 * (i + 1) := by omega
theorem names_len (xs : List Int) : ∀ i, i ≤ 15 → ∀ j, ((drAt xs i).names.getD j "").length ≤ 20 * i
  | 0, _, j => by
    have : ([] : List Str).getD j "" = "" := by simp
    show (([] : List Str).getD j "").length ≤ _
    rw [this]; exact Nat.le_refl _
  | i + 1, hi, j => by
    have ih := names_len xs i (Nat.le_of_succ_le hi)
    have e0 : ("" : Str).length = 0 := by decide +kernel
    have e1 : ("." : Str).length = 1 := by decide +kernel
    have up : 20 * i ≤ 20 * (i + 1) := Nat.mul_le_mul_left 20 (Nat.le_succ i)
    simp only [drAt, drStep]
    have hd : (dpart (drAt xs i) (drUp i (xs.getD i 0))).length ≤ 20 * i + 1 := by
      unfold dpart
      split
      · rw [Str.length_append, e1]; exact Nat.succ_le_succ (ih _)
      · rw [e0]; exact Nat.zero_le _
    by_cases hj : j < (drAt xs i).names.length
    · have := ih j
      rw [List.getD_eq_getElem?_getD] at this ⊢
      rw [List.getElem?_append_left hj]; exact Nat.le_trans this up
    · rw [List.getD_eq_getElem?_getD, List.getElem?_append_right (Nat.le_of_not_lt hj)]
      cases j - (drAt xs i).names.length with
      | zero =>
        simp only [List.getElem?_cons_zero, Option.getD_some]
        rw [Str.length_append, ms_length]; exact nl1 hi hd
      | succ m =>
        rw [List.getElem?_cons_succ, List.getElem?_nil, Option.getD_none, e0]; exact Nat.zero_le _
end Mine
end
section
open PySem PySem.W PySem.Calls PyProof.Rows
set_option maxRecDepth 100000
set_option linter.all false
namespace Mine
abbrev dints (xs : List Int) : List PyData := xs.map .int
/-- values that are data in every heap -/
def Bare (vs : List Value) (ds : List PyData) : Prop := ∀ h : Heap, RpAll h vs ds
section
variable {prog : Program} {w : World} {W : Wd} {K L : Frag} {off : List Addr} {tb : Tb} {k : Nat} {env : Env} {ρ ρ' : Rho} {β β' : Raw} {mg mb : Str → Option Value} {X : List Addr} {s s' s₀ s₁ : Shared} {A : Around}

theorem op_ge_int {a b : Int} : OpC prog w K off tb k .GtE (.int a) (.int b) (decide (b ≤ a)) := by
  intro A X s Q v u hR hO r q h
  obtain ⟨t, rfl⟩ := r.int; obtain ⟨t', rfl⟩ := q.int
  exact PyProof.Rows.ge_int (h _ (.refl _ _))
theorem op_lt_int {a b : Int} : OpC prog w K off tb k .Lt (.int a) (.int b) (decide (a < b)) := by
  intro A X s Q v u hR hO r q h
  obtain ⟨t, rfl⟩ := r.int; obtain ⟨t', rfl⟩ := q.int
  exact PyProof.Rows.lt_int (h _ (.refl _ _))
theorem op_mul_m {n : Nat} (h1 : 1 ≤ n) (h2 : n ≤ 1000) : OpB prog w K off tb k .Mult (.str "m") (.int (n : Nat)) (.str (ms n)) := by
  intro A X s Q v u hR hO r q h
  obtain ⟨t, rfl⟩ := r.str; obtain ⟨t', rfl⟩ := q.int
  have e1 : ("m" : Str).length = 1 := by decide +kernel
  have lo : ¬ ((n : Nat) : Int) < -(2 ^ 63 : Int) := by omega
  have hi : ¬ ((n : Nat) : Int) ≥ 2 ^ 63 := by omega
  refine P.mul_str (by rw [decide_eq_false lo, decide_eq_false hi]; rfl) (fun _ _ => ?_) (fun _ _ => ?_) ?_
  · rw [e1]
    have : (1 : Int) ≤ (2 ^ 63 - 1) / ((n : Nat) : Int) := by
      rw [Int.le_ediv_iff_mul_le (by omega)]; omega
    exact fun z => absurd this (Int.not_le.mpr z)
  · rw [e1, Int.toNat_natCast]
    unfold Builtin.Str.tooLong
    have : sizeLine = 2 ^ 24 := rfl
    exact decide_eq_false (by omega)
  · rw [if_neg (by omega), e1]
    by_cases hn : n = 1
    · subst hn
      rw [if_pos (by rfl)]
      exact h _ _ (.refl _ _) (by have : ms 1 = "m" := by decide +kernel
                                  rw [this]; exact .mkStr)
    · rw [if_neg (by simp; omega), Int.toNat_natCast]
      refine ⟨?_, h _ _ (ext_tok _ _) .mkStr⟩
      have : sizeLine = 2 ^ 24 := rfl
      rw [show (⟨(List.replicate n ("m" : Str).cps).foldl (· ++ ·) #[]⟩ : Str) = ms n from rfl, ms_length]; omega
/-- one more name that is seen -/
theorem EnvOk.more {x : Str} {v : Value} {d : PyData} (e : EnvOk tb X env ρ s) (b : Bound env s.heap x v) (r : Rp (vis tb X s.heap) v d) : EnvOk tb X env ((x, d) :: ρ) s :=
  ⟨e.kind, e.globals, e.builtins, e.nloc, List.forall_mem_cons.mpr ⟨⟨v, b, r⟩, e.vars⟩⟩
end
end Mine
end
section
open PySem PySem.W PySem.Calls PyProof.Rows
set_option maxRecDepth 100000
set_option linter.all false
namespace Mine
section
variable {prog : Program} {w : World} {W : Wd} {K L : Frag} {off : List Addr} {tb : Tb} {k : Nat} {env : Env} {ρ ρ' : Rho} {β β' : Raw} {mg mb : Str → Option Value} {X : List Addr} {s s' s'' s₀ s₁ : Shared} {A : Around}

theorem ExtO.made {Y : List Addr} {h' : Heap} {t : Nat} (kp : ∀ b o, b ∉ Y → s.heap.get? b = some o → h'.get? b = some o) (nc : ∀ b ∈ Y, ∀ o, s.heap.get? b = some o → NoCode o) (nt : ∀ b ∈ Y, b ∉ tb.map (·.1)) : ExtO tb Y s { s with heap := h', toks := t } := by
  refine ⟨fun b o _ m e => kp b o m e, fun q hq z => ?_, rfl, rfl⟩
  have hqy : q.1 ∉ Y := fun z => nt _ z (List.mem_map_of_mem hq)
  cases hq2 : q.2 with
  | code q2 =>
    rw [hq2] at z
    obtain ⟨ps, z1, z2, z3⟩ := z
    refine ⟨ps, kp _ _ hqy z1, z2, fun pos cv hc => ?_⟩
    obtain ⟨c, o, vs, t, r1, r2, r3, r4⟩ := z3 pos cv hc
    exact ⟨c, o, vs, t, r1, kp c o (fun z => nc c z o r2 vs q2 t r3 r4) r2, r3, r4⟩
  | own G => rw [hq2] at z; obtain ⟨o, es, n, z1, z2⟩ := z; exact ⟨o, es, n, kp _ _ hqy z1, z2⟩
  | any => rw [hq2] at z; obtain ⟨ps, z1, z2⟩ := z; exact ⟨ps, kp _ _ hqy z1, z2⟩
theorem ExtO.over {Y Z : List Addr} (x : ExtO tb Z s s') (y : ExtO tb Y s' s'') (hY : ∀ z ∈ Y, z ∈ Z ∨ s.heap.get? z = none) : ExtO tb Z s s'' :=
  ⟨fun b o n m g => y.keep b o n (fun z => (hY b z).elim m fun e => by rw [g] at e; cases e) (x.keep b o n m g), fun q hq z => y.tab q hq (x.tab q hq z), y.gens.trans x.gens, y.os.trans x.os⟩

/-- the private things of _law_drawn -/
structure DP (h : Heap) (E I l U N O : Addr) (i : Nat) (us ns os : List Value) : Prop where
  en : ∃ old, IsEnum h E I ((i : Nat) : Int) old
  it : h.IsListIter I l i
  u : h.PlainList U us.toArray
  n : h.PlainList N ns.toArray
  o : h.PlainList O os.toArray
theorem DP.keeps {h h' : Heap} {E I l U N O : Addr} {i : Nat} {us ns os : List Value} (x : DP h E I l U N O i us ns os) (k : ∀ b ∈ [E, I, U, N, O], ∀ o, h.get? b = some o → h'.get? b = some o) : DP h' E I l U N O i us ns os :=
  ⟨let ⟨a, b⟩ := x.en; ⟨a, k _ (by simp) _ b⟩, let ⟨o, a, b⟩ := x.it; ⟨o, k _ (by simp) _ a, b⟩, x.u.at (fun o e => k _ (by simp) _ e), x.n.at (fun o e => k _ (by simp) _ e), x.o.at (fun o e => k _ (by simp) _ e)⟩
theorem DP.has {h : Heap} {E I l U N O : Addr} {i : Nat} {us ns os : List Value} (x : DP h E I l U N O i us ns os) : ∀ b ∈ [E, I, U, N, O], ∃ o, h.get? b = some o := by
  obtain ⟨⟨_, a⟩, ⟨_, b, _⟩, ⟨_, c⟩, ⟨_, d⟩, ⟨_, e⟩⟩ := x
  exact List.forall_mem_cons.mpr ⟨⟨_, a⟩, all4 ⟨_, b⟩ ⟨_, c⟩ ⟨_, d⟩ ⟨_, e⟩⟩

theorem Bare.snoc {vs : List Value} {ds : List PyData} {v : Value} {d : PyData} (x : Bare vs ds) (h : ∀ g, Rp g v d) : Bare (vs ++ [v]) (ds ++ [d]) := fun g => (x g).snoc (h g)
theorem Bare.insert {vs : List Value} {ds : List PyData} {v : Value} {d : PyData} (n : Nat) (x : Bare vs ds) (h : ∀ g, Rp g v d) : Bare (vs.take n ++ v :: vs.drop n) (ds.take n ++ d :: ds.drop n) := fun g => ((x g).take n).app (.cons (h g) ((x g).drop n))
theorem Bare.length {vs : List Value} {ds : List PyData} (x : Bare vs ds) : vs.length = ds.length := (x { objs := #[] }).length

/-- a name with lists of one's own, seen as data -/
theorem list_rp {U : Addr} {us : List Value} {ds : List PyData} (g : s.heap.PlainList U us.toArray) (nt : U ∉ tb.map (·.1)) (nX : U ∉ X) (b : Bare us ds) : Rp (vis tb X s.heap) (.ref U) (.list ds) := by
  obtain ⟨n, g⟩ := g
  exact Rp.ofList (vs := us) ⟨_, vis_mk g nt nX, rfl, n, rfl⟩ (b _)
theorem eval_local {x : Str} {p : Pos} {v : Value} (S : St K off tb X env ρ β s) (h : (x, v) ∈ β) (hd : (x == ("__debug__" : Str)) = false := by decide) (hn : (x == ("__classdict__" : Str)) = false := by decide) :
    ∀ Q : Value → Shared → Prop, (∀ s₁, Ext tb s s₁ → Q v s₁) → wpAny (model prog w) A (eval (.Name x p) env) Q NoE s := fun Q h2 => bound_load S.en.kind (S.raw _ h) (h2 _ (.refl _ _)) hd hn


abbrev drβ (U N O : Addr) : Raw := [("ups", .ref U), ("names", .ref N), ("order", .ref O)]
abbrev drρ (i : Nat) (x : Int) : Rho := [("k", .int (i : Nat)), ("x", .int x)]
structure DrB (D : Dr) (us ns os : List Value) : Prop where
  u : Bare us (dints D.ups)
  n : Bare ns (sts D.names)
  o : Bare os (dints D.order)

theorem pv_up {p1 p2 p3 p4 p5 p6 p7 : Pos} {i : Nat} {x : Int} (hk : ρ.lookup ("k" : Str) = some (.int (i : Nat))) (hx : ρ.lookup ("x" : Str) = some (.int x)) :
    PV prog w K off tb k env ρ (.BinOp (.BinOp (.Name "x" p1) .Mod (.BinOp (.Name "k" p2) .Add (.Constant (.int 1) 0 p3) p4) p5) .Sub (.Constant (.int 1) 0 p6) p7) (.int (drUp i x)) :=
  pv_binop (pv_binop (pv_var hx) (pv_binop (pv_var hk) pv_int op_add_int) (op_mod_int (by omega))) pv_int op_sub_int
theorem pv_pl {p1 p2 p3 p4 p5 p6 p7 p8 p9 : Pos} {i : Nat} {x : Int} (hi : i ≤ 99) (hk : ρ.lookup ("k" : Str) = some (.int (i : Nat))) (hx : ρ.lookup ("x" : Str) = some (.int x)) :
    PV prog w K off tb k env ρ (.BinOp (.BinOp (.Name "x" p1) .FloorDiv (.BinOp (.Name "k" p2) .Add (.Constant (.int 1) 0 p3) p4) p5) .Mod (.BinOp (.Name "k" p6) .Add (.Constant (.int 1) 0 p7) p8) p9) (.int (drPl i x)) :=
  pv_binop (pv_binop (pv_var hx) (pv_binop (pv_var hk) pv_int op_add_int) (op_floordiv_int (by omega) (by omega))) (pv_binop (pv_var hk) pv_int op_add_int) (op_mod_int (by omega))
theorem sz1 {a : Nat} (h : a ≤ 20000) : a + 1 ≤ 2 ^ 24 := by omega
theorem sz2 {a i : Nat} (h : a ≤ 20000) (hi : i ≤ 99) : a + 1 + (i + 1) ≤ 2 ^ 24 := by omega
theorem sz3 {i : Nat} (hi : i ≤ 99) : 0 + (i + 1) ≤ 2 ^ 24 := by omega
theorem sz4 {u : Int} {i : Nat} (hc : 0 ≤ u) (h0 : u < (i : Nat)) : u.toNat < i := by omega
theorem pv_nm {p1 p2 p3 p4 p5 p6 p7 p8 p9 p10 p11 p12 p13 p14 p15 p16 p17 p18 p19 p20 : Pos} {i : Nat} {u : Int} {us : List Int} {D : Dr} (hi : i ≤ 99) (hl : us.length = i) (hn : D.names.length = i) (hs : ∀ j, (D.names.getD j "").length ≤ 20000) (h0 : u < (i : Nat)) (h1 : -1 ≤ u)
    (hk : ρ.lookup ("k" : Str) = some (.int (i : Nat))) (hu : ρ.lookup ("ups" : Str) = some (.list (dints (us ++ [u])))) (hnm : ρ.lookup ("names" : Str) = some (.list (sts D.names))) :
    PV prog w K off tb k env ρ (.BinOp (.IfExp (.Compare (.Subscript (.Name "ups" p1) (.Name "k" p2) p3) [.GtE] [.Constant (.int 0) 0 p4] p5) (.BinOp (.Subscript (.Name "names" p6) (.Subscript (.Name "ups" p7) (.Name "k" p8) p9) p10) .Add (.Constant (.str ".") 0 p11) p12) (.Constant (.str "") 0 p13) p14) .Add (.BinOp (.Constant (.str "m") 0 p15) .Mult (.BinOp (.Name "k" p16) .Add (.Constant (.int 1) 0 p17) p18) p19) p20) (.str (dpart D u ++ ms (i + 1))) := by
  have hz : sizeLine = 2 ^ 24 := rfl
  have e0 : ("" : Str).length = 0 := by decide +kernel
  have e1 : ("." : Str).length = 1 := by decide +kernel
  have at_ : ∀ {p1 p2 p3 : Pos}, PV prog w K off tb k env ρ (.Subscript (.Name "ups" p1) (.Name "k" p2) p3) (.int u) := fun {p1 p2 p3} =>
    pv_item (pv_var hu) (pv_var hk) (Int.natCast_nonneg i) (sm0 hi) (by
      rw [Int.toNat_natCast]
      simp [hl])
  have e2 : (i : Int) + 1 = ((i + 1 : Nat) : Int) := by push_cast; rfl
  refine pv_binop (a := .str (dpart D u)) (b := .str (ms (i + 1))) (pv_ifexp (c := decide (0 ≤ u)) (pt_cmp at_ pv_int op_ge_int) (fun hc => ?_) fun hc => ?_) (pv_binop (b := .int ((i + 1 : Nat) : Int)) pv_str ?_ (op_mul_m (Nat.succ_le_succ (Nat.zero_le i)) (Nat.le_trans (Nat.succ_le_succ hi) (by decide)))) (op_add_str ?_)
  · have hc := of_decide_eq_true hc
    unfold dpart
    rw [if_pos hc]
    refine pv_binop (pv_item (d := .str (D.names.getD u.toNat "")) (pv_var hnm) at_ hc (sm3 hi h0) ?_) pv_str (op_add_str ?_)
    · have : u.toNat < D.names.length := hn ▸ sz4 hc h0
      simp [List.getD_eq_getElem?_getD, this]
    · rw [e1, hz]; exact sz1 (hs u.toNat)
  · have hc := of_decide_eq_false hc
    unfold dpart
    rw [if_neg hc]
    exact pv_str
  · rw [← e2]
    exact pv_binop (pv_var hk) pv_int op_add_int
  · rw [ms_length]
    unfold dpart
    split
    · rw [Str.length_append, e1, hz]; exact sz2 (hs u.toNat) hi
    · rw [e0, hz]; exact sz3 hi
end
end Mine
end
section
open PySem PySem.W PySem.Calls PyProof.Rows
set_option maxRecDepth 100000
set_option maxHeartbeats 1000000
set_option linter.all false
namespace Mine
section
variable {prog : Program} {w : World} {W : Wd} {K L : Frag} {off : List Addr} {tb : Tb} {k : Nat} {env : Env} {ρ ρ' : Rho} {β β' : Raw} {mg mb : Str → Option Value} {X : List Addr} {s s' s'' s₀ s₁ : Shared} {A : Around}

theorem Rp.bareInt {g : Heap} {v : Value} {i : Int} (r : Rp g v (.int i)) : ∀ h, Rp h v (.int i) := fun h => by obtain ⟨t, rfl⟩ := r.int; exact .mkInt
theorem Rp.bareStr {g : Heap} {v : Value} {i : Str} (r : Rp g v (.str i)) : ∀ h, Rp h v (.str i) := fun h => by obtain ⟨t, rfl⟩ := r.str; exact .mkStr

/-- the three statements of the loop -/
theorem dr_body {u1 u2 u3 : Stmt} {E I l U N O : Addr} {i j : Nat} {x : Int} {D : Dr} {us ns os : List Value} {Q : Flow → Shared → Prop}
    {q1 q2 q3 q4 q5 q6 q7 q8 q9 q10 q11 q12 q13 q14 q15 q16 q17 q18 q19 q20 q21 q22 q23 q24 q25 q26 q27 q28 q29 q30 q31 q32 q33 q34 q35 q36 q37 q38 q39 q40 q41 q42 q43 q44 q45 q46 q47 q48 q49 : Pos}
    (hi : i ≤ 99) (hl : D.ups.length = i ∧ D.names.length = i ∧ D.order.length = i) (hs : ∀ j, (D.names.getD j "").length ≤ 20000)
    (hR : Room A (k + 1)) (S : St K off tb (E :: I :: U :: N :: O :: X) env (drρ i x) (drβ U N O) s) (P : DP s.heap E I l U N O j us ns os) (B : DrB D us ns os) (nd : [E, I, U, N, O].Nodup) (nX : ∀ b ∈ [E, I, U, N, O], b ∉ X ∧ b ∉ tb.map (·.1))
    (hint : interactive env = false) (hc : env.cells = []) (hloc : env.locals ∉ [E, I, U, N, O])
    (q1 : u1 = .Expr (.Call (.Attribute (.Name "ups" q1) "append" q2) [.BinOp (.BinOp (.Name "x" q3) .Mod (.BinOp (.Name "k" q4) .Add (.Constant (.int 1) 0 q5) q6) q7) .Sub (.Constant (.int 1) 0 q8) q9] [] q10) q11) (h1 : (q2.endLine == q10.line) = true)
    (q2 : u2 = .Expr (.Call (.Attribute (.Name "names" q12) "append" q13) [.BinOp (.IfExp (.Compare (.Subscript (.Name "ups" q14) (.Name "k" q15) q16) [.GtE] [.Constant (.int 0) 0 q17] q18) (.BinOp (.Subscript (.Name "names" q19) (.Subscript (.Name "ups" q20) (.Name "k" q21) q22) q23) .Add (.Constant (.str ".") 0 q24) q25) (.Constant (.str "") 0 q26) q27) .Add (.BinOp (.Constant (.str "m") 0 q28) .Mult (.BinOp (.Name "k" q29) .Add (.Constant (.int 1) 0 q30) q31) q32) q33] [] q34) q35) (h2 : (q13.endLine == q34.line) = true)
    (q3 : u3 = .Expr (.Call (.Attribute (.Name "order" q36) "insert" q37) [.BinOp (.BinOp (.Name "x" q38) .FloorDiv (.BinOp (.Name "k" q39) .Add (.Constant (.int 1) 0 q40) q41) q42) .Mod (.BinOp (.Name "k" q43) .Add (.Constant (.int 1) 0 q44) q45) q46, .Name "k" q47] [] q48) q49) (h3 : (q37.endLine == q48.line) = true)
    (hQ : ∀ s' us' ns' os', ExtO tb [U, N, O] s s' → DP s'.heap E I l U N O j us' ns' os' → DrB (drStep D i x) us' ns' os' → Q .next s') :
    wpAny (model prog w) A (execs [u1, u2, u3] env) Q NoE s := by
  have lu := B.u.length
  have ln := B.n.length
  have lo := B.o.length
  simp only [List.length_map] at lu ln lo
  obtain ⟨l1, l2, l3⟩ := hl
  have i1000 : i ≤ 1000 := Nat.le_trans hi (by decide)
  simp only [List.nodup_cons, List.mem_cons, List.not_mem_nil, or_false, not_or, List.nodup_nil, not_false_eq_true, and_true] at nd
  obtain ⟨⟨d1, d2, d3, d4⟩, ⟨d5, d6, d7⟩, ⟨d8, d9⟩, d10⟩ := nd
  have nt : ∀ b ∈ [E, I, U, N, O], b ∉ tb.map (·.1) := fun b h => (nX b h).2
  have ntU := nt U (by simp)
  have ntN := nt N (by simp)
  have ntO := nt O (by simp)
  have turn : ∀ {s₁ s₂ : Shared} {Z : Addr}, Z ∈ [U, N, O] → St K off tb (E :: I :: U :: N :: O :: X) env (drρ i x) (drβ U N O) s₁ → ExtO tb [Z] s₁ s₂ → (∃ o, s₂.heap.get? Z = some o) → St K off tb (E :: I :: U :: N :: O :: X) env (drρ i x) (drβ U N O) s₂ := fun {s₁ s₂ Z} hZ S y g => by
    have hZ' : Z ∈ [E, I, U, N, O] := List.mem_cons_of_mem _ (List.mem_cons_of_mem _ hZ)
    refine S.turn y (all1 ?_) (all1 g) (fun z => hloc (List.mem_singleton.mp z ▸ hZ')) (fun x c h => by rw [hc] at h; cases h)
    exact List.mem_append_left X (as := [E, I, U, N, O]) hZ'
  -- ups
  subst q1
  refine wpAny_execs_cons (wpAny_Expr (hi := hint) (eval_append (tb := tb) (P := fun v s => Rp s.heap v (.int (drUp i x))) (eval_local S (by simp)) P.u ntU (lu.trans l1 ▸ i1000) (fun s₁ Q e₁ h => pv_up rfl rfl A _ s₁ _ (hR.less (Nat.le_succ _)) (S.ok.ext e₁) (S.en.ext S.ok e₁) fun v s' e r => h v s' e (r.sub (vis_below _ _ _))) (fun v s₁ h' p e₁ sb gU => ?_) rfl h1))
  have y1 : ExtO tb [U] s₁ { s₁ with heap := h' } := ExtO.oneList (t := s₁.toks) (P.keeps fun b hb o => e₁.keep b o (nt b hb)).u ntU sb
  have S1 := turn (by simp) (S.ext e₁) y1 (let ⟨n, g⟩ := gU; ⟨_, g⟩)
  have P1 : DP h' E I l U N O j (us ++ [v]) ns os := by
    have P0 := P.keeps fun b hb o => e₁.keep b o (nt b hb)
    exact ⟨let ⟨a, b⟩ := P0.en; ⟨a, sb.extBut _ _ d2 b⟩, let ⟨o, a, b⟩ := P0.it; ⟨o, sb.extBut _ _ d5 a, b⟩, gU, P0.n.extBut sb.extBut (Ne.symm d8), P0.o.extBut sb.extBut (Ne.symm d9)⟩
  have B1 : Bare (us ++ [v]) (dints (D.ups ++ [drUp i x])) := by
    have := B.u.snoc p.bareInt
    simpa using this
  -- names
  subst q2
  refine wpAny_execs_cons (wpAny_Expr (hi := hint) (eval_append (s := { s₁ with heap := h' }) (tb := tb) (P := fun v s => Rp s.heap v (.str (dpart D (drUp i x) ++ ms (i + 1)))) (eval_local S1 (by simp)) P1.n ntN (ln.trans l2 ▸ i1000) (fun s₂ Q e₂ h => ?_) (fun v2 s₂ h₂ p₂ e₂ sb₂ gN => ?_) rfl h2))
  · have P2 := P1.keeps fun b hb o => e₂.keep b o (nt b hb)
    have S2 := S1.ext e₂
    have sub : ∀ z ∈ E :: I :: O :: X, z ∈ E :: I :: U :: N :: O :: X := fun z hz => by
      simp only [List.mem_cons] at hz ⊢
      rcases hz with z | z | z | z
      · exact .inl z
      · exact .inr (.inl z)
      · exact .inr (.inr (.inr (.inr (.inl z))))
      · exact .inr (.inr (.inr (.inr (.inr z))))
    have nU : U ∉ E :: I :: O :: X := fun z => by
      simp only [List.mem_cons] at z
      rcases z with z | z | z | z
      · exact d2 z.symm
      · exact d5 z.symm
      · exact d9 z
      · exact (nX U (by simp)).1 z
    have nN : N ∉ E :: I :: O :: X := fun z => by
      simp only [List.mem_cons] at z
      rcases z with z | z | z | z
      · exact d3 z.symm
      · exact d6 z.symm
      · exact d10 z
      · exact (nX N (by simp)).1 z
    refine pv_nm (us := D.ups) (D := D) hi l1 l2 hs (drUp_hi _ _) (drUp_lo _ _) rfl rfl rfl A (E :: I :: O :: X) s₂ _ (hR.less (Nat.le_succ _)) (S2.ok.less sub)
      (((S2.en.less sub).more (S2.raw ("names", .ref N) (by simp)) (list_rp P2.n ntN nN B.n)).more (S2.raw ("ups", .ref U) (by simp)) (list_rp P2.u ntU nU B1)) fun v s' e r => h v s' e (r.sub (vis_below _ _ _))
  have P2 := P1.keeps fun b hb o => e₂.keep b o (nt b hb)
  have y2 : ExtO tb [N] s₂ { s₂ with heap := h₂ } := ExtO.oneList (t := s₂.toks) P2.n ntN sb₂
  have S2 := turn (by simp) (S1.ext e₂) y2 (let ⟨n, g⟩ := gN; ⟨_, g⟩)
  have P3 : DP h₂ E I l U N O j (us ++ [v]) (ns ++ [v2]) os :=
    ⟨let ⟨a, b⟩ := P2.en; ⟨a, sb₂.extBut _ _ d3 b⟩, let ⟨o, a, b⟩ := P2.it; ⟨o, sb₂.extBut _ _ d6 a, b⟩, P2.u.extBut sb₂.extBut d8, gN, P2.o.extBut sb₂.extBut (Ne.symm d10)⟩
  -- order
  subst q3
  have hpl := drPl_hi i x
  refine wpAny_execs_cons (wpAny_Expr (hi := hint) (eval_insert (s := { s₂ with heap := h₂ }) (tb := tb) (x := drPl i x) (y := (i : Nat)) (eval_local S2 (by simp)) P3.o ntO (lo.trans l3 ▸ i1000) (drPl_lo _ _) (lo.trans l3 ▸ hpl) (fun s₃ Q e₃ h => ?_) (fun s₃ Q e₃ h => ?_) (fun t s₃ h₃ e₃ sb₃ gO => ?_) rfl h3))
  · exact pv_pl hi rfl rfl A _ s₃ _ (hR.less (Nat.le_succ _)) (S2.ok.ext e₃) (S2.en.ext S2.ok e₃) fun v s' e r => by
      obtain ⟨t, rfl⟩ := r.int
      exact h t s' e
  · exact pv_var (x := "k") (d := .int (i : Nat)) rfl (by decide) (by decide) A _ s₃ _ (hR.less (Nat.le_succ _)) (S2.ok.ext e₃) (S2.en.ext S2.ok e₃) fun v s' e r => by
      obtain ⟨t, rfl⟩ := r.int
      exact h t s' e
  have P4 := P3.keeps fun b hb o => e₃.keep b o (nt b hb)
  have y3 : ExtO tb [O] s₃ { s₃ with heap := h₃ } := ExtO.oneList (t := s₃.toks) P4.o ntO sb₃
  refine wpAny_execs_nil (hQ _ (us ++ [v]) (ns ++ [v2]) _ ?_ ⟨let ⟨a, b⟩ := P4.en; ⟨a, sb₃.extBut _ _ d4 b⟩, let ⟨o, a, b⟩ := P4.it; ⟨o, sb₃.extBut _ _ d7 a, b⟩, P4.u.extBut sb₃.extBut d9, P4.n.extBut sb₃.extBut d10, gO⟩ ⟨B1, ?_, ?_⟩)
  · have z1 : ExtO tb [U, N, O] s { s₁ with heap := h' } := (ExtO.of e₁).over y1 (all1 (.inl (by simp)))
    have z2 : ExtO tb [U, N, O] s { s₂ with heap := h₂ } := (z1.trans (.of e₂)).over y2 (all1 (.inl (by simp)))
    exact (z2.trans (.of e₃)).over y3 (all1 (.inl (by simp)))
  · have := B.n.snoc p₂.bareStr
    simpa [drStep] using this
  · have := B.o.insert (drPl i x).toNat (v := .int (i : Nat) t) (d := .int (i : Nat)) fun g => .mkInt
    simpa [drStep, List.map_take, List.map_drop] using this
end
end Mine
end
section
open PySem PySem.W PySem.Calls PyProof.Rows
set_option maxRecDepth 100000
set_option maxHeartbeats 2000000
set_option linter.all false
namespace Mine
def drOut (xs : List Int) : PyData := .tuple [.list (dints (drAt xs xs.length).ups), .list (sts (drAt xs xs.length).names), .list (dints (drAt xs xs.length).order)]
section
variable {prog : Program} {w : World} {W : Wd} {K L : Frag} {off : List Addr} {tb : Tb} {k : Nat} {env : Env} {ρ ρ' : Rho} {β β' : Raw} {mg mb : Str → Option Value} {X : List Addr} {s s' s'' s₀ s₁ : Shared} {A : Around}

/-- the loop -/
theorem dr_loop {u1 u2 u3 : Stmt} {E I l U N O : Addr} {xs : List Int} {vs : List Value} {R : Result → Shared → Prop} {p1 p2 p3 : Pos} {x1 : Nat}
    {q1 q2 q3 q4 q5 q6 q7 q8 q9 q10 q11 q12 q13 q14 q15 q16 q17 q18 q19 q20 q21 q22 q23 q24 q25 q26 q27 q28 q29 q30 q31 q32 q33 q34 q35 q36 q37 q38 q39 q40 q41 q42 q43 q44 q45 q46 q47 q48 q49 : Pos}
    (hlen : xs.length ≤ 15) (hR : Room A (k + 1)) (S : St K off tb (E :: I :: U :: N :: O :: X) env [] (drβ U N O) s) (hX : ∀ y ∈ own env, y ∈ X) (hl : s.heap.IsList l vs.toArray) (lnt : l ∉ tb.map (·.1)) (hv : Bare vs (dints xs))
    (P : DP s.heap E I l U N O 0 [] [] []) (nd : [E, I, U, N, O].Nodup) (nX : ∀ b ∈ [E, I, U, N, O], b ∉ X ∧ b ∉ tb.map (·.1)) (hint : interactive env = false) (hc : env.cells = []) (nl : l ∉ [E, I, U, N, O] ∧ l ≠ env.locals) (hown : own env = [env.locals])
    (k1 : env.kindOf "k" = some .local) (k2 : env.kindOf "x" = some .local)
    (q1 : u1 = .Expr (.Call (.Attribute (.Name "ups" q1) "append" q2) [.BinOp (.BinOp (.Name "x" q3) .Mod (.BinOp (.Name "k" q4) .Add (.Constant (.int 1) 0 q5) q6) q7) .Sub (.Constant (.int 1) 0 q8) q9] [] q10) q11) (h1 : (q2.endLine == q10.line) = true)
    (q2 : u2 = .Expr (.Call (.Attribute (.Name "names" q12) "append" q13) [.BinOp (.IfExp (.Compare (.Subscript (.Name "ups" q14) (.Name "k" q15) q16) [.GtE] [.Constant (.int 0) 0 q17] q18) (.BinOp (.Subscript (.Name "names" q19) (.Subscript (.Name "ups" q20) (.Name "k" q21) q22) q23) .Add (.Constant (.str ".") 0 q24) q25) (.Constant (.str "") 0 q26) q27) .Add (.BinOp (.Constant (.str "m") 0 q28) .Mult (.BinOp (.Name "k" q29) .Add (.Constant (.int 1) 0 q30) q31) q32) q33] [] q34) q35) (h2 : (q13.endLine == q34.line) = true)
    (q3 : u3 = .Expr (.Call (.Attribute (.Name "order" q36) "insert" q37) [.BinOp (.BinOp (.Name "x" q38) .FloorDiv (.BinOp (.Name "k" q39) .Add (.Constant (.int 1) 0 q40) q41) q42) .Mod (.BinOp (.Name "k" q43) .Add (.Constant (.int 1) 0 q44) q45) q46, .Name "k" q47] [] q48) q49) (h3 : (q37.endLine == q48.line) = true)
    (hQ : ∀ s' us ns os, ExtO tb (env.locals :: [E, I, U, N, O]) s s' → St K off tb (U :: N :: O :: X) env [] (drβ U N O) s' → s'.heap.PlainList U us.toArray → s'.heap.PlainList N ns.toArray → s'.heap.PlainList O os.toArray → DrB (drAt xs xs.length) us ns os → R (.ok .next) s') :
    codeAny (model prog w) A (.forLoop (.Tuple [.Name "k" p1, .Name "x" p2] x1 p3) (.ref E) [u1, u2, u3] [] env) R s := by
  have hh := hR.handled
  have vl := hv.length
  simp only [List.length_map] at vl
  have LX : env.locals ∈ X := hX _ List.mem_cons_self
  have lX : ∀ b ∈ [E, I, U, N, O], b ≠ env.locals := fun b h z => (nX b h).1 (z ▸ LX)
  have nt : ∀ b ∈ [E, I, U, N, O], b ∉ tb.map (·.1) := fun b h => (nX b h).2
  have hloc : env.locals ∉ [E, I, U, N, O] := fun z => lX _ z rfl
  have nodup := nd
  simp only [List.nodup_cons, List.mem_cons, List.not_mem_nil, or_false, not_or, List.nodup_nil, not_false_eq_true, and_true] at nd
  obtain ⟨⟨d1, d2, d3, d4⟩, ⟨d5, d6, d7⟩, ⟨d8, d9⟩, d10⟩ := nd
  have nlE : l ≠ E := fun z => nl.1 (z ▸ by simp)
  have nlI : l ≠ I := fun z => nl.1 (z ▸ by simp)
  refine codeAny_forLoop_any (fun n s' => ∃ i us ns os, n + i = xs.length + 1 ∧ i ≤ xs.length ∧ ExtO tb (env.locals :: [E, I, U, N, O]) s s' ∧ St K off tb (E :: I :: U :: N :: O :: X) env [] (drβ U N O) s' ∧ DP s'.heap E I l U N O i us ns os ∧ DrB (drAt xs i) us ns os) (fun n s' hinv => ?_)
    (xs.length + 1) ⟨0, [], [], [], rfl, Nat.zero_le _, .refl _ _ _, S, P, ⟨fun g => .nil, fun g => .nil, fun g => .nil⟩⟩
  obtain ⟨i, us, ns, os, hn, hi, y, S0, P0, B0⟩ := hinv
  obtain ⟨old, he⟩ := P0.en
  have hl0 : s'.heap.IsList l vs.toArray := let ⟨o, a, b⟩ := hl; ⟨o, y.keep l o lnt (fun z => by
    rcases List.mem_cons.mp z with z | z
    · exact nl.2 z
    · exact nl.1 z) a, b⟩
  have ncE : ∀ o, s'.heap.get? E = some o → NoCode o := fun o g => by rw [he] at g; cases g; exact fun vs q t z => by cases z; simp
  have ncI : ∀ o, s'.heap.get? I = some o → NoCode o := fun o g => by
    obtain ⟨oi, a, b, c⟩ := P0.it
    rw [a] at g; cases g
    exact fun vs q t z => by rw [c] at z; cases z; simp
  have tr : ∀ {s₁ s₂ : Shared} {ρ : Rho} {Y : List Addr}, (∀ z ∈ Y, z ∈ [E, I, U, N, O]) → St K off tb (E :: I :: U :: N :: O :: X) env ρ (drβ U N O) s₁ → ExtO tb Y s₁ s₂ → (∀ z ∈ Y, ∃ o, s₂.heap.get? z = some o) → St K off tb (E :: I :: U :: N :: O :: X) env ρ (drβ U N O) s₂ := fun {s₁ s₂ ρ Y} hZ S y g => by
    refine S.turn y (fun z hz => ?_) g (fun z => hloc (hZ _ z)) (fun x c h => by rw [hc] at h; cases h)
    exact List.mem_append_left X (as := [E, I, U, N, O]) (hZ z hz)
  cases hd : xs[i]? with
  | none =>
    have hi' : i = xs.length := Nat.le_antisymm hi (List.getElem?_eq_none_iff.mp hd)
    subst hi'
    refine wpAny_pyNext_enum_end hh he P0.it hl0 (by simp; omega) fun h₁ x₁ => wpAny_execs_nil ?_
    have y1 : ExtO tb [I] s' { s' with heap := h₁ } := ExtO.made (t := s'.toks) (fun b o n g => x₁ b o (fun z => n (List.mem_singleton.mpr z)) g) (all1 ncI) (all1 (nt I (by simp)))
    have S1 : St K off tb (U :: N :: O :: X) env [] (drβ U N O) { s' with heap := h₁ } := by
      refine (S0.less (X := I :: U :: N :: O :: X) fun z hz => List.mem_cons_of_mem _ hz).leave y1 (fun z => ?_) (fun z => lX I (by simp) z.symm) (fun x c h => by rw [hc] at h; cases h)
      rcases List.mem_cons.mp z with z | z
      · exact d5 z
      · rcases List.mem_cons.mp z with z | z
        · exact d6 z
        · rcases List.mem_cons.mp z with z | z
          · exact d7 z
          · exact (nX I (by simp)).1 z
    exact hQ _ us ns os (y.over y1 (all1 (.inl (by simp)))) S1 (P0.u.extBut x₁ (Ne.symm d5)) (P0.n.extBut x₁ (Ne.symm d6)) (P0.o.extBut x₁ (Ne.symm d7)) B0
  | some x =>
    have hlt : i < xs.length := (List.getElem?_eq_some_iff.mp hd).1
    have i15 : i ≤ 15 := Nat.le_trans (Nat.le_of_lt hlt) hlen
    obtain ⟨v, hvi, rv⟩ := (hv s'.heap).get (i := i) (d := .int x) (by simp [hd])
    obtain ⟨tx, rfl⟩ := rv.int
    have aE : @LT.lt Nat _ E s'.heap.objs.size := Heap.lt_size he
    refine wpAny_pyNext_enum_item he P0.it hl0 (by simpa using hvi) d1 fun h₁ heo hit₁ ht₁ hz₁ hk₁ => ?_
    refine wpAny_letOwnedTupleGo_enum heo fun h₂ he₂ hs₂ => ?_
    generalize hT : s'.heap.objs.size = T at heo hit₁ ht₁ hz₁ aE ⊢
    replace hs₂ : Heap.SameBut E h₁ h₂ := hs₂
    have ht₂ : h₂.IsTuple T #[.int i s'.toks, .int x tx] := ⟨_, (hs₂.2 _ (Nat.ne_of_gt aE)).trans ht₁, rfl, _, rfl⟩
    refine wpAny_assign_Tuple hh ht₂ rfl rfl fun h₃ hx₃ => ?_
    replace hx₃ : Heap.ExtBut h₂.objs.size h₂ h₃ := hx₃
    have old₃ : ∀ b o, h₂.get? b = some o → h₃.get? b = some o := fun b o g => hx₃ b o (Nat.ne_of_lt (Heap.lt_size g)) g
    have kp₃ : ∀ b o, b ≠ E → b ≠ I → s'.heap.get? b = some o → h₃.get? b = some o := fun b o n1 n2 g => old₃ b o (hs₂.extBut b o n1 (hk₁ b o n1 n2 g))
    have y1 : ExtO tb [E, I] s' { s' with heap := h₃, toks := s'.toks + 1 } := ExtO.made (fun b o n g => kp₃ b o (fun z => n (z ▸ by simp)) (fun z => n (z ▸ by simp)) g) (all2 ncE ncI) (all2 (nt E (by simp)) (nt I (by simp)))
    have it₃ : h₃.IsListIter I l (i + 1) := let ⟨o, a, b⟩ := hit₁; ⟨o, old₃ _ _ (hs₂.extBut _ _ (Ne.symm d1) a), b⟩
    have e₃ : IsEnum h₃ E I (((i + 1 : Nat)) : Int) (.int x tx) := by
      have : ((i + 1 : Nat) : Int) = (i : Int) + 1 := by push_cast; rfl
      rw [this]; exact old₃ _ _ he₂
    have P1 : DP h₃ E I l U N O (i + 1) us ns os := ⟨⟨_, e₃⟩, it₃, P0.u.at fun o => kp₃ _ o (Ne.symm d2) (Ne.symm d5), P0.n.at fun o => kp₃ _ o (Ne.symm d3) (Ne.symm d6), P0.o.at fun o => kp₃ _ o (Ne.symm d4) (Ne.symm d7)⟩
    have S1 := tr (by simp) S0 y1 (all2 ⟨_, e₃⟩ (let ⟨o, a, _⟩ := it₃; ⟨o, a⟩))
    have z1 := y.over y1 (all2 (.inl (by simp)) (.inl (by simp)))
    have hXb : ∀ z ∈ own env, z ∈ E :: I :: U :: N :: O :: X := fun z hz => List.mem_append_right [E, I, U, N, O] (hX z hz)
    show wpAny _ A (do holding [.int x tx] (assign (.Name "k" p1) env (.int i s'.toks)); do holding [] (assign (.Name "x" p2) env (.int x tx)); pure ()) _ _ _
    refine wpAny_bind (wpAny_holding (wpAny_assign_Name (S1.store (x := "k") hXb k1 fun s₄ y4 _ mk4 kp4 => ?_)))
    have S4 := mk4 [("k", .int (i : Nat))] (drβ U N O) (all1 (.inl ⟨rfl, .mkInt⟩)) (fun p hp => .inr ⟨hp, by
      simp only [List.mem_cons, List.not_mem_nil, or_false] at hp
      rcases hp with rfl | rfl | rfl <;> (dsimp only; decide)⟩)
    refine wpAny_bind (wpAny_holding (wpAny_assign_Name (S4.store (x := "x") hXb k2 fun s₅ y5 _ mk5 kp5 => wpAny_pure ?_)))
    have S5 := mk5 (drρ i x) (drβ U N O) (all2 (.inr ⟨by simp, by dsimp only; decide⟩) (.inl ⟨rfl, .mkInt⟩)) (fun p hp => .inr ⟨hp, by
      simp only [List.mem_cons, List.not_mem_nil, or_false] at hp
      rcases hp with rfl | rfl | rfl <;> (dsimp only; decide)⟩)
    have P5 : DP s₅.heap E I l U N O (i + 1) us ns os := P1.keeps fun b hb o g => kp5 b o (lX b hb) (kp4 b o (lX b hb) g)
    have oL : ∀ z ∈ own env, z ∈ env.locals :: [E, I, U, N, O] ∨ s.heap.get? z = none := by rw [hown]; exact all1 (.inl (by simp))
    have z5 := (z1.over y4 oL).over y5 oL
    have hls := drAt_len xs i
    refine wpAny_mono (E := NoE) ?_ (fun _ _ q => q) fun _ _ q => q.elim
    refine dr_body (k := k) (x := x) (D := drAt xs i) (Nat.le_trans i15 (by decide)) hls (fun j => Nat.le_trans (names_len xs i i15 j) (Nat.le_trans (Nat.mul_le_mul_left 20 i15) (by decide))) hR S5 P5 B0 nodup nX hint hc hloc q1 h1 q2 h2 q3 h3 fun s₆ us' ns' os' y6 P6 B6 => ?_
    have hx : drStep (drAt xs i) i x = drAt xs (i + 1) := by
      show _ = drStep (drAt xs i) i (xs.getD i 0)
      rw [List.getD_eq_getElem?_getD, hd]; rfl
    have S6 := tr (Y := [U, N, O]) (fun z hz => List.mem_cons_of_mem _ (List.mem_cons_of_mem _ hz)) S5 y6 (fun z hz => P6.has z (List.mem_cons_of_mem _ (List.mem_cons_of_mem _ hz)))
    refine ⟨n - 1, t1 hn hlt, i + 1, us', ns', os', t2 hn hlt, hlt, z5.over y6 (fun z hz => .inl (List.mem_cons_of_mem _ (List.mem_cons_of_mem _ (List.mem_cons_of_mem _ hz)))), S6.part (fun _ h => nomatch h) (fun _ h => h), P6, hx ▸ B6⟩
end
end Mine
end
section
open PySem PySem.W PySem.Calls PyProof.Rows
set_option maxRecDepth 100000
set_option maxHeartbeats 2000000
set_option linter.all false
namespace Mine
section
variable {prog : Program} {w : World} {W : Wd} {K L : Frag} {off : List Addr} {tb : Tb} {k : Nat} {env : Env} {ρ ρ' : Rho} {β β' : Raw} {mg mb : Str → Option Value} {X : List Addr} {s s' s'' s₀ s₁ : Shared} {A : Around}
abbrev nilObj : Obj := { cls := .type "list", data := .seq ([] : List Value).toArray }
theorem IsList.at_ {h h' : Heap} {l : Addr} {vs : Array Value} (x : h.IsList l vs) (k : ∀ b o, h.get? b = some o → h'.get? b = some o) : h'.IsList l vs := let ⟨o, a, b⟩ := x; ⟨o, k _ _ a, b⟩
theorem none_at {h : Heap} {b : Nat} (e : h.objs.size ≤ b) : h.get? b = none := at_none e

theorem Ok.hides {Y : List Addr} (o : Ok K off tb X s) (e : Ext tb s s') (hY : ∀ y ∈ Y, s.heap.get? y = none ∧ ∃ ob, s'.heap.get? y = some ob) : Ok K off tb (Y ++ X) s' ∧ Sub (vis tb X s.heap) (vis tb (Y ++ X) s'.heap) := by
  have sb : Sub (vis tb X s.heap) (vis tb (Y ++ X) s'.heap) := fun b ob g => by
    obtain ⟨g0, n, m⟩ := vis_get g
    refine vis_mk (e.keep b ob n g0) n fun z => ?_
    rcases List.mem_append.mp z with z | z
    · rw [(hY b z).1] at g0; cases g0
    · exact m z
  refine ⟨⟨fun y hy => ?_, fun q hq => e.tab q hq (o.tabs q hq), o.top.sub sb⟩, sb⟩
  rcases List.mem_append.mp hy with hy | hy
  · exact ⟨(notTab_new o (hY y hy).1).1, (hY y hy).2⟩
  · exact (o.ext e).priv y hy
theorem St.hides {Y : List Addr} (x : St K off tb X env ρ β s) (e : Ext tb s s') (hY : ∀ y ∈ Y, s.heap.get? y = none ∧ ∃ ob, s'.heap.get? y = some ob) : St K off tb (Y ++ X) env ρ β s' := by
  obtain ⟨o, sb⟩ := x.ok.hides e hY
  have y := x.ext e
  exact ⟨o, ⟨y.en.kind, y.en.globals, y.en.builtins, y.en.nloc, fun p hp => let ⟨v, b, rv⟩ := x.en.vars p hp; ⟨v, b.ext x.ok x.en.nloc e, rv.sub sb⟩⟩, y.raw, y.loc⟩
theorem bare_ints {g : Heap} : ∀ {vs : List Value} {xs : List Int}, RpAll g vs (dints xs) → Bare vs (dints xs)
  | [], [], _ => fun h => .nil
  | [], _ :: _, r => by have := r.length; simp at this
  | _ :: _, [], r => by have := r.length; simp at this
  | v :: vs, x :: xs, r => fun h => .cons (r.inv.1.bareInt h) (bare_ints (xs := xs) r.inv.2 h)
theorem dr_pb {u1 u2 u3 : Stmt} {xs : List Int} {a1 a2 a3 a4 a5 a6 a7 a8 a9 b1 b2 b3 b4 b5 b6 b7 b8 b9 b10 b11 b12 : Pos} {x1 x2 x3 x4 : Nat}
    {q1 q2 q3 q4 q5 q6 q7 q8 q9 q10 q11 q12 q13 q14 q15 q16 q17 q18 q19 q20 q21 q22 q23 q24 q25 q26 q27 q28 q29 q30 q31 q32 q33 q34 q35 q36 q37 q38 q39 q40 q41 q42 q43 q44 q45 q46 q47 q48 q49 : Pos}
    (G : Globs K off mg mb) (hm : mg "enumerate" = none) (hb : mb "enumerate" = some (.type "enumerate")) (hlen : xs.length ≤ 15) (hint : interactive env = false) (hc : env.cells = []) (hown : own env = [env.locals])
    (k1 : env.kindOf "k" = some .local) (k2 : env.kindOf "x" = some .local) (k3 : env.kindOf "ups" = some .local) (k4 : env.kindOf "names" = some .local) (k5 : env.kindOf "order" = some .local) (k6 : env.kindOf "enumerate" = some .globalImplicit)
    (hsw : swappedStores [.Tuple [.Name "ups" a1, .Name "names" a2, .Name "order" a3] x1 a4] (.Tuple [.List [] a5, .List [] a6, .List [] a7] x2 a8) env = pure (some [("ups" : Str), "names", "order"]))
    (q1 : u1 = .Expr (.Call (.Attribute (.Name "ups" q1) "append" q2) [.BinOp (.BinOp (.Name "x" q3) .Mod (.BinOp (.Name "k" q4) .Add (.Constant (.int 1) 0 q5) q6) q7) .Sub (.Constant (.int 1) 0 q8) q9] [] q10) q11) (h1 : (q2.endLine == q10.line) = true)
    (q2 : u2 = .Expr (.Call (.Attribute (.Name "names" q12) "append" q13) [.BinOp (.IfExp (.Compare (.Subscript (.Name "ups" q14) (.Name "k" q15) q16) [.GtE] [.Constant (.int 0) 0 q17] q18) (.BinOp (.Subscript (.Name "names" q19) (.Subscript (.Name "ups" q20) (.Name "k" q21) q22) q23) .Add (.Constant (.str ".") 0 q24) q25) (.Constant (.str "") 0 q26) q27) .Add (.BinOp (.Constant (.str "m") 0 q28) .Mult (.BinOp (.Name "k" q29) .Add (.Constant (.int 1) 0 q30) q31) q32) q33] [] q34) q35) (h2 : (q13.endLine == q34.line) = true)
    (q3 : u3 = .Expr (.Call (.Attribute (.Name "order" q36) "insert" q37) [.BinOp (.BinOp (.Name "x" q38) .FloorDiv (.BinOp (.Name "k" q39) .Add (.Constant (.int 1) 0 q40) q41) q42) .Mod (.BinOp (.Name "k" q43) .Add (.Constant (.int 1) 0 q44) q45) q46, .Name "k" q47] [] q48) q49) (h3 : (q37.endLine == q48.line) = true) :
    PB prog w K off tb (k + 1) env [("numbers", .list (dints xs))]
      [.Assign [.Tuple [.Name "ups" a1, .Name "names" a2, .Name "order" a3] x1 a4] (.Tuple [.List [] a5, .List [] a6, .List [] a7] x2 a8) a9,
       .For (.Tuple [.Name "k" b1, .Name "x" b2] x3 b3) (.Call (.Name "enumerate" b4) [.Name "numbers" b5] [] b6) [u1, u2, u3] [] b7,
       .Return (some (.Tuple [.Name "ups" b8, .Name "names" b9, .Name "order" b10] x4 b11)) b12] (drOut xs) := by
  intro A X s Q hR hO hE hX hLn hCs hU hQ
  have S : St K off tb X env [("numbers", .list (dints xs))] [] s := ⟨hO, hE, (fun _ h => nomatch h), hLn⟩
  have hz : sizeLine = 2 ^ 24 := rfl
  -- the three lists
  refine wpAny_execs_cons (Assign_Tuple_swapped ?_ rfl hsw)
  refine wpAny_Tuple (wpAny_items_cons (wpAny_List (wpAny_items_nil ⟨Nat.zero_le _, wpAny_items_cons (wpAny_List (wpAny_items_nil ⟨Nat.zero_le _, wpAny_items_cons (wpAny_List (wpAny_items_nil ⟨Nat.zero_le _, wpAny_items_nil ⟨by rw [hz]; show 3 ≤ 2 ^ 24; decide, ?_⟩⟩)) rfl⟩)) rfl⟩)) rfl)
  dsimp only
  generalize hU0 : s.heap.objs.size = U
  generalize hH1 : s.heap.push { cls := .type "list", data := .seq ([] : List Value).toArray } = H1
  have z1 : H1.objs.size = U + 1 := by rw [← hH1, Heap.size_push, hU0]
  have gU1 : H1.get? U = some { cls := .type "list", data := .seq ([] : List Value).toArray } := by rw [← hH1, ← hU0]; exact Heap.get?_push_size _ rfl
  have kp1 : ∀ b o, s.heap.get? b = some o → H1.get? b = some o := fun b o g => hH1 ▸ Heap.get?_push_of_some _ g
  generalize hN0 : H1.objs.size = N
  generalize hH2 : H1.push { cls := .type "list", data := .seq ([] : List Value).toArray } = H2
  have z2 : H2.objs.size = N + 1 := by rw [← hH2, Heap.size_push, hN0]
  have gN2 : H2.get? N = some { cls := .type "list", data := .seq ([] : List Value).toArray } := by rw [← hH2, ← hN0]; exact Heap.get?_push_size _ rfl
  have kp2 : ∀ b o, H1.get? b = some o → H2.get? b = some o := fun b o g => hH2 ▸ Heap.get?_push_of_some _ g
  generalize hO0 : H2.objs.size = O
  generalize hH3 : H2.push { cls := .type "list", data := .seq ([] : List Value).toArray } = H3
  have z3 : H3.objs.size = O + 1 := by rw [← hH3, Heap.size_push, hO0]
  have gO3 : H3.get? O = some { cls := .type "list", data := .seq ([] : List Value).toArray } := by rw [← hH3, ← hO0]; exact Heap.get?_push_size _ rfl
  have kp3 : ∀ b o, H2.get? b = some o → H3.get? b = some o := fun b o g => hH3 ▸ Heap.get?_push_of_some _ g
  have S1 : St K off tb (U :: X) env [("numbers", .list (dints xs))] [] { s with heap := H1 } := S.hide (.of_sub kp1 rfl rfl) (none_at (Nat.le_of_eq hU0)) ⟨_, gU1⟩ (notTab_new S.ok (none_at (Nat.le_of_eq hU0))).1
  have S2 : St K off tb (N :: U :: X) env [("numbers", .list (dints xs))] [] { s with heap := H2 } := S1.hide (.of_sub kp2 rfl rfl) (none_at (Nat.le_of_eq hN0)) ⟨_, gN2⟩ (notTab_new S1.ok (none_at (Nat.le_of_eq hN0))).1
  have S3 : St K off tb (O :: N :: U :: X) env [("numbers", .list (dints xs))] [] { s with heap := H3 } := S2.hide (.of_sub kp3 rfl rfl) (none_at (Nat.le_of_eq hO0)) ⟨_, gO3⟩ (notTab_new S2.ok (none_at (Nat.le_of_eq hO0))).1
  -- they are taken apart
  have gT : (H3.push { cls := .type "tuple", data := .seq ([.ref U, .ref N, .ref O] : List Value).toArray }).get? H3.objs.size = some { cls := .type "tuple", data := .seq ([.ref U, .ref N, .ref O] : List Value).toArray } := Heap.get?_push_size _ rfl
  refine unpackItems_tuple (items := #[.ref U, .ref N, .ref O]) hR.handled ⟨_, gT, rfl, _, rfl⟩ fun h5 x5 => ?_
  have kp5 : ∀ b o, H3.get? b = some o → h5.get? b = some o := fun b o g => x5 b o (by
    have := Heap.lt_size g
    show @Ne Nat _ _
    rw [show (({ s with heap := H3.push { cls := .type "tuple", data := .seq ([.ref U, .ref N, .ref O] : List Value).toArray } } : Shared).heap.objs.size) = H3.objs.size + 1 from Heap.size_push ..]
    exact Nat.ne_of_lt (Nat.lt_succ_of_lt this)) (Heap.get?_push_of_some _ g)
  have S5 : St K off tb (O :: N :: U :: X) env [("numbers", .list (dints xs))] [] { s with heap := h5 } := S3.ext (.of_sub kp5 rfl rfl)
  have gU5 := kp5 _ _ (kp3 _ _ (kp2 _ _ gU1))
  have gN5 := kp5 _ _ (kp3 _ _ gN2)
  have gO5 := kp5 _ _ gO3
  have kpS : ∀ b o, s.heap.get? b = some o → h5.get? b = some o := fun b o g => kp5 _ _ (kp3 _ _ (kp2 _ _ (kp1 _ _ g)))
  have nS : ∀ b : Nat, U ≤ b → s.heap.get? b = none := fun b hb => none_at (by rw [hU0]; exact hb)
  clear S1 S2 S3 gU1 gN2 gO3 x5 kp5 gT
  have hXb : ∀ z ∈ own env, z ∈ O :: N :: U :: X := fun z hz => List.mem_append_right [O, N, U] (hX z hz)
  show wpAny _ A (do holding [.ref N, .ref U] (bindName env "order" (.ref O)); do holding [.ref U] (bindName env "names" (.ref N)); do holding [] (bindName env "ups" (.ref U)); pure ()) _ _ _
  have lUN : @LT.lt Nat _ U N := by rw [← hN0, z1]; exact Nat.lt_succ_self U
  have lNO : @LT.lt Nat _ N O := by rw [← hO0, z2]; exact Nat.lt_succ_self N
  have lUO := Nat.lt_trans lUN lNO
  have lne : ∀ b : Nat, U ≤ b → env.locals ≠ b := fun b hb z => by
    obtain ⟨m, o, es, ep, g, _⟩ := hLn
    rw [z, nS b hb] at g; cases g
  refine wpAny_bind (wpAny_holding (bindName_ (S5.store (x := "order") hXb k5 fun s6 y6 _ mk6 kp6 => ?_)))
  have S6 := mk6 [("numbers", .list (dints xs))] [("order", .ref O)] (all1 (.inr ⟨by simp, by dsimp only; decide⟩)) (all1 (.inl rfl))
  refine wpAny_bind (wpAny_holding (bindName_ (S6.store (x := "names") hXb k4 fun s7 y7 _ mk7 kp7 => ?_)))
  have S7 := mk7 [("numbers", .list (dints xs))] [("names", .ref N), ("order", .ref O)] (all1 (.inr ⟨by simp, by dsimp only; decide⟩)) (all2 (.inl rfl) (.inr ⟨by simp, by dsimp only; decide⟩))
  refine wpAny_bind (wpAny_holding (bindName_ (S7.store (x := "ups") hXb k3 fun s8 y8 _ mk8 kp8 => wpAny_pure ?_)))
  have S8 := mk8 [("numbers", .list (dints xs))] (drβ U N O) (all1 (.inr ⟨by simp, by dsimp only; decide⟩)) (all3 (.inl rfl) (.inr ⟨by simp, by dsimp only; decide⟩) (.inr ⟨by simp, by dsimp only; decide⟩))
  have kpL : ∀ b o, b ≠ env.locals → h5.get? b = some o → s8.heap.get? b = some o := fun b o n g => kp8 b o n (kp7 b o n (kp6 b o n g))
  have Y8 : ExtO tb (own env) s s8 := (((ExtO.of (.of_sub kpS rfl rfl) : ExtO tb (own env) s { s with heap := h5 }).trans y6).trans y7).trans y8
  have gU8 := kpL U _ (Ne.symm (lne U (Nat.le_refl _))) gU5
  have gN8 := kpL N _ (Ne.symm (lne N (Nat.le_of_lt lUN))) gN5
  have gO8 := kpL O _ (Ne.symm (lne O (Nat.le_of_lt lUO))) gO5
  clear S5 S6 S7 mk6 mk7 mk8 kp6 kp7 kp8 y6 y7 y8
  -- enumerate(numbers)
  obtain ⟨vn, bn, rn⟩ := S8.en.vars _ List.mem_cons_self
  obtain ⟨l, vs, rfl, hl8, rvs⟩ := rn.isList
  have hv : Bare vs (dints xs) := bare_ints rvs
  have hl : s8.heap.IsList l vs.toArray := IsList.below hl8
  obtain ⟨ol, gl0, _⟩ := hl8
  obtain ⟨gl8, lnt, lnX⟩ := vis_get gl0
  refine wpAny_execs_cons (wpAny_For (wpAny_Call_NameR (load_builtin G S8.ok S8.en hm hb k6 (by decide) (PySem.callWith_type rfl (evalArgs_plain (spliced_cons (bound_load S8.en.kind bn (spliced_nil (call_enumerate_list hl fun h9 he hit hz9 kp9 => ?_)) (by decide) (by decide))))))) (by intro _; rfl))
  generalize hI0 : s8.heap.objs.size = I at he hit hz9 ⊢
  generalize hE0 : I + 1 = E0 at he hz9 ⊢
  have nS8 : ∀ b : Nat, I ≤ b → s8.heap.get? b = none := fun b hb => none_at (by rw [hI0]; exact hb)
  have nIO : @LT.lt Nat _ O I := hI0 ▸ Heap.lt_size gO8
  have lIE : @LT.lt Nat _ I E0 := by rw [← hE0]; exact Nat.lt_succ_self I
  have lUI := Nat.lt_trans lUO nIO
  have gI9 : ∃ o, h9.get? I = some o := let ⟨o, a, _⟩ := hit; ⟨o, a⟩
  have S9 : St K off tb ([E0, I] ++ (O :: N :: U :: X)) env [] (drβ U N O) { s8 with heap := h9 } := (S8.part (ρ' := []) (β' := drβ U N O) (fun _ h => nomatch h) (fun _ h => h)).hides (.of_sub kp9 rfl rfl) (all2 ⟨nS8 E0 (Nat.le_of_lt lIE), _, he⟩ ⟨nS8 I (Nat.le_refl _), gI9⟩)
  have S9' : St K off tb (E0 :: I :: U :: N :: O :: X) env [] (drβ U N O) { s8 with heap := h9 } := S9.less fun z hz => by
    simp only [List.mem_cons, List.mem_append, List.not_mem_nil, or_false] at hz ⊢
    rcases hz with z | z | z | z | z | z
    · exact .inl (.inl z)
    · exact .inl (.inr z)
    · exact .inr (.inr (.inr (.inl z)))
    · exact .inr (.inr (.inl z))
    · exact .inr (.inl z)
    · exact .inr (.inr (.inr (.inr z)))
  have P9 : DP h9 E0 I l U N O 0 [] [] [] := ⟨⟨_, he⟩, hit, ⟨_, kp9 _ _ gU8⟩, ⟨_, kp9 _ _ gN8⟩, ⟨_, kp9 _ _ gO8⟩⟩
  have ab : ∀ b ∈ [E0, I, U, N, O], s.heap.get? b = none := List.forall_mem_cons.mpr ⟨nS _ (Nat.le_of_lt (Nat.lt_trans lUI lIE)), all4 (nS _ (Nat.le_of_lt lUI)) (nS _ (Nat.le_refl _)) (nS _ (Nat.le_of_lt lUN)) (nS _ (Nat.le_of_lt lUO))⟩
  have nX : ∀ b ∈ [E0, I, U, N, O], b ∉ X ∧ b ∉ tb.map (·.1) := fun b hb => ⟨(notTab_new hO (ab b hb)).2, (notTab_new hO (ab b hb)).1⟩
  have nd : [E0, I, U, N, O].Nodup := nd5 lUN lNO nIO lIE
  have nl : l ∉ [E0, I, U, N, O] ∧ l ≠ env.locals := by
    refine ⟨fun z => ?_, fun z => lnX (z ▸ hXb _ (List.mem_cons_self))⟩
    simp only [List.mem_cons, List.not_mem_nil, or_false] at z
    rcases z with z | z | z | z | z
    · rw [z, nS8 E0 (Nat.le_of_lt lIE)] at gl8; cases gl8
    · rw [z, nS8 I (Nat.le_refl _)] at gl8; cases gl8
    · exact lnX (z ▸ by simp)
    · exact lnX (z ▸ by simp)
    · exact lnX (z ▸ by simp)
  refine wpAny_pyIter_enum he (dr_loop (k := k) hlen hR S9' hX (IsList.at_ hl kp9) lnt hv P9 nd nX hint hc nl hown k1 k2 q1 h1 q2 h2 q3 h3 fun sA us ns os yA SA gU gN gO BA => ?_)
  -- the answer
  refine wpAny_execs_cons (wpAny_Return_some (wpAny_Tuple (wpAny_items_cons (eval_local SA (x := "ups") (v := .ref U) (by simp) (by decide) (by decide) _ fun sB eB => wpAny_items_cons (eval_local (SA.ext eB) (x := "names") (v := .ref N) (by simp) (by decide) (by decide) _ fun sC eC => wpAny_items_cons (eval_local ((SA.ext eB).ext eC) (x := "order") (v := .ref O) (by simp) (by decide) (by decide) _ fun sD eD => wpAny_items_nil ⟨by rw [hz]; show 3 ≤ 2 ^ 24; decide, ?_⟩) rfl) rfl) rfl)))
  have eD := (eB.trans eC).trans eD
  have SD := SA.ext eD
  have kU : ∀ {U : Addr} {us : List Value}, U ∉ tb.map (·.1) → sA.heap.PlainList U us.toArray → sD.heap.PlainList U us.toArray := fun n g => g.at fun o => eD.keep _ o n
  have eT : Ext tb sD { sD with heap := sD.heap.push { cls := .type "tuple", data := .seq ([.ref U, .ref N, .ref O] : List Value).toArray } } := ext_push _ _
  have nT : ∀ b, sD.heap.get? b = none → b ∉ X ∧ b ∉ tb.map (·.1) := fun b hb => ⟨fun z => (notTab_new SD.ok hb).2 (by simp [z]), (notTab_new SD.ok hb).1⟩
  have nT := nT sD.heap.objs.size (none_at (Nat.le_refl _))
  refine hQ _ _ (((((Y8.over (.of (.of_sub kp9 rfl rfl) : ExtO tb [] s8 { s8 with heap := h9 }) (fun _ h => nomatch h)).over yA ?_).trans (.of eD)).trans (.of eT))) ?_
  · rw [hown]
    exact List.forall_mem_cons.mpr ⟨.inl (by simp), fun z hz => .inr (ab z hz)⟩
  · refine Rp.ofTuple (vs := [.ref U, .ref N, .ref O]) (vis_mk (Heap.get?_push_size _ rfl) nT.2 nT.1) rfl rfl ?_
    have r1 := list_rp (X := X) (s := sD) (kU (nX U (by simp)).2 gU) (nX U (by simp)).2 (nX U (by simp)).1 BA.u
    have r2 := list_rp (X := X) (s := sD) (kU (nX N (by simp)).2 gN) (nX N (by simp)).2 (nX N (by simp)).1 BA.n
    have r3 := list_rp (X := X) (s := sD) (kU (nX O (by simp)).2 gO) (nX O (by simp)).2 (nX O (by simp)).1 BA.o
    exact .cons (r1.sub eT.vis) (.cons (r2.sub eT.vis) (.cons (r3.sub eT.vis) .nil))
end
end Mine
end
section
open PySem PySem.W PySem.Calls PyProof.Rows
set_option maxRecDepth 100000
set_option maxHeartbeats 1000000
set_option linter.all false
namespace Mine
section
variable {prog : Program} {w : World} {tb : Tb} {A : Around} {s s0 s' : Shared}
theorem two_no {i j n : Nat} (h : n < 2) (h3 : i < j) (h4 : j < n) : False := by omega
theorem spec_wp {α : Type} {n : Nat} {lt : Nat → Nat → Bool} {cmp : Nat → Nat → (Bool → Shared → Prop) → Shared → Prop} {I : Shared → Prop} {R : α → Prop} {Q : α → Shared → Prop}
    (h : ∀ i j C s, i < n → j < n → I s → (∀ s', I s' → C (lt i j) s') → cmp i j C s) (hQ : ∀ a s', R a → I s' → Q a s') : ∀ (t : KasT α) (s : Shared), Spec n lt t R → I s → t.kasWp cmp Q s
  | .ret a, s, x, y => hQ a s x y
  | .ask i j k, s, x, y => h i j _ s x.1 x.2.1 y fun s' y' => spec_wp h hQ (k (lt i j)) s' x.2.2 y'

/-- an object of one's own is changed: what stood stands -/
theorem Ext.mine {D : Addr} {h' : Heap} {o : Obj} {t : Nat} (e : Ext tb s0 s) (hD : s0.heap.get? D = none) (nt : D ∉ tb.map (·.1)) (g : s.heap.get? D = some o) (nc : NoCode o) (sb : Heap.SameBut D s.heap h') : Ext tb s0 { s with heap := h', toks := t } :=
  ⟨fun b o' n g' => sb.extBut b o' (fun z => by rw [z, hD] at g'; cases g') (e.keep b o' n g'), fun q hq z => (e.tab q hq z).but sb.extBut g nc (ne_of_tab nt hq), e.gens, e.os⟩
def Firm (tb : Tb) (h h' : Heap) : Prop := ∀ b o, b ∉ tb.map (·.1) → o.cls ≠ .type "list" → h.get? b = some o → h'.get? b = some o
theorem Ext.firm (e : Ext tb s s') : Firm tb s.heap s'.heap := fun b o n _ g => e.keep b o n g
theorem Firm.same {h h' : Heap} {D : Addr} {xs : Array Value} {n : Nat} (g : h.get? D = some (seqObj "list" xs n)) (sb : Heap.SameBut D h h') : Firm tb h h' := fun b o _ c e => sb.extBut b o (fun z => by rw [z, g] at e; cases e; exact c rfl) e

/-- what the sort must be told of its keys -/
structure Srt (prog : Program) (w : World) (tb : Tb) (A : Around) (s0 : Shared) (n : Nat) (lt : Nat → Nat → Bool) (KeyOf : Heap → Nat → Value → Prop) : Prop where
  ord : Ord n lt
  few : n < 64
  firm : ∀ h h' i k, KeyOf h i k → Firm tb h h' → KeyOf h' i k
  kind : ∀ (ks : List Value) (s : Shared), Ext tb s0 s → (∀ v ∈ ks, ∃ i, KeyOf s.heap i v) → ∃ T, (∀ v ∈ ks, Looks (model prog w) s.heap (typeOf v) T) ∧ (T != Value.type "tuple") = true ∧ (T == T) = true
  less : ∀ i j ki kj (s : Shared) (Q : Bool → Shared → Prop), i < n → j < n → Ext tb s0 s → KeyOf s.heap i ki → KeyOf s.heap j kj → (∀ s', Ext tb s s' → Q (lt i j) s') → wpAny (model prog w) A (keyLt' oneType' ki kj) Q NoE s

section
variable {n : Nat} {lt : Nat → Nat → Bool} {KeyOf : Heap → Nat → Value → Prop} {E : Value → Shared → Prop}
/-- the keys, one behind another -/
def Keyed' (KeyOf : Heap → Nat → Value → Prop) (h : Heap) (ks : List Value) : Prop := ∀ i k, ks[i]? = some k → KeyOf h i k
theorem Keyed'.firm (S : Srt prog w tb A s0 n lt KeyOf) {h h' : Heap} {ks : List Value} (x : Keyed' KeyOf h ks) (f : Firm tb h h') : Keyed' KeyOf h' ks := fun i k e => S.firm _ _ _ _ (x i k e) f

theorem sort_runs (S : Srt prog w tb A s0 n lt KeyOf) {ks vs : List Value} (hk : ks.length = n) (hv : vs.length = n) {D kS : Addr} {od ok : Obj} {Q : SortSt → Shared → Prop} (nD : D ∉ tb.map (·.1)) (nK : kS ∉ tb.map (·.1))
    (e : Ext tb s0 s) (K : Keyed' KeyOf s.heap ks) (gD : s.heap.get? D = some od) (gK : s.heap.get? kS = some ok)
    (hQ : ∀ p st s', Pm n p → Up lt p n → (arrOf st).map (·.2) = List.toArray (p.toList.map fun i => vs.getD i Value.none) → failedOf st = none → Ext tb s0 s' → s'.heap.get? D = some od → s'.heap.get? kS = some ok → Q st s') :
    wpAny (model prog w) A (if vs.toArray.size < 2 then pure general' else keyKind' ks.toArray) (fun kind s' => wpAny (model prog w) A ((if vs.toArray.size < 2 then pure () else sortRuns').run (SortSt.mk' kind (ks.toArray.zip vs.toArray) #[] 7 none)) (fun r s'' => Q r.2 s'') E s') E s := by
  by_cases h2 : n < 2
  · have hs : vs.toArray.size < 2 := by rw [List.size_toArray, hv]; exact h2
    rw [if_pos hs, if_pos hs]
    refine wpAny_pure ?_
    rw [StateT.run_pure]
    refine wpAny_pure (hQ (List.toArray (List.range n)) _ s pm_range (fun i j h3 h4 => (two_no h2 h3 h4).elim) ?_ rfl e gD gK)
    apply Array.toList_inj.mp
    show ((ks.toArray.zip vs.toArray).map (·.2)).toList = _
    rw [Array.toList_map, Array.toList_zip]
    simp only [List.toList_toArray]
    rw [List.map_snd_zip (by omega)]
    refine List.ext_getElem (by simp [hv]) fun i h3 h4 => ?_
    simp [List.getD_eq_getElem?_getD, h3]
  · have hs : ¬ vs.toArray.size < 2 := by rw [List.size_toArray, hv]; exact h2
    rw [if_neg hs, if_neg hs]
    have h2' := Nat.le_of_not_lt h2
    have hkv := hk.trans hv.symm
    obtain ⟨T, hT, hT1, hT2⟩ := S.kind ks s e fun v hv => by
      obtain ⟨i, hi⟩ := List.getElem?_of_mem hv
      exact ⟨i, K i v hi⟩
    refine kas_kind (hk ▸ h2') hT hT1 hT2 ?_
    have h64 := S.few
    refine kat_run (G := fun p s' => (Pm n p ∧ Up lt p n) ∧ Ext tb s0 s' ∧ s'.heap.get? D = some od ∧ s'.heap.get? kS = some ok) hkv (hv ▸ h2') (hv ▸ h64) (fun p st s' h3 h4 h5 h6 => hQ p st s' h6.1.1 h6.1.2 (kat_snds hkv h4) h5 h6.2.1 h6.2.2.1 h6.2.2.2) ?_
    rw [hv]
    refine spec_wp (n := n) (lt := lt) (I := fun s' => Ext tb s0 s' ∧ Keyed' KeyOf s'.heap ks ∧ s'.heap.get? D = some od ∧ s'.heap.get? kS = some ok) (fun i j C s' hi hj ⟨e', K', a, b⟩ hC => ?_) (fun p s' h3 ⟨e', _, a, b⟩ => ⟨h3, e', a, b⟩) _ s (spec_sort S.ord h2') ⟨e, K, gD, gK⟩
    have ki : ks[i]? = some (ks.getD i Value.none) := by
      have : i < ks.length := hk ▸ hi
      simp [List.getD_eq_getElem?_getD, this]
    have kj : ks[j]? = some (ks.getD j Value.none) := by
      have : j < ks.length := hk ▸ hj
      simp [List.getD_eq_getElem?_getD, this]
    exact S.less i j _ _ s' C hi hj e' (K' i _ ki) (K' j _ kj) fun s'' e'' => hC s'' ⟨e'.trans e'', K'.firm S e''.firm, e''.keep _ _ nD a, e''.keep _ _ nK b⟩
end
end
end Mine
end
section
open PySem PySem.W PySem.Calls PyProof.Rows
set_option maxRecDepth 100000
set_option maxHeartbeats 1000000
set_option linter.all false
namespace Mine
section
variable {prog : Program} {w : World} {tb : Tb} {A : Around} {s s0 s' : Shared} {n : Nat} {lt : Nat → Nat → Bool} {KeyOf : Heap → Nat → Value → Prop} {E : Value → Shared → Prop} {D kS : Addr} {vs : List Value}
theorem upd_list {h : Heap} {D : Addr} {xs ys : Array Value} {n : Nat} (g : h.get? D = some (seqObj "list" xs n)) : ∃ m, (h.update D (Obj.mapSeq fun _ => ys)).get? D = some (seqObj "list" ys m) := ⟨_, get?_update_seq g fun _ => ys⟩
theorem nc_list {c : String} {xs : Array Value} {n : Nat} : NoCode (seqObj c xs n) := noCode_seq rfl

theorem sort_tail {e1 : Nat} {xd xk : Array Value} {ck : Nat} {st : SortSt} {out : List Value} {P : PySem.Fin → Shared → Prop} (hne : D ≠ kS) (hD0 : s0.heap.get? D = none) (hK0 : s0.heap.get? kS = none) (nD : D ∉ tb.map (·.1)) (nK : kS ∉ tb.map (·.1))
    (e : Ext tb s0 s) (gD : s.heap.get? D = some (seqObj "list" xd e1)) (gK : s.heap.get? kS = some (seqObj "list" xk ck)) (hxd : xd.size < 64) (hxk : xk.size < 64) (ho : (arrOf st).map (·.2) = List.toArray out) (hl : out.length < 64) (hf : failedOf st = none)
    (h : ∀ s' c, Ext tb s0 s' → s'.heap.get? D = some (seqObj "list" (List.toArray out) c) → P (.done (.ret .none)) s') : wpAny (model prog w) A (ksk_tail D false e1 (.ref kS) st) P E s := by
  unfold ksk_tail
  dsimp only
  rw [ho]
  have hz : sizeLine = 2 ^ 24 := rfl
  refine wpAny_bind (listUpdate_at gK rfl ?_ (Nat.le_trans (Nat.le_of_lt hxk) (by rw [hz]; decide)) (Nat.zero_le _))
  refine wpAny_bind (wpAny_letGo ?_)
  have sK := Heap.SameBut.update s.heap kS (Obj.mapSeq fun _ => (#[] : Array Value))
  have gD1 : (s.heap.update kS (Obj.mapSeq fun _ => (#[] : Array Value))).get? D = some (seqObj "list" xd e1) := sK.extBut _ _ hne gD
  have e1' : Ext tb s0 { s with heap := s.heap.update kS (Obj.mapSeq fun _ => (#[] : Array Value)) } := e.mine hK0 nK gK nc_list sK
  refine wpAny_bind (seqEpoch_at gD1 rfl ?_)
  refine wpAny_bind (listUpdate_at gD1 rfl ?_ (Nat.le_trans (Nat.le_of_lt hxd) (by rw [hz]; decide)) (by
    show (List.toArray out).size ≤ _
    rw [List.size_toArray, hz]; omega))
  rw [hf]
  simp only [bne_self_eq_false, Bool.false_eq_true, if_false]
  obtain ⟨c, hc⟩ := upd_list (ys := List.toArray out) gD1
  exact wpAny_pure (h _ c (e1'.mine hD0 nD gD1 nc_list (Heap.SameBut.update ..)) hc)

theorem sort_end (S : Srt prog w tb A s0 n lt KeyOf) {ks : List Value} {e1 : Nat} {ck : Nat} {P : PySem.Fin → Shared → Prop} (hk : ks.length = n) (hv : vs.length = n) (hne : D ≠ kS) (hD0 : s0.heap.get? D = none) (hK0 : s0.heap.get? kS = none) (nD : D ∉ tb.map (·.1)) (nK : kS ∉ tb.map (·.1))
    (e : Ext tb s0 s) (K : Keyed' KeyOf s.heap ks) (gD : s.heap.get? D = some (seqObj "list" #[] e1)) (gK : s.heap.get? kS = some (seqObj "list" ks.toArray ck))
    (h : ∀ p s' c, Pm n p → Up lt p n → Ext tb s0 s' → s'.heap.get? D = some (seqObj "list" (List.toArray (p.toList.map fun i => vs.getD i Value.none)) c) → P (.done (.ret .none)) s') :
    wpAny (model prog w) A (ksk_end D false vs.toArray e1 (.ref kS) ks.toArray) P E s := by
  have h64 := S.few
  unfold ksk_end
  dsimp only
  rw [if_neg (by simp)]
  have key : wpAny (model prog w) A (if vs.toArray.size < 2 then pure general' else keyKind' ks.toArray) (fun kind s' => wpAny (model prog w) A ((if vs.toArray.size < 2 then pure () else sortRuns').run (SortSt.mk' kind (ks.toArray.zip vs.toArray) #[] 7 none)) (fun r s'' => wpAny (model prog w) A (ksk_tail D false e1 (.ref kS) r.2) P E s'') E s') E s :=
    sort_runs S hk hv nD nK e K gD gK (Q := fun st s'' => wpAny (model prog w) A (ksk_tail D false e1 (.ref kS) st) P E s'') fun p st s' P1 P2 h3 h4 e' gD' gK' =>
      sort_tail hne hD0 hK0 nD nK e' gD' gK' (by simp) (by simp; omega) h3 (by simp [P1.size]; exact h64) h4 fun s'' c e'' g => h p s'' c P1 P2 e'' g
  simp only [Bool.false_eq_true, if_false]
  by_cases hs : vs.toArray.size < 2
  · rw [if_pos hs] at key ⊢
    exact wpAny_bind (wpAny_mono key (fun kind s' hk => wpAny_bind hk) fun _ _ x => x)
  · rw [if_neg hs] at key ⊢
    exact wpAny_bind (wpAny_mono key (fun kind s' hk => wpAny_bind hk) fun _ _ x => x)

theorem sort_fold (S : Srt prog w tb A s0 n lt KeyOf) {f : Value} {body : Value → PUnit → Sem (ForInStep PUnit)} {Q : PUnit → Shared → Prop} {od : Obj} (hK0 : s0.heap.get? kS = none) (nD : D ∉ tb.map (·.1)) (nK : kS ∉ tb.map (·.1)) (hne : D ≠ kS) (hv : vs.length = n)
    (hkey : ∀ i v (s : Shared) (Q : Value → Shared → Prop), vs[i]? = some v → Ext tb s0 s → (∀ k s', Ext tb s s' → KeyOf s'.heap i k → Q k s') → wpAny (model prog w) A (call f [v]) Q NoE s)
    (hb : ∀ (x : Value) (s : Shared) (Q : ForInStep PUnit → Shared → Prop), wpAny (model prog w) A (call f [x]) (fun k s' => ∃ xs c, s'.heap.get? kS = some (seqObj "list" xs c) ∧ xs.size < 64 ∧ Q (.yield ⟨⟩) { s' with heap := s'.heap.update kS (Obj.mapSeq (·.push k)) }) NoE s → wpAny (model prog w) A (body x ⟨⟩) Q E s)
    (hQ : ∀ ks ck s', ks.length = n → Ext tb s0 s' → Keyed' KeyOf s'.heap ks → s'.heap.get? D = some od → s'.heap.get? kS = some (seqObj "list" ks.toArray ck) → Q ⟨⟩ s') :
    ∀ (r ks : List Value) (ck : Nat) (s : Shared), vs = vs.take ks.length ++ r → ks.length + r.length = n → Ext tb s0 s → Keyed' KeyOf s.heap ks → s.heap.get? D = some od → s.heap.get? kS = some (seqObj "list" ks.toArray ck) →
      wpAny (model prog w) A (forIn r PUnit.unit body) Q E s
  | [], ks, ck, s, hr, hl, e, K, gD, gK => by
    rw [List.forIn_nil]
    exact wpAny_pure (hQ ks ck s (by simpa using hl) e K gD gK)
  | x :: r, ks, ck, s, hr, hl, e, K, gD, gK => by
    rw [List.length_cons] at hl
    rw [List.forIn_cons]
    have h64 := S.few
    have hkn : ks.length < n := hl ▸ Nat.lt_add_of_pos_right (Nat.succ_pos _)
    have htk : (vs.take ks.length).length = ks.length := by rw [List.length_take, hv, Nat.min_eq_left (Nat.le_of_lt hkn)]
    have hx : vs[ks.length]? = some x := by
      rw [hr, List.getElem?_append_right (by rw [htk]; exact Nat.le_refl _), htk, Nat.sub_self]; rfl
    refine wpAny_bind (hb x s _ (hkey ks.length x s _ hx e fun k s₁ e₁ k₁ => ?_))
    have gK1 := e₁.keep _ _ nK gK
    have gD1 := e₁.keep _ _ nD gD
    refine ⟨_, _, gK1, by rw [List.size_toArray]; exact Nat.lt_trans hkn h64, ?_⟩
    have ea : ks.toArray.push k = List.toArray (ks ++ [k]) := by simp
    have sb := Heap.SameBut.update s₁.heap kS (Obj.mapSeq (·.push k))
    obtain ⟨c2, hc2⟩ : ∃ c2, (s₁.heap.update kS (Obj.mapSeq (·.push k))).get? kS = some (seqObj "list" (List.toArray (ks ++ [k])) c2) := ⟨_, by rw [← ea]; exact get?_update_seq gK1 (·.push k)⟩
    show wpAny (model prog w) A (forIn r PUnit.unit body) _ E _
    refine sort_fold S hK0 nD nK hne hv hkey hb hQ r (ks ++ [k]) c2 _ ?_ (by rw [List.length_append, List.length_singleton, Nat.add_assoc, Nat.add_comm 1]; exact hl) ((e.trans e₁).mine hK0 nK gK1 nc_list sb) ?_ (sb.extBut _ _ hne gD1) hc2
    · rw [List.length_append, List.length_singleton, List.take_succ, hx]
      simpa using hr
    · intro i k' hi
      have fm : Firm tb s₁.heap (s₁.heap.update kS (Obj.mapSeq (·.push k))) := Firm.same gK1 sb
      by_cases h : i < ks.length
      · rw [List.getElem?_append_left h] at hi
        exact S.firm _ _ _ _ (S.firm _ _ _ _ (K i k' hi) e₁.firm) fm
      · rw [List.getElem?_append_right (by omega)] at hi
        have h0 : i - ks.length = 0 := by
          have := (List.getElem?_eq_some_iff.mp hi).1
          simp at this; omega
        rw [h0] at hi
        simp at hi
        subst hi
        have : i = ks.length := by omega
        subst this
        exact S.firm _ _ _ _ k₁ fm
end
end Mine
end
section
open PySem PySem.W PySem.Calls PyProof.Rows
set_option maxRecDepth 100000
set_option maxHeartbeats 1000000
set_option linter.all false
namespace Mine
section
variable {prog : Program} {w : World} {K : Frag} {off : List Addr} {tb : Tb} {X : List Addr} {A : Around} {s s0 s' : Shared} {n : Nat} {lt : Nat → Nat → Bool} {KeyOf : Heap → Nat → Value → Prop} {E : Value → Shared → Prop} {D kS : Addr} {vs : List Value}
theorem sort_tree (S : Srt prog w tb A s0 n lt KeyOf) {C : Addr} {m : Nat} {P : PySem.Fin → Shared → Prop} (hO : Ok K off tb X s0) (hv : vs.length = n) (hD0 : s0.heap.get? D = none) (e : Ext tb s0 s) (gD : s.heap.get? D = some (seqObj "list" vs.toArray m))
    (hkey : ∀ i v (s : Shared) (Q : Value → Shared → Prop), vs[i]? = some v → Ext tb s0 s → (∀ k s', Ext tb s s' → KeyOf s'.heap i k → Q k s') → wpAny (model prog w) A (call (.ref C) [v]) Q NoE s)
    (h : ∀ p s' c, Pm n p → Up lt p n → Ext tb s0 s' → s'.heap.get? D = some (seqObj "list" (List.toArray (p.toList.map fun i => vs.getD i Value.none)) c) → P (.done (.ret .none)) s') :
    wpAny (model prog w) A (ksk_tree D (.ref C) false) P E s := by
  have h64 := S.few
  have hz : sizeLine = 2 ^ 24 := rfl
  have nD := (notTab_new hO hD0).1
  have hsz : vs.toArray.size ≤ sizeLine := by rw [List.size_toArray, hz, hv]; omega
  unfold ksk_tree
  refine wpAny_bind (listItems_at gD rfl ?_)
  refine wpAny_bind (listUpdate_at gD rfl ?_ hsz (Nat.zero_le _))
  have s1 := Heap.SameBut.update s.heap D (Obj.mapSeq fun _ => (#[] : Array Value))
  obtain ⟨e1, gD1⟩ := upd_list (ys := #[]) gD
  have x1 : Ext tb s0 { s with heap := s.heap.update D (Obj.mapSeq fun _ => (#[] : Array Value)) } := e.mine hD0 nD gD nc_list s1
  generalize s.heap.update D (Obj.mapSeq fun _ => (#[] : Array Value)) = h1 at gD1 x1 ⊢
  refine wpAny_bind (seqEpoch_at gD1 rfl ?_)
  refine wpAny_bind (wpAny_newTuple ?_ (by show vs.length ≤ _; rw [hz, hv]; omega))
  refine wpAny_bind (wpAny_newList ?_ (Nat.zero_le _))
  dsimp only
  refine wpAny_holding ?_
  have x2 : Ext tb s0 { s with heap := h1.push { cls := .type "tuple", data := .seq vs.toArray } } := x1.trans (ext_push _ _)
  have gD2 : (h1.push { cls := .type "tuple", data := .seq vs.toArray }).get? D = some (seqObj "list" #[] e1) := Heap.get?_push_of_some _ gD1
  generalize h1.push { cls := .type "tuple", data := .seq vs.toArray } = h2 at gD2 x2 ⊢
  have hK2 : h2.get? h2.objs.size = none := at_none (Nat.le_refl _)
  have hK0 : s0.heap.get? h2.objs.size = none := by
    cases hc : s0.heap.get? h2.objs.size with
    | none => rfl
    | some o => by_cases ht : h2.objs.size ∈ tb.map (·.1)
                · obtain ⟨q, hq, e⟩ := List.mem_map.mp ht
                  obtain ⟨_, g, _⟩ := (x2.tab q hq (hO.tabs q hq)).get
                  rw [e] at g
                  exact absurd g (by rw [show ({ s with heap := h2 } : Shared).heap = h2 from rfl, hK2]; simp)
                · have := x2.keep _ o ht hc
                  exact absurd this (by rw [show ({ s with heap := h2 } : Shared).heap = h2 from rfl, hK2]; simp)
  have nK := (notTab_new hO hK0).1
  have hne : D ≠ h2.objs.size := Nat.ne_of_lt (Heap.lt_size gD2)
  have gK3 : (h2.push { cls := .type "list", data := .seq ([] : List Value).toArray }).get? h2.objs.size = some (seqObj "list" ([] : List Value).toArray 0) := Heap.get?_push_size _ rfl
  have x3 : Ext tb s0 { s with heap := h2.push { cls := .type "list", data := .seq ([] : List Value).toArray } } := x2.trans (ext_push _ _)
  have gD3 : (h2.push { cls := .type "list", data := .seq ([] : List Value).toArray }).get? D = some (seqObj "list" #[] e1) := Heap.get?_push_of_some _ gD2
  generalize h2.objs.size = kS at gK3 hK0 nK hne ⊢
  unfold ksk_rest
  refine wpAny_bind (wpAny_rule ?_)
  rw [← Array.forIn_toList]
  simp only [List.toList_toArray]
  refine wpAny_bind (sort_fold (od := seqObj "list" #[] e1) S hK0 nD nK hne hv hkey (fun x s Q hx => ?_) (fun ks ck s' hl e' K' gD' gK' => ?_) vs [] 0 _ (by simp) (by simpa using hv) x3 (fun i k hi => by simp at hi) gD3 gK3)
  · refine wpAny_bind (wpAny_attempt (wpAny_mono hx (fun k s'' hk => ?_) fun _ _ hF => hF.elim))
    obtain ⟨xs, c, gK, hxs, q⟩ := hk
    dsimp only
    refine wpAny_bind (listUpdate_at gK rfl ?_ (Nat.le_trans (Nat.le_of_lt hxs) (by rw [hz]; decide)) (by
      show (xs.push k).size ≤ _
      rw [Array.size_push, hz]; omega))
    exact wpAny_pure q
  · skip
    refine wpAny_bind (listItems_at gK' rfl ?_)
    exact sort_end S hl hv hne hD0 hK0 nD nK e' K' gD' gK' h

/-- sorted(xs, key=C) -/
theorem call_sortedK {C l : Addr} {Q : Value → Shared → Prop} (S : Srt prog w tb A.in1.in1 s n lt KeyOf) (hO : Ok K off tb X s) (hl : s.heap.IsList l vs.toArray) (hv : vs.length = n)
    (hkey : ∀ i v (s₁ : Shared) (Q : Value → Shared → Prop), vs[i]? = some v → Ext tb s s₁ → (∀ k s', Ext tb s₁ s' → KeyOf s'.heap i k → Q k s') → wpAny (model prog w) A.in1.in1 (call (.ref C) [v]) Q NoE s₁)
    (h : ∀ p D s', Pm n p → Up lt p n → Ext tb s s' → s.heap.get? D = none → (∃ c, s'.heap.get? D = some (seqObj "list" (List.toArray (p.toList.map fun i => vs.getD i Value.none)) c)) → Q (.ref D) s') :
    wpAny (model prog w) A (call (.builtin "sorted") [.ref l] [(Str.ofString "key", .ref C)]) Q E s := by
  have h64 := S.few
  have hz : sizeLine = 2 ^ 24 := rfl
  refine call_function_entry_kw kind_sorted plain_sorted entry_sorted (ksk_s1 _ _) ?_
  unfold Builtin.«sorted»
  refine wpAny_bind (m := checkCount "sorted" 1 1 _) (wpAny_pure ?_)
  refine wpAny_bind (collect_list hl ?_ (by rw [hz]; omega))
  refine wpAny_bind (wpAny_newList ?_ (by rw [hz]; omega))
  have keep1 : ∀ b o, s.heap.get? b = some o → ((s.heap.push (seqObj "list" #[] 0)).update s.heap.objs.size (Obj.mapSeq (· ++ vs.toArray))).get? b = some o := fun b o q => by
    have hlt : b < s.heap.objs.size := Heap.lt_size q
    rw [Heap.get?_update_ne _ _ _ _ (Nat.ne_of_lt hlt), Heap.get?_push_ne _ _ _ (Nat.ne_of_lt hlt)]
    exact q
  have hsz1 : s.heap.objs.size ≤ ((s.heap.push (seqObj "list" #[] 0)).update s.heap.objs.size (Obj.mapSeq (· ++ vs.toArray))).objs.size := by
    rw [Heap.size_update, size_push']; omega
  generalize (s.heap.push (seqObj "list" #[] 0)).update s.heap.objs.size (Obj.mapSeq (· ++ vs.toArray)) = h1 at keep1 hsz1 ⊢
  dsimp only
  have hD0 : s.heap.get? h1.objs.size = none := at_none hsz1
  have gD : (h1.push { cls := .type "list", data := .seq vs.toArray }).get? h1.objs.size = some (seqObj "list" vs.toArray 0) := Heap.get?_push_size _ rfl
  have e : Ext tb s { s with heap := h1.push { cls := .type "list", data := .seq vs.toArray } } := .of_sub (fun b o q => Heap.get?_push_of_some _ (keep1 b o q)) rfl rfl
  generalize h1.objs.size = D at hD0 gD ⊢
  refine wpAny_bind (wpAny_holding (wpAny_call_entry_kw slot_list_sort ⟨_, gD, rfl⟩ entry_list_sort ?_ (ksk_l1 _ _)))
  show wpAny (model prog w) A.in1.in1 (Builtin.«list.sort» ⟨[.ref D], [(Str.ofString "key", .ref C)]⟩) _ _ _
  rw [ksk_t1]
  exact sort_tree S hO hv hD0 e gD hkey fun p s' c P1 P2 e' g => ⟨_, rfl, wpAny_pure ⟨_, rfl, h p D s' P1 P2 e' hD0 ⟨c, g⟩⟩⟩
end
end Mine
end
section
open PySem PySem.W PySem.Calls PyProof.Rows
set_option maxRecDepth 100000
set_option maxHeartbeats 2000000
set_option linter.all false
namespace Mine
/-- a key of the i-th number -/
def KeyAt (tb : Tb) (C : Addr) (a : List Int) (h : Heap) (i : Nat) (k : Value) : Prop :=
  ∃ x dx t, k = .ref x ∧ h.get? x = some (keyObj C dx (.int (a.getD i 0) t)) ∧ h.get? dx = some emptyDict ∧ x ∉ tb.map (·.1) ∧ dx ∉ tb.map (·.1)
section
variable {prog : Program} {w : World} {W : Wd} {K : Frag} {off : List Addr} {tb : Tb} {k : Nat} {env : Env} {ρ : Rho} {mg mb : Str → Option Value} {X : List Addr} {s s0 s' : Shared} {A : Around}
  {KF : Frag} {C N p f1 f2 cc f0 : Addr} {of0 : Obj} {fd0 : FuncData}
theorem dec_getD {a : List Int} {i : Nat} (h : i < a.length) : a.getD i 0 ∈ a := by
  rw [List.getD_eq_getElem?_getD, List.getElem?_eq_getElem h]
  exact List.getElem_mem h
theorem srt_keys {a : List Int} {c : Int → Int → Int} (G : Globs K off mg mb) (HK : ∀ g, TopOk K off g → KeyEnv W g KF C N p f1 f2 cc (.ref f0)) (hO : Ok K off tb X s0) (hR : Room A (k + 1))
    (hf0 : K.lookup f0 = some of0) (hfo : f0 ∉ off) (hfd : of0.data = .func fd0) (hfn : ∀ x ∈ a, ∀ y ∈ a, Fn prog w K off tb k (.ref f0) [.int x, .int y] (.int (c x y)))
    (ord : Ord a.length fun i j => decide (c (a.getD i 0) (a.getD j 0) < 0)) (few : a.length < 64) :
    Srt prog w tb A s0 a.length (fun i j => decide (c (a.getD i 0) (a.getD j 0) < 0)) (KeyAt tb C a) where
  ord := ord
  few := few
  firm := fun h h' i k ⟨x, dx, t, e, g1, g2, n1, n2⟩ f => ⟨x, dx, t, e, f _ _ n1 (by simp [keyObj]) g1, f _ _ n2 (by simp [emptyDict]) g2, n1, n2⟩
  kind := fun ks s e hk => ⟨.ref C, fun v hv => by
    obtain ⟨i, x, dx, t, rfl, g1, g2, _⟩ := hk v hv
    exact (key_inst g1 g2).type, rfl, by simp⟩
  less := fun i j ki kj s Q hi hj e ⟨x, dx, t, e1, g1, g2, _⟩ ⟨y, dy, u, e2, g3, g4, _⟩ h => by
    subst e1 e2
    have O := hO.ext e
    have KE := (HK _ O.top).sub (vis_below _ _ _)
    obtain ⟨h₀, c', ctv, doc, gf, _⟩ := KE.fl
    rw [keyLt'_oneType, oneLt'_eq]
    simp only [if_true]
    refine wpAny_bind (wpAny_cRoomFor (Nat.lt_of_lt_of_le (Nat.lt_of_lt_of_le (Nat.lt_succ_self _) (by omega : A.units + 1 ≤ A.units + 900)) hR.c) ?_)
    refine wpAny_bind (lt_bound KE.kf KE.inn g1 g2 gf rfl ?_)
    refine call_lt (k := k) hR G O KE g1 g2 g3 g4 hf0 hfo hfd (hfn _ (dec_getD hi) _ (dec_getD hj)) fun s₃ e₃ => ?_
    exact wpAny_truthy_bool (h s₃ e₃)

/-- sorted(e, key=key) -/
theorem pv_sortedK {e : Expr} {xk : Str} {p1 p2 p3 pos : Pos} {a b : List Int} {c : Int → Int → Int} {ck : Addr} (G : Globs K off mg mb) (hm : mg "sorted" = none) (hv : mb "sorted" = some (.builtin "sorted")) (HK : ∀ g, TopOk K off g → KeyEnv W g KF C N p f1 f2 cc (.ref f0)) (hC : ∀ g, TopOk K off g → g.IsCell ck (some (.ref C)))
    (hkx : CellKind env xk) (hck : env.cells.lookup xk = some ck) (he : PV prog w K off tb (k + 3) env ρ e (.list (dints a)))
    (hf0 : K.lookup f0 = some of0) (hfo : f0 ∉ off) (hfd : of0.data = .func fd0) (hfn : ∀ x ∈ a, ∀ y ∈ a, Fn prog w K off tb k (.ref f0) [.int x, .int y] (.int (c x y)))
    (ord : Ord a.length fun i j => decide (c (a.getD i 0) (a.getD j 0) < 0)) (few : a.length < 64) (hb : ∀ q : List Int, q.Perm a → q.Pairwise (fun x y => c x y < 0) → q = b)
    (hd : (xk == ("__debug__" : Str)) = false := by decide) (hn : (xk == ("__classdict__" : Str)) = false := by decide) (hx : env.kindOf "sorted" = some .globalImplicit := by rfl) (hst : starEach [e] env = [(false, eval e env)] := by rfl) :
    PV prog w K off tb (k + 3) env ρ (.Call (.Name "sorted" p1) [e] [⟨some "key", .Name xk p2, p3⟩] pos) (.list (dints b)) := by
  intro A X s Q hR hO hE h
  show wpAny (model prog w) A (do callWith pos (← eval (.Name "sorted" p1) env) [] (backTo pos (starEach [e] env)) (backToKw pos (keywordEach [⟨some "key", .Name xk p2, p3⟩] env))) Q NoE s
  refine wpAny_bind (load_builtin G hO hE hm hv hx (by decide) ?_)
  refine callWith_kw ?_ (by rw [hst]; rfl) (by rw [hst]; rfl) rfl rfl
  rw [hst]
  refine spliced_cons (he A X s _ hR hO hE fun v s₁ e₁ r₁ => spliced_nil ?_)
  have O1 := hO.ext e₁
  have E1 := hE.ext hO e₁
  obtain ⟨oc, gc, dc⟩ := hC _ O1.top
  refine kws_cons (bound_load (v := .ref C) E1.kind (.inr ⟨hkx, ck, hck, oc, (vis_get gc).1, dc⟩) (kws_nil ?_) hd hn)
  obtain ⟨l, vs, rfl, hl, rvs⟩ := r₁.isList
  have hvl : vs.length = a.length := by have := rvs.length; simpa using this
  have bare := bare_ints rvs
  show wpAny (model prog w) A (call (.builtin "sorted") [.ref l] [(Str.ofString "key", .ref C)]) Q NoE s₁
  refine call_sortedK (srt_keys (A := A.in1.in1) (k := k) G HK O1 hR.in1.in1 hf0 hfo hfd hfn ord few) O1 (IsList.below hl) hvl (fun i v s₂ Q' hi e₂ hQ => ?_) fun p D s₂ P1 P2 e₂ hD gD => ?_
  · have O2 := O1.ext e₂
    have KE := (HK _ O2.top).sub (vis_below _ _ _)
    obtain ⟨h₀, F1⟩ := KE.fi
    have hlt : i < a.length := by have := (List.getElem?_eq_some_iff.mp hi).1; omega
    obtain ⟨v', hv', rv'⟩ := (bare s₂.heap).get (i := i) (d := .int (a.getD i 0)) (by simp [List.getD_eq_getElem?_getD, hlt])
    rw [hi] at hv'
    cases hv'
    obtain ⟨t, rfl⟩ := rv'.int
    have hR1 := hR.in1.in1
    refine call_key (by have := hR1.lim; have := hR1.depth; show A.in1.in1.depth + 1 < 1000; omega) KE.kf KE.inn F1 (O2.globs G).2.2 fun x dx h' t' kp nx nd gx gd => ?_
    exact hQ (.ref x) _ (.of_sub kp rfl rfl) ⟨x, dx, t, rfl, gx, gd, (notTab_new O2 nx).1, (notTab_new O2 nd).1⟩
  · obtain ⟨c0, gD⟩ := gD
    obtain ⟨nt, nX⟩ := notTab_new O1 hD
    refine h (.ref D) s₂ (e₁.trans e₂) ?_
    have hq : p.toList.map (fun i => a.getD i 0) = b := by
      refine hb _ ?_ ?_
      · have := P1.perm.map fun i => a.getD i 0
        refine this.trans (List.Perm.of_eq ?_)
        refine List.ext_getElem (by simp) fun i h3 h4 => ?_
        simp [List.getD_eq_getElem?_getD, h4]
      · rw [List.pairwise_map]
        exact (up_pairwise P1 P2).imp fun h => of_decide_eq_true h
    rw [← hq]
    refine Rp.ofList ⟨_, vis_mk gD nt nX, rfl, _, rfl⟩ ?_
    have em : dints (p.toList.map fun i => a.getD i 0) = p.toList.map fun i => PyData.int (a.getD i 0) := by
      show List.map _ _ = _
      rw [List.map_map]; rfl
    rw [em]
    have go : ∀ l : List Nat, (∀ i ∈ l, i < a.length) → RpAll (vis tb X s₂.heap) (l.map fun i => vs.getD i Value.none) (l.map fun i => PyData.int (a.getD i 0)) := by
      intro l
      induction l with
      | nil => intro _; exact .nil
      | cons i l ih =>
        intro hl
        refine .cons ?_ (ih fun j hj => hl j (List.mem_cons_of_mem _ hj))
        have hi := hl i List.mem_cons_self
        obtain ⟨v', hv', rv'⟩ := (bare (vis tb X s₂.heap)).get (i := i) (d := .int (a.getD i 0)) (by simp [List.getD_eq_getElem?_getD, hi])
        dsimp only
        rw [List.getD_eq_getElem?_getD, hv']
        exact rv'
    exact go p.toList fun i hi => List.mem_range.mp (P1.perm.mem_iff.mp hi)
end
end Mine
end
section
open PySem PySem.W PySem.Calls PyProof.Rows
set_option maxRecDepth 100000
set_option maxHeartbeats 2000000
set_option linter.all false
namespace Mine
def lexI : List Int → List Int → Bool
  | [], [] => false
  | [], _ :: _ => true
  | _ :: _, [] => false
  | a :: as, b :: bs => if a = b then lexI as bs else decide (a < b)
theorem lt_of_sub {n i k : Nat} (h : n - i = k + 1) : i < n := by omega
theorem sub_succ {n i k : Nat} (h : n - i = k + 1) : n - (i + 1) = k := by omega
theorem lt_of_drop {α : Type} {l : List α} {i : Nat} {a : α} {r : List α} (h : l.drop i = a :: r) : i < l.length := by
  have := congrArg List.length h
  simp at this; omega
theorem drop_getD {xs : List Int} {i : Nat} (h : i < xs.length) : xs.drop i = xs.getD i 0 :: xs.drop (i + 1) := by
  rw [List.drop_eq_getElem_cons h, List.getD_eq_getElem?_getD, List.getElem?_eq_getElem h]; rfl
open AutoSeq1 (wpAny_loadPart')
theorem lt_loop (l b : Addr) (items items2 : Array Value) (n n2 : Nat) (dd dd2 : Option Addr) (sl sl2 : Array (Option Value)) (xs ys : List Int) (h1 : items.size = xs.length) (h2 : items2.size = ys.length)
    (hx : ∀ j (h : j < items.size), ∃ t, items[j] = .int (xs.getD j 0) t) (hy : ∀ j (h : j < items2.size), ∃ t, items2[j] = .int (ys.getD j 0) t) (k : Nat) :
    ∀ i : Nat, xs.length - i = k → i ≤ xs.length → i ≤ ys.length → Meets (Builtin.«list.__eq__.loop» ⟨[.ref l, .ref b, rawInt i, rawInt 0], []⟩)
      (fun _ R s => s.heap.get? l = some { cls := .type "list", dict := dd, data := .seq items n, slots := sl } ∧ s.heap.get? b = some { cls := .type "list", dict := dd2, data := .seq items2 n2, slots := sl2 } ∧
        R (.ok (.ret (.bool (lexI (xs.drop i) (ys.drop i))))) s) := by
  induction k with
  | zero =>
    intro i hk hi1 hi2 prog w A R s h
    obtain ⟨hp, g, d, tk, os⟩ := s; obtain ⟨hl, hb, h⟩ := h
    wp_walk using wpAny_loadPart' hl, wpAny_loadPart' hb
    have hx0 : xs.length ≤ i := Nat.le_of_sub_eq_zero hk
    have q1 : items[((i : Nat) : Int).toNat]? = none := by rw [Int.toNat_natCast]; exact Array.getElem?_eq_none (h1 ▸ hx0)
    have hd : xs.drop i = [] := List.drop_eq_nil_of_le hx0
    rw [hd] at h
    rw [q1]
    wp_walk using wpAny_loadPart' hl, wpAny_loadPart' hb
    show R (.ok (.ret (.bool (decide (items.size < items2.size))))) _
    have hxi : xs.length = i := Nat.le_antisymm hx0 hi1
    have : decide (items.size < items2.size) = lexI [] (ys.drop i) := by
      rw [h1, h2, hxi]
      cases hy2 : ys.drop i with
      | nil => exact decide_eq_false (Nat.not_lt_of_le (List.drop_eq_nil_iff.mp hy2))
      | cons y r => exact decide_eq_true (lt_of_drop hy2)
    rw [this]
    exact h
  | succ k ih =>
    intro i hk hi1 hi2 prog w A R s h
    obtain ⟨hp, g, d, tk, os⟩ := s; obtain ⟨hl, hb, h⟩ := h
    wp_walk using wpAny_loadPart' hl, wpAny_loadPart' hb
    have hlt : i < items.size := h1 ▸ lt_of_sub hk
    have hxl := lt_of_sub hk
    have hk' := sub_succ hk
    have q1 : items[((i : Nat) : Int).toNat]? = some items[i] := by simp [hlt]
    have hxd : xs.drop i = xs.getD i 0 :: xs.drop (i + 1) := by
      exact drop_getD hxl
    by_cases hlt2 : i < items2.size
    · have q2 : items2[((i : Nat) : Int).toNat]? = some items2[i] := by simp [hlt2]
      have hyd : ys.drop i = ys.getD i 0 :: ys.drop (i + 1) := by
        exact drop_getD (h2 ▸ hlt2)
      have hc : ((i : Int) + 1) = ((i + 1 : Nat) : Int) := by push_cast; rfl
      rw [hxd, hyd] at h
      obtain ⟨t1, e1⟩ := hx i hlt
      obtain ⟨t2, e2⟩ := hy i hlt2
      rw [q1, q2, e1, e2]
      refine wpAny_bind (wpAny_eqBool_int ?_)
      by_cases hab : xs.getD i 0 = ys.getD i 0
      · have hab' : (xs.getD i 0 == ys.getD i 0) = true := by rw [hab]; simp
        rw [hab']
        wp_walk
        rw [hc]
        refine ⟨plainId_quiet MeetsSeq3.plain_eq_loop _, codeAny_builtin MeetsSeq3.entry_eq_loop (by
          rw [Around.under_plainId MeetsSeq3.plain_eq_loop _]
          refine ih (i + 1) hk' hxl (h2 ▸ hlt2) prog w A R _ ⟨hl, hb, ?_⟩
          unfold lexI at h
          rw [if_pos hab] at h
          exact h)⟩
      · have hab' : (xs.getD i 0 == ys.getD i 0) = false := by simpa using hab
        rw [hab']
        wp_walk using wpAny_loadPart' hl, wpAny_loadPart' hb
        rw [q1, q2, e1, e2]
        dsimp only
        refine wpAny_bind (show wpAny _ _ (compareOp .Lt (.int (xs.getD i 0) t1) (.int (ys.getD i 0) t2)) _ _ _ from PyProof.Rows.lt_int ?_)
        refine wpAny_pure ?_
        unfold lexI at h
        rw [if_neg hab] at h
        exact h
    · have hy0 : ys.length ≤ i := h2 ▸ Nat.le_of_not_lt hlt2
      have q2 : items2[((i : Nat) : Int).toNat]? = none := by rw [Int.toNat_natCast]; exact Array.getElem?_eq_none (h2 ▸ hy0)
      have hyd : ys.drop i = [] := List.drop_eq_nil_of_le hy0
      rw [hxd, hyd] at h
      rw [q1, q2]
      wp_walk using wpAny_loadPart' hl, wpAny_loadPart' hb
      show R (.ok (.ret (.bool (decide (items.size < items2.size))))) _
      rw [decide_eq_false (fun z => hlt2 (Nat.lt_trans hlt z))]
      exact h
end Mine
end
section
open PySem PySem.W PySem.Calls PyProof.Rows
set_option maxRecDepth 100000
set_option maxHeartbeats 2000000
set_option linter.all false
namespace Mine
open AutoSeq1 (wpAny_loadPart')
theorem list_lt (l b : Addr) (items items2 : Array Value) (n n2 : Nat) (dd dd2 : Option Addr) (sl sl2 : Array (Option Value)) (xs ys : List Int) (h1 : items.size = xs.length) (h2 : items2.size = ys.length)
    (hx : ∀ j (h : j < items.size), ∃ t, items[j] = .int (xs.getD j 0) t) (hy : ∀ j (h : j < items2.size), ∃ t, items2[j] = .int (ys.getD j 0) t) :
    Meets (Builtin.«list.__lt__» ⟨[.ref l, .ref b], []⟩)
      (fun _ R s => s.heap.get? l = some { cls := .type "list", dict := dd, data := .seq items n, slots := sl } ∧ s.heap.get? b = some { cls := .type "list", dict := dd2, data := .seq items2 n2, slots := sl2 } ∧
        R (.ok (.ret (.bool (lexI xs ys)))) s) := by
  intro prog w A R s h
  obtain ⟨hp, g, d, tk, os⟩ := s; obtain ⟨hl, hb, h⟩ := h
  have f3 := AutoSeq1.sub_list_list
  wp_walk using wpAny_loadPart' hl, wpAny_loadPart' hb
  exact ⟨plainId_quiet MeetsSeq3.plain_eq_loop _, codeAny_builtin MeetsSeq3.entry_eq_loop (by
    rw [Around.under_plainId MeetsSeq3.plain_eq_loop _]
    exact lt_loop l b items items2 n n2 dd dd2 sl sl2 xs ys h1 h2 hx hy _ 0 rfl (Nat.zero_le _) (Nat.zero_le _) prog w A R _ ⟨hl, hb, by simpa using h⟩)⟩
section
variable {prog : Program} {w : World} {K : Frag} {off : List Addr} {tb : Tb} {X : List Addr} {A : Around} {s s0 s' : Shared} {n : Nat} {lt : Nat → Nat → Bool} {KeyOf : Heap → Nat → Value → Prop} {E : Value → Shared → Prop} {D kS : Addr} {vs : List Value}
theorem items_int {vs : List Value} {xs : List Int} (b : Bare vs (dints xs)) : ∀ j (h : j < vs.toArray.size), ∃ t, vs.toArray[j] = .int (xs.getD j 0) t := fun j h => by
  have hl := b.length
  simp only [List.length_map] at hl
  have h' : j < vs.length := by simpa using h
  obtain ⟨v, hv, rv⟩ := (b { objs := #[] }).get (i := j) (d := .int (xs.getD j 0)) (by
    have : j < xs.length := by omega
    simp [List.getD_eq_getElem?_getD, this])
  obtain ⟨t, rfl⟩ := rv.int
  refine ⟨t, ?_⟩
  rw [List.getElem?_eq_getElem h'] at hv
  simpa using Option.some.inj hv
theorem oneLt_list {xs ys : List Int} {v u : Value} {Q : Bool → Shared → Prop} (hu : A.units < cLine) (r : Rp s.heap v (.list (dints xs))) (q : Rp s.heap u (.list (dints ys))) (h : Q (lexI xs ys) s) : wpAny (model prog w) A (oneLt' true v u) Q E s := by
  obtain ⟨l, vs, rfl, hl, rv⟩ := r.isList
  obtain ⟨b, us, rfl, hb, ru⟩ := q.isList
  have bv := bare_ints rv
  have bu := bare_ints ru
  have lv := bv.length
  have lu := bu.length
  simp only [List.length_map] at lv lu
  obtain ⟨⟨c1, d1, dt1, sl1⟩, g1, hc1, n1, hd1⟩ := hl
  obtain ⟨⟨c2, d2, dt2, sl2⟩, g2, hc2, n2, hd2⟩ := hb
  simp only at hc1 hd1 hc2 hd2
  subst hc1 hd1 hc2 hd2
  rw [oneLt'_eq]
  simp only [if_true]
  refine wpAny_bind (wpAny_cRoomFor hu ?_)
  refine wpAny_bind (wpAny_callSpecialIfBound?_slot ⟨_, g1, rfl⟩ F.slot_list_lt (call_meets F.slot_list_lt ⟨_, g1, rfl⟩ F.entry_list_lt (F.args_list_lt_2 _ _) (list_lt l b vs.toArray us.toArray n1 n2 d1 d2 sl1 sl2 xs ys (by simpa using lv) (by simpa using lu) (items_int bv) (items_int bu)) ⟨g1, g2, ?_⟩))
  exact wpAny_truthy_bool h
theorem looks_list {M : Model} {h : Heap} {a : Addr} {o : Obj} (g : h.get? a = some o) (c : o.cls = .type "list") : Looks M h (typeOf (.ref a)) (.type "list") := c ▸ (Looks.ld g).andThen .now

theorem srt_lists {css : List (List Int)} {vs : List Value} (hO : Ok K off tb X s0) (hu : A.units < cLine) (r : RpAll (vis tb X s0.heap) vs (css.map fun c => .list (dints c))) (ord : Ord css.length fun i j => lexI (css.getD i []) (css.getD j [])) (few : css.length < 64) :
    Srt prog w tb A s0 css.length (fun i j => lexI (css.getD i []) (css.getD j [])) (fun _ i v => vs[i]? = some v) where
  ord := ord
  few := few
  firm := fun h h' i k e _ => e
  kind := fun ks s e hk => ⟨.type "list", fun v hv => by
    obtain ⟨i, hi⟩ := hk v hv
    have hl := r.length
    simp only [List.length_map] at hl
    have hlt : i < css.length := by have := (List.getElem?_eq_some_iff.mp hi).1; omega
    obtain ⟨v', hv', rv'⟩ := r.get (i := i) (d := .list (dints (css.getD i []))) (by simp [List.getD_eq_getElem?_getD, hlt])
    rw [hi] at hv'; cases hv'
    obtain ⟨a, us, rfl, ⟨o, g, c, _⟩, _⟩ := (rv'.sub e.vis).isList
    exact looks_list (vis_get g).1 c, rfl, rfl⟩
  less := fun i j ki kj s Q hi hj e h1 h2 h => by
    obtain ⟨v', hv', rv'⟩ := r.get (i := i) (d := .list (dints (css.getD i []))) (by simp [List.getD_eq_getElem?_getD, hi])
    rw [h1] at hv'; cases hv'
    obtain ⟨u', hu', ru'⟩ := r.get (i := j) (d := .list (dints (css.getD j []))) (by simp [List.getD_eq_getElem?_getD, hj])
    rw [h2] at hu'; cases hu'
    rw [keyLt'_oneType]
    exact oneLt_list hu ((rv'.sub e.vis).sub (vis_below _ _ _)) ((ru'.sub e.vis).sub (vis_below _ _ _)) (h s (.refl _ _))

theorem sort_plain (S : Srt prog w tb A s0 n lt KeyOf) {m : Nat} {P : PySem.Fin → Shared → Prop} (hO : Ok K off tb X s0) (hv : vs.length = n) (hD0 : s0.heap.get? D = none) (e : Ext tb s0 s) (gD : s.heap.get? D = some (seqObj "list" vs.toArray m))
    (hkey : ∀ h : Heap, ∀ i v, vs[i]? = some v → KeyOf h i v)
    (h : ∀ p s' c, Pm n p → Up lt p n → Ext tb s0 s' → s'.heap.get? D = some (seqObj "list" (List.toArray (p.toList.map fun i => vs.getD i Value.none)) c) → P (.done (.ret .none)) s') :
    wpAny (model prog w) A (Builtin.«list.sort» ⟨[.ref D], []⟩) P E s := by
  have h64 := S.few
  have hz : sizeLine = 2 ^ 24 := rfl
  have nD := (notTab_new hO hD0).1
  have hsz : vs.toArray.size ≤ sizeLine := by rw [List.size_toArray, hz, hv]; omega
  rw [list_sort_plain]
  refine wpAny_bind (listItems_at gD rfl ?_)
  refine wpAny_bind (listUpdate_at gD rfl ?_ hsz (Nat.zero_le _))
  have s1 := Heap.SameBut.update s.heap D (Obj.mapSeq fun _ => (#[] : Array Value))
  obtain ⟨e1, gD1⟩ := upd_list (ys := #[]) gD
  have x1 : Ext tb s0 { s with heap := s.heap.update D (Obj.mapSeq fun _ => (#[] : Array Value)) } := e.mine hD0 nD gD nc_list s1
  generalize s.heap.update D (Obj.mapSeq fun _ => (#[] : Array Value)) = h1 at gD1 x1 ⊢
  refine wpAny_bind (seqEpoch_at gD1 rfl ?_)
  refine wpAny_bind (wpAny_newTuple ?_ (by show vs.length ≤ _; rw [hz, hv]; omega))
  refine wpAny_bind (wpAny_newList ?_ (Nat.zero_le _))
  dsimp only
  refine wpAny_holding ?_
  have x2 : Ext tb s0 { s with heap := (h1.push { cls := .type "tuple", data := .seq vs.toArray }).push { cls := .type "list", data := .seq ([] : List Value).toArray } } := (x1.trans (ext_push _ _)).trans (ext_push _ _)
  have gD2 : ((h1.push { cls := .type "tuple", data := .seq vs.toArray }).push { cls := .type "list", data := .seq ([] : List Value).toArray }).get? D = some (seqObj "list" #[] e1) := Heap.get?_push_of_some _ (Heap.get?_push_of_some _ gD1)
  generalize (h1.push { cls := .type "tuple", data := .seq vs.toArray }).push { cls := .type "list", data := .seq ([] : List Value).toArray } = h2 at gD2 x2 ⊢
  have tail : ∀ (st : SortSt) (s' : Shared) (p : Array Nat), Pm n p → Up lt p n → (arrOf st).map (·.2) = List.toArray (p.toList.map fun i => vs.getD i Value.none) → failedOf st = none → Ext tb s0 s' → s'.heap.get? D = some (seqObj "list" #[] e1) →
      wpAny (model prog w) A (do
        let sorted := (arrOf st).map (·.2)
        let touched := (← seqEpoch D) != e1
        Builtin.List.listUpdate (.ref D) fun _ => sorted
        if let some e := failedOf st then rule "list.sort.comparison-raised"; throw e
        if touched then rule "list.sort.modified"; raiseError "ValueError" "list modified during sort"
        ret .none) P E s' := fun st s' p P1 P2 h3 h4 e' g' => by
    dsimp only
    rw [h3]
    refine wpAny_bind (seqEpoch_at g' rfl ?_)
    refine wpAny_bind (listUpdate_at g' rfl ?_ (Nat.zero_le _) (by
      show (List.toArray _).size ≤ _
      rw [List.size_toArray, List.length_map, Array.length_toList, P1.size, hz]; omega))
    rw [h4]
    simp only [bne_self_eq_false, Bool.false_eq_true, if_false]
    obtain ⟨c, hc⟩ := upd_list (ys := List.toArray (p.toList.map fun i => vs.getD i Value.none)) g'
    exact wpAny_pure (h p _ c P1 P2 (e'.mine hD0 nD g' nc_list (Heap.SameBut.update ..)) hc)
  have key := sort_runs (A := A) (E := E) S hv hv nD nD x2 (fun i k hi => hkey _ i k hi) gD2 gD2 (Q := fun st s'' => wpAny (model prog w) A (do
        let sorted := (arrOf st).map (·.2)
        let touched := (← seqEpoch D) != e1
        Builtin.List.listUpdate (.ref D) fun _ => sorted
        if let some e := failedOf st then rule "list.sort.comparison-raised"; throw e
        if touched then rule "list.sort.modified"; raiseError "ValueError" "list modified during sort"
        ret .none) P E s'') fun p st s' P1 P2 h3 h4 e' g' _ => tail st s' p P1 P2 h3 h4 e' g'
  by_cases hs : vs.toArray.size < 2
  · rw [if_pos hs] at key ⊢
    exact wpAny_bind (wpAny_mono key (fun kind s' hk => wpAny_bind hk) fun _ _ x => x)
  · rw [if_neg hs] at key ⊢
    exact wpAny_bind (wpAny_mono key (fun kind s' hk => wpAny_bind hk) fun _ _ x => x)
/-- sorted(xs) -/
theorem call_sortedP {l : Addr} {Q : Value → Shared → Prop} (S : Srt prog w tb A.in1.in1 s n lt KeyOf) (hO : Ok K off tb X s) (hl : s.heap.IsList l vs.toArray) (hv : vs.length = n)
    (hkey : ∀ h : Heap, ∀ i v, vs[i]? = some v → KeyOf h i v)
    (h : ∀ p D s', Pm n p → Up lt p n → Ext tb s s' → s.heap.get? D = none → (∃ c, s'.heap.get? D = some (seqObj "list" (List.toArray (p.toList.map fun i => vs.getD i Value.none)) c)) → Q (.ref D) s') :
    wpAny (model prog w) A (call (.builtin "sorted") [.ref l]) Q E s := by
  have h64 := S.few
  have hz : sizeLine = 2 ^ 24 := rfl
  refine Calls.call_function_entry kind_sorted plain_sorted entry_sorted (args_sorted1 _) ?_
  unfold Builtin.«sorted»
  refine wpAny_bind (m := checkCount "sorted" 1 1 _) (wpAny_pure ?_)
  refine wpAny_bind (collect_list hl ?_ (by rw [hz]; omega))
  refine wpAny_bind (wpAny_newList ?_ (by rw [hz]; omega))
  have keep1 : ∀ b o, s.heap.get? b = some o → ((s.heap.push (seqObj "list" #[] 0)).update s.heap.objs.size (Obj.mapSeq (· ++ vs.toArray))).get? b = some o := fun b o q => by
    have hlt : b < s.heap.objs.size := Heap.lt_size q
    rw [Heap.get?_update_ne _ _ _ _ (Nat.ne_of_lt hlt), Heap.get?_push_ne _ _ _ (Nat.ne_of_lt hlt)]
    exact q
  have hsz1 : s.heap.objs.size ≤ ((s.heap.push (seqObj "list" #[] 0)).update s.heap.objs.size (Obj.mapSeq (· ++ vs.toArray))).objs.size := by
    rw [Heap.size_update, size_push']; omega
  generalize (s.heap.push (seqObj "list" #[] 0)).update s.heap.objs.size (Obj.mapSeq (· ++ vs.toArray)) = h1 at keep1 hsz1 ⊢
  dsimp only
  have hD0 : s.heap.get? h1.objs.size = none := at_none hsz1
  have gD : (h1.push { cls := .type "list", data := .seq vs.toArray }).get? h1.objs.size = some (seqObj "list" vs.toArray 0) := Heap.get?_push_size _ rfl
  have e : Ext tb s { s with heap := h1.push { cls := .type "list", data := .seq vs.toArray } } := .of_sub (fun b o q => Heap.get?_push_of_some _ (keep1 b o q)) rfl rfl
  generalize h1.objs.size = D at hD0 gD ⊢
  refine wpAny_bind (wpAny_holding (wpAny_call_entry slot_list_sort ⟨_, gD, rfl⟩ entry_list_sort ?_ (args_list_sort _)))
  exact sort_plain S hO hv hD0 e gD hkey fun p s' c P1 P2 e' g => ⟨_, rfl, wpAny_pure ⟨_, rfl, h p D s' P1 P2 e' hD0 ⟨c, g⟩⟩⟩
end
end Mine
end
section
open PySem PySem.W PySem.Calls PyProof.Rows
set_option maxRecDepth 100000
set_option maxHeartbeats 2000000
set_option linter.all false
namespace Mine
abbrev dlists (css : List (List Int)) : List PyData := css.map fun c => .list (dints c)
section
variable {prog : Program} {w : World} {K : Frag} {off : List Addr} {tb : Tb} {k : Nat}
theorem fn_sorted {css out : List (List Int)} (ord : Ord css.length fun i j => lexI (css.getD i []) (css.getD j [])) (few : css.length < 64) (hb : ∀ q : List (List Int), q.Perm css → q.Pairwise (fun x y => lexI x y = true) → q = out) :
    Fn prog w K off tb (k + 2) (.builtin "sorted") [.list (dlists css)] (.list (dlists out)) := by
  intro A X s vs Q hR hO r0 h
  obtain ⟨v, rfl, r⟩ := r0.one
  obtain ⟨l, vs, rfl, hl, rvs⟩ := r.isList
  have hvl : vs.length = css.length := by have := rvs.length; simpa using this
  have hR2 := hR.in1.in1
  refine call_sortedP (srt_lists hO (by have := hR2.c; have : 0 < 900 := by decide
                                        omega) rvs ord few) hO (IsList.below hl) hvl (fun _ _ _ e => e) fun p D s₂ P1 P2 e₂ hD gD => ?_
  obtain ⟨c0, gD⟩ := gD
  obtain ⟨nt, nX⟩ := notTab_new hO hD
  refine h (.ref D) s₂ e₂ ?_
  have hq : p.toList.map (fun i => css.getD i []) = out := by
    refine hb _ ?_ ?_
    · have := P1.perm.map fun i => css.getD i []
      refine this.trans (List.Perm.of_eq ?_)
      refine List.ext_getElem (by simp) fun i h3 h4 => ?_
      simp [List.getD_eq_getElem?_getD, h4]
    · rw [List.pairwise_map]
      exact up_pairwise P1 P2
  rw [← hq]
  refine Rp.ofList ⟨_, vis_mk gD nt nX, rfl, _, rfl⟩ ?_
  have em : dlists (p.toList.map fun i => css.getD i []) = p.toList.map fun i => PyData.list (dints (css.getD i [])) := by
    show List.map _ _ = _
    rw [List.map_map]; rfl
  rw [em]
  have go : ∀ l : List Nat, (∀ i ∈ l, i < css.length) → RpAll (vis tb X s₂.heap) (l.map fun i => vs.getD i Value.none) (l.map fun i => PyData.list (dints (css.getD i []))) := by
    intro l
    induction l with
    | nil => intro _; exact .nil
    | cons i l ih =>
      intro hl
      refine .cons ?_ (ih fun j hj => hl j (List.mem_cons_of_mem _ hj))
      have hi := hl i List.mem_cons_self
      obtain ⟨v', hv', rv'⟩ := rvs.get (i := i) (d := .list (dints (css.getD i []))) (by simp [List.getD_eq_getElem?_getD, hi])
      dsimp only
      rw [List.getD_eq_getElem?_getD, hv']
      exact rv'.sub e₂.vis
  exact go p.toList fun i hi => List.mem_range.mp (P1.perm.mem_iff.mp hi)
end
end Mine
end
section
open PySem PySem.W PySem.Calls PyProof.Rows
set_option maxRecDepth 100000
set_option linter.all false
namespace Mine
section
variable {M : Model} {A : Around} {E : Value → Shared → Prop} {s : Shared}
theorem wpAny_newFunctionEnv_one {scope : Scope} {globals : Addr} {closure : List (Str × Addr)} {x : Str} {qual : Str} {func : Option Addr} {code : Value} {outer : Env} {builtins : Addr} {Q : Env → Shared → Prop}
    (hone : ∀ n acc, cellsFrom n scope.names acc = (x, n) :: acc) (hpush : ∀ h, pushCells h scope.names = h.push { cls := .type "cell", data := .cell none })
    (hQ : Q (newEnv scope s.heap.objs.size globals ((x, s.heap.objs.size + 1) :: closure) qual func code (some outer) builtins) { s with heap := (s.heap.push { cls := .type "dict", data := .dict #[] }).push { cls := .type "cell", data := .cell none } }) :
    wpAny M A (newFunctionEnv scope globals closure [] qual func code (some outer) builtins) Q E s := by
  simp only [newFunctionEnv, Option.isSome_some, if_true]
  refine wpAny_bind (wpAny_alloc ?_)
  refine wpAny_bind (wpAny_layCells _ (fun name kind cells => by cases hkc : kind == NameKind.cell <;> simp [hkc]) _ _ _ _ ?_)
  rw [hone, hpush]
  have e : ({ s with heap := s.heap.push { cls := .type "dict", data := .dict #[] } } : Shared).heap.objs.size = s.heap.objs.size + 1 := Heap.size_push ..
  rw [e]
  refine wpAny_bind ?_
  rw [List.forIn_nil]
  exact wpAny_pure (wpAny_pure hQ)
end
section
variable {prog : Program} {w : World} {W : Wd} {K : Frag} {off : List Addr} {tb : Tb} {k : Nat} {env : Env} {ρ : Rho} {mg mb : Str → Option Value}
theorem q01 (I : Nat) : I ≠ I + 1 := by omega
theorem q02 (I : Nat) : I ≠ I + 2 := by omega
theorem q03 (I : Nat) : I ≠ I + 3 := by omega
theorem q12 (I : Nat) : I + 1 ≠ I + 2 := by omega
theorem q13 (I : Nat) : I + 1 ≠ I + 3 := by omega
theorem q23 (I : Nat) : I + 2 ≠ I + 3 := by omega
/-- a block whose one name lies in a cell -/
theorem comp_genC {elt iter : Expr} {x : Str} {px : Pos} {ifs : List Expr} {scope : Scope} {pos : Pos} {cl : List (Str × Addr)} {ρ ρ' : Rho} {ds : List PyData} (p : PyData → Bool) (f : PyData → PyData)
    (hclos : closureFor scope env = pure cl) (hkind : scope.kind = .function) (hone : ∀ n acc, cellsFrom n scope.names acc = (x, n) :: acc) (hpush : ∀ h, pushCells h scope.names = h.push { cls := .type "cell", data := .cell none }) (hnames : ∀ y ∈ scope.names, y.2 = .local → scope.names.lookup y.1 = some .local) (hxk : ∀ Z C, (compEnvC scope ((x, Z) :: cl) C env).kindOf x = some .cell)
    (hpass : ∀ Z C, Passes env (compEnvC scope ((x, Z) :: cl) C env) ρ') (hsub : ∀ q ∈ ρ', q ∈ ρ) (hlen : ds.length ≤ sizeLine)
    (htest : ∀ d ∈ ds, ∀ Z C, PTs prog w K off tb k (compEnvC scope ((x, Z) :: cl) C env) ((x, d) :: ρ') ifs (p d))
    (helt : ∀ d ∈ ds, p d = true → ∀ Z C, PV prog w K off tb k (compEnvC scope ((x, Z) :: cl) C env) ((x, d) :: ρ') elt (f d))
    (hs : ∀ v, foldedSetIterable iter env v = pure v)
    (hiter : ∀ (A : Around) (X : List Addr) (s : Shared) (Q : Value → Shared → Prop), Room A k → Ok K off tb X s → EnvOk tb X env ρ s →
      (∀ v s', Ext tb s s' → (∃ SO, Src prog w tb k X s' v ds SO) → Q v s') → wpAny (model prog w) A (eval iter env) Q NoE s)
    {use : Option (Value → Sem Unit)} {pos' : Pos} {A : Around} {X : List Addr} {s : Shared} {Q : Value → Shared → Prop} (hR : Room A k) (hO : Ok K off tb X s) (hE : EnvOk tb X env ρ s)
    (hend : ∀ (D C : Addr) (s' : Shared) (mC : Str → Option Value), Ext tb s s' → Rp (vis tb (C :: X) s'.heap) (.ref D) (.list ((ds.filter p).map f)) → s'.heap.Ns C mC → s.heap.get? C = none → C ∉ X → C ∉ tb.map (·.1) →
      compPost (model prog w) A NoE use Q (.ref D) C (.ok .next) s') :
    wpAny (model prog w) A (comprehension (.ListComp elt [⟨.Name x px, iter, ifs, 0⟩] scope pos) scope env pos' (newList []) false (eval iter env) use) Q NoE s := by
  refine wpAny_comprehension_free rfl hs hclos hkind hnames (hiter A X s _ hR hO hE fun xv s₁ e₁ ⟨SO, S⟩ => ?_)
  have O1 := hO.ext e₁
  have E1 := hE.ext hO e₁
  refine S.lay A _ hR fun oI hSO hIf => ?_
  generalize hI : s₁.heap.objs.size = I
  refine wpAny_newObj_type ?_
  refine wpAny_newFunctionEnv_one hone hpush ?_
  dsimp only
  generalize hH2 : (s₁.heap.push oI).push { cls := .type "list", dict := none, data := .seq ([] : List Value).toArray } = H2
  generalize hD : (s₁.heap.push oI).objs.size = D
  have hns : ((H2.push { cls := .type "dict", data := .dict #[] }).push { cls := .type "cell", data := .cell none }).Ns H2.objs.size (fun _ => none) := (Heap.Ns.new H2 (.type "dict")).keeps fun b o e => Heap.get?_push_of_some _ e
  have gZ : ((H2.push { cls := .type "dict", data := .dict #[] }).push { cls := .type "cell", data := .cell none }).IsCell (H2.objs.size + 1) none := ⟨_, by have := Heap.get?_push_size (h := H2.push { cls := .type "dict", data := .dict #[] }) (o := { cls := .type "cell", data := .cell none }) rfl; rwa [Heap.size_push] at this, rfl⟩
  have k12 : Sub H2 ((H2.push { cls := .type "dict", data := .dict #[] }).push { cls := .type "cell", data := .cell none }) := fun b o e => Heap.get?_push_of_some _ (Heap.get?_push_of_some _ e)
  generalize ((H2.push { cls := .type "dict", data := .dict #[] }).push { cls := .type "cell", data := .cell none }) = h₁ at hns gZ k12 ⊢
  generalize hC : H2.objs.size = C at hns gZ ⊢
  generalize hZ : C + 1 = Z at gZ ⊢
  have hDI : D = I + 1 := by rw [← hD, ← hI, Heap.size_push]
  have hCI : C = I + 2 := by rw [← hC, ← hH2, Heap.size_push, hD, hDI]
  have hZI : Z = I + 3 := by rw [← hZ, hCI]
  have none_ : ∀ b : Nat, I ≤ b → s₁.heap.get? b = none := fun b hb => Heap.get?_none_of_le (by rw [hI]; exact hb)
  have g2 : ∀ b o, (s₁.heap.push oI).get? b = some o → h₁.get? b = some o := fun b o e => k12 b o (by rw [← hH2]; exact Heap.get?_push_of_some _ e)
  have g2D : H2.get? D = some { cls := .type "list", dict := none, data := .seq ([] : List Value).toArray } := by
    rw [← hH2, ← hD]; exact Heap.get?_push_size _ rfl
  have gI : h₁.get? I = some oI := g2 _ _ (by rw [← hI]; exact Heap.get?_push_size _ hIf)
  have nC := none_ C (hCI ▸ Nat.le_add_right I 2)
  have nIC : @Ne Nat I C := by rw [hCI]; exact q02 I
  have nIZ : @Ne Nat I Z := by rw [hZI]; exact q03 I
  have nDC : @Ne Nat D C := by rw [hCI, hDI]; exact q12 I
  have nDZ : @Ne Nat D Z := by rw [hZI, hDI]; exact q13 I
  have nCZ : @Ne Nat C Z := by rw [hZI, hCI]; exact q23 I
  have hfin := @comp_loop prog w K off tb k elt iter x px ifs scope pos (compEnvC scope ((x, Z) :: cl) C env) ρ' ds p f SO xv [C, Z] X (fun h => (∃ m, h.Ns C m) ∧ ∃ v, h.IsCell Z v) I D C oI A s₁ { s₁ with heap := h₁ } (compPost (model prog w) A NoE use Q (.ref D) C)
    S hR O1 (all4 (none_ I (Nat.le_refl _)) (none_ D (hDI ▸ Nat.le_add_right I 1)) nC (none_ Z (hZI ▸ Nat.le_add_right I 3))) (by show @Ne Nat _ _; rw [hDI]; exact q01 I) (fun z => (List.mem_cons.mp z).elim nIC fun z => nIZ (List.mem_singleton.mp z)) (fun z => (List.mem_cons.mp z).elim nDC fun z => nDZ (List.mem_singleton.mp z)) List.mem_cons_self
    (fun h ⟨⟨m, o, es, ep, g, d, _⟩, v, o2, g2, d2⟩ => all2 ⟨o, g, noCode_dict d⟩ ⟨o2, g2, noCode_cell d2⟩) (fun h h' ⟨⟨m, o, es, ep, g, r⟩, v, o2, g2, r2⟩ kp => ⟨⟨m, o, es, ep, kp _ _ List.mem_cons_self g, r⟩, v, o2, kp _ _ (List.mem_cons_of_mem _ List.mem_cons_self) g2, r2⟩)
    (fun s' v Q ⟨⟨m, n⟩, v0, z0⟩ hQ => wpAny_assign_Name (wpAny_storeName_cell hkind (hxk Z C) (by simp [compEnvC]) z0 fun h2 z2 sb2 => hQ h2 s'.toks ⟨⟨m, n.extBut sb2.extBut nCZ⟩, _, z2⟩ (fun b o hb g => sb2.extBut b o (fun z => hb (z ▸ List.mem_cons_of_mem _ List.mem_cons_self)) g) (.inr ⟨.inl (hxk Z C), Z, by simp [compEnvC], z2⟩)))
    hkind E1.globals E1.builtins List.mem_cons_self (fun s' e q hq => by
      obtain ⟨u, b, ru⟩ := E1.vars q (hsub q hq)
      obtain ⟨c1, c2, c3⟩ := hpass Z C q hq
      refine ⟨u, ?_, ru⟩
      rcases b.ext O1 E1.nloc e with ⟨kl, _⟩ | ⟨_, c, hc, hv⟩
      · rcases c1 with c1 | c1 <;> (rw [kl] at c1; cases c1)
      · exact .inr ⟨c2, c, c3.trans hc, hv⟩) hlen (fun d hd => htest d hd Z C) (fun d hd hp => helt d hd hp Z C)
    (fun s' e r ⟨⟨mC, n⟩, _⟩ => by
      have nn := notTab_of O1 nC
      refine hend D C _ _ (e₁.trans e) r n ?_ nn.2 nn.1
      cases hc : s.heap.get? C with
      | none => rfl
      | some o => rw [e₁.keep C o nn.1 hc] at nC; cases nC)
    (.of_sub (fun b o e => g2 _ _ (Heap.get?_push_of_some _ e)) rfl rfl) gI hSO ⟨_, k12 D _ g2D, rfl, _, rfl⟩ ⟨⟨_, hns⟩, _, gZ⟩
  exact codeAny_compStart_list hfin (S.self _ _ 0 oI I _ _ gI hSO hfin)

end
end Mine
end
section
open PySem PySem.W PySem.Calls PyProof.Rows
set_option maxRecDepth 100000
set_option maxHeartbeats 2000000
set_option linter.all false
namespace Mine
section
variable {prog : Program} {w : World} {W : Wd} {K : Frag} {off : List Addr} {tb : Tb} {k : Nat} {env : Env} {ρ : Rho} {mg mb : Str → Option Value}
theorem comp_coreC {elt iter : Expr} {x : Str} {px : Pos} {ifs : List Expr} {scope : Scope} {pos : Pos} {cl : List (Str × Addr)} {ρ ρ' : Rho} {ds : List PyData} (p : PyData → Bool) (f : PyData → PyData)
    (hclos : closureFor scope env = pure cl) (hkind : scope.kind = .function) (hone : ∀ n acc, cellsFrom n scope.names acc = (x, n) :: acc) (hpush : ∀ h, pushCells h scope.names = h.push { cls := .type "cell", data := .cell none }) (hnames : ∀ y ∈ scope.names, y.2 = .local → scope.names.lookup y.1 = some .local) (hxk : ∀ Z C, (compEnvC scope ((x, Z) :: cl) C env).kindOf x = some .cell)
    (hpass : ∀ Z C, Passes env (compEnvC scope ((x, Z) :: cl) C env) ρ') (hsub : ∀ q ∈ ρ', q ∈ ρ) (hlen : ds.length ≤ sizeLine)
    (htest : ∀ d ∈ ds, ∀ Z C, PTs prog w K off tb k (compEnvC scope ((x, Z) :: cl) C env) ((x, d) :: ρ') ifs (p d))
    (helt : ∀ d ∈ ds, p d = true → ∀ Z C, PV prog w K off tb k (compEnvC scope ((x, Z) :: cl) C env) ((x, d) :: ρ') elt (f d))
    (hs : ∀ v, foldedSetIterable iter env v = pure v)
    (hiter : ∀ (A : Around) (X : List Addr) (s : Shared) (Q : Value → Shared → Prop), Room A k → Ok K off tb X s → EnvOk tb X env ρ s →
      (∀ v s', Ext tb s s' → (∃ SO, Src prog w tb k X s' v ds SO) → Q v s') → wpAny (model prog w) A (eval iter env) Q NoE s) :
    PV prog w K off tb k env ρ (.ListComp elt [⟨.Name x px, iter, ifs, 0⟩] scope pos) (.list ((ds.filter p).map f)) := by
  intro A X s Q hR hO hE h
  show wpAny (model prog w) A (comprehension (.ListComp elt [⟨.Name x px, iter, ifs, 0⟩] scope pos) scope env (firstIterPos [⟨.Name x px, iter, ifs, 0⟩] pos) (newList []) false (eval iter env) none) Q NoE s
  refine comp_genC (use := none) p f hclos hkind hone hpush hnames hxk hpass hsub hlen htest helt hs hiter hR hO hE fun D C s' mC e r n c0 cX cT => ?_
  refine ⟨mC, n, fun h2 sb2 => ?_⟩
  obtain ⟨oC, esC, epC, gCo, dC, _⟩ := id n
  have X2 : Ext tb s { s' with heap := h2 } :=
    ⟨fun b ob n1 e1 => sb2.extBut b ob (fun z => by rw [z, c0] at e1; cases e1) (e.keep b ob n1 e1), fun q hq z => (e.tab q hq z).but sb2.extBut gCo (noCode_dict dC) (ne_of_tab cT hq), e.gens, e.os⟩
  refine h _ _ X2 (r.sub fun b o e1 => ?_)
  obtain ⟨e0, n1, m⟩ := vis_get e1
  exact vis_mk (sb2.extBut b o (fun z => m (z ▸ List.mem_cons_self)) e0) n1 fun q => m (List.mem_cons_of_mem _ q)
/-- the same without a walk over the iterable -/
theorem iter_range {n : Nat} {vp : Value} {x : Str} {p : Pos} {c : Addr} (hn : n ≤ 1000) (hkx : CellKind env x) (hcx : env.cells.lookup x = some c) (hc : ∀ g, TopOk K off g → g.IsCell c (some vp) ∧ RgAt g vp n) (hd : (x == ("__debug__" : Str)) = false := by decide) (hnn : (x == ("__classdict__" : Str)) = false := by decide) :
    ∀ (A : Around) (X : List Addr) (s : Shared) (Q : Value → Shared → Prop), Room A k → Ok K off tb X s → EnvOk tb X env ρ s → (∀ v s', Ext tb s s' → (∃ SO, Src prog w tb k X s' v (nts n) SO) → Q v s') → wpAny (model prog w) A (eval (.Name x p) env) Q NoE s := fun A X s Q hR hO hE h => by
  obtain ⟨⟨oc, gc, dc⟩, rg⟩ := hc _ hO.top
  exact bound_load hE.kind (.inr ⟨hkx, c, hcx, oc, (vis_get gc).1, dc⟩) (h vp s (.refl _ _) (src_range (by omega) rg)) hd hnn
end
abbrev rowOf (names : List Str) (one : Str) : PyData := .list (names.map fun y => .int (tell [one] y))
abbrev toldOf (names : List Str) : PyData := .list (names.map (rowOf names))
theorem getD_get {α : Type} {ns : List α} {k : Nat} {d : α} (h : k < ns.length) : ns[k]? = some (ns.getD k d) := by
  rw [List.getD_eq_getElem?_getD, List.getElem?_eq_getElem h]; rfl
abbrev scTold : Scope := { kind := .function, names := [("j", .local), ("k", .local), ("told", .free)], isGenerator := false, isCoroutine := false, more := [] }
abbrev scOne : Scope := { kind := .function, names := [(".0", .local), ("name", .local), ("_law_answers", .globalImplicit), ("names", .free)], isGenerator := false, isCoroutine := false, more := [] }
abbrev scK : Scope := { kind := .function, names := [(".0", .local), ("k", .cell), ("sorted", .globalImplicit), ("key", .free), ("places", .free), ("told", .free)], isGenerator := false, isCoroutine := false, more := [] }
abbrev scI : Scope := { kind := .function, names := [(".0", .local), ("j", .local), ("k", .free), ("told", .free)], isGenerator := false, isCoroutine := false, more := [] }
/-- who is told to stand above k -/
def ancI (names : List Str) (k : Nat) : List Int := ((List.range names.length).filter fun j => decide (tell [names.getD j ""] (names.getD k "") = 1)).map fun j => ((j : Nat) : Int)
def cmpI (names : List Str) (x y : Int) : Int := tell [names.getD y.toNat ""] (names.getD x.toNat "") - tell [names.getD x.toNat ""] (names.getD y.toNat "")
structure ChOk (names : List Str) (chain : Nat → List Int) : Prop where
  ord : ∀ k < names.length, Ord (ancI names k).length fun i j => decide (cmpI names ((ancI names k).getD i 0) ((ancI names k).getD j 0) < 0)
  uni : ∀ k < names.length, ∀ q : List Int, q.Perm (ancI names k) → q.Pairwise (fun x y => cmpI names x y < 0) → q = chain k
section
variable {prog : Program} {w : World} {W : Wd} {K : Frag} {off : List Addr} {tb : Tb} {k : Nat} {env : Env} {ρ : Rho} {mg mb : Str → Option Value}
  {p1 p2 p3 p4 p5 p6 p7 p8 p9 p10 p11 p12 p13 p14 p15 p16 p17 : Pos} {q : Str} {params : Arguments} {pm ctv : Value} {c' : Addr}
/-- lambda j, k: told[k][j] - told[j][k] -/
theorem fn_told {f ct : Addr} {names : List Str} {vt : Value} {a b : Nat} (G : Globs K off mg mb)
    (hf : K.lookup f = some (kla_obj "<lambda>" q params (.BinOp (.Subscript (.Subscript (.Name "told" p1) (.Name "k" p2) p3) (.Name "j" p4) p5) .Sub (.Subscript (.Subscript (.Name "told" p6) (.Name "j" p7) p8) (.Name "k" p9) p10) p11) scTold [("told", ct)] pm c' ctv)) (hfo : f ∉ off)
    (hbind : ∀ (bd : Expr) (x y : Value), bindArgs (kla_fn "<lambda>" q params bd scTold [("told", ct)] pm (.ref c') ctv) ⟨[x, y], []⟩ = (pure [(("j" : Str), x), (("k" : Str), y)] : Sem (List (Str × Value))))
    (hcd : ∀ X s, Ok K off tb X s → s.heap.CodeRec (.ref c') q) (hct : ∀ g, TopOk K off g → g.IsCell ct (some vt) ∧ Rp g vt (toldOf names)) (ha : a < names.length) (hb : b < names.length) (hlen : names.length ≤ 100) :
    Fn prog w K off tb (k + 1) (.ref f) [.int (a : Nat), .int (b : Nat)] (.int (cmpI names (a : Nat) (b : Nat))) := by
  refine fn_lambda (xs := ["j", "k"]) (ρF := [("told", toldOf names)]) G hf hfo rfl rfl rfl rfl hcd rfl ?_ (by decide) ?_ ?_ ?_ rfl rfl rfl fun L => ?_
  · intro vs hv
    match vs, hv with
    | [x, y], _ => exact hbind _ x y
  · exact List.forall_mem_cons.mpr ⟨rfl, List.forall_mem_cons.mpr ⟨rfl, fun _ h => nomatch h⟩⟩
  · exact List.forall_mem_cons.mpr ⟨by decide, List.forall_mem_cons.mpr ⟨by decide, List.forall_mem_cons.mpr ⟨by decide, fun _ h => nomatch h⟩⟩⟩
  · exact fun g t => List.forall_mem_cons.mpr ⟨⟨ct, vt, rfl, rfl, (hct g t).1, (hct g t).2⟩, fun _ h => nomatch h⟩
  · have row : ∀ i, i < names.length → (names.map (rowOf names))[i]? = some (rowOf names (names.getD i "")) := fun i hi => by rw [List.getElem?_map, getD_get hi]; rfl
    have it : ∀ i j, i < names.length → (names.map fun y => PyData.int (tell [names.getD j ""] y))[i]? = some (.int (tell [names.getD j ""] (names.getD i ""))) := fun i j hi => by rw [List.getElem?_map, getD_get hi]; rfl
    have e : cmpI names (a : Nat) (b : Nat) = tell [names.getD b ""] (names.getD a "") - tell [names.getD a ""] (names.getD b "") := by unfold cmpI; simp only [Int.toNat_natCast]
    rw [e]
    refine pv_binop (pv_item (j := (a : Nat)) (pv_item (j := (b : Nat)) (ds := names.map (rowOf names)) (pv_var rfl) (pv_var rfl) (by omega) (by omega) (row b hb)) (pv_var rfl) (by omega) (by omega) (it a b ha))
      (pv_item (j := (b : Nat)) (pv_item (j := (a : Nat)) (ds := names.map (rowOf names)) (pv_var rfl) (pv_var rfl) (by omega) (by omega) (row a ha)) (pv_var rfl) (by omega) (by omega) (it b a hb)) op_sub_int
end
end Mine
end
section
open PySem PySem.W PySem.Calls PyProof.Rows
set_option maxRecDepth 100000
set_option maxHeartbeats 2000000
set_option linter.all false
namespace Mine
section
variable {prog : Program} {w : World} {W : Wd} {off : List Addr} {tb : Tb} {k : Nat}
theorem fn_drawn {xs : List Int} (hlen : xs.length ≤ 15) (G : Globs (K1 W) off (mg1 W) (mb1 W)) (hoff : ∀ a ∈ [105, 106], a ∉ off) :
    Fn prog w (K1 W) off tb (k + 2) (.ref 106) [.list (dints xs)] (drOut xs) := by
  refine fn_enter (xs := ["numbers"]) G (ho := by exact rfl) (hoff 106 (by decide)) (hdat := by exact rfl) (hbody := by exact rfl) rfl rfl rfl (fun g t => ⟨105, _, _, _, rfl, t 105 _ rfl (hoff 105 (by decide)), rfl, rfl⟩) rfl ?_ (by decide) ?_ ?_ rfl rfl rfl fun L => ?_
  · intro vs hv
    match vs, hv with
    | [a], _ => rfl
  · exact List.forall_mem_cons.mpr ⟨.inl rfl, fun _ h => nomatch h⟩
  · intro L x y c h1 h2
    cases PySem.mem_of_lookup h1
  · exact dr_pb (k := k) G rfl W.bEnum hlen rfl rfl rfl rfl rfl rfl rfl rfl rfl rfl rfl rfl rfl rfl rfl rfl
end
end Mine
end
section
open PySem PySem.W PySem.Calls PyProof.Rows
set_option maxRecDepth 100000
set_option maxHeartbeats 2000000
set_option linter.all false
namespace Mine
def treeD (ups : List Int) (names : List Str) (order : List Int) : Nat → Nat → PyData
  | 0, _ => .none
  | f + 1, k => .list (.str (names.getD k "") :: (order.filter fun j => decide (ups.getD j.toNat 0 = (k : Nat))).map fun j => treeD ups names order f j.toNat)
section
variable {prog : Program} {w : World} {W : Wd} {K : Frag} {off : List Addr} {tb : Tb} {k : Nat}
theorem filter_ints (p : Int → Bool) (xs : List Int) : (dints xs).filter (fun d => match d with | .int j => p j | _ => false) = dints (xs.filter p) := by
  induction xs with
  | nil => rfl
  | cons x xs ih =>
    simp only [List.map_cons, List.filter_cons]
    rw [ih]
    split <;> rfl
theorem fn_tree {ups order : List Int} {names : List Str} {n : Nat} (G : Globs (K1 W) off (mg1 W) (mb1 W)) (hoff : ∀ a ∈ [110, 111], a ∉ off) (hu : ups.length = n) (hn : names.length = n) (hz : n ≤ 99) (hol : order.length ≤ 99) (ho : ∀ j ∈ order, 0 ≤ j ∧ j.toNat < n) (hup : ∀ j < n, ups.getD j 0 < (j : Nat)) :
    ∀ f k : Nat, k < n → n - k ≤ f → Fn prog w (K1 W) off tb f (.ref 111) [.int (k : Nat), .list (dints ups), .list (sts names), .list (dints order)] (treeD ups names order f k)
  | 0, k, h1, h2 => by omega
  | f + 1, k, h1, h2 => by
    have hsl : sizeLine = 2 ^ 24 := rfl
    refine fn_enter (xs := ["k", "ups", "names", "order"]) G (ho := by exact rfl) (hoff 111 (by decide)) (hdat := by exact rfl) (hbody := by exact rfl) rfl rfl rfl (fun g t => ⟨110, _, _, _, rfl, t 110 _ rfl (hoff 110 (by decide)), rfl, rfl⟩) rfl ?_ (by decide) ?_ ?_ rfl rfl rfl fun L => ?_
    · intro vs hv
      match vs, hv with
      | [a, b, c, d], _ => rfl
    · exact all4 (.inr ⟨rfl, fun L => rfl⟩) (.inr ⟨rfl, fun L => rfl⟩) (.inr ⟨rfl, fun L => rfl⟩) (.inr ⟨rfl, fun L => rfl⟩)
    · intro L x y c h1 h2
      exact uniq_of_nodup (l := [((Str.ofString "order"), L + 1 + 1 + 1), ((Str.ofString "names"), L + 1 + 1), ((Str.ofString "ups"), L + 1), ((Str.ofString "k"), L)]) (nd4n L) h1 h2
    · refine pb_return (pv_binop (pv_list (pvs_cons (pv_item (d := .str (names.getD k "")) (pv_var rfl) (pv_var rfl) (Int.natCast_nonneg k) (sm1 h1 hz) ?_) pvs_nil) (by show 1 ≤ 2 ^ 24; decide)) (pv_comp (ds := dints order) (ρ' := [("k", .int (k : Nat)), ("ups", .list (dints ups)), ("names", .list (sts names)), ("order", .list (dints order))])
        (fun d => match d with | .int j => decide (ups.getD j.toNat 0 = (k : Nat)) | _ => false) (fun d => match d with | .int j => treeD ups names order f j.toNat | _ => .none) rfl rfl (by decide) (by decide) rfl (fun C => all4 ⟨.inl rfl, .inl rfl, rfl⟩ ⟨.inl rfl, .inl rfl, rfl⟩ ⟨.inl rfl, .inl rfl, rfl⟩ ⟨.inl rfl, .inl rfl, rfl⟩) (fun q hq => hq) (by rw [List.length_map, hsl]; omega)
        (pv_var rfl) (fun d hd C => ?_) (fun d hd hp C => ?_) rfl) ?_)
      · rw [Int.toNat_natCast]
        have : k < names.length := hn ▸ h1
        simp [List.getD_eq_getElem?_getD, this]
      · obtain ⟨j, hj, rfl⟩ := List.mem_map.mp hd
        obtain ⟨j0, j1⟩ := ho j hj
        refine .inr ⟨_, rfl, ?_⟩
        show PT prog w _ off tb f _ _ _ (decide (ups.getD j.toNat 0 = ((k : Nat) : Int)))
        rw [← eqv_int]
        exact pt_cmp (pv_item (ds := dints ups) (j := j) (pv_var rfl) (pv_var rfl) j0 (sm2 j0 j1 hz) (by
          have : j.toNat < ups.length := hu ▸ j1
          simp [List.getD_eq_getElem?_getD, this])) (pv_var rfl) (op_eq rfl rfl (by show min 0 0 < 900; decide))
      · obtain ⟨j, hj, rfl⟩ := List.mem_map.mp hd
        obtain ⟨j0, j1⟩ := ho j hj
        have hjk : ups.getD j.toNat 0 = (k : Nat) := of_decide_eq_true hp
        have := hup j.toNat j1
        have ih := fn_tree G hoff hu hn hz hol ho hup f j.toNat j1 (by omega)
        rw [Int.toNat_of_nonneg j0] at ih
        exact pv_call (ho := by exact rfl) (hdat := by exact rfl) G rfl (hoff 111 (by decide)) (pvs_cons (pv_var rfl) (pvs_cons (pv_var rfl) (pvs_cons (pv_var rfl) (pvs_cons (pv_var rfl) pvs_nil)))) ih
      · have e : ((dints order).filter (fun d => match d with | .int j => decide (ups.getD j.toNat 0 = (k : Nat)) | _ => false)).map (fun d => match d with | .int j => treeD ups names order f j.toNat | _ => .none) = (order.filter fun j => decide (ups.getD j.toNat 0 = (k : Nat))).map fun j => treeD ups names order f j.toNat := by
          rw [filter_ints, List.map_map]; rfl
        rw [e]
        refine op_add_list (as := [.str (names.getD k "")]) ?_
        have := List.length_filter_le (fun j => decide (ups.getD j.toNat 0 = (k : Nat))) order
        rw [List.length_map, hsl]
        show 1 + _ ≤ _
        omega
end
end Mine
end
section
open PySem PySem.W PySem.Calls PyProof.Rows
set_option maxRecDepth 100000
set_option maxHeartbeats 2000000
set_option linter.all false
namespace Mine
section
variable {prog : Program} {w : World} {W : Wd} {K L : Frag} {off : List Addr} {tb : Tb} {k : Nat} {env : Env} {ρ ρ' : Rho} {mg mb : Str → Option Value}
  {KF : Frag} {C N p f1 f2 cc f0 : Addr} {of0 : Obj} {fd0 : FuncData}
abbrev scChains (more : List (Str × Const)) : Scope := { kind := .function, names := [("names", .cell), ("places", .cell), ("key", .cell), ("told", .cell), ("range", .globalImplicit), ("len", .globalImplicit), ("cmp_to_key", .globalImplicit)], isGenerator := false, isCoroutine := false, more }
abbrev envR (more : List (Str × Const)) (L g ct ck cp cn : Addr) (qual : Str) (func : Option Addr) (frame : Option Addr) (bu : Addr) : Env :=
  { scope := scChains more, locals := L, globals := g, cells := [("told", ct), ("key", ck), ("places", cp), ("names", cn)], qual, func, code := .ref 120, frame, builtins := bu }
abbrev clK (ct cp ck : Addr) : List (Str × Addr) := [("told", ct), ("places", cp), ("key", ck)]
/-- [sorted([j for j in places if told[j][k] == 1], key=key) for k in places] -/
theorem pv_chains {names : List Str} {chain : Nat → List Int} {cn ct cp ck eL eg ebu : Addr} {efunc eframe : Option Addr} {equal : Str} {more : List (Str × Const)} {vp : Value} {d1 d2 d3 d4 d5 d6 d7 d8 d9 d10 d11 d12 d13 d14 d15 d16 d17 d18 : Pos} (G : Globs K off mg mb) (hm : mg "sorted" = none) (hv : mb "sorted" = some (.builtin "sorted"))
    (HK : ∀ g, TopOk K off g → KeyEnv W g KF C N p f1 f2 cc (.ref f0)) (hC : ∀ g, TopOk K off g → g.IsCell ck (some (.ref C))) (hP : ∀ g, TopOk K off g → g.IsCell cp (some vp) ∧ RgAt g vp names.length)
    (hf0 : K.lookup f0 = some of0) (hfo : f0 ∉ off) (hfd : of0.data = .func fd0)
    (hfn : ∀ a b : Nat, a < names.length → b < names.length → Fn prog w K off tb k (.ref f0) [.int (a : Nat), .int (b : Nat)] (.int (cmpI names (a : Nat) (b : Nat))))
    (ch : ChOk names chain) (hlen : names.length ≤ 60) (htold : ρ.lookup ("told" : Str) = some (toldOf names)) :
    PV prog w K off tb (k + 3) (envR more eL eg ct ck cp cn equal efunc eframe ebu) ρ (.ListComp (.Call (.Name "sorted" d1) [.ListComp (.Name "j" d2) [⟨.Name "j" d3, .Name "places" d4, [.Compare (.Subscript (.Subscript (.Name "told" d5) (.Name "j" d6) d7) (.Name "k" d8) d9) [.Eq] [.Constant (.int 1) 0 d10] d11], 0⟩] scI d12] [⟨some "key", .Name "key" d13, d14⟩] d15)
      [⟨.Name "k" d16, .Name "places" d17, [], 0⟩] scK d18) (.list (dlists ((List.range names.length).map chain))) := by
  have hz : sizeLine = 2 ^ 24 := rfl
  have h99 : names.length ≤ 99 := Nat.le_trans hlen (by decide)
  have h1000 : names.length ≤ 1000 := Nat.le_trans hlen (by decide)
  have es : dlists ((List.range names.length).map chain) = ((nts names.length).filter (fun _ => true)).map (fun d => match d with | .int i => .list (dints (chain i.toNat)) | _ => .none) := by
    rw [filter_all]
    show List.map _ (List.map _ _) = List.map _ (List.map _ _)
    rw [List.map_map, List.map_map]
    rfl
  rw [es]
  refine comp_coreC (cl := clK ct cp ck) (ρ' := [("told", toldOf names)]) (fun _ => true) _ rfl rfl (fun _ _ => rfl) (fun _ => rfl) (by decide) (fun _ _ => rfl) (fun Z C => all1 ⟨.inl rfl, .inl rfl, rfl⟩) (all1 (PySem.mem_of_lookup htold)) (by simp [nts]; omega)
    (fun d hd Z C => .inl ⟨rfl, rfl⟩) (fun d hd _ Z C' => ?_) (fun _ => rfl) (iter_range h1000 (.inl rfl) rfl hP)
  obtain ⟨j, hj, rfl⟩ := List.mem_map.mp hd
  have hj := List.mem_range.mp hj
  have row : ∀ i, i < names.length → (names.map (rowOf names))[i]? = some (rowOf names (names.getD i "")) := fun i hi => by rw [List.getElem?_map, getD_get hi]; rfl
  have it : ∀ i j, i < names.length → (names.map fun y => PyData.int (tell [names.getD j ""] y))[i]? = some (.int (tell [names.getD j ""] (names.getD i ""))) := fun i j hi => by rw [List.getElem?_map, getD_get hi]; rfl
  have anc_lt : ∀ x ∈ ancI names j, ∃ a : Nat, x = (a : Nat) ∧ a < names.length := fun x hx => by
    obtain ⟨a, ha, rfl⟩ := List.mem_map.mp hx
    exact ⟨a, rfl, List.mem_range.mp (List.mem_filter.mp ha).1⟩
  have ea : dints (ancI names j) = ((nts names.length).filter (fun d => match d with | .int i => decide (tell [names.getD i.toNat ""] (names.getD j "") = 1) | _ => false)).map (fun d => d) := by
    have e1 : nts names.length = dints ((List.range names.length).map fun a => ((a : Nat) : Int)) := by
      show List.map _ _ = List.map _ (List.map _ _)
      rw [List.map_map]; rfl
    rw [e1]
    have h := filter_ints (fun i => decide (tell [names.getD i.toNat ""] (names.getD j "") = 1)) ((List.range names.length).map fun a => ((a : Nat) : Int))
    have h2 : ((List.range names.length).map fun a => ((a : Nat) : Int)).filter (fun i => decide (tell [names.getD i.toNat ""] (names.getD j "") = 1)) = ancI names j := by
      rw [List.filter_map]; rfl
    rw [h2] at h
    exact h.symm.trans (List.map_id' _).symm
  refine pv_sortedK (xk := "key") (a := ancI names j) (b := chain j) (c := cmpI names) (ck := ck) G hm hv HK hC (.inl rfl) rfl ?_ hf0 hfo hfd (fun x hx y hy => ?_) (ch.ord j hj) ?_ (ch.uni j hj)
  · rw [ea]
    refine comp_core (cl := [("told", ct), ("k", Z)]) (ρ' := [("k", .int (j : Nat)), ("told", toldOf names)]) _ _ rfl rfl (by decide) (by decide) rfl (fun C => all2 ⟨.inl rfl, .inl rfl, rfl⟩ ⟨.inl rfl, .inl rfl, rfl⟩) (fun q hq => hq) (by simp [nts]; omega)
      (fun d hd C2 => ?_) (fun d hd _ C2 => pv_var rfl) (fun _ => rfl) (iter_range h1000 (.inl rfl) rfl hP)
    obtain ⟨i, hi, rfl⟩ := List.mem_map.mp hd
    have hi := List.mem_range.mp hi
    refine .inr ⟨_, rfl, ?_⟩
    have e : decide (tell [names.getD ((i : Nat) : Int).toNat ""] (names.getD j "") = 1) = PyData.eqv (.int (tell [names.getD i ""] (names.getD j ""))) (.int 1) := by rw [eqv_int, Int.toNat_natCast]
    show PT prog w K off tb (k + 3) _ _ _ (decide (tell [names.getD ((i : Nat) : Int).toNat ""] (names.getD j "") = 1))
    rw [e]
    exact pt_cmp (pv_item (j := (j : Nat)) (pv_item (j := (i : Nat)) (ds := names.map (rowOf names)) (pv_var rfl) (pv_var rfl) (Int.natCast_nonneg i) (sm1 hi h99) (row i hi)) (pv_var rfl) (Int.natCast_nonneg j) (sm1 hj h99) (it j i hj)) pv_int (op_eq rfl rfl (by show min 0 0 < 900; decide))
  · obtain ⟨a, rfl, ha⟩ := anc_lt x hx
    obtain ⟨b, rfl, hb⟩ := anc_lt y hy
    exact hfn a b ha hb
  · unfold ancI
    rw [List.length_map]
    have := List.length_filter_le (fun i => decide (tell [names.getD i ""] (names.getD j "") = 1)) (List.range names.length)
    rw [List.length_range] at this
    omega
end
end Mine
end
section
open PySem PySem.W PySem.Calls PyProof.Rows
set_option maxRecDepth 100000
set_option maxHeartbeats 4000000
set_option linter.all false
namespace Mine
section
variable {prog : Program} {w : World} {W : Wd} {K L : Frag} {off : List Addr} {tb : Tb} {k : Nat} {env : Env} {ρ ρ' : Rho} {β β' : Raw} {mg mb : Str → Option Value} {X : List Addr} {s s' s₀ s₁ : Shared} {A : Around}
theorem ExtO.mono {Y Y' : List Addr} (x : ExtO tb Y s s') (h : ∀ y ∈ Y, y ∈ Y') : ExtO tb Y' s s' := ⟨fun b o n m g => x.keep b o n (fun z => m (h b z)) g, x.tab, x.gens, x.os⟩
theorem ExtO.back {P : Addr} {Y : List Addr} (x : ExtO ((P, .any) :: tb) Y s s') : ExtO tb (P :: Y) s s' := ⟨fun b o n m g => x.keep b o (fun z => by
    rcases List.mem_cons.mp z with z | z
    · exact m (z ▸ List.mem_cons_self)
    · exact n z) (fun z => m (List.mem_cons_of_mem _ z)) g, fun q hq => x.tab q (List.mem_cons_of_mem _ hq), x.gens, x.os⟩
theorem Ok.cellExt {c : Addr} {v : Option Value} (O : Ok K off tb X s) (h : s.heap.IsCell c v) (e : Ext tb s s') : s'.heap.IsCell c v := let ⟨o, g, d⟩ := h; ⟨o, e.keep _ _ (O.cellTab h) g, d⟩
theorem Ok.cellExtO {c : Addr} {v : Option Value} {Y : List Addr} (O : Ok K off tb X s) (h : s.heap.IsCell c v) (e : ExtO tb Y s s') (n : c ∉ Y) : s'.heap.IsCell c v := let ⟨o, g, d⟩ := h; ⟨o, e.keep _ _ (O.cellTab h) n g, d⟩
theorem Bound.cell {x : Str} {c : Addr} {v : Value} {h : Heap} (b : Bound env h x v) (hk : env.kindOf x = some .cell) (hc : env.cells.lookup x = some c) : h.IsCell c (some v) := by
  rcases b with ⟨k, _⟩ | ⟨_, c', hc', hv⟩
  · rw [hk] at k; cases k
  · rw [hc] at hc'; cases hc'; exact hv
end


section
variable {prog : Program} {w : World} {W : Wd} {off : List Addr} {tb : Tb} {k : Nat} {X : List Addr} {s : Shared} {A : Around}
  {a1 a2 a3 a4 a5 a6 a7 a8 a9 a10 a11 a12 a13 a14 a15 a16 a17 b1 b2 b3 b4 b5 b6 b7 b8 b9 b10 b11 b12 b13 b14 b15 b16 b17 d1 d2 d3 d4 d5 d6 d7 d8 d9 d10 d11 d12 d13 d14 d15 d16 d17 d18 d19 : Pos} {x1 x2 : Nat}
theorem chains_body {u0 u1 u2 : Stmt} {names : List Str} {chain : Nat → List Int} {cn cp ck ct eL eg ebu : Addr} {efunc eframe : Option Addr} {equal : Str} {more : List (Str × Const)} {q : Str} {pa1 : Arguments} {Q : Flow → Shared → Prop} (hq : equal ++ "<lambda>" = q)
    (hnd : ct ≠ ck ∧ ct ≠ cp ∧ ct ≠ cn ∧ ck ≠ cp ∧ ck ≠ cn ∧ cp ≠ cn) (hC0 : ∀ c ∈ [ct, ck, cp], ∃ v, s.heap.IsCell c v)
    (hoff : ∀ a ∈ [0, 1, 2, 3, 4, 23, 27, 28, 80, 84, 85, 91, 92, 94, 95, 115, 116, 120], a ∉ off) (hoffT : ∀ a ∈ off, a ∈ tb.map (·.1))
    (hT : ∀ K, (∀ g, TopOk K off g → TopOk (K1 W) off g) → TabAt K off tb (mg1 W) (envR more eL eg ct ck cp cn equal efunc eframe ebu) 120 118 q)
    (hn : Nms names) (hlen : names.length ≤ 60) (ch : ChOk names chain) (hR : Room A (k + 6)) (S : St (K1 W) off tb X (envR more eL eg ct ck cp cn equal efunc eframe ebu) [("names", .list (sts names))] [] s) (hX : ∀ y ∈ own (envR more eL eg ct ck cp cn equal efunc eframe ebu), y ∈ X)
    (hd1 : defaultsOf pa1 (envR more eL eg ct ck cp cn equal efunc eframe ebu) = ([], []))
    (hb1 : ∀ (bd : Expr) (pm ctv : Value) (c' : Addr) (x y : Value), bindArgs (kla_fn "<lambda>" q pa1 bd scTold [("told", ct)] pm (.ref c') ctv) ⟨[x, y], []⟩ = (pure [(("j" : Str), x), (("k" : Str), y)] : Sem (List (Str × Value))))
    (q0 : u0 = .Assign [.Tuple [.Name "told" a1, .Name "places" a2] x1 a3] (.Tuple [.ListComp (.Call (.Name "_law_answers" a4) [.Name "name" a5, .Name "names" a6] [] a7) [⟨.Name "name" a8, .Name "names" a9, [], 0⟩] scOne a10, .Call (.Name "range" a11) [.Call (.Name "len" a12) [.Name "names" a13] [] a14] [] a15] x2 a16) a17)
    (q1 : u1 = .Assign [.Name "key" b2] (.Call (.Name "cmp_to_key" b3) [.Lambda pa1 (.BinOp (.Subscript (.Subscript (.Name "told" b4) (.Name "k" b5) b6) (.Name "j" b7) b8) .Sub (.Subscript (.Subscript (.Name "told" b9) (.Name "j" b10) b11) (.Name "k" b12) b13) b14) scTold b15] [] b16) b17)
    (q2 : u2 = .Return (some (.ListComp (.Call (.Name "sorted" d1) [.ListComp (.Name "j" d2) [⟨.Name "j" d3, .Name "places" d4, [.Compare (.Subscript (.Subscript (.Name "told" d5) (.Name "j" d6) d7) (.Name "k" d8) d9) [.Eq] [.Constant (.int 1) 0 d10] d11], 0⟩] scI d12] [⟨some "key", .Name "key" d13, d14⟩] d15)
      [⟨.Name "k" d16, .Name "places" d17, [], 0⟩] scK d18)) d19)
    (hQ : ∀ v s', ExtO tb (23 :: own (envR more eL eg ct ck cp cn equal efunc eframe ebu)) s s' → TabOk s'.heap 23 .any → (∃ ps, (vis tb X s.heap).get? 23 = some (tabObj ps)) → Rp (vis ((23, .any) :: tb) X s'.heap) v (.list (dlists ((List.range names.length).map chain))) → Q (.ret v) s') :
    wpAny (model prog w) A (execs [u0, u1, u2] (envR more eL eg ct ck cp cn equal efunc eframe ebu)) Q NoE s := by
  have G : Globs (K1 W) off (mg1 W) (mb1 W) := globs1 (hoff 0 (by decide)) (hoff 2 (by decide)) (hoff 3 (by decide))
  have sub : ∀ a ∈ ([0, 1, 2, 3, 4, 27, 28, 80, 84, 85, 91, 92, 94, 95, 115, 116, 120] : List Nat), a ∈ ([0, 1, 2, 3, 4, 23, 27, 28, 80, 84, 85, 91, 92, 94, 95, 115, 116, 120] : List Nat) := by decide
  have subA : ∀ a ∈ ([1, 80, 84, 85, 91, 92, 94, 95, 115, 116] : List Nat), a ∈ ([0, 1, 2, 3, 4, 23, 27, 28, 80, 84, 85, 91, 92, 94, 95, 115, 116, 120] : List Nat) := by decide
  have hoff' : ∀ a ∈ [0, 1, 2, 3, 4, 27, 28, 80, 84, 85, 91, 92, 94, 95, 115, 116, 120], a ∉ (23 :: off) := fun a ha z => by
    rcases List.mem_cons.mp z with z | z
    · subst z; revert ha; decide
    · exact hoff a (sub a ha) z
  have G' : Globs (K1 W) (23 :: off) (mg1 W) (mb1 W) := globs1 (hoff' 0 (by decide)) (hoff' 2 (by decide)) (hoff' 3 (by decide))
  have T0 := hT (K1 W) (fun _ t => t)
  obtain ⟨n1, n2, n3, n4, n5, n6⟩ := hnd
  have hz : sizeLine = 2 ^ 24 := rfl
  have hU : ∀ (x y : Str) (c : Addr), List.lookup x [(("told" : Str), ct), ("key", ck), ("places", cp), ("names", cn)] = some c → List.lookup y [(("told" : Str), ct), ("key", ck), ("places", cp), ("names", cn)] = some c → x = y := fun x y c hx hy => uniq_of_nodup (l := [(("told" : Str), ct), ("key", ck), ("places", cp), ("names", cn)]) (nd4 n1 n2 n3 n4 n5 n6) hx hy
  have oT : ct ∈ own (envR more eL eg ct ck cp cn equal efunc eframe ebu) := own_cell (x := "told") rfl rfl
  have oK : ck ∈ own (envR more eL eg ct ck cp cn equal efunc eframe ebu) := own_cell (x := "key") rfl rfl
  have oP : cp ∈ own (envR more eL eg ct ck cp cn equal efunc eframe ebu) := own_cell (x := "places") rfl rfl
  -- told, places
  have pvTold : PV prog w (K1 W) off tb (k + 3) (envR more eL eg ct ck cp cn equal efunc eframe ebu) [("names", .list (sts names))]
      (.ListComp (.Call (.Name "_law_answers" a4) [.Name "name" a5, .Name "names" a6] [] a7) [⟨.Name "name" a8, .Name "names" a9, [], 0⟩] scOne a10) (toldOf names) := by
    refine pv_comp (ds := sts names) (ρ' := [("names", .list (sts names))]) (fun _ => true) (fun d => match d with | .str y => rowOf names y | _ => .none) rfl rfl (by decide) (by decide) rfl
      (fun C => List.forall_mem_cons.mpr ⟨⟨.inl rfl, .inl rfl, rfl⟩, fun _ h => nomatch h⟩) (fun q hq => hq) (by simp [sts]; omega) (pv_var rfl) (fun d hd C => .inl ⟨rfl, rfl⟩) (fun d hd _ C => ?_) ?_
    · obtain ⟨y, hy, rfl⟩ := List.mem_map.mp hd
      refine pv_call (f := 116) G rfl (ho := by exact rfl) (hoff 116 (by decide)) (hdat := by exact rfl) (pvs_cons (pv_var rfl) (pvs_cons (pv_var rfl) pvs_nil)) ?_
      exact fn_answers (hn.nm _ hy) hn G (fun a ha => hoff a (subA a ha)) hoffT
    · rw [filter_all, List.map_map]; rfl
  have pvLen : PV prog w (K1 W) off tb (k + 3) (envR more eL eg ct ck cp cn equal efunc eframe ebu) [("names", .list (sts names))] (.Call (.Name "len" a12) [.Name "names" a13] [] a14) (.int (names.length : Nat)) := by
    have := fn_len (prog := prog) (w := w) (K := K1 W) (off := off) (tb := tb) (k := k + 3) (ds := sts names) (by simp [sts]; omega)
    simp only [sts, List.length_map] at this
    exact pv_builtin G rfl W.bLen (pvs_cons (pv_var rfl) pvs_nil) this
  rw [q0]
  refine wpAny_execs_cons (Assign_Tuple (wpAny_Tuple (wpAny_items_cons (pvTold A X s _ (hR.less (by omega)) S.ok S.en fun v₁ s₁ e₁ r₁ => wpAny_items_cons (eval_range G rfl W.bRange pvLen (hR.less (by omega)) (S.ok.ext e₁) (S.en.ext S.ok e₁) (fun vp s₁' e₁' rg => wpAny_items_nil ⟨by rw [hz]; show 2 ≤ 2 ^ 24; decide, ?_⟩) rfl rfl) rfl) rfl)) rfl rfl)
  generalize hT0 : s₁'.heap.objs.size = T
  have gT : (s₁'.heap.push { cls := .type "tuple", data := .seq ([v₁, vp] : List Value).toArray }).get? T = some { cls := .type "tuple", data := .seq ([v₁, vp] : List Value).toArray } := by rw [← hT0]; exact Heap.get?_push_size _ rfl
  refine wpAny_assign_Tuple (items := #[v₁, vp]) hR.handled ⟨_, gT, rfl, _, rfl⟩ rfl rfl fun h3 x3 => ?_
  have kp3 : ∀ b o, s₁'.heap.get? b = some o → h3.get? b = some o := fun b o g => x3 b o (by
    have := Heap.lt_size g
    show @Ne Nat _ _
    rw [show (({ s₁' with heap := s₁'.heap.push { cls := .type "tuple", data := .seq ([v₁, vp] : List Value).toArray } } : Shared).heap.objs.size) = s₁'.heap.objs.size + 1 from Heap.size_push ..]
    exact Nat.ne_of_lt (Nat.lt_succ_of_lt this)) (Heap.get?_push_of_some _ g)
  have e3 : Ext tb s₁' { s₁' with heap := h3 } := .of_sub kp3 rfl rfl
  have eA := (e₁.trans e₁').trans e3
  have r1 := (r₁.sub e₁'.vis).sub e3.vis
  have rg1 : RgAt (vis tb X ({ s₁' with heap := h3 } : Shared).heap) vp names.length := rg.sub e3.vis
  have S1 : St (K1 W) off tb X (envR more eL eg ct ck cp cn equal efunc eframe ebu) [("names", .list (sts names))] [] { s₁' with heap := h3 } := S.ext eA
  have cell1 : ∀ c ∈ [ct, ck, cp], ∃ v, ({ s₁' with heap := h3 } : Shared).heap.IsCell c v := fun c hc => let ⟨v, h⟩ := hC0 c hc; ⟨v, S.ok.cellExt h eA⟩
  generalize ({ s₁' with heap := h3 } : Shared) = sA at *
  show wpAny _ A (do holding [vp] (assign (.Name "told" a1) (envR more eL eg ct ck cp cn equal efunc eframe ebu) v₁); do holding [] (assign (.Name "places" a2) (envR more eL eg ct ck cp cn equal efunc eframe ebu) vp); pure ()) _ _ _
  refine wpAny_bind (wpAny_holding (wpAny_assign_Name (S1.storeC (c := ct) (x := "told") (hX _ oT) rfl rfl (cell1 ct (by simp)) hU fun s₂ y₂ nc₂ mk₂ kp₂ => ?_)))
  have S2 := mk₂ [("told", toldOf names), ("names", .list (sts names))] [] (all2 (.inl ⟨rfl, r1⟩) (.inr ⟨by simp, by dsimp only; decide⟩)) (fun _ h => nomatch h)
  have cell2 : ∀ c ∈ [ck, cp], ∃ v, s₂.heap.IsCell c v := fun c hc => by
    obtain ⟨v, h⟩ := cell1 c (List.mem_cons_of_mem _ hc)
    refine ⟨v, S1.ok.cellExtO h y₂ fun z => ?_⟩
    rw [List.mem_singleton] at z; subst z
    simp only [List.mem_cons, List.not_mem_nil, or_false] at hc
    exact hc.elim n1 n2
  have rg2 : RgAt (vis tb X s₂.heap) vp names.length := rg1.sub (vis_sub fun b o n m g => kp₂ b o (fun z => m (z ▸ hX _ oT)) g)
  refine wpAny_bind (wpAny_holding (wpAny_assign_Name (S2.storeC (c := cp) (x := "places") (hX _ oP) rfl rfl (cell2 cp (by simp)) hU fun s₃ y₃ nc₃ mk₃ kp₃ => wpAny_pure ?_)))
  have S3 := mk₃ [("told", toldOf names), ("names", .list (sts names))] [("places", vp)] (all2 (.inr ⟨by simp, by dsimp only; decide⟩) (.inr ⟨by simp, by dsimp only; decide⟩)) (all1 (.inl rfl))
  have rg3 : RgAt (vis tb X s₃.heap) vp names.length := rg2.sub (vis_sub fun b o n m g => kp₃ b o (fun z => m (z ▸ hX _ oP)) g)
  have cell3 : ∃ v, s₃.heap.IsCell ck v := by
    obtain ⟨v, h⟩ := cell2 ck (by simp)
    exact ⟨v, S2.ok.cellExtO h y₃ fun z => n4 (List.mem_singleton.mp z)⟩
  -- key
  obtain ⟨o28, fd28, l28, d28⟩ : ∃ o fd, (K1 W).lookup 28 = some o ∧ o.data = .func fd := ⟨_, _, rfl, rfl⟩
  rw [q1]
  refine wpAny_execs_cons (wpAny_Assign_Name (wpAny_Call_NameR (load_global G S3.ok S3.en (by exact rfl) rfl (by decide) (callWith_fn d28 ?_ rfl))) rfl)
  refine spliced_cons (eval_lambda G T0 S3.ok S3.en (clos := [("told", ct)]) rfl hq hd1 fun f0 c0 ctv0 s₄ e₄ fr0 gf0 rec0 => spliced_nil ?_)
  have S4 := S3.ext e₄
  refine ⟨S4.ok.get l28 (hoff 28 (by decide)), ?_⟩
  have hv23 : (vis tb X s₄.heap).get? 23 = some (tabObj #[]) := S4.ok.top 23 _ (by exact rfl) (hoff 23 (by decide))
  obtain ⟨h23, nt23, nx23⟩ := vis_get hv23
  have subC : ∀ a ∈ ([1, 2, 4, 27, 28] : List Nat), a ∈ ([0, 1, 2, 3, 4, 23, 27, 28, 80, 84, 85, 91, 92, 94, 95, 115, 116, 120] : List Nat) := by decide
  refine call_cmp (k := k + 5) hR S4.ok G (fun a ha => hoff a (subC a ha)) h23 nt23 fun s₅ cc C N p f1 f2 M => ?_
  have S5 := S4.mark M.ext hv23 M.key.tab
  have cell4 : ∃ v, s₄.heap.IsCell ck v := let ⟨v, h⟩ := cell3; ⟨v, S3.ok.cellExt h e₄⟩
  have cell5 : ∃ v, s₅.heap.IsCell ck v := by
    obtain ⟨v, h⟩ := cell4
    refine ⟨v, S4.ok.cellExtO h M.ext fun z => ?_⟩
    have z := List.mem_singleton.mp z
    obtain ⟨o, g, d⟩ := h
    rw [z, h23] at g; cases g; cases d
  refine S5.storeC (c := ck) (x := "key") (hX _ oK) rfl rfl cell5 hU fun s₆ y₆ nc₆ mk₆ kp₆ => ?_
  have S6 := mk₆ [("told", toldOf names), ("names", .list (sts names))] [("key", .ref C), ("places", vp)] (all2 (.inr ⟨by simp, by dsimp only; decide⟩) (.inr ⟨by simp, by dsimp only; decide⟩)) (all2 (.inl rfl) (.inr ⟨by simp, by dsimp only; decide⟩))
  -- what is held fast
  generalize hX8d : X.filter (fun z => !([cn, cp, ck, ct, c0].contains z)) = X8
  have hX8 : ∀ z ∈ X8, z ∈ X ∧ z ∉ [cn, cp, ck, ct, c0] := fun z hz => by
    rw [← hX8d] at hz
    obtain ⟨a, b⟩ := List.mem_filter.mp hz
    exact ⟨a, by simpa using b⟩
  have toX8 : ∀ z ∈ X, z ∉ [cn, cp, ck, ct, c0] → z ∈ X8 := fun z hz hn => by
    rw [← hX8d]
    exact List.mem_filter.mpr ⟨hz, by simpa using hn⟩
  have S8 := S6.less fun z hz => (hX8 z hz).1
  have hoffT' : ∀ a ∈ (23 :: off), a ∈ (((23 : Addr), TK.any) :: tb).map (·.1) := fun a ha => by
    rcases List.mem_cons.mp ha with z | z
    · exact z ▸ List.mem_cons_self
    · exact List.mem_cons_of_mem _ (hoffT a z)
  have tb' : ∀ b, b ≠ 23 → b ∉ tb.map (·.1) → b ∉ (((23 : Addr), TK.any) :: tb).map (·.1) := fun b h1 h2 z => by
    rcases List.mem_cons.mp z with z | z
    · exact h1 z
    · exact h2 z
  have on : ∀ b o, b ≠ 23 → b ≠ ck → b ∉ tb.map (·.1) → s₅.heap.get? b = some o → s₆.heap.get? b = some o := fun b o h1 h2 h4 g => y₆.keep b o (tb' b h1 h4) (fun z => h2 (List.mem_singleton.mp z)) g
  have keep56 : ∀ b o, s₄.heap.get? b = none → s₅.heap.get? b = some o → (vis ((23, .any) :: tb) X8 s₆.heap).get? b = some o := fun b o hb g => by
    obtain ⟨m1, m2⟩ := notTab_new S4.ok hb
    have h1 : b ≠ 23 := fun z => by rw [z, h23] at hb; cases hb
    have h2 : b ≠ ck := fun z => by obtain ⟨v, o, g, _⟩ := cell4; rw [z, g] at hb; cases hb
    exact vis_mk (on b o h1 h2 m1 g) (tb' b h1 m1) fun z => m2 (hX8 b z).1
  obtain ⟨KF, kf, kin, kmap⟩ := M.key.frag
  have fnAt : ∀ {h₀ : Heap} {f : Addr} {name qual : Str} {args : Arguments} {body : List Stmt} {scope : Scope} {cl : List (Str × Addr)}, FnAt s₄.heap s₅.heap f (mg1 W) name qual args body scope cl → FnAt s₄.heap (vis ((23, .any) :: tb) X8 s₆.heap) f (mg1 W) name qual args body scope cl := by
    intro _ f name qual args body scope cl x
    obtain ⟨c', ctv, doc, g, ⟨c₂, o₂, vs₂, t₂, e₂, g₂, r₂⟩, nf, nc⟩ := x
    cases e₂
    exact ⟨c', ctv, doc, keep56 _ _ nf g, ⟨c', o₂, vs₂, t₂, rfl, keep56 _ _ nc g₂, r₂⟩, nf, nc⟩
  have KE : KeyEnv W (vis ((23, .any) :: tb) X8 s₆.heap) KF C N p f1 f2 cc (.ref f0) := by
    refine ⟨kf, fun a o e => keep56 a o ?_ (kin a o e), ⟨_, fnAt (h₀ := s₄.heap) M.key.fi⟩, ⟨_, fnAt (h₀ := s₄.heap) M.key.fl⟩, ?_⟩
    · have hm : a ∈ KF.map (·.1) := List.mem_map_of_mem (f := (·.1)) (lookup_mem e)
      rw [kmap] at hm
      obtain ⟨m1, m2, m3⟩ := M.key.new
      simp only [List.mem_cons, List.not_mem_nil, or_false] at hm
      rcases hm with rfl | rfl | rfl
      · exact m1
      · exact m2
      · exact m3
    · obtain ⟨oc, gc, dc⟩ := M.cell
      exact ⟨oc, keep56 _ _ M.newc gc, dc⟩
  have vf0 : ∀ o, s₄.heap.get? f0 = some o → (vis ((23, .any) :: tb) X8 s₆.heap).get? f0 = some o := fun o gf0 => by
    obtain ⟨m1, m2⟩ := notTab_new S3.ok fr0
    have h1 : f0 ≠ 23 := fun z => by rw [z, S3.ok.get (a := 23) (by exact rfl) (hoff 23 (by decide))] at fr0; cases fr0
    have h2 : f0 ≠ ck := fun z => by obtain ⟨v, o, g, _⟩ := cell3; rw [z, g] at fr0; cases fr0
    exact vis_mk (on f0 _ h1 h2 m1 (M.ext.keep f0 _ m1 (fun z => h1 (List.mem_singleton.mp z)) gf0)) (tb' f0 h1 m1) fun z => m2 (hX8 f0 z).1
  have rec6 : ∃ o₀ vs t, s₆.heap.get? c0 = some o₀ ∧ o₀.data = .fields vs ∧ vs[1]? = some (.str q t) ∧ c0 ∉ (((23 : Addr), TK.any) :: tb).map (·.1) := by
    have m1 := S4.ok.recTab rec0
    obtain ⟨c₂, o₂, vs₂, t₂, e₂, g₂, r₂, r₃⟩ := rec0
    cases e₂
    have h1 : c0 ≠ 23 := fun z => by rw [z, h23] at g₂; cases g₂; cases r₂; simp at r₃
    have h2 : c0 ≠ ck := fun z => by obtain ⟨v, o, g, d⟩ := cell4; rw [z, g] at g₂; cases g₂; rw [d] at r₂; cases r₂
    exact ⟨o₂, vs₂, t₂, on c0 _ h1 h2 m1 (M.ext.keep c0 _ m1 (fun z => h1 (List.mem_singleton.mp z)) g₂), r₂, r₃, tb' c0 h1 m1⟩
  obtain ⟨o₀, vs₀, t₀, gc0, dc0, vc0, ntc0⟩ := rec6
  have rec8 : (vis ((23, .any) :: tb) X8 s₆.heap).CodeRec (.ref c0) q := ⟨c0, o₀, vs₀, t₀, rfl, vis_mk gc0 ntc0 (fun z => (hX8 _ z).2 (by simp)), dc0, vc0⟩
  have visCell : ∀ c v, c ∈ [cn, cp, ck, ct, c0] → s₆.heap.IsCell c v → (vis ((23, .any) :: tb) X8 s₆.heap).IsCell c v := fun c v hc h => by
    have nt := S6.ok.cellTab h
    obtain ⟨o, g, d⟩ := h
    exact ⟨o, vis_mk g nt (fun z => (hX8 _ z).2 hc), d⟩
  obtain ⟨vt, bt, rt⟩ := S8.en.vars ("told", toldOf names) (by simp)
  obtain ⟨vn, bn, rn⟩ := S8.en.vars ("names", .list (sts names)) (by simp)
  have ct6 := bt.cell rfl (c := ct) rfl
  have cn6 := bn.cell rfl (c := cn) rfl
  have ck6 := (S6.raw ("key", .ref C) (by simp)).cell rfl (c := ck) rfl
  have cp6 := (S6.raw ("places", vp) (by simp)).cell rfl (c := cp) rfl
  have rg4 : RgAt (vis tb X s₄.heap) vp names.length := rg3.sub e₄.vis
  have rg8 : RgAt (vis ((23, .any) :: tb) X8 s₆.heap) vp names.length := by
    obtain ⟨r, t, u, c, rfl, g⟩ := rg4
    obtain ⟨g0, n0, m0⟩ := vis_get g
    refine ⟨r, t, u, c, rfl, ?_⟩
    have h1 : r ≠ 23 := fun z => by rw [z, h23] at g0; cases g0
    have h2 : r ≠ ck := fun z => by obtain ⟨v, o, g, d⟩ := cell4; rw [z, g] at g0; cases g0; cases d
    exact vis_mk (on r _ h1 h2 n0 (M.ext.keep r _ n0 (fun z => h1 (List.mem_singleton.mp z)) g0)) (tb' r h1 n0) fun z => m0 (hX8 r z).1
  obtain ⟨L, O8, fz, lk⟩ := freeze' S8.ok hoffT'
  have pvR := pv_chains (prog := prog) (w := w) (W := W) (K := K1 W ++ L) (off := 23 :: off) (tb := (23, .any) :: tb) (k := k + 1) (eL := eL) (eg := eg) (ebu := ebu) (efunc := efunc) (eframe := eframe) (equal := equal) (more := more) (cn := cn) (ct := ct) (ρ := [("told", toldOf names), ("names", .list (sts names))])
    (d1 := d1) (d2 := d2) (d3 := d3) (d4 := d4) (d5 := d5) (d6 := d6) (d7 := d7) (d8 := d8) (d9 := d9) (d10 := d10) (d11 := d11) (d12 := d12) (d13 := d13) (d14 := d14) (d15 := d15) (d16 := d16) (d17 := d17) (d18 := d18) (vp := vp) G'.grow rfl W.bSorted (fun g t => KE.sub (fz g t)) (fun g t => (visCell ck _ (by simp) ck6).keeps (fz g t)) (fun g t => ⟨(visCell cp _ (by simp) cp6).keeps (fz g t), rg8.sub (fz g t)⟩)
    (lk f0 _ (vf0 _ gf0)).1 (lk f0 _ (vf0 _ gf0)).2 rfl (fun a b ha hb => fn_told (k := k) G'.grow (lk f0 _ (vf0 _ gf0)).1 (lk f0 _ (vf0 _ gf0)).2 (fun bd x y => hb1 bd _ _ _ x y) (fun X' s' o => (rec8.keeps (fz _ o.top)).keeps (vis_below _ _ _)) (fun g t => ⟨(visCell ct _ (by simp) ct6).keeps (fz g t), rt.sub (fz g t)⟩) ha hb (by omega)) ch hlen rfl
  rw [q2]
  refine wpAny_execs_cons (wpAny_Return_some (pvR A X8 s₆ _ (hR.less (by omega)) O8 S8.en fun v s' e r => ?_))
  have oM : ∀ y ∈ [ct], y ∈ (23 :: own (envR more eL eg ct ck cp cn equal efunc eframe ebu)) := all1 (List.mem_cons_of_mem _ oT)
  have oM2 : ∀ y ∈ [(23 : Addr), ck], y ∈ (23 :: own (envR more eL eg ct ck cp cn equal efunc eframe ebu)) := all2 List.mem_cons_self (List.mem_cons_of_mem _ oK)
  have oM3 : ∀ y ∈ [cp], y ∈ (23 :: own (envR more eL eg ct ck cp cn equal efunc eframe ebu)) := all1 (List.mem_cons_of_mem _ oP)
  have oM4 : ∀ y ∈ [(23 : Addr)], y ∈ (23 :: own (envR more eL eg ct ck cp cn equal efunc eframe ebu)) := all1 List.mem_cons_self
  refine hQ v s' ?_ (e.tab (23, .any) List.mem_cons_self (S6.ok.tabs _ List.mem_cons_self)) ⟨_, S.ok.top 23 _ (by exact rfl) (hoff 23 (by decide))⟩ ?_
  · have z1 : ExtO tb (23 :: own (envR more eL eg ct ck cp cn equal efunc eframe ebu)) s s₅ := ((((ExtO.of eA).trans (y₂.mono oM)).trans (y₃.mono oM3)).trans (.of e₄)).trans (M.ext.mono oM4)
    exact (z1.trans (y₆.back.mono oM2)).trans ((ExtO.of (Y := []) e).back.mono oM4)
  · refine r.seqs fun b o hd g => ?_
    obtain ⟨g0, n, m⟩ := vis_get g
    refine vis_mk g0 n fun z => m (toX8 b z fun q => ?_)
    have no : ∀ c v, s₆.heap.IsCell c v → b ≠ c := fun c v h q => by
      obtain ⟨oc, gc, dc⟩ := S6.ok.cellExt h e
      rw [← q, g0] at gc; cases gc
      rcases hd with ⟨_, _, hd⟩ | ⟨_, _, hd⟩ <;> (rw [dc] at hd; cases hd)
    simp only [List.mem_cons, List.not_mem_nil, or_false] at q
    rcases q with q | q | q | q | q
    · exact no _ _ cn6 q
    · exact no _ _ cp6 q
    · exact no _ _ ck6 q
    · exact no _ _ ct6 q
    · have := e.keep c0 _ ntc0 gc0
      rw [← q, g0] at this; cases this
      rcases hd with ⟨_, _, hd⟩ | ⟨_, _, hd⟩ <;> (rw [dc0] at hd; cases hd)
end
end Mine
end
section
open PySem PySem.W PySem.Calls PyProof.Rows
set_option maxRecDepth 100000
set_option maxHeartbeats 4000000
set_option linter.all false
namespace Mine
abbrev qChains : Str := (("_law_chains" : Str) ++ ".<locals>.") ++ "<lambda>"
section
variable {prog : Program} {w : World} {W : Wd} {K : Frag} {off : List Addr} {tb : Tb} {k : Nat} {X : List Addr} {s : Shared} {A : Around}
theorem code120 {g : Heap} (t : TopOk (K1 W) off g) (h : (120 : Nat) ∉ off) : CodeHd g 120 118 := ⟨_, _, _, _, _, _, _, _, _, t 120 _ rfl h, rfl, rfl, rfl, rfl, rfl, rfl, rfl, rfl, by decide⟩
theorem blt118 {g : Heap} (t : TopOk (K1 W) off g) (h : (4 : Nat) ∉ off) : g.BuiltinsAt (mg1 W) 118 := ⟨4, _, rfl, by decide, by decide, by decide, t 4 W.o4 rfl h, W.d4.1, W.d4.2.1, W.d4.2.2⟩
theorem tab118 {env : Env} (hk : ∀ g, TopOk K off g → TopOk (K1 W) off g) (hc : env.code = .ref 120) (h120 : (120 : Nat) ∉ off) (h4 : (4 : Nat) ∉ off) (hm : ((118 : Addr), TK.code qChains) ∈ tb) (ho : ∀ p ∈ tb, p.1 = 118 → p.2 = .code qChains) : TabAt K off tb (mg1 W) env 120 118 qChains :=
  ⟨hc, fun g t => code120 (hk g t) h120, hm, ho, by decide, fun g t => blt118 (hk g t) h4⟩
theorem call_chains {names : List Str} {chain : Nat → List Int} {v : Value} {Q : Value → Shared → Prop} (hn : Nms names) (hlen : names.length ≤ 60) (ch : ChOk names chain) (hR : Room A (k + 7)) (hO : Ok (K1 W) off tb X s)
    (hoff : ∀ a ∈ [0, 1, 2, 3, 4, 23, 27, 28, 80, 84, 85, 91, 92, 94, 95, 115, 116, 120, 121], a ∉ off) (hoffT : ∀ a ∈ off, a ∈ tb.map (·.1))
    (hm : ((118 : Addr), TK.code qChains) ∈ tb) (ho : ∀ p ∈ tb, p.1 = 118 → p.2 = .code qChains) (r : Rp (vis tb X s.heap) v (.list (sts names)))
    (hQ : ∀ v s', ExtO tb [23] s s' → Ok (K1 W) (23 :: off) ((23, .any) :: tb) X s' → (∀ v d, Rp (vis tb X s.heap) v d → Rp (vis ((23, .any) :: tb) X s'.heap) v d) → Rp (vis ((23, .any) :: tb) X s'.heap) v (.list (dlists ((List.range names.length).map chain))) → Q v s') :
    wpAny (model prog w) A (call (.ref 121) [v]) Q NoE s := by
  have G : Globs (K1 W) off (mg1 W) (mb1 W) := globs1 (hoff 0 (by decide)) (hoff 2 (by decide)) (hoff 3 (by decide))
  have h120 := hoff 120 (by decide)
  have h4 := hoff 4 (by decide)
  refine wpAny_call ?_
  refine codeAny_call_binds (binds := [("names", v)]) hR.lim (hO.get (a := 121) rfl (hoff 121 (by decide))) rfl (hO.globs G).2.2 ?_ rfl ?_ rfl ?_ (fun s₁ I₁ => ?_)
  · exact Heap.CodeRec.keeps (⟨120, _, _, _, rfl, hO.top 120 _ rfl h120, rfl, rfl⟩ : (vis tb X s.heap).CodeRec _ _) (vis_below _ _ _)
  · intro A' Q E' hq
    exact wpAny_pure hq
  · exact List.forall_mem_cons.mpr ⟨.inr ⟨rfl, rfl⟩, fun _ h => nomatch h⟩
  · have T := entered (ρ := [("names", .list (sts names))]) rfl I₁ hO rfl rfl rfl (show (["names"] : List Str).Nodup by decide)
      (List.forall_mem_cons.mpr ⟨.inr ⟨rfl, rfl⟩, fun _ h => nomatch h⟩)
      (List.forall_mem_cons.mpr ⟨⟨v, by simp, r⟩, fun _ h => nomatch h⟩)
    refine wpAny_mono (E := NoE) ?_ (fun _ _ z => z) fun _ _ z => z.elim
    refine chains_body (k := k) (ct := s.heap.objs.size + 1 + 1 + 1 + 1) (ck := s.heap.objs.size + 1 + 1 + 1) (cp := s.heap.objs.size + 1 + 1) (cn := s.heap.objs.size + 1) (q := qChains) rfl ?_ ?_ (sub_off hoff (by decide)) hoffT
      (fun K hk => tab118 hk rfl h120 h4 hm ho) hn hlen ch hR.deeper ⟨T.ok, T.en, (fun _ h => nomatch h), T.loc⟩ (fun z hz => List.mem_append_left _ hz) rfl (fun bd pm ctv c' x y => rfl) rfl rfl rfl fun v' s' e t23 hps r' => ?_
    · refine ⟨?_, ?_, ?_, ?_, ?_, ?_⟩ <;> (show @Ne Nat _ _; omega)
    · exact List.forall_mem_cons.mpr ⟨⟨_, I₁.cell "told" _ rfl⟩, List.forall_mem_cons.mpr ⟨⟨_, I₁.cell "key" _ rfl⟩, List.forall_mem_cons.mpr ⟨⟨_, I₁.cell "places" _ rfl⟩, fun _ h => nomatch h⟩⟩⟩
    · have hP0 : (vis tb X s.heap).get? 23 = some (tabObj #[]) := hO.top 23 _ rfl (hoff 23 (by decide))
      have x : ExtO tb [23] s s' := ⟨fun b o n m g => e.keep b o n (fun z => by
          rcases List.mem_cons.mp z with z | z
          · exact m (List.mem_singleton.mpr z)
          · rw [T.fresh b z] at g; cases g) (T.ext.keep b o n g), fun q hq z => e.tab q hq (T.ext.tab q hq z), e.gens.trans T.ext.gens, e.os.trans T.ext.os⟩
      obtain ⟨O', sb⟩ := hO.mark x hP0 t23
      exact hQ v' s' x O' (fun v d rv => rv.mark hP0 sb) (r'.sub (vis_more fun y hy => List.mem_append_right _ hy))
end
end Mine
end
section
open PySem PySem.W PySem.Calls PyProof.Rows
set_option maxRecDepth 100000
set_option maxHeartbeats 2000000
set_option linter.all false
namespace Mine
theorem m1 {d n : Nat} (h1 : 1 ≤ d) (h2 : d ≤ n) : d - 1 < n := by omega
theorem m2 {d : Nat} (h : 1 ≤ d) : ((d : Nat) : Int) - 1 = ((d - 1 : Nat) : Int) := by omega
theorem m3 {e i : Nat} (h : e ≤ i) : ¬ e = i + 1 := Nat.ne_of_lt (Nat.lt_succ_of_le h)
theorem m4 {e i : Nat} (h : e ≤ i) : ¬ i + 1 = e := fun z => m3 h z.symm
theorem last_or {e i : Nat} (h : e ≤ i + 1) : e = i + 1 ∨ e ≤ i := by omega
theorem m5 {e i : Nat} (h : e ≤ i + 1) (h2 : ¬ e = i + 1) : e ≤ i := (last_or h).elim (fun z => absurd z h2) id
/-- what reduce(_law_hung, ..) does: 0 is the ground, i + 1 the i-th row -/
structure HS where
  kids : Nat → List Nat
  path : List Nat
def hs0 : HS := ⟨fun _ => [], [0]⟩
def hsStep (i d : Nat) (S : HS) : HS :=
  ⟨fun e => if e = S.path.getD (d - 1) 0 then S.kids e ++ [i + 1] else S.kids e, S.path.take d ++ [i + 1]⟩
/-- the tree as it lies in the heap -/
structure Hung (tb : Tb) (h : Heap) (as : Nat → Addr) (S : HS) (nm : Nat → Str) (i : Nat) (p : Addr) : Prop where
  path : h.IsList p (S.path.map fun e => Value.ref (as e)).toArray
  pnt : p ∉ tb.map (·.1)
  pas : ∀ e, e ≤ i → p ≠ as e
  nt : ∀ e, e ≤ i → as e ∉ tb.map (·.1)
  inj : ∀ e e', e ≤ i → e' ≤ i → as e = as e' → e = e'
  pin : ∀ e ∈ S.path, e ≤ i
  kin : ∀ e, e ≤ i → ∀ c ∈ S.kids e, c ≤ i
  few : ∀ e, e ≤ i → (S.kids e).length ≤ i
  kout : ∀ e, i < e → S.kids e = []
  fewp : S.path.length ≤ i + 1
  node : ∀ e, e ≤ i → ∃ hd, Bare hd (if e = 0 then [] else [.str (nm e)]) ∧ h.PlainList (as e) (hd ++ (S.kids e).map fun c => Value.ref (as c)).toArray
/-- lists stand -/
def Lists (tb : Tb) (h h' : Heap) : Prop := ∀ b o, b ∉ tb.map (·.1) → (∃ xs n, o.data = .seq xs n) → h.get? b = some o → h'.get? b = some o
theorem Hung.keeps {tb : Tb} {h h' : Heap} {as : Nat → Addr} {S : HS} {nm : Nat → Str} {i : Nat} {p : Addr} (x : Hung tb h as S nm i p) (k : Lists tb h h') : Hung tb h' as S nm i p :=
  ⟨let ⟨o, g, c, n, d⟩ := x.path; ⟨o, k _ _ x.pnt ⟨_, n, d⟩ g, c, n, d⟩, x.pnt, x.pas, x.nt, x.inj, x.pin, x.kin, x.few, x.kout, x.fewp, fun e he => let ⟨hd, b, n, g⟩ := x.node e he; ⟨hd, b, n, k _ _ (x.nt e he) ⟨_, n, rfl⟩ g⟩⟩
theorem Ext.lists {tb : Tb} {s s' : Shared} (e : Ext tb s s') : Lists tb s.heap s'.heap := fun b o n _ g => e.keep b o n g
theorem Lists.but {tb : Tb} {h h' : Heap} {D : Addr} {o : Obj} (g : h.get? D = some o) (c : ∀ xs n, o.data ≠ .seq xs n) (sb : ∀ b o, b ≠ D → h.get? b = some o → h'.get? b = some o) : Lists tb h h' := fun b o' _ ⟨xs, n, c'⟩ e => sb b o' (fun z => by rw [z, g] at e; cases e; exact c _ _ c') e
section
variable {prog : Program} {w : World} {W : Wd} {K L : Frag} {off : List Addr} {tb : Tb} {k : Nat} {env : Env} {ρ ρ' : Rho} {β β' : Raw} {mg mb : Str → Option Value} {X : List Addr} {s s' s'' s₀ s₁ : Shared} {A : Around}
theorem fresh_of {r : Addr} (hO : Ok K off tb X s) (e : Ext tb s s') (h : s'.heap.get? r = none) : s.heap.get? r = none := by
  cases hc : s.heap.get? r with
  | none => rfl
  | some o =>
    by_cases ht : r ∈ tb.map (·.1)
    · obtain ⟨q, hq, z⟩ := List.mem_map.mp ht
      obtain ⟨_, g, _⟩ := (e.tab q hq (hO.tabs q hq)).get
      rw [z, h] at g; cases g
    · have := e.keep _ o ht hc
      rw [h] at this; cases this
/-- xs[i] by hand -/
theorem eval_item {o e : Expr} {pos : Pos} {p : Addr} {vs : Array Value} {i : Nat} {v : Value} {Q : Value → Shared → Prop}
    (ho : ∀ Q : Value → Shared → Prop, (∀ s₁, Ext tb s s₁ → Q (.ref p) s₁) → wpAny (model prog w) A (eval o env) Q NoE s)
    (hl : s.heap.IsList p vs) (hn : p ∉ tb.map (·.1)) (hi : i < 1000) (hv : vs[i]? = some v)
    (he : ∀ (s₁ : Shared) (Q : Value → Shared → Prop), Ext tb s s₁ → (∀ t s', Ext tb s₁ s' → Q (.int (i : Nat) t) s') → wpAny (model prog w) A (eval e env) Q NoE s₁)
    (h : ∀ s₁, Ext tb s s₁ → Q v s₁)
    (hs : ∀ a u, subscripted e false (.ref a) (.int (i : Nat) u) = operate [.ref a, .int (i : Nat) u] (getItem (.ref a) (.int (i : Nat) u)) := by intro _ _; with_unfolding_all rfl) :
    wpAny (model prog w) A (eval (.Subscript o e pos) env) Q NoE s := by
  refine Subscript_ (ho _ fun s₁ e₁ => he s₁ _ e₁ fun t s₂ e₂ => ?_)
  have hL' : s₂.heap.IsList p vs := let ⟨o, g, r⟩ := hl; ⟨o, e₂.keep _ _ hn (e₁.keep _ _ hn g), r⟩
  exact tail_any hL'.typeIs slot_list_getitem.lookup (wpAny_getItem_list hL' (by omega) (by omega) (by simpa using hv) (h s₂ (e₁.trans e₂))) (hs _ _)
/-- xs[:d] + ys by hand -/
theorem eval_cutAdd {o e f : Expr} {pos p1 p2 : Pos} {p : Addr} {vs us : List Value} {d : Nat} {Q : Value → Shared → Prop}
    (ho : ∀ Q : Value → Shared → Prop, (∀ s₁, Ext tb s s₁ → Q (.ref p) s₁) → wpAny (model prog w) A (eval o env) Q NoE s)
    (hl : s.heap.IsList p vs.toArray) (hn : p ∉ tb.map (·.1)) (hz : vs.length ≤ 1000) (hz2 : us.length ≤ 1000) (hO : Ok K off tb X s)
    (he : ∀ (s₁ : Shared) (Q : Value → Shared → Prop), Ext tb s s₁ → (∀ t s', Ext tb s₁ s' → Q (.int (d : Nat) t) s') → wpAny (model prog w) A (eval e env) Q NoE s₁)
    (hf : ∀ (s₁ : Shared) (Q : Value → Shared → Prop), Ext tb s s₁ → (∀ q s', Ext tb s₁ s' → s'.heap.PlainList q us.toArray → Q (.ref q) s') → wpAny (model prog w) A (eval f env) Q NoE s₁)
    (h : ∀ r s', Ext tb s s' → s.heap.get? r = none → s'.heap.PlainList r (vs.take d ++ us).toArray → Q (.ref r) s')
    (hs : ∀ a u, subscripted (.Slice none (some e) none p1) false (.ref a) (.ref u) = operate [.ref u, .ref a] (getItem (.ref a) (.ref u)) := by intro _ _; with_unfolding_all rfl) :
    wpAny (model prog w) A (eval (.BinOp (.Subscript o (.Slice none (some e) none p1) pos) .Add f p2) env) Q NoE s := by
  have hsl : sizeLine = 2 ^ 24 := rfl
  refine wpAny_BinOp (Subscript_ (ho _ fun s₁ e₁ => ?_))
  refine wpAny_Slice ?_
  rw [evalPart_none]
  refine wpAny_pure ?_
  rw [evalPart_some]
  refine he s₁ _ e₁ fun t s₂ e₂ => ?_
  refine wpAny_pure ?_
  have ep : Ext tb s₂ { s₂ with heap := s₂.heap.push { cls := .type "slice", data := .fields #[.none, .int (d : Nat) t, .none] } } := ext_push _ _
  have e3 := (e₁.trans e₂).trans ep
  have hL : s₂.heap.IsList p vs.toArray := let ⟨o, g, r⟩ := hl; ⟨o, e₂.keep _ _ hn (e₁.keep _ _ hn g), r⟩
  have hLp := hL.push { cls := .type "slice", data := .fields #[.none, .int (d : Nat) t, .none] }
  refine tail_any (Heap.IsList.typeIs (s := { s₂ with heap := s₂.heap.push { cls := .type "slice", data := .fields #[.none, .int (d : Nat) t, .none] } }) hLp) list_getitem_lookup
    (wpAny_getItem_list_slice hLp (Heap.IsSliceOf.new ..) .none (.int _ _) .none (by simp) ?_ (by rw [List.size_toArray, hsl]; omega)) (hs _ _)
  rw [slicePick_upto']
  rw [List.toList_toArray]
  dsimp only
  generalize s₂.heap.push { cls := .type "slice", data := .fields #[.none, .int (d : Nat) t, .none] } = h3 at e3
  generalize hr0 : h3.objs.size = r0
  have g4 : (h3.push { cls := .type "list", data := .seq (vs.take d).toArray }).get? r0 = some { cls := .type "list", data := .seq (vs.take d).toArray } := by rw [← hr0]; exact Heap.get?_push_size _ rfl
  have e4 : Ext tb s { s₂ with heap := h3.push { cls := .type "list", data := .seq (vs.take d).toArray } } := e3.trans (ext_push _ _)
  have n0 : s.heap.get? r0 = none := fresh_of hO e3 (by rw [← hr0]; exact at_none (Nat.le_refl _))
  have nt0 := (notTab_new hO n0).1
  refine hf _ _ e4 fun q s₅ e5 gq => ?_
  have g5 := e5.keep _ _ nt0 g4
  obtain ⟨n2, gq⟩ := gq
  refine concat_meets ⟨_, g5, rfl⟩ ⟨_, gq, rfl⟩ noFill_list_add seq_list_add PySem.F.slot_list_add PySem.F.entry_list_add (PySem.F.args_list_add_2 _ _) (list_addW r0 q (vs.take d).toArray us.toArray _ n2 _ _ _ _ (by simp; rw [hsl]; omega)) ⟨g5, gq, ?_⟩
  have ee : (vs.take d).toArray ++ us.toArray = (vs.take d ++ us).toArray := by simp
  rw [ee]
  have e6 := e4.trans e5
  exact h _ _ (e6.trans (ext_push _ _)) (fresh_of hO e6 (at_none (Nat.le_refl _))) ⟨_, Heap.get?_push_size _ rfl⟩
end
end Mine
end
section
open PySem PySem.W PySem.Calls PyProof.Rows
set_option maxRecDepth 100000
set_option maxHeartbeats 2000000
set_option linter.all false
namespace Mine
section
variable {prog : Program} {w : World} {W : Wd} {K L : Frag} {off : List Addr} {tb : Tb} {k : Nat} {env : Env} {ρ ρ' : Rho} {β β' : Raw} {mg mb : Str → Option Value} {X : List Addr} {s s' s'' s₀ s₁ : Shared} {A : Around}
theorem St.lists {Y : List Addr} (S : St K off tb X env ρ β s) (kp : ∀ b o, b ≠ env.locals → s.heap.get? b = some o → s'.heap.get? b = some o) : Lists tb s.heap s'.heap := by
  obtain ⟨m, o, es, ep, g, d, _⟩ := S.loc
  exact Lists.but g (fun xs n z => by rw [d] at z; cases z) kp

def asN (as : Nat → Addr) (i : Nat) (N : Addr) : Nat → Addr := fun e => if e = i + 1 then N else as e
theorem hung_body {u0 u1 u2 u3 : Stmt} {as : Nat → Addr} {T : HS} {nm : Nat → Str} {i d : Nat} {y : Str} {p : Addr} {Q : Flow → Shared → Prop} {x1 : Nat}
    {a1 a2 a3 a4 a5 b1 b2 b3 b4 c1 c2 c3 c4 c5 c6 c7 c8 c9 d1 d2 d3 d4 d5 d6 d7 d8 : Pos}
    (hR : Room A (k + 1)) (S : St K off tb X env [("row", .tuple [.int (d : Nat), .str y])] [("path", .ref p)] s) (hX : ∀ z ∈ own env, z ∈ X) (hown : own env = [env.locals]) (hcl : env.cells = []) (hint : interactive env = false)
    (H : Hung tb s.heap as T nm i p) (hd : 1 ≤ d) (hd2 : d ≤ T.path.length) (hi : i ≤ 99) (hy : nm (i + 1) = y) (nX : ∀ e, e ≤ i → as e ∈ X) (nL : ∀ e, e ≤ i → as e ≠ env.locals)
    (k1 : env.kindOf "depth" = some .local) (k2 : env.kindOf "name" = some .local) (k3 : env.kindOf "new" = some .local)
    (q0 : u0 = .Assign [.Tuple [.Name "depth" a1, .Name "name" a2] x1 a3] (.Name "row" a4) a5)
    (q1 : u1 = .Assign [.Name "new" b1] (.List [.Name "name" b2] b3) b4)
    (q2 : u2 = .Expr (.Call (.Attribute (.Subscript (.Name "path" c1) (.BinOp (.Name "depth" c2) .Sub (.Constant (.int 1) 0 c3) c4) c5) "append" c6) [.Name "new" c7] [] c8) c9) (h2 : (c6.endLine == c8.line) = true)
    (q3 : u3 = .Return (some (.BinOp (.Subscript (.Name "path" d1) (.Slice none (some (.Name "depth" d2)) none d3) d4) .Add (.List [.Name "new" d5] d6) d7)) d8)
    (hQ : ∀ r N s', ExtO tb (env.locals :: [as (T.path.getD (d - 1) 0)]) s s' → s.heap.get? N = none → (∃ o, s'.heap.get? N = some o) → Hung tb s'.heap (asN as i N) (hsStep i d T) nm (i + 1) r → Q (.ret (.ref r)) s') :
    wpAny (model prog w) A (execs [u0, u1, u2, u3] env) Q NoE s := by
  have hz : sizeLine = 2 ^ 24 := rfl
  have LX : env.locals ∈ X := hX _ List.mem_cons_self
  -- depth, name
  obtain ⟨vr, br, rr⟩ := S.en.vars _ List.mem_cons_self
  obtain ⟨t0, vs, rfl, ht, rvs⟩ := rr.isTuple
  obtain ⟨vd, vn, rfl, rd, rn⟩ := rvs.two
  obtain ⟨td, rfl⟩ := rd.int
  obtain ⟨ty, rfl⟩ := rn.str
  have ht' : s.heap.IsTuple t0 #[.int (d : Nat) td, .str y ty] := let ⟨o, g, r⟩ := ht; ⟨o, vis_below _ _ _ _ _ g, r⟩
  rw [q0]
  refine wpAny_execs_cons (Assign_Tuple (bound_load S.en.kind br (wpAny_assign_Tuple hR.handled ht' rfl rfl fun h1 x1 => ?_) (by decide) (by decide)) rfl rfl)
  have kp1 : ∀ b o, s.heap.get? b = some o → h1.get? b = some o := fun b o g => x1 b o (Nat.ne_of_lt (Heap.lt_size g)) g
  have e1 : Ext tb s { s with heap := h1 } := .of_sub kp1 rfl rfl
  have S1 := S.ext e1
  have H1 := H.keeps e1.lists
  show wpAny _ A (do holding [.str y ty] (assign (.Name "depth" a1) env (.int (d : Nat) td)); do holding [] (assign (.Name "name" a2) env (.str y ty)); pure ()) _ _ _
  refine wpAny_bind (wpAny_holding (wpAny_assign_Name (S1.store (x := "depth") hX k1 fun s2 y2 _ mk2 kp2 => ?_)))
  have S2 := mk2 [("depth", .int (d : Nat))] [("path", .ref p)] (all1 (.inl ⟨rfl, .mkInt⟩)) (all1 (.inr ⟨by simp, by dsimp only; decide⟩))
  have H2 := H1.keeps (S1.lists (Y := []) kp2)
  refine wpAny_bind (wpAny_holding (wpAny_assign_Name (S2.store (x := "name") hX k2 fun s3 y3 _ mk3 kp3 => wpAny_pure ?_)))
  have S3 := mk3 [("depth", .int (d : Nat)), ("name", .str y)] [("path", .ref p), ("name", .str y ty)] (all2 (.inr ⟨by simp, by dsimp only; decide⟩) (.inl ⟨rfl, .mkStr⟩)) (all2 (.inr ⟨by simp, by dsimp only; decide⟩) (.inl rfl))
  have H3 := H2.keeps (S2.lists (Y := []) kp3)
  have Y3 : ExtO tb (env.locals :: [as (T.path.getD (d - 1) 0)]) s s3 := by
    have z := ((ExtO.of e1 : ExtO tb (own env) s { s with heap := h1 }).trans y2).trans y3
    rw [hown] at z
    exact z.mono (all1 List.mem_cons_self)
  clear mk2 mk3 S1 S2 H1 H2
  -- new
  rw [q1]
  refine wpAny_execs_cons (wpAny_Assign_Name (wpAny_List (wpAny_items_cons (bound_load S3.en.kind (S3.raw ("name", .str y ty) (by simp)) (wpAny_items_nil ⟨by rw [hz]; show 1 ≤ 2 ^ 24; decide, ?_⟩) (by decide) (by decide)) rfl)) rfl)
  generalize hN0 : s3.heap.objs.size = N
  have n0 : s3.heap.get? N = none := by rw [← hN0]; exact at_none (Nat.le_refl _)
  obtain ⟨ntN, nXN⟩ := notTab_new S3.ok n0
  have gN4 : ({ s3 with heap := s3.heap.push { cls := .type "list", data := .seq ([.str y ty] : List Value).toArray } } : Shared).heap.get? N = some { cls := .type "list", data := .seq ([.str y ty] : List Value).toArray } := by rw [← hN0]; exact Heap.get?_push_size _ rfl
  have e4 : Ext tb s3 { s3 with heap := s3.heap.push { cls := .type "list", data := .seq ([.str y ty] : List Value).toArray } } := ext_push _ _
  have S4 := S3.ext e4
  have H4 := H3.keeps e4.lists
  have Y4 := Y3.trans (.of e4)
  have nN : s.heap.get? N = none := by
    cases hc : s.heap.get? N with
    | none => rfl
    | some o =>
      have hx : N ∉ env.locals :: [as (T.path.getD (d - 1) 0)] := fun z => by
        rcases List.mem_cons.mp z with z | z
        · exact nXN (z ▸ LX)
        · have z := List.mem_singleton.mp z
          exact nXN (z ▸ nX _ (by
            have : T.path.getD (d - 1) 0 ∈ T.path := by
              rw [List.getD_eq_getElem?_getD, List.getElem?_eq_getElem (m1 hd hd2)]; exact List.getElem_mem _
            exact H.pin _ this))
      have := Y3.keep _ o ntN hx hc
      rw [n0] at this; cases this
  generalize ({ s3 with heap := s3.heap.push { cls := .type "list", data := .seq ([.str y ty] : List Value).toArray } } : Shared) = s4 at *
  refine S4.store (x := "new") hX k3 fun s5 y5 _ mk5 kp5 => ?_
  have S5 := mk5 [("depth", .int (d : Nat))] [("path", .ref p), ("new", .ref N)] (all1 (.inr ⟨by simp, by dsimp only; decide⟩)) (all2 (.inr ⟨by simp, by dsimp only; decide⟩) (.inl rfl))
  have NL : N ≠ env.locals := fun z => nXN (z ▸ LX)
  have gN5 := kp5 N _ NL gN4
  have H5 := H4.keeps (S4.lists (Y := []) kp5)
  have Y5 : ExtO tb (env.locals :: [as (T.path.getD (d - 1) 0)]) s s5 := by
    rw [hown] at y5
    exact Y4.trans (y5.mono (all1 List.mem_cons_self))
  clear mk5 y2 y3 y5 kp2 kp3 kp5 S4 S3 H4 H3 Y4 Y3 e4
  -- path[depth - 1].append(new)
  have e0mem : T.path.getD (d - 1) 0 ∈ T.path := by
    rw [List.getD_eq_getElem?_getD, List.getElem?_eq_getElem (m1 hd hd2)]; exact List.getElem_mem _
  have e0le := H.pin _ e0mem
  have e0at : T.path[d - 1]? = some (T.path.getD (d - 1) 0) := by
    rw [List.getD_eq_getElem?_getD, List.getElem?_eq_getElem (m1 hd hd2)]; rfl
  generalize he0 : T.path.getD (d - 1) 0 = e0 at *
  obtain ⟨hd0, bh, gU⟩ := H5.node e0 e0le
  have lh := bh.length
  have lh2 : hd0.length ≤ 1 := by rw [lh]; split <;> simp
  have lk := H5.few e0 e0le
  have ed : ((d : Nat) : Int) - 1 = ((d - 1 : Nat) : Int) := m2 hd
  have pvd : PV prog w K off tb k env [("depth", .int (d : Nat))] (.BinOp (.Name "depth" c2) .Sub (.Constant (.int 1) 0 c3) c4) (.int ((d - 1 : Nat) : Int)) := by
    rw [← ed]; exact pv_binop (pv_var rfl) pv_int op_sub_int
  rw [q2]
  refine wpAny_execs_cons (wpAny_Expr (hi := hint) (eval_append (tb := tb) (P := fun v _ => v = .ref N) (U := as e0) (us := hd0 ++ (T.kids e0).map fun c => Value.ref (as c)) (fun Q hQ' => ?_) gU (H5.nt e0 e0le) (by simp; omega) (fun s₁ Q e₁ h => eval_local (S5.ext e₁) (x := "new") (v := .ref N) (by simp) (by decide) (by decide) _ fun s₂ e₂ => h _ s₂ e₂ rfl) (fun v s6 h' pv e6 sb gU' => ?_) rfl h2))
  · refine eval_item (tb := tb) (p := p) (i := d - 1) (v := .ref (as e0)) (eval_local S5 (x := "path") (by simp)) H5.path H5.pnt (by have := H5.fewp; omega) (by simp [e0at]) (fun s₁ Q e₁ h => pvd A X s₁ _ (hR.less (Nat.le_succ _)) (S5.ok.ext e₁) (S5.en.ext S5.ok e₁) fun v s' e r => ?_) fun s₁ e₁ => hQ' s₁ e₁
    obtain ⟨t, rfl⟩ := r.int
    exact h t s' e
  subst pv
  have H6 := H5.keeps e6.lists
  obtain ⟨hd6, bh6, gU6⟩ := H6.node e0 e0le
  have y6 : ExtO tb [as e0] s6 { s6 with heap := h' } := ExtO.oneList (t := s6.toks) gU6 (H6.nt e0 e0le) sb
  have S6 : St K off tb X env [("depth", .int (d : Nat))] [("path", .ref p), ("new", .ref N)] { s6 with heap := h' } := (S5.ext e6).turn y6 (all1 (nX e0 e0le)) (all1 (let ⟨n, g⟩ := gU'; ⟨_, g⟩)) (fun z => nL e0 e0le (List.mem_singleton.mp z).symm) (fun x c h => by rw [hcl] at h; cases h)
  have Y6 : ExtO tb (env.locals :: [as e0]) s { s6 with heap := h' } := (Y5.trans (.of e6)).trans (y6.mono (all1 (by simp)))
  have gN6 : h'.get? N = some { cls := .type "list", data := .seq ([.str y ty] : List Value).toArray } := sb.extBut _ _ (fun z => nXN (z ▸ nX e0 e0le)) (e6.keep _ _ ntN gN5)
  have path6 : h'.IsList p (T.path.map fun e => Value.ref (as e)).toArray := let ⟨o, g, r⟩ := H6.path; ⟨o, sb.extBut _ _ (H6.pas e0 e0le) g, r⟩
  -- the answer
  rw [q3]
  refine wpAny_execs_cons (wpAny_Return_some (eval_cutAdd (s := { s6 with heap := h' }) (tb := tb) (K := K) (off := off) (X := X) (p := p) (vs := T.path.map fun e => Value.ref (as e)) (us := [.ref N]) (d := d) (eval_local S6 (x := "path") (by simp)) path6 H.pnt (by have := H.fewp; simp; omega) (by simp) S6.ok (fun s₁ Q e₁ h => ?_) (fun s₁ Q e₁ h => ?_) fun r s8 e8 r0 gr => ?_))
  · exact pv_var (x := "depth") (d := .int (d : Nat)) rfl (by decide) (by decide) A X s₁ _ (hR.less (Nat.le_succ _)) (S6.ok.ext e₁) (S6.en.ext S6.ok e₁) fun v s' e r => by
      obtain ⟨t, rfl⟩ := r.int
      exact h t s' e
  · refine wpAny_List (wpAny_items_cons (eval_local (S6.ext e₁) (x := "new") (v := .ref N) (by simp) (by decide) (by decide) _ fun s₂ e₂ => wpAny_items_nil ⟨by rw [hz]; show 1 ≤ 2 ^ 24; decide, ?_⟩) rfl)
    exact h _ _ (e₂.trans (ext_push _ _)) ⟨_, Heap.get?_push_size _ rfl⟩
  have nd8 : ∀ {U : Addr} {vs : Array Value}, U ∉ tb.map (·.1) → h'.PlainList U vs → s8.heap.PlainList U vs := fun n g => g.at fun o => e8.keep _ o n
  have ntr := (notTab_new S6.ok r0).1
  have Y8 := Y6.trans (.of e8)
  have gN8 := e8.keep _ _ ntN gN6
  have NA : ∀ e, e ≤ i → N ≠ as e := fun e he z => nXN (z ▸ nX e he)
  have old : ∀ e, e ≤ i → asN as i N e = as e := fun e he => if_neg (m3 he)
  have oldmap : ∀ l : List Nat, (∀ c ∈ l, c ≤ i) → l.map (fun c => Value.ref (asN as i N c)) = l.map fun c => Value.ref (as c) := fun l h => List.map_congr_left fun c hc => congrArg Value.ref (old c (h c hc))
  have newat : asN as i N (i + 1) = N := if_pos rfl
  have hk : (hsStep i d T).kids = fun e => if e = e0 then T.kids e ++ [i + 1] else T.kids e := by unfold hsStep; rw [he0]
  have hp : (hsStep i d T).path = T.path.take d ++ [i + 1] := rfl
  refine hQ r N s8 Y8 nN ⟨_, gN8⟩ ⟨?_, ntr, fun e he => ?_, fun e he => ?_, fun e e' he he' z => ?_, ?_, fun e he c hc => ?_, fun e he => ?_, fun e he => ?_, ?_, fun e he => ?_⟩
  · rw [hp, List.map_append, List.map_cons, List.map_nil, newat, oldmap _ (fun c hc => H.pin c (List.mem_of_mem_take hc)), List.map_take]
    exact gr.isList
  · rcases last_or he with rfl | h
    · rw [newat]
      intro z
      rw [z, show ({ s6 with heap := h' } : Shared).heap = h' from rfl, gN6] at r0; cases r0
    · rw [old e h]
      intro z
      obtain ⟨_, _, n, g⟩ := H6.node e h
      by_cases h3 : e = e0
      · obtain ⟨n, g⟩ := gU'
        rw [z, h3, show ({ s6 with heap := h' } : Shared).heap = h' from rfl, g] at r0; cases r0
      · have := sb.extBut _ _ (fun z => h3 (H.inj e e0 h e0le z)) g
        rw [z, show ({ s6 with heap := h' } : Shared).heap = h' from rfl, this] at r0; cases r0
  · rcases last_or he with rfl | h
    · rw [newat]; exact ntN
    · rw [old e h]; exact H.nt e h
  · rcases last_or he with rfl | h
    · rcases last_or he' with rfl | h2
      · rfl
      · rw [newat, old e' h2] at z; exact absurd z (NA e' h2)
    · rcases last_or he' with rfl | h2
      · rw [newat, old e h] at z; exact absurd z.symm (NA e h)
      · rw [old e h, old e' h2] at z; exact H.inj e e' h h2 z
  · rw [hp]
    intro e he
    rcases List.mem_append.mp he with he | he
    · exact Nat.le_succ_of_le (H.pin e (List.mem_of_mem_take he))
    · rw [List.mem_singleton.mp he]; exact Nat.le_refl _
  · rw [hk] at hc
    dsimp only at hc
    rcases last_or he with rfl | h
    · rw [if_neg (m4 e0le), H.kout _ (Nat.lt_succ_self i)] at hc; cases hc
    · split at hc
      · rcases List.mem_append.mp hc with hc | hc
        · exact Nat.le_succ_of_le (H.kin e h c hc)
        · rw [List.mem_singleton.mp hc]; exact Nat.le_refl _
      · exact Nat.le_succ_of_le (H.kin e h c hc)
  · rw [hk]
    dsimp only
    rcases last_or he with rfl | h
    · rw [if_neg (m4 e0le), H.kout _ (Nat.lt_succ_self i)]; exact Nat.zero_le _
    · have := H.few e h
      split
      · rw [List.length_append, List.length_singleton]; exact Nat.succ_le_succ this
      · exact Nat.le_succ_of_le this
  · rw [hk]
    dsimp only
    rw [if_neg (fun z : e = e0 => Nat.lt_irrefl _ (Nat.lt_of_lt_of_le (Nat.lt_of_succ_lt he) (z ▸ e0le)))]
    exact H.kout e (Nat.lt_of_succ_lt he)
  · rw [hp, List.length_append, List.length_take, List.length_singleton]
    exact Nat.succ_le_succ (Nat.le_trans (Nat.min_le_right _ _) H.fewp)
  · rw [hk]
    dsimp only
    rcases last_or he with rfl | h
    · rw [if_neg (m4 e0le), H.kout _ (Nat.lt_succ_self i), newat, if_neg (Nat.succ_ne_zero i), hy]
      exact ⟨[.str y ty], fun g => .cons .mkStr .nil, _, gN8⟩
    · rw [old e h]
      by_cases h3 : e = e0
      · subst h3
        rw [if_pos rfl]
        refine ⟨hd0, bh, nd8 (H.nt e h) ?_⟩
        rw [List.map_append, List.map_cons, List.map_nil, newat, oldmap _ (H.kin e h), ← List.append_assoc]
        exact gU'
      · rw [if_neg h3, oldmap _ (H.kin e h)]
        obtain ⟨hd, bb, n, g⟩ := H6.node e h
        exact ⟨hd, bb, nd8 (H.nt e h) ⟨n, sb.extBut _ _ (fun z => h3 (H.inj e e0 h e0le z)) g⟩⟩
end
end Mine
end
section
open PySem PySem.W PySem.Calls PyProof.Rows
set_option maxRecDepth 100000
set_option maxHeartbeats 2000000
set_option linter.all false
namespace Mine
section
variable {prog : Program} {w : World} {W : Wd} {off : List Addr} {tb : Tb} {k : Nat} {X : List Addr} {s : Shared} {A : Around}
theorem call_hung {as : Nat → Addr} {T : HS} {nm : Nat → Str} {i d : Nat} {y : Str} {p : Addr} {ve : Value} {Q : Value → Shared → Prop} (G : Globs (K1 W) off (mg1 W) (mb1 W)) (hoff : ∀ a ∈ [127, 128], a ∉ off)
    (hR : Room A (k + 2)) (hO : Ok (K1 W) off tb X s) (r : Rp (vis tb X s.heap) ve (.tuple [.int (d : Nat), .str y])) (H : Hung tb s.heap as T nm i p) (hd : 1 ≤ d) (hd2 : d ≤ T.path.length) (hi : i ≤ 99) (hy : nm (i + 1) = y) (nX : ∀ e, e ≤ i → as e ∈ X)
    (hQ : ∀ r N s', ExtO tb [as (T.path.getD (d - 1) 0)] s s' → s.heap.get? N = none → (∃ o, s'.heap.get? N = some o) → Hung tb s'.heap (asN as i N) (hsStep i d T) nm (i + 1) r → Q (.ref r) s') :
    wpAny (model prog w) A (call (.ref 128) [.ref p, ve]) Q NoE s := by
  refine wpAny_call ?_
  refine codeAny_call_binds (binds := [("path", .ref p), ("row", ve)]) hR.lim (hO.get (a := 128) rfl (hoff 128 (by decide))) rfl (hO.globs G).2.2 ?_ rfl ?_ rfl ?_ (fun s₁ I₁ => ?_)
  · exact Heap.CodeRec.keeps (⟨127, _, _, _, rfl, hO.top 127 _ rfl (hoff 127 (by decide)), rfl, rfl⟩ : (vis tb X s.heap).CodeRec _ _) (vis_below _ _ _)
  · intro A' Q E' hq
    exact wpAny_pure hq
  · exact all2 (.inl rfl) (.inl rfl)
  · have T0 := entered (ρ := [("row", .tuple [.int (d : Nat), .str y])]) rfl I₁ hO rfl rfl rfl (show (["path", "row"] : List Str).Nodup by decide)
      (all2 (.inl rfl) (.inl rfl)) (all1 ⟨ve, by simp, r⟩)
    refine wpAny_mono (E := NoE) ?_ (fun _ _ z => z) fun _ _ z => z.elim
    have inS : ∀ e, e ≤ i → ∃ o, s.heap.get? (as e) = some o := fun e he => let ⟨_, _, n, g⟩ := H.node e he; ⟨_, g⟩
    refine hung_body (k := k) (as := as) (T := T) (nm := nm) (i := i) (d := d) (y := y) (p := p) hR.deeper ⟨T0.ok, T0.en, fun q hq => T0.bound q ?_, T0.loc⟩ (fun z hz => List.mem_append_left _ hz) rfl rfl rfl (H.keeps T0.ext.lists) hd hd2 hi hy (fun e he => List.mem_append_right _ (nX e he)) (fun e he z => ?_) rfl rfl rfl rfl rfl rfl rfl rfl fun r N s' x nN gN H' => ?_
    · rw [List.mem_singleton] at hq; subst hq; simp
    · obtain ⟨o, g⟩ := inS e he
      rw [z, T0.fresh _ List.mem_cons_self] at g; cases g
    · refine hQ r N s' ⟨fun b o n m g => x.keep b o n (fun z => ?_) (T0.ext.keep b o n g), fun q hq z => x.tab q hq (T0.ext.tab q hq z), x.gens.trans T0.ext.gens, x.os.trans T0.ext.os⟩ (fresh_of hO T0.ext nN) gN H'
      rcases List.mem_cons.mp z with z | z
      · rw [z, T0.fresh _ List.mem_cons_self] at g; cases g
      · exact m z
end
end Mine
end
section
open PySem PySem.W PySem.Calls PyProof.Rows
set_option maxRecDepth 100000
set_option maxHeartbeats 4000000
set_option linter.all false
namespace Mine
abbrev Row := Nat × Str
abbrev rowD (r : Row) : PyData := .tuple [.int ((r.1 : Nat) : Int), .str r.2]
def hsAt (rows : List Row) : Nat → HS
  | 0 => hs0
  | i + 1 => hsStep i (rows.getD i (0, "")).1 (hsAt rows i)
def nmOf (rows : List Row) (e : Nat) : Str := (rows.getD (e - 1) (0, "")).2
section
variable {prog : Program} {w : World} {W : Wd} {K L : Frag} {off : List Addr} {tb : Tb} {k : Nat} {env : Env} {ρ ρ' : Rho} {β β' : Raw} {mg mb : Str → Option Value} {X : List Addr} {s s' s₀ s₁ : Shared} {A : Around}
theorem St.step {Y N : List Addr} (x : St K off tb X env ρ β s) (y : ExtO tb Y s s') (hY : ∀ z ∈ Y, z ∈ X) (hI : ∀ z ∈ Y, ∃ o, s'.heap.get? z = some o) (hN : ∀ z ∈ N, s.heap.get? z = none ∧ ∃ o, s'.heap.get? z = some o) (hl : env.locals ∉ Y) (hc : ∀ x c, env.cells.lookup x = some c → c ∉ Y) : St K off tb (N ++ X) env ρ β s' := by
  have sb : Sub (vis tb X s.heap) (vis tb (N ++ X) s'.heap) := fun b o g => by
    obtain ⟨g0, n, m⟩ := vis_get g
    refine vis_mk (y.keep b o n (fun z => m (hY b z)) g0) n fun z => ?_
    rcases List.mem_append.mp z with z | z
    · rw [(hN b z).1] at g0; cases g0
    · exact m z
  refine ⟨⟨fun z hz => ?_, fun q hq => y.tab q hq (x.ok.tabs q hq), x.ok.top.sub sb⟩, ⟨x.en.kind, x.en.globals, x.en.builtins, x.en.nloc, fun p hp => ?_⟩, fun p hp => (x.raw p hp).extO x.ok x.en.nloc y hl hc, ?_⟩
  · rcases List.mem_append.mp hz with hz | hz
    · exact ⟨(notTab_new x.ok (hN z hz).1).1, (hN z hz).2⟩
    · obtain ⟨n, o, g⟩ := x.ok.priv z hz
      by_cases h : z ∈ Y
      · exact ⟨n, hI z h⟩
      · exact ⟨n, o, y.keep z o n h g⟩
  · obtain ⟨v, b, rv⟩ := x.en.vars p hp
    exact ⟨v, b.extO x.ok x.en.nloc y hl hc, rv.sub sb⟩
  · obtain ⟨mL, o, es, ep, g, q⟩ := x.loc
    exact ⟨mL, o, es, ep, y.keep _ _ x.en.nloc hl g, q⟩

theorem hung_loop {as0 : Nat → Addr} {p0 : Addr} {rows : List Row} {fm : Addr} {om : Obj} {seq : Value} {p1 p2 p3 p4 p5 p6 p7 p8 p9 p10 p11 p12 p13 p14 p15 p16 p17 p18 p19 p20 p21 p22 p23 : Pos} {tr : List Stmt} {Q : Flow → Shared → Prop}
    (G : Globs (K1 W) off (mg1 W) (mb1 W)) (hoff : ∀ a ∈ [127, 128], a ∉ off) (hiter : (mg1 W) "iter" = none) (hiterb : (mb1 W) "iter" = some (.builtin "iter")) (hmiss : (mg1 W) "_initial_missing" = some (.ref fm)) (hm : (K1 W).lookup fm = some om) (hmo : fm ∉ off) (hmd : ∀ xs n, om.data ≠ .seq xs n)
    (hR : Room A (k + 2)) (S : St (K1 W) off tb X env [] [("function", .ref 128), ("sequence", seq), ("initial", .ref p0)] s) (hX : ∀ z ∈ own env, z ∈ X) (hown : own env = [env.locals]) (hcl : env.cells = [])
    (H0 : Hung tb s.heap as0 hs0 (nmOf rows) 0 p0) (hg : as0 0 ∈ X) (hgL : as0 0 ≠ env.locals) (hlen : rows.length ≤ 99)
    (hdep : ∀ i < rows.length, 1 ≤ (rows.getD i (0, "")).1 ∧ (rows.getD i (0, "")).1 ≤ (hsAt rows i).path.length)
    (hsrc : ∃ SO, Src prog w tb k X s seq (rows.map rowD) SO ∧ ∀ i o, SO i o → ∀ xs n, o.data ≠ .seq xs n)
    (hQ : ∀ as p s', ExtO tb [env.locals, as0 0] s s' → Hung tb s'.heap as (hsAt rows rows.length) (nmOf rows) rows.length p → as 0 = as0 0 → (∀ e, 1 ≤ e → e ≤ rows.length → s.heap.get? (as e) = none) → Q (.ret (.ref p)) s')
    (k1 : env.kindOf "iter" = some .globalImplicit := by rfl) (k2 : env.kindOf "_initial_missing" = some .globalImplicit := by rfl) (k3 : env.kindOf "it" = some .local := by rfl) (k4 : env.kindOf "value" = some .local := by rfl) (k5 : env.kindOf "element" = some .local := by rfl)
    (sw1 : swapsWith (.Call (.Name "iter" p2) [.Name "sequence" p3] [] p4) (some (.Name "it" p1)) p5.line env = pure false := by rfl) (sw2 : swapsWith (.Name "initial" p10) (some (.Name "value" p9)) p11.line env = pure false := by rfl)
    (sw3 : swapsWith (.Call (.Name "function" p16) [.Name "value" p17, .Name "element" p18] [] p19) (some (.Name "value" p15)) p20.line env = pure false := by rfl) :
    wpAny (model prog w) A (execs [
      .Assign [.Name "it" p1] (.Call (.Name "iter" p2) [.Name "sequence" p3] [] p4) p5,
      .If (.Compare (.Name "initial" p6) [.Is] [.Name "_initial_missing" p7] p8) tr [.Assign [.Name "value" p9] (.Name "initial" p10) p11] p12,
      .For (.Name "element" p13) (.Name "it" p14) [.Assign [.Name "value" p15] (.Call (.Name "function" p16) [.Name "value" p17, .Name "element" p18] [] p19) p20] [] p21,
      .Return (some (.Name "value" p22)) p23] env) Q NoE s := by
  obtain ⟨SO, src, seqNo⟩ := hsrc
  have LX : env.locals ∈ X := hX _ (hown ▸ List.mem_cons_self)
  have YX : ∀ z ∈ [env.locals, as0 0], z ∈ X := all2 LX hg
  -- it
  refine wpAny_execs_cons (wpAny_Assign_Name (wpAny_Call_NameR (load_builtin G S.ok S.en hiter hiterb k1 (by decide) ?_)) sw1)
  refine callWith_builtin (args := backTo p4 (starEach [.Name "sequence" p3] env)) rfl (evalArgs_plain (spliced_cons (bound_load S.en.kind (S.raw ("sequence", seq) (by simp)) (spliced_nil (call_iter ?_)) (by decide) (by decide))))
  refine src.lay _ _ (hR.in1.less (Nat.le_succ _)) fun oI hSO hIf => ?_
  generalize hI : s.heap.objs.size = I
  have gI0 : s.heap.get? I = none := at_none (Nat.le_of_eq hI)
  have gI : (s.heap.push oI).get? I = some oI := by rw [← hI]; exact Heap.get?_push_size _ hIf
  have nI := notTab_new S.ok gI0
  have e1 : Ext tb s { s with heap := s.heap.push oI } := ext_push _ _
  have S1 := S.hide e1 gI0 ⟨_, gI⟩ nI.1
  have H1 := H0.keeps e1.lists
  have hX1 : ∀ z ∈ own env, z ∈ I :: X := fun z hz => List.mem_cons_of_mem _ (hX z hz)
  have lI : env.locals ≠ I := fun z => by obtain ⟨m, o, es, ep, g, _⟩ := S.loc; rw [z, gI0] at g; cases g
  have old : ∀ b o, s.heap.get? b = some o → b ≠ I := fun b o g z => by rw [z, gI0] at g; cases g
  refine S1.store (x := "it") hX1 k3 fun s₂ y2 _ mk2 kp2 => ?_
  have S2 := mk2 [] [("function", .ref 128), ("initial", .ref p0), ("it", .ref I)] (fun _ h => nomatch h) (all3 (.inr ⟨by simp, by dsimp only; decide⟩) (.inr ⟨by simp, by dsimp only; decide⟩) (.inl rfl))
  have H2 := H1.keeps (S1.lists (Y := []) kp2)
  have gI2 : s₂.heap.get? I = some oI := kp2 I oI (Ne.symm lI) gI
  rw [hown] at y2
  have x2 : ExtO tb [env.locals, as0 0] s s₂ := (ExtO.of e1).trans (y2.mono (all1 (by simp)))
  -- the beginning
  refine wpAny_execs_cons (wpAny_If (wpAny_isTrue_Compare1 (bound_load S2.en.kind (S2.raw ("initial", .ref p0) (by simp)) (load_global G S2.ok S2.en hmiss k2 (by decide) ?_) (by decide) (by decide)) (by with_unfolding_all rfl)))
  obtain ⟨ol, gl, cl, nl, dl⟩ := H2.path
  refine wpAny_is_ref_other (fun z => ?_) gl (S2.ok.get hm hmo) (by rw [cl]; simp) (wpAny_truthy_bool ?_)
  · rw [z, S2.ok.get hm hmo] at gl; cases gl; exact hmd _ _ dl
  simp only [Bool.false_eq_true, if_false]
  refine wpAny_execs_cons (wpAny_Assign_Name (bound_load S2.en.kind (S2.raw ("initial", .ref p0) (by simp)) ?_ (by decide) (by decide)) sw2)
  refine S2.store (x := "value") hX1 k4 fun s₃ y3 _ mk3 kp3 => ?_
  have S3 := mk3 [] [("function", .ref 128), ("it", .ref I), ("value", .ref p0)] (fun _ h => nomatch h) (all3 (.inr ⟨by simp, by dsimp only; decide⟩) (.inr ⟨by simp, by dsimp only; decide⟩) (.inl rfl))
  have H3 := H2.keeps (S2.lists (Y := []) kp3)
  have gI3 : s₃.heap.get? I = some oI := kp3 I oI (Ne.symm lI) gI2
  rw [hown] at y3
  have x3 : ExtO tb [env.locals, as0 0] s s₃ := x2.trans (y3.mono (all1 (by simp)))
  refine wpAny_execs_nil (wpAny_execs_cons ?_)
  -- the loop
  have visI : ∀ s' Z, ExtO tb [env.locals, as0 0] s s' → (∀ z ∈ Z, s.heap.get? z = none) → Sub (vis tb X s.heap) (vis tb (Z ++ I :: X) s'.heap) := fun s' Z y hZ b o g => by
    obtain ⟨g0, n, m⟩ := vis_get g
    refine vis_mk (y.keep b o n (fun z => m (YX b z)) g0) n fun z => ?_
    rcases List.mem_append.mp z with z | z
    · rw [hZ b z] at g0; cases g0
    · rcases List.mem_cons.mp z with z | z
      · exact old b o g0 z
      · exact m z
  refine wpAny_For (bound_load S3.en.kind (S3.raw ("it", .ref I) (by simp)) (src.self _ _ 0 oI I _ _ gI3 hSO ?_) (by decide) (by decide)) (by intro _; rfl)
  refine codeAny_forLoop (fun n s' => ∃ i o as p Z, n + i = rows.length + 1 ∧ i ≤ rows.length ∧ ExtO tb [env.locals, as0 0] s s' ∧ St (K1 W) off tb (Z ++ I :: X) env [] [("function", .ref 128), ("it", .ref I), ("value", .ref p)] s' ∧ s'.heap.get? I = some o ∧ SO i o ∧
      Hung tb s'.heap as (hsAt rows i) (nmOf rows) i p ∧ as 0 = as0 0 ∧ (∀ z ∈ Z, s.heap.get? z = none) ∧ (∀ e, 1 ≤ e → e ≤ i → as e ∈ Z) ∧ I ∉ Z) (fun n s' hinv => ?_)
    (rows.length + 1) ⟨0, oI, as0, p0, [], rfl, Nat.zero_le _, x3, S3, gI3, hSO, H3, rfl, (fun _ h => nomatch h), fun e h1 h2 => absurd (Nat.le_trans h1 h2) (Nat.not_succ_le_zero 0), fun h => nomatch h⟩
  obtain ⟨i, o, as, p, Z, hnn, hil, y4, S4, gI4, so4, H4, a0, hZ, hasZ, nIZ⟩ := hinv
  have hXZ : ∀ z ∈ own env, z ∈ Z ++ I :: X := fun z hz => List.mem_append_right _ (hX1 z hz)
  have inX : ∀ z ∈ [I], z ∈ Z ++ I :: X := all1 (by simp)
  have lI' : env.locals ∉ [I] := fun z => lI (List.mem_singleton.mp z)
  have noc : ∀ (Y : List Addr) x c, env.cells.lookup x = some c → c ∉ Y := fun Y x c z => by rw [hcl] at z; cases z
  have nte : ∀ h' : Heap, Heap.ExtBut I s'.heap h' → ∀ tt, ExtO tb [I] s' { s' with heap := h', toks := tt } := fun h' hx tt =>
    ⟨fun b o _ mm g => hx b o (fun z => mm (by simp [z])) g, fun q hq z => z.but hx gI4 (src.noCode _ _ so4) (ne_of_tab nI.1 hq), rfl, rfl⟩
  have nte2 : ∀ s'' : Shared, ExtO tb [I] s' s'' → ExtO tb [env.locals, as0 0] s s'' := fun s'' y => y4.over y (all1 (.inr gI0))
  have listI : ∀ h' : Heap, Heap.ExtBut I s'.heap h' → Lists tb s'.heap h' := fun h' hx b o _ ⟨xs, n, dd⟩ g => hx b o (fun z => by
    subst z
    rw [gI4] at g; cases g
    exact seqNo i _ so4 xs n dd) g
  refine src.next _ s' i o I _ _ (hR.less (Nat.le_add_right k 2)) ((visI s' Z y4 hZ).trans (vis_below _ _ _)) gI4 so4 (fun dv v h' tk o' hd hx1 gI5 so5 rv => ?_) fun h' hd hx1 => ?_
  · have y5 := nte h' hx1 tk
    have S5 := S4.turn (s' := { s' with heap := h', toks := tk }) y5 inX (all1 ⟨_, gI5⟩) lI' (noc _)
    have z5 := nte2 _ y5
    have H5 := H4.keeps (listI h' hx1)
    have hlt : i < rows.length := by
      have := (List.getElem?_eq_some_iff.mp hd).1
      simpa using this
    have hrow : dv = rowD (rows.getD i (0, "")) := by
      rw [List.getElem?_map, List.getElem?_eq_getElem hlt] at hd
      rw [List.getD_eq_getElem?_getD, List.getElem?_eq_getElem hlt]
      exact (Option.some.inj hd).symm
    subst hrow
    refine wpAny_assign_Name (S5.store (x := "element") hXZ k5 fun s₆ y6 _ mk6 kp6 => ?_)
    have S6 := mk6 [("element", rowD (rows.getD i (0, "")))] [("function", .ref 128), ("it", .ref I), ("value", .ref p)] (all1 (.inl ⟨rfl, rv.sub (visI _ Z z5 hZ)⟩)) (all3 (.inr ⟨by simp, by dsimp only; decide⟩) (.inr ⟨by simp, by dsimp only; decide⟩) (.inr ⟨by simp, by dsimp only; decide⟩))
    have H6 := H5.keeps (S5.lists (Y := []) kp6)
    have gI6 : s₆.heap.get? I = some o' := kp6 I o' (Ne.symm lI) gI5
    rw [hown] at y6
    have z6 : ExtO tb [env.locals, as0 0] s s₆ := z5.trans (y6.mono (all1 (by simp)))
    refine wpAny_mono (E := NoE) ?_ (fun _ _ q => q) fun _ _ q => q.elim
    obtain ⟨o128, fd128, l128, d128⟩ : ∃ o fd, (K1 W).lookup 128 = some o ∧ o.data = .func fd := ⟨_, _, rfl, rfl⟩
    refine wpAny_execs_cons (wpAny_Assign_Name (wpAny_Call_NameR (bound_load S6.en.kind (S6.raw ("function", .ref 128) (by simp)) (callWith_fn (s := s₆) d128 ?_ rfl) (by decide) (by decide))) sw3)
    obtain ⟨ve, be, re⟩ := S6.en.vars ("element", rowD (rows.getD i (0, ""))) (by simp)
    refine spliced_cons (bound_load S6.en.kind (S6.raw ("value", .ref p) (by simp)) (spliced_cons (bound_load S6.en.kind be (spliced_nil ⟨S6.ok.get l128 (hoff 128 (by decide)), ?_⟩) (by decide) (by decide))) (by decide) (by decide))
    obtain ⟨hd1, hd2⟩ := hdep i hlt
    have nX6 : ∀ e, e ≤ i → as e ∈ Z ++ I :: X := fun e he => by
      by_cases h0 : e = 0
      · subst h0; rw [a0]; exact List.mem_append_right _ (List.mem_cons_of_mem _ hg)
      · exact List.mem_append_left _ (hasZ e (Nat.pos_of_ne_zero h0) he)
    have nm1 : nmOf rows (i + 1) = (rows.getD i (0, "")).2 := rfl
    have ae0 : (hsAt rows i).path.getD ((rows.getD i (0, "")).1 - 1) 0 ≤ i := H6.pin _ (by
      rw [List.getD_eq_getElem?_getD, List.getElem?_eq_getElem (m1 hd1 hd2)]; exact List.getElem_mem _)
    refine call_hung (k := k) G hoff hR S6.ok re H6 hd1 hd2 (Nat.le_trans (Nat.le_of_lt hlt) hlen) nm1 nX6 fun r N s₇ y7 nN gN H7 => ?_
    have nL7 : as ((hsAt rows i).path.getD ((rows.getD i (0, "")).1 - 1) 0) ≠ env.locals := fun z => by
      obtain ⟨m, o, es, ep, g, d, _⟩ := S6.loc
      obtain ⟨_, _, n, g'⟩ := H6.node _ ae0
      rw [z, g] at g'; cases g'; cases d
    have S7 := S6.step (N := [N]) y7 (all1 (nX6 _ ae0)) (all1 (let ⟨_, _, n, g⟩ := H7.node _ (Nat.le_succ_of_le ae0); ⟨_, by
      have e : asN as i N ((hsAt rows i).path.getD ((rows.getD i (0, "")).1 - 1) 0) = as ((hsAt rows i).path.getD ((rows.getD i (0, "")).1 - 1) 0) := if_neg (m3 ae0)
      rw [e] at g; exact g⟩)) (all1 ⟨nN, gN⟩) (fun z => nL7 (List.mem_singleton.mp z).symm) (noc _)
    have z7 : ExtO tb [env.locals, as0 0] s s₇ := z6.over y7 (all1 (by
      by_cases h0 : (hsAt rows i).path.getD ((rows.getD i (0, "")).1 - 1) 0 = 0
      · rw [h0, a0]; exact .inl (by simp)
      · exact .inr (hZ _ (hasZ _ (Nat.pos_of_ne_zero h0) ae0))))
    have fresh6 : ∀ b, s₆.heap.get? b = none → s.heap.get? b = none := fun b hb => by
      cases hc : s.heap.get? b with
      | none => rfl
      | some o =>
        obtain ⟨n1, n2⟩ := notTab_new S6.ok hb
        have := z6.keep b o n1 (fun z => n2 (List.mem_append_right _ (List.mem_cons_of_mem _ (YX b z)))) hc
        rw [hb] at this; cases this
    have nNI : N ≠ I := fun z => by rw [z, gI6] at nN; cases nN
    have gI7 : s₇.heap.get? I = some o' := y7.keep I _ nI.1 (fun z => by
      have z := List.mem_singleton.mp z
      have := nX6 _ ae0
      rw [← z] at this
      by_cases h0 : (hsAt rows i).path.getD ((rows.getD i (0, "")).1 - 1) 0 = 0
      · rw [h0, a0] at z; exact nI.2 (z ▸ hg)
      · exact nIZ (z ▸ hasZ _ (Nat.pos_of_ne_zero h0) ae0)) gI6
    have hXN : ∀ z ∈ own env, z ∈ [N] ++ (Z ++ I :: X) := fun z hz => List.mem_append_right _ (hXZ z hz)
    refine S7.store (x := "value") hXN k4 fun s₈ y8 _ mk8 kp8 => ?_
    have S8 := mk8 [] [("function", .ref 128), ("it", .ref I), ("value", .ref r)] (fun _ h => nomatch h) (all3 (.inr ⟨by simp, by dsimp only; decide⟩) (.inr ⟨by simp, by dsimp only; decide⟩) (.inl rfl))
    rw [hown] at y8
    refine wpAny_execs_nil ⟨n - 1, t1 hnn hlt, i + 1, o', asN as i N, r, N :: Z, t2 hnn hlt, hlt, z7.trans (y8.mono (all1 (by simp))), S8, kp8 I o' (Ne.symm lI) gI7, so5, H7.keeps (S7.lists (Y := []) kp8), (if_neg (Ne.symm (Nat.succ_ne_zero i))).trans a0, List.forall_mem_cons.mpr ⟨fresh6 N nN, hZ⟩, fun e h1 h2 => ?_, fun z => ?_⟩
    · by_cases h3 : e = i + 1
      · have e3 : asN as i N e = N := if_pos h3
        rw [e3]; exact List.mem_cons_self
      · have e3 : asN as i N e = as e := if_neg h3
        rw [e3]; exact List.mem_cons_of_mem _ (hasZ e h1 (m5 h2 h3))
    · rcases List.mem_cons.mp z with z | z
      · exact nNI z.symm
      · exact nIZ z
  · have y5 := nte h' hx1 s'.toks
    have S5 := S4.raw ("value", .ref p) (by simp)
    have b5 : Bound env h' "value" (.ref p) := S5.extO (s' := { s' with heap := h' }) S4.ok S4.en.nloc y5 lI' (noc _)
    have hi : i = rows.length := by
      have := List.getElem?_eq_none_iff.mp hd
      simp at this; omega
    subst hi
    refine wpAny_execs_nil (wpAny_execs_cons (wpAny_Return_some (bound_load S4.en.kind b5 (hQ as p _ (nte2 _ y5) (H4.keeps (listI h' hx1)) a0 fun e h1 h2 => hZ _ (hasZ e h1 h2)) (by decide) (by decide))))
end
end Mine
end
section
open PySem PySem.W PySem.Calls PyProof.Rows
set_option maxRecDepth 100000
set_option maxHeartbeats 4000000
set_option linter.all false
namespace Mine
section
variable {prog : Program} {w : World} {W : Wd} {K L : Frag} {off : List Addr} {tb : Tb} {k : Nat} {env : Env} {ρ : Rho} {X : List Addr} {s s' s₀ s₁ : Shared} {A : Around}
theorem src_list2 {v : Value} {ds : List PyData} (r : Rp (vis tb X s.heap) v (.list ds)) : ∃ SO, Src prog w tb k X s v ds SO ∧ ∀ i o, SO i o → ∀ xs n, o.data ≠ .seq xs n := by
  obtain ⟨l, vs, rfl, hl, ra⟩ := r.isList
  refine ⟨fun i o => o.cls = .type "list_iterator" ∧ o.data = .fields #[.ref l, .int i 0], ⟨?_, ?_, ?_, ?_⟩, fun i o so xs n z => by rw [so.2] at z; cases z⟩
  · intro A Q hR h
    exact wpAny_pyIter_list (IsList.below hl) (h _ ⟨rfl, rfl⟩ rfl)
  · intro A s' i o I Q E e so h
    exact wpAny_pyIter_listiter ⟨o, e, so.1, so.2⟩ h
  · intro i o so
    exact fun vs q t z => (by rw [so.2] at z; cases z; simp)
  · intro A s' i o I Q E hR hs e so h1 h2
    obtain ⟨ob, hb, r⟩ := hl
    have hl' : s'.heap.IsList l vs.toArray := ⟨ob, hs _ _ hb, r⟩
    cases hd : ds[i]? with
    | none =>
      have : vs.toArray[i]? = none := by
        have := ra.length; simp at hd ⊢; omega
      exact wpAny_pyNext_list_end hR.handled ⟨o, e, so.1, so.2⟩ hl' this fun h' x => h2 h' hd x
    | some d =>
      obtain ⟨v, hv, rv⟩ := ra.get hd
      refine wpAny_pyNext_list_item ⟨o, e, so.1, so.2⟩ hl' (by simpa using hv) fun h' ⟨o', e', c, dd⟩ x => ?_
      exact h1 d v h' s'.toks o' hd x.extBut e' ⟨c, by simpa using dd⟩ rv

theorem call_reduceH {as0 : Nat → Addr} {p0 : Addr} {rows : List Row} {seq : Value} {Q : Value → Shared → Prop} (G : Globs (K1 W) off (mg1 W) (mb1 W)) (hoff : ∀ a ∈ [29, 30, 36, 37, 127, 128], a ∉ off)
    (hR : Room A (k + 3)) (hO : Ok (K1 W) off tb X s) (H0 : Hung tb s.heap as0 hs0 (nmOf rows) 0 p0) (hg : as0 0 ∈ X) (hlen : rows.length ≤ 99)
    (hdep : ∀ i < rows.length, 1 ≤ (rows.getD i (0, "")).1 ∧ (rows.getD i (0, "")).1 ≤ (hsAt rows i).path.length)
    (r : Rp (vis tb X s.heap) seq (.list (rows.map rowD)))
    (hQ : ∀ as p s', ExtO tb [as0 0] s s' → Hung tb s'.heap as (hsAt rows rows.length) (nmOf rows) rows.length p → as 0 = as0 0 → (∀ e, 1 ≤ e → e ≤ rows.length → s.heap.get? (as e) = none) → Q (.ref p) s') :
    wpAny (model prog w) A (call (.ref 37) [.ref 128, seq, .ref p0]) Q NoE s := by
  refine wpAny_call ?_
  refine codeAny_call_binds (binds := [("function", .ref 128), ("sequence", seq), ("initial", .ref p0)]) hR.lim (hO.get (a := 37) rfl (hoff 37 (by decide))) rfl (hO.globs G).2.2 ?_ rfl ?_ rfl ?_ (fun s₁ I₁ => ?_)
  · exact Heap.CodeRec.keeps (⟨36, _, _, _, rfl, hO.top 36 _ rfl (hoff 36 (by decide)), rfl, rfl⟩ : (vis tb X s.heap).CodeRec _ _) (vis_below _ _ _)
  · intro A' Q E' hq
    first
      | exact wpAny_pure hq
      | exact nd_load (a := 30) (hO.get (a := 30) rfl (hoff 30 (by decide))) (wpAny_pure hq)
  · exact all3 (.inl rfl) (.inl rfl) (.inl rfl)
  · have T := entered (ρ := []) rfl I₁ hO rfl rfl rfl (show (["function", "sequence", "initial"] : List Str).Nodup by decide)
      (all3 (.inl rfl) (.inl rfl) (.inl rfl)) (fun _ h => nomatch h)
    refine wpAny_mono (E := NoE) ?_ (fun _ _ z => z) fun _ _ z => z.elim
    have g0 : ∃ o, s.heap.get? (as0 0) = some o := let ⟨_, _, n, g⟩ := H0.node 0 (Nat.le_refl _); ⟨_, g⟩
    refine hung_loop (fm := 29) (k := k) (as0 := as0) (p0 := p0) (rows := rows) (seq := seq) G (fun a ha => hoff a (by revert ha; revert a; decide)) rfl W.bIter rfl rfl (hoff 29 (by decide)) (fun xs n z => by cases z) hR.deeper ⟨T.ok, T.en, fun q hq => T.bound q hq, T.loc⟩ (fun z hz => List.mem_append_left _ hz) rfl rfl (H0.keeps T.ext.lists) (List.mem_append_right _ hg) (fun z => ?_) hlen hdep (src_list2 (r.sub T.seen)) fun as p s' x H a0 fr => ?_
    · obtain ⟨o, g⟩ := g0
      rw [z, T.fresh _ List.mem_cons_self] at g; cases g
    · refine hQ as p s' ⟨fun b o n m g => x.keep b o n (fun z => ?_) (T.ext.keep b o n g), fun q hq z => x.tab q hq (T.ext.tab q hq z), x.gens.trans T.ext.gens, x.os.trans T.ext.os⟩ H a0 fun e h1 h2 => fresh_of hO T.ext (fr e h1 h2)
      rcases List.mem_cons.mp z with z | z
      · rw [z, T.fresh _ List.mem_cons_self] at g; cases g
      · exact m z

/-- reduce(_law_hung, rows, [[]]) -/
theorem eval_hung {rows : List Row} {p1 p2 p3 p4 p5 p6 : Pos} {Q : Value → Shared → Prop} (G : Globs (K1 W) off (mg1 W) (mb1 W)) (hoff : ∀ a ∈ [29, 30, 36, 37, 127, 128], a ∉ off)
    (hR : Room A (k + 3)) (hO : Ok (K1 W) off tb X s) (hE : EnvOk tb X env ρ s) (hrows : ρ.lookup ("rows" : Str) = some (.list (rows.map rowD))) (hlen : rows.length ≤ 99)
    (hdep : ∀ i < rows.length, 1 ≤ (rows.getD i (0, "")).1 ∧ (rows.getD i (0, "")).1 ≤ (hsAt rows i).path.length)
    (hQ : ∀ as p s', Ext tb s s' → Hung tb s'.heap as (hsAt rows rows.length) (nmOf rows) rows.length p → (∀ e, e ≤ rows.length → s.heap.get? (as e) = none) → Q (.ref p) s')
    (k1 : env.kindOf "reduce" = some .globalImplicit := by rfl) (k2 : env.kindOf "_law_hung" = some .globalImplicit := by rfl) (hst : starEach [.Name "_law_hung" p2, .Name "rows" p3, .List [.List [] p4] p5] env = [(false, eval (.Name "_law_hung" p2) env), (false, eval (.Name "rows" p3) env), (false, eval (.List [.List [] p4] p5) env)] := by rfl) :
    wpAny (model prog w) A (eval (.Call (.Name "reduce" p1) [.Name "_law_hung" p2, .Name "rows" p3, .List [.List [] p4] p5] [] p6) env) Q NoE s := by
  have hz : sizeLine = 2 ^ 24 := rfl
  obtain ⟨o37, fd37, l37, d37⟩ : ∃ o fd, (K1 W).lookup 37 = some o ∧ o.data = .func fd := ⟨_, _, rfl, rfl⟩
  refine wpAny_Call_NameR (load_global G hO hE (by exact rfl) k1 (by decide) (callWith_fn d37 ?_ (by rw [hst]; rfl)))
  rw [hst]
  obtain ⟨vr, br, rr⟩ := hE.vars _ (PySem.mem_of_lookup hrows)
  refine spliced_cons (load_global (v := .ref 128) G hO hE (by exact rfl) k2 (by decide) (spliced_cons (bound_load hE.kind br (spliced_cons ?_) (by decide) (by decide))))
  refine wpAny_List (wpAny_items_cons (wpAny_List (wpAny_items_nil ⟨Nat.zero_le _, wpAny_items_nil ⟨by rw [hz]; show 1 ≤ 2 ^ 24; decide, spliced_nil ?_⟩⟩)) rfl)
  dsimp only
  generalize hU0 : s.heap.objs.size = U
  have n0 : s.heap.get? U = none := by rw [← hU0]; exact at_none (Nat.le_refl _)
  generalize hH1 : s.heap.push { cls := .type "list", data := .seq ([] : List Value).toArray } = H1
  have gU1 : H1.get? U = some { cls := .type "list", data := .seq ([] : List Value).toArray } := by rw [← hH1, ← hU0]; exact Heap.get?_push_size _ rfl
  have kp1 : ∀ b o, s.heap.get? b = some o → H1.get? b = some o := fun b o g => hH1 ▸ Heap.get?_push_of_some _ g
  have e1 : Ext tb s { s with heap := H1 } := .of_sub kp1 rfl rfl
  obtain ⟨nU, nXU⟩ := notTab_new hO n0
  obtain ⟨O1, sb1⟩ := hO.hide e1 n0 ⟨_, gU1⟩ nU
  generalize hP0 : H1.objs.size = P
  have m0 : H1.get? P = none := by rw [← hP0]; exact at_none (Nat.le_refl _)
  have e2 : Ext tb { s with heap := H1 } { s with heap := H1.push { cls := .type "list", data := .seq ([.ref U] : List Value).toArray } } := ext_push _ _
  have gP2 : (H1.push { cls := .type "list", data := .seq ([.ref U] : List Value).toArray }).get? P = some { cls := .type "list", data := .seq ([.ref U] : List Value).toArray } := by rw [← hP0]; exact Heap.get?_push_size _ rfl
  have gU2 : (H1.push { cls := .type "list", data := .seq ([.ref U] : List Value).toArray }).get? U = some { cls := .type "list", data := .seq ([] : List Value).toArray } := Heap.get?_push_of_some _ gU1
  have O2 := O1.ext e2
  have nP := notTab_new O1 m0
  have e12 : Ext tb s { s with heap := H1.push { cls := .type "list", data := .seq ([.ref U] : List Value).toArray } } := e1.trans e2
  generalize hs2 : ({ s with heap := H1.push { cls := .type "list", data := .seq ([.ref U] : List Value).toArray } } : Shared) = s2 at *
  have gP2 : s2.heap.get? P = some { cls := .type "list", data := .seq ([.ref U] : List Value).toArray } := by rw [← hs2]; exact gP2
  have gU2 : s2.heap.get? U = some { cls := .type "list", data := .seq ([] : List Value).toArray } := by rw [← hs2]; exact gU2
  have PU : P ≠ U := fun z => by rw [z, gU1] at m0; cases m0
  have H0 : Hung tb s2.heap (fun _ => U) hs0 (nmOf rows) 0 P := by
    refine ⟨⟨_, gP2, rfl, _, rfl⟩, nP.1, fun e he => PU, fun e he => nU, fun e e' he he' _ => (by omega), ?_, fun e he c hc => (by cases hc), fun e he => Nat.zero_le _, fun e he => rfl, Nat.le_refl _, fun e he => ?_⟩
    · exact all1 (Nat.le_refl _)
    · obtain rfl : e = 0 := by omega
      exact ⟨[], fun g => .nil, _, gU2⟩
  refine ⟨by have := O2.get l37 (hoff 37 (by decide)); rw [← hs2] at this; exact this, ?_⟩
  show wpAny _ _ (call (.ref 37) [.ref 128, vr, .ref P]) _ _ _
  try rw [hs2]
  refine call_reduceH (k := k) (as0 := fun _ => U) G hoff hR O2 H0 List.mem_cons_self hlen hdep ((rr.sub sb1).sub e2.vis) fun as p s' x H a0 fr => ?_
  have ex : Ext tb s s' := ⟨fun b o n g => x.keep b o n (fun z => by rw [List.mem_singleton.mp z, n0] at g; cases g) (e12.keep b o n g), fun q hq z => x.tab q hq (e12.tab q hq z), x.gens.trans e12.gens, x.os.trans e12.os⟩
  refine hQ as p s' ex H fun e he => ?_
  by_cases h0 : e = 0
  · subst h0; rw [a0]; exact n0
  · exact fresh_of hO e12 (fr e (by omega) he)
end
end Mine
end
section
open PySem PySem.W PySem.Calls PyProof.Rows
set_option maxRecDepth 100000
set_option maxHeartbeats 4000000
set_option linter.all false
namespace Mine
section
variable {prog : Program} {w : World} {W : Wd} {K : Frag} {off : List Addr} {tb : Tb} {k : Nat} {env : Env} {ρ ρ' : Rho} {β β' : Raw} {mg mb : Str → Option Value} {X : List Addr} {s₀ s : Shared} {A : Around}
/-- y = [..], y a local name, the list stored before the block's names are let go -/
theorem St.assignComp {elt iter : Expr} {x y : Str} {px py : Pos} {ifs : List Expr} {scope : Scope} {pos spos : Pos} {es : List PyData} {Q : Flow → Shared → Prop}
    (hsw : swapsWith (.ListComp elt [⟨.Name x px, iter, ifs, 0⟩] scope pos) (some (.Name y py)) spos.line env = pure true) (hy : env.kindOf y = some .local) (S : St K off tb X env ρ β s) (hX : ∀ y ∈ own env, y ∈ X)
    (hcomp : ∀ (use : Option (Value → Sem Unit)) (Q : Value → Shared → Prop), (∀ (D C : Addr) (s' : Shared) (mC : Str → Option Value), Ext tb s s' → Rp (vis tb (C :: X) s'.heap) (.ref D) (.list es) → s'.heap.Ns C mC → s.heap.get? C = none → C ∉ X → C ∉ tb.map (·.1) →
      compPost (model prog w) A NoE use Q (.ref D) C (.ok .next) s') → wpAny (model prog w) A (comprehension (.ListComp elt [⟨.Name x px, iter, ifs, 0⟩] scope pos) scope env (firstIterPos [⟨.Name x px, iter, ifs, 0⟩] pos) (newList []) false (eval iter env) use) Q NoE s)
    (hQ : ∀ s', ExtO tb (own env) s s' → (∀ c v, s.heap.IsCell c v → s'.heap.IsCell c v) → (∀ ρ' β', (∀ p ∈ ρ', p = (y, .list es) ∨ (p ∈ ρ ∧ p.1 ≠ y)) → (∀ p ∈ β', p ∈ β ∧ p.1 ≠ y) → St K off tb X env ρ' β' s') → Q .next s') :
    wpAny (model prog w) A (exec (.Assign [.Name y py] (.ListComp elt [⟨.Name x px, iter, ifs, 0⟩] scope pos) spos) env) Q NoE s := by
  rw [exec_Assign_Name_used _ _ _ _ hsw]
  refine wpAny_bind (wpAny_standAt (wpAny_bind ?_))
  show wpAny (model prog w) A (do let _ ← comprehension (.ListComp elt [⟨.Name x px, iter, ifs, 0⟩] scope pos) scope env (firstIterPos [⟨.Name x px, iter, ifs, 0⟩] pos) (newList []) false (eval iter env) (some (assign (.Name y py) env))) _ _ s
  refine wpAny_bind (wpAny_mono (hcomp (some (assign (.Name y py) env)) (fun _ s' => Q .next s') fun D C s' mC e r n c0 cX cT => ?_) (fun _ s' hq => wpAny_pure (wpAny_pure hq)) fun _ _ e => e)
  show wpAny (model prog w) A (assign (.Name y py) env (.ref D)) _ _ _
  have gC := let ⟨oC, _, _, g, _⟩ := n; (⟨oC, g⟩ : ∃ o, s'.heap.get? C = some o)
  have SC := S.hide e c0 gC cT
  have hCL : C ≠ env.locals := fun z => by obtain ⟨m, o, es, ep, g, _⟩ := S.loc; rw [← z, c0] at g; cases g
  refine wpAny_assign_Name (SC.store (fun z hz => List.mem_cons_of_mem _ (hX z hz)) hy fun s₂ y₂ _ mk₂ kp₂ => ?_)
  have n₂ : s₂.heap.Ns C mC := let ⟨o, es, ep, g, q⟩ := n; ⟨o, es, ep, kp₂ C o hCL g, q⟩
  refine ⟨mC, n₂, fun h₃ sb3 => ?_⟩
  obtain ⟨oC2, esC, epC, gC2, dC2, _⟩ := id n₂
  have y3 : ExtO tb [C] s₂ { s₂ with heap := h₃ } := ⟨fun b o _ m g => sb3.extBut b o (fun z => m (by simp [z])) g, fun q hq z => z.but sb3.extBut gC2 (noCode_dict dC2) (ne_of_tab cT hq), rfl, rfl⟩
  have S3 : ∀ ρ' β', (∀ p ∈ ρ', p = (y, .list es) ∨ (p ∈ ρ ∧ p.1 ≠ y)) → (∀ p ∈ β', p ∈ β ∧ p.1 ≠ y) → St K off tb X env ρ' β' { s₂ with heap := h₃ } := fun ρ' β' h1 h2 => by
    have S2 := mk₂ ρ' β' (fun p hp => by
      rcases h1 p hp with rfl | h
      · exact .inl ⟨rfl, r⟩
      · exact .inr h) (fun p hp => .inr (h2 p hp))
    have sb : Sub (vis tb (C :: X) s₂.heap) (vis tb X h₃) := fun b o e1 => by
      obtain ⟨e0, n1, m⟩ := vis_get e1
      exact vis_mk (sb3.extBut b o (fun z => m (z ▸ List.mem_cons_self)) e0) n1 fun q => m (List.mem_cons_of_mem _ q)
    have bnd : ∀ u v, Bound env s₂.heap u v → Bound env h₃ u v := fun u v b => by
      rcases b with ⟨kl, m', n1, hm⟩ | ⟨kc, c, hc, oc, c1, c2⟩
      · exact .inl ⟨kl, m', n1.sameBut sb3 (Ne.symm hCL), hm⟩
      · exact .inr ⟨kc, c, hc, oc, sb3.extBut c oc (fun z => by rw [z, gC2] at c1; cases c1; rw [dC2] at c2; cases c2) c1, c2⟩
    refine ⟨⟨fun z hz => ?_, fun q hq => y3.tab q hq (S2.ok.tabs q hq), S2.ok.top.sub sb⟩, ⟨S2.en.kind, S2.en.globals, S2.en.builtins, S2.en.nloc, fun q hq => ?_⟩, fun q hq => bnd _ _ (S2.raw q hq), ?_⟩
    · obtain ⟨n1, o, g⟩ := S2.ok.priv z (List.mem_cons_of_mem _ hz)
      exact ⟨n1, o, sb3.extBut z o (fun q => cX (q ▸ hz)) g⟩
    · obtain ⟨u, b, ru⟩ := S2.en.vars q hq
      exact ⟨u, bnd _ _ b, ru.sub sb⟩
    · obtain ⟨m, nl⟩ := S2.loc
      exact ⟨m, nl.sameBut sb3 (Ne.symm hCL)⟩
  refine hQ _ ⟨fun b o n1 m1 e1 => ?_, fun q hq z => ?_, ?_, ?_⟩ (fun c v hc => ?_) S3
  · exact y3.keep b o n1 (fun z => by rw [List.mem_singleton.mp z, c0] at e1; cases e1) (y₂.keep b o n1 m1 (e.keep b o n1 e1))
  · exact y3.tab q hq (y₂.tab q hq (e.tab q hq z))
  · exact y₂.gens.trans e.gens
  · exact y₂.os.trans e.os
  · obtain ⟨o, g, d⟩ := S.ok.cellExt hc e
    have n1 : c ≠ env.locals := fun z => by
      obtain ⟨m, ol, es, ep, gl, dl, _⟩ := SC.loc
      rw [← z, g] at gl; cases gl; rw [d] at dl; cases dl
    have n2 : c ≠ C := fun z => by obtain ⟨o', g', _⟩ := hc; rw [z, c0] at g'; cases g'
    exact ⟨o, sb3.extBut c o n2 (kp₂ c o n1 g), d⟩

theorem pv_tuple {es : List Expr} {x : Nat} {pos : Pos} {ds : List PyData} (a : PVs prog w K off tb k env ρ pos es ds) (hz : ds.length ≤ 1000) : PV prog w K off tb k env ρ (.Tuple es x pos) (.tuple ds) := by
  intro A X s Q hR hO hE h
  have hs : sizeLine = 2 ^ 24 := rfl
  refine wpAny_Tuple (a A X s _ hR hO hE fun vs s₁ e₁ r₁ => ⟨by rw [r₁.length, hs]; omega, ?_⟩)
  have e2 : Ext tb s₁ { s₁ with heap := s₁.heap.push { cls := .type "tuple", data := .seq vs.toArray } } := ext_push _ _
  refine h _ _ (e₁.trans e2) (Rp.ofTuple (vs := vs) (vis_mk (Heap.get?_push_size _ rfl) (fresh_vis (hO.ext e₁)).1 (fresh_vis (hO.ext e₁)).2) rfl rfl (r₁.sub e2.vis))
/-- xs[-1] -/
theorem pv_last {l i : Expr} {pos : Pos} {ds : List PyData} {d : PyData} (hl : PV prog w K off tb k env ρ l (.list ds)) (hi : PV prog w K off tb k env ρ i (.int (-1))) (hx : ds.getLast? = some d)
    (hs : ∀ a u, subscripted i false (.ref a) (.int (-1) u) = operate [.ref a, .int (-1) u] (getItem (.ref a) (.int (-1) u)) := by intro _ _; with_unfolding_all rfl) :
    PV prog w K off tb k env ρ (.Subscript l i pos) d := by
  intro A X s Q hR hO hE h
  refine Subscript_ (hl A X s _ hR hO hE fun v s₁ e₁ r₁ => hi A X s₁ _ hR (hO.ext e₁) (hE.ext hO e₁) fun u s₂ e₂ r₂ => ?_)
  obtain ⟨t, rfl⟩ := r₂.int
  obtain ⟨a, vs, rfl, hL, ra⟩ := (r₁.sub e₂.vis).isList
  have hne : 0 < ds.length := by
    cases ds with
    | nil => cases hx
    | cons a b => simp
  have hlen := ra.length
  rw [List.getLast?_eq_getElem?] at hx
  obtain ⟨v, hv, rv⟩ := ra.get hx
  have hL' := IsList.below hL
  refine tail_any hL'.typeIs slot_list_getitem.lookup (wpAny_getItem_list_neg hL' (by omega) (by rw [List.size_toArray]; omega) (by omega) (x := v) ?_ (h _ _ (e₁.trans e₂) rv)) (hs _ _)
  rw [List.size_toArray]
  have : ((-1 : Int) + (vs.length : Int)).toNat = ds.length - 1 := by omega
  rw [this]
  simpa using hv
end
/-- the tree as data -/
def treeH (kids : Nat → List Nat) (nm : Nat → Str) : Nat → Nat → PyData
  | 0, _ => .none
  | f + 1, e => .list ((if e = 0 then [] else [.str (nm e)]) ++ (kids e).map (treeH kids nm f))
theorem hung_rp {tb : Tb} {X : List Addr} {h : Heap} {as : Nat → Addr} {S : HS} {nm : Nat → Str} {i : Nat} {p : Addr} (H : Hung tb h as S nm i p) (nX : ∀ e, e ≤ i → as e ∉ X) (hk : ∀ e, e ≤ i → ∀ c ∈ S.kids e, e < c) :
    ∀ f e, e ≤ i → i - e < f → Rp (vis tb X h) (.ref (as e)) (treeH S.kids nm f e)
  | 0, e, he, hf => by omega
  | f + 1, e, he, hf => by
    obtain ⟨hd, bh, n, g⟩ := H.node e he
    refine Rp.ofList (vs := hd ++ (S.kids e).map fun c => Value.ref (as c)) ⟨_, vis_mk g (H.nt e he) (nX e he), rfl, n, rfl⟩ ((bh _).app ?_)
    have ih : ∀ c ∈ S.kids e, Rp (vis tb X h) (.ref (as c)) (treeH S.kids nm f c) := fun c hc => by
      have h1 := H.kin e he c hc
      have h2 := hk e he c hc
      exact hung_rp H nX hk f c h1 (by omega)
    generalize S.kids e = l at ih
    induction l with
    | nil => exact .nil
    | cons c l ihl => exact .cons (ih c List.mem_cons_self) (ihl fun c hc => ih c (List.mem_cons_of_mem _ hc))
end Mine
end
section
open PySem PySem.W PySem.Calls PyProof.Rows
set_option maxRecDepth 100000
set_option maxHeartbeats 4000000
set_option linter.all false
namespace Mine
theorem canAll {l : List PyData} (h : ∀ d ∈ l, d.canLay0 = true) : PyData.canLayAll0 l = true := by
  induction l with
  | nil => rfl
  | cons a l ih =>
    show (PyData.canLay0 a && PyData.canLayAll0 l) = true
    rw [h a List.mem_cons_self, ih fun d hd => h d (List.mem_cons_of_mem _ hd)]; rfl
theorem depAll {l : List PyData} {n : Nat} (h : ∀ d ∈ l, d.depth ≤ n) : PyData.depthAll l ≤ n := by
  induction l with
  | nil => exact Nat.zero_le _
  | cons a l ih => exact Nat.max_le.mpr ⟨h a List.mem_cons_self, ih fun d hd => h d (List.mem_cons_of_mem _ hd)⟩
theorem can_tree {ups order : List Int} {names : List Str} (h : ∀ k, PyData.strOk (names.getD k "") = true) : ∀ f k, (treeD ups names order f k).canLay0 = true
  | 0, k => rfl
  | f + 1, k => by
    show (PyData.strOk (names.getD k "") && PyData.canLayAll0 _) = true
    rw [h k, canAll]
    · rfl
    · intro d hd
      obtain ⟨j, _, rfl⟩ := List.mem_map.mp hd
      exact can_tree h f _
theorem dep_tree {ups order : List Int} {names : List Str} : ∀ f k, (treeD ups names order f k).depth ≤ f
  | 0, k => Nat.le_refl _
  | f + 1, k => by
    show max 0 (PyData.depthAll _) + 1 ≤ f + 1
    rw [Nat.zero_max]
    refine Nat.succ_le_succ (depAll fun d hd => ?_)
    obtain ⟨j, _, rfl⟩ := List.mem_map.mp hd
    exact dep_tree f _
end Mine
end
section
open PySem PySem.W PySem.Calls PyProof.Rows
set_option maxRecDepth 100000
set_option maxHeartbeats 4000000
set_option linter.all false
namespace Mine
def comD (xs : List Int) : List Str := (drAt xs xs.length).order.map fun k => (drAt xs xs.length).names.getD k.toNat ""
abbrev upsD (xs : List Int) : List Int := (drAt xs xs.length).ups
abbrev nmsD (xs : List Int) : List Str := (drAt xs xs.length).names
abbrev ordD (xs : List Int) : List Int := (drAt xs xs.length).order
def rowsD (coming : List Str) (srt : List (List Int)) : List Row := srt.map fun c => (c.length, coming.getD (c.getLast?.getD 0).toNat "")
def rootsD (xs : List Int) : List PyData := ((ordD xs).filter fun k => decide ((upsD xs).getD k.toNat 0 < 0)).map fun k => treeD (upsD xs) (nmsD xs) (ordD xs) xs.length k.toNat
structure LawOk (xs : List Int) (chain : Nat → List Int) (srt : List (List Int)) : Prop where
  few : xs.length ≤ 50
  nms : Nms (comD xs)
  ch : ChOk (comD xs) chain
  ord : Ord ((List.range (comD xs).length).map chain).length fun i j => lexI (((List.range (comD xs).length).map chain).getD i []) (((List.range (comD xs).length).map chain).getD j [])
  uni : ∀ q : List (List Int), q.Perm ((List.range (comD xs).length).map chain) → q.Pairwise (fun x y => lexI x y = true) → q = srt
  last : ∀ c ∈ srt, ∃ l, c.getLast? = some l ∧ 0 ≤ l ∧ l.toNat < (comD xs).length ∧ c.length ≤ 100
  slen : srt.length ≤ 99
  dep : ∀ i < (rowsD (comD xs) srt).length, 1 ≤ ((rowsD (comD xs) srt).getD i (0, "")).1 ∧ ((rowsD (comD xs) srt).getD i (0, "")).1 ≤ (hsAt (rowsD (comD xs) srt) i).path.length
  kid : ∀ e, e ≤ (rowsD (comD xs) srt).length → ∀ c ∈ (hsAt (rowsD (comD xs) srt) (rowsD (comD xs) srt).length).kids e, e < c
  ordb : ∀ j ∈ ordD xs, 0 ≤ j ∧ j.toNat < xs.length
  upb : ∀ j < xs.length, (upsD xs).getD j 0 < (j : Nat)
  sok : ∀ k, PyData.strOk ((nmsD xs).getD k "") = true
  fin : treeH (hsAt (rowsD (comD xs) srt) (rowsD (comD xs) srt).length).kids (nmOf (rowsD (comD xs) srt)) ((rowsD (comD xs) srt).length + 1) 0 = .list (rootsD xs)
abbrev scLaw (more : List (Str × Const)) : Scope := { kind := .function, names := [("script", .local), ("ups", .cell), ("names", .cell), ("order", .cell), ("coming", .cell), ("chains", .local), ("rows", .local), ("path", .local), ("_law_drawn", .globalImplicit), ("_law_chains", .globalImplicit), ("sorted", .globalImplicit), ("reduce", .globalImplicit), ("_law_hung", .globalImplicit)], isGenerator := false, isCoroutine := false, more }
abbrev envL (more : List (Str × Const)) (L g cC cO cN cU : Addr) (qual : Str) (func : Option Addr) (frame : Option Addr) (bu : Addr) : Env :=
  { scope := scLaw more, locals := L, globals := g, cells := [("coming", cC), ("order", cO), ("names", cN), ("ups", cU)], qual, func, code := .ref 132, frame, builtins := bu }
abbrev scC : Scope := { kind := .function, names := [(".0", .local), ("k", .local), ("names", .free)], isGenerator := false, isCoroutine := false, more := [] }
abbrev scR : Scope := { kind := .function, names := [(".0", .local), ("chain", .local), ("len", .globalImplicit), ("coming", .free)], isGenerator := false, isCoroutine := false, more := [] }
abbrev scT : Scope := { kind := .function, names := [(".0", .local), ("k", .local), ("_law_tree", .globalImplicit), ("names", .free), ("order", .free), ("ups", .free)], isGenerator := false, isCoroutine := false, more := [] }
abbrev offAll : List Nat := [0, 1, 2, 3, 4, 23, 27, 28, 29, 30, 36, 37, 80, 84, 85, 91, 92, 94, 95, 105, 106, 110, 111, 115, 116, 120, 121, 127, 128, 132]
theorem comD_len (xs : List Int) : (comD xs).length = xs.length := by
  unfold comD
  rw [List.length_map]; exact (drAt_len xs xs.length).2.2
section
variable {prog : Program} {w : World} {W : Wd} {off : List Addr} {tb : Tb} {k : Nat} {X : List Addr} {s : Shared} {A : Around} {ρ : Rho}
  {more : List (Str × Const)} {eL eg cC cO cN cU ebu : Addr} {equal : Str} {efunc eframe : Option Addr}
  {a1 a2 a3 a4 a5 a6 a7 a8 a9 a10 a11 a12 a13 a14 a15 a16 a17 a18 a19 : Pos} {x1 x2 : Nat}
  {b1 b2 b3 b4 b5 b6 b7 b8 c1 c2 c3 c4 c5 : Pos}
  {d1 d2 d3 d4 d5 d6 d7 d8 d9 d10 d11 d12 d13 d14 d15 d16 d17 : Pos}
  {e1 e2 e3 e4 e5 e6 e7 e8 f1 f2 f3 f4 f5 f6 f7 f8 f9 f10 f11 f12 f13 f14 f15 f16 f17 f18 f19 : Pos}
/-- script[:5] + [0, 5, 10, 14, 3, 18] drawn -/
theorem pv_drawn {ns : List Int} (G : Globs (K1 W) off (mg1 W) (mb1 W)) (hoff : ∀ a ∈ [105, 106], a ∉ off) (hl : ns.length ≤ 63) (hs : ρ.lookup ("script" : Str) = some (.list (dints ns))) :
    PV prog w (K1 W) off tb (k + 2) (envL more eL eg cC cO cN cU equal efunc eframe ebu) ρ (.Call (.Name "_law_drawn" a5) [.BinOp (.Subscript (.Name "script" a6) (.Slice none (some (.Constant (.int 5) 0 a7)) none a8) a9) .Add (.List [.Constant (.int 0) 0 a10, .Constant (.int 5) 0 a11, .Constant (.int 10) 0 a12, .Constant (.int 14) 0 a13, .Constant (.int 3) 0 a14, .Constant (.int 18) 0 a15] a16) a17] [] a18) (drOut (ns.take 5 ++ [0, 5, 10, 14, 3, 18])) := by
  have hz : sizeLine = 2 ^ 24 := rfl
  have e : dints (ns.take 5 ++ [0, 5, 10, 14, 3, 18]) = dints (ns.take 5) ++ dints [0, 5, 10, 14, 3, 18] := List.map_append
  refine pv_call (f := 106) G rfl (ho := by exact rfl) (hoff 106 (by decide)) (hdat := by exact rfl) (pvs_cons (d := .list (dints (ns.take 5 ++ [0, 5, 10, 14, 3, 18]))) ?_ pvs_nil) (fn_drawn (by rw [List.length_append]; show (ns.take 5).length + 6 ≤ 15; have := List.length_take_le 5 ns; omega) G hoff)
  rw [e]
  refine pv_binop (pv_slice (ds := dints ns) (es := dints (ns.take 5)) (pv_var hs) pp_none (pp_some pv_int) (by rw [List.length_map, hz]; omega) fun g vs r => ?_) (pv_list (pvs_cons pv_int (pvs_cons pv_int (pvs_cons pv_int (pvs_cons pv_int (pvs_cons pv_int (pvs_cons pv_int pvs_nil)))))) (by show 6 ≤ 2 ^ 24; decide)) (op_add_list ?_)
  · have := pick_upto (j := 5) (by decide) g vs r
    rw [← List.map_take] at this
    exact this
  · rw [List.length_map, hz]
    show _ + 6 ≤ _
    have := List.length_take_le 5 ns
    omega
/-- [names[k] for k in order] -/
theorem pv_coming {xs : List Int} {chain : Nat → List Int} {srt : List (List Int)} (LO : LawOk xs chain srt) (hn : ρ.lookup ("names" : Str) = some (.list (sts (nmsD xs)))) (ho : ρ.lookup ("order" : Str) = some (.list (dints (ordD xs)))) :
    PV prog w (K1 W) off tb (k + 2) (envL more eL eg cC cO cN cU equal efunc eframe ebu) ρ (.ListComp (.Subscript (.Name "names" b2) (.Name "k" b3) b4) [⟨.Name "k" b5, .Name "order" b6, [], 0⟩] scC b7) (.list (sts (comD xs))) := by
  have hz : sizeLine = 2 ^ 24 := rfl
  have hl : (ordD xs).length = xs.length := (drAt_len xs xs.length).2.2
  have hf := LO.few
  refine pv_comp (ds := dints (ordD xs)) (ρ' := [("names", .list (sts (nmsD xs)))]) (fun _ => true) (fun d => match d with | .int j => .str ((nmsD xs).getD j.toNat "") | _ => .none) rfl rfl (by decide) (by decide) rfl
    (fun C => all1 ⟨.inl rfl, .inl rfl, rfl⟩) (all1 (PySem.mem_of_lookup hn)) (by rw [List.length_map, hz, hl]; exact Nat.le_trans hf (by decide)) (pv_var ho) (fun d hd C => .inl ⟨rfl, rfl⟩) (fun d hd _ C => ?_) ?_
  · obtain ⟨j, hj, rfl⟩ := List.mem_map.mp hd
    obtain ⟨j0, j1⟩ := LO.ordb j hj
    refine pv_item (pv_var rfl) (pv_var rfl) j0 (sm2 j0 j1 (Nat.le_trans hf (by decide))) ?_
    have : j.toNat < (nmsD xs).length := by rw [(drAt_len xs xs.length).2.1]; exact j1
    simp [List.getD_eq_getElem?_getD, this]
  · rw [filter_all]
    show List.map _ (List.map _ _) = List.map _ (List.map _ _)
    rw [List.map_map, List.map_map]; rfl
/-- [_law_tree(k, ups, names, order) for k in order if ups[k] < 0] -/
theorem pv_roots {xs : List Int} {chain : Nat → List Int} {srt : List (List Int)} (LO : LawOk xs chain srt) (G : Globs (K1 W) off (mg1 W) (mb1 W)) (hoff : ∀ a ∈ [110, 111], a ∉ off) (hu : ρ.lookup ("ups" : Str) = some (.list (dints (upsD xs)))) (hn : ρ.lookup ("names" : Str) = some (.list (sts (nmsD xs)))) (ho : ρ.lookup ("order" : Str) = some (.list (dints (ordD xs)))) :
    PV prog w (K1 W) off tb xs.length (envL more eL eg cC cO cN cU equal efunc eframe ebu) ρ (.ListComp (.Call (.Name "_law_tree" f4) [.Name "k" f5, .Name "ups" f6, .Name "names" f7, .Name "order" f8] [] f9) [⟨.Name "k" f10, .Name "order" f11, [.Compare (.Subscript (.Name "ups" f12) (.Name "k" f13) f14) [.Lt] [.Constant (.int 0) 0 f15] f16], 0⟩] scT f17) (.list (rootsD xs)) := by
  have hz : sizeLine = 2 ^ 24 := rfl
  have hl1 : (upsD xs).length = xs.length := (drAt_len xs xs.length).1
  have hl2 : (nmsD xs).length = xs.length := (drAt_len xs xs.length).2.1
  have hl3 : (ordD xs).length = xs.length := (drAt_len xs xs.length).2.2
  have hf := LO.few
  refine pv_comp (ds := dints (ordD xs)) (ρ' := [("ups", .list (dints (upsD xs))), ("names", .list (sts (nmsD xs))), ("order", .list (dints (ordD xs)))])
    (fun d => match d with | .int j => decide ((upsD xs).getD j.toNat 0 < 0) | _ => false) (fun d => match d with | .int j => treeD (upsD xs) (nmsD xs) (ordD xs) xs.length j.toNat | _ => .none) rfl rfl (by decide) (by decide) rfl
    (fun C => all3 ⟨.inl rfl, .inl rfl, rfl⟩ ⟨.inl rfl, .inl rfl, rfl⟩ ⟨.inl rfl, .inl rfl, rfl⟩) (all3 (PySem.mem_of_lookup hu) (PySem.mem_of_lookup hn) (PySem.mem_of_lookup ho)) (by rw [List.length_map, hz, hl3]; exact Nat.le_trans hf (by decide)) (pv_var ho) (fun d hd C => ?_) (fun d hd hp C => ?_) ?_
  · obtain ⟨j, hj, rfl⟩ := List.mem_map.mp hd
    obtain ⟨j0, j1⟩ := LO.ordb j hj
    refine .inr ⟨_, rfl, ?_⟩
    refine pt_cmp (pv_item (pv_var rfl) (pv_var rfl) j0 (sm2 j0 j1 (Nat.le_trans hf (by decide))) ?_) pv_int op_lt_int
    have : j.toNat < (upsD xs).length := by rw [hl1]; exact j1
    simp [List.getD_eq_getElem?_getD, this]
  · obtain ⟨j, hj, rfl⟩ := List.mem_map.mp hd
    obtain ⟨j0, j1⟩ := LO.ordb j hj
    have ih := fn_tree (prog := prog) (w := w) (tb := tb) (ups := upsD xs) (order := ordD xs) (names := nmsD xs) (n := xs.length) G hoff hl1 hl2 (Nat.le_trans hf (by decide)) (hl3 ▸ Nat.le_trans hf (by decide)) LO.ordb LO.upb xs.length j.toNat j1 (Nat.sub_le _ _)
    rw [Int.toNat_of_nonneg j0] at ih
    exact pv_call (ho := by exact rfl) (hdat := by exact rfl) G rfl (hoff 111 (by decide)) (pvs_cons (pv_var rfl) (pvs_cons (pv_var rfl) (pvs_cons (pv_var rfl) (pvs_cons (pv_var rfl) pvs_nil)))) ih
  · have h := filter_ints (fun j => decide ((upsD xs).getD j.toNat 0 < 0)) (ordD xs)
    have h2 : rootsD xs = (dints ((ordD xs).filter fun j => decide ((upsD xs).getD j.toNat 0 < 0))).map (fun d => match d with | .int j => treeD (upsD xs) (nmsD xs) (ordD xs) xs.length j.toNat | _ => .none) := by
      unfold rootsD
      show List.map _ _ = List.map _ (List.map _ _)
      rw [List.map_map]; rfl
    rw [h2, ← h] <;> rfl
end
end Mine
end
section
open PySem PySem.W PySem.Calls PyProof.Rows
set_option maxRecDepth 100000
set_option maxHeartbeats 4000000
set_option linter.all false
namespace Mine
abbrev chainsD (xs : List Int) (chain : Nat → List Int) : List (List Int) := (List.range (comD xs).length).map chain
def lastP (ds : List PyData) : Int := match ds.getLast? with | some (.int l) => l | _ => 0
def rowF (coming : List Str) : PyData → PyData := fun d => match d with | .list ds => .tuple [.int ds.length, .str (coming.getD (lastP ds).toNat "")] | _ => .none
theorem rowF_eq (coming : List Str) (c : List Int) : rowF coming (.list (dints c)) = rowD (c.length, coming.getD (c.getLast?.getD 0).toNat "") := by
  have e : lastP (dints c) = c.getLast?.getD 0 := by
    unfold lastP
    rw [List.getLast?_map]
    cases c.getLast? <;> rfl
  show PyData.tuple [.int (dints c).length, .str (coming.getD (lastP (dints c)).toNat "")] = _
  rw [e, List.length_map]
section
variable {prog : Program} {w : World} {W : Wd} {off : List Addr} {tb : Tb} {k : Nat} {X : List Addr} {s : Shared} {A : Around} {ρ : Rho}
  {more : List (Str × Const)} {eL eg cC cO cN cU ebu : Addr} {equal : Str} {efunc eframe : Option Addr}
  {a1 a2 a3 a4 a5 a6 a7 a8 a9 a10 a11 a12 a13 a14 a15 a16 a17 a18 a19 : Pos} {x1 x2 : Nat}
  {b1 b2 b3 b4 b5 b6 b7 b8 c1 c2 c3 c4 c5 : Pos}
  {d1 d2 d3 d4 d5 d6 d7 d8 d9 d10 d11 d12 d13 d14 d15 d16 d17 : Pos}
  {e1 e2 e3 e4 e5 e6 e7 e8 f1 f2 f3 f4 f5 f6 f7 f8 f9 f10 f11 f12 f13 f14 f15 f16 f17 f18 f19 : Pos}
theorem comp_rows {xs : List Int} {chain : Nat → List Int} {srt : List (List Int)} {use : Option (Value → Sem Unit)} {Q' : Value → Shared → Prop} (LO : LawOk xs chain srt) (G : Globs (K1 W) off (mg1 W) (mb1 W))
    (hR : Room A (k + 2)) (hO : Ok (K1 W) off tb X s) (hE : EnvOk tb X (envL more eL eg cC cO cN cU equal efunc eframe ebu) ρ s) (hc : (("chains" : Str), PyData.list (dlists (chainsD xs chain))) ∈ ρ) (hm : (("coming" : Str), PyData.list (sts (comD xs))) ∈ ρ)
    (hend : ∀ (D C : Addr) (s' : Shared) (mC : Str → Option Value), Ext tb s s' → Rp (vis tb (C :: X) s'.heap) (.ref D) (.list ((rowsD (comD xs) srt).map rowD)) → s'.heap.Ns C mC → s.heap.get? C = none → C ∉ X → C ∉ tb.map (·.1) → compPost (model prog w) A NoE use Q' (.ref D) C (.ok .next) s') :
    wpAny (model prog w) A (comprehension (.ListComp (.Tuple [.Call (.Name "len" d2) [.Name "chain" d3] [] d4, .Subscript (.Name "coming" d5) (.Subscript (.Name "chain" d6) (.UnaryOp .USub (.Constant (.int 1) 0 d7) d8) d9) d10] x2 d11) [⟨.Name "chain" d12, .Call (.Name "sorted" d13) [.Name "chains" d14] [] d15, [], 0⟩] scR d16) scR
      (envL more eL eg cC cO cN cU equal efunc eframe ebu) (firstIterPos [⟨.Name "chain" d12, .Call (.Name "sorted" d13) [.Name "chains" d14] [] d15, [], 0⟩] d16) (newList []) false (eval (.Call (.Name "sorted" d13) [.Name "chains" d14] [] d15) (envL more eL eg cC cO cN cU equal efunc eframe ebu)) use) Q' NoE s := by
  have hz : sizeLine = 2 ^ 24 := rfl
  have hcl := comD_len xs
  have hf := LO.few
  have hsl := LO.slen
  have e : (rowsD (comD xs) srt).map rowD = ((dlists srt).filter (fun _ => true)).map (rowF (comD xs)) := by
    rw [filter_all]
    unfold rowsD
    show List.map _ (List.map _ _) = List.map _ (List.map _ _)
    rw [List.map_map, List.map_map]
    exact List.map_congr_left fun c _ => (rowF_eq (comD xs) c).symm
  rw [e] at hend
  refine comp_gen (cl := [("coming", cC)]) (ρ := ρ) (ρ' := [("coming", .list (sts (comD xs)))]) (fun _ => true) _ rfl rfl (by decide) (by decide) rfl (fun C => all1 ⟨.inl rfl, .inl rfl, rfl⟩) (all1 hm) (by rw [List.length_map, hz]; omega) (fun d hd C => .inl ⟨rfl, rfl⟩) (fun d hd _ C => ?_) (fun _ => rfl)
    (fun A X s Q hR hO hE h => pv_builtin (k := k + 2) G rfl W.bSorted (pvs_cons (pv_name hc (by decide) (by decide)) pvs_nil) (fn_sorted (k := k) LO.ord (by rw [List.length_map, List.length_range]; omega) LO.uni) rfl (by decide) rfl rfl A X s Q hR hO hE fun v s' e r => h v s' e (src_list r)) hR hO hE hend
  obtain ⟨c, hc', rfl⟩ := List.mem_map.mp hd
  obtain ⟨l, h1, h2, h3, h4⟩ := LO.last c hc'
  have hlen : PV prog w (K1 W) off tb (k + 2) (compEnvC scR [("coming", cC)] C (envL more eL eg cC cO cN cU equal efunc eframe ebu)) [("chain", .list (dints c)), ("coming", .list (sts (comD xs)))] (.Call (.Name "len" d2) [.Name "chain" d3] [] d4) (.int (dints c).length) :=
    pv_builtin G rfl W.bLen (pvs_cons (pv_var rfl) pvs_nil) (fn_len (by rw [List.length_map]; omega))
  have hlast : lastP (dints c) = l := by
    unfold lastP
    rw [List.getLast?_map, h1]; rfl
  refine pv_tuple (ds := [.int (dints c).length, .str ((comD xs).getD (lastP (dints c)).toNat "")]) (pvs_cons hlen (pvs_cons ?_ pvs_nil)) (by show 2 ≤ 1000; decide)
  rw [hlast]
  refine pv_item (ds := sts (comD xs)) (j := l) (pv_var rfl) (pv_last (ds := dints c) (pv_var rfl) (pv_neg pv_int) (by rw [List.getLast?_map, h1]; rfl)) h2 (by omega) ?_
  simp [List.getD_eq_getElem?_getD, h3]
end
end Mine
end
section
open PySem PySem.W PySem.Calls PyProof.Rows
set_option maxRecDepth 100000
set_option maxHeartbeats 4000000
set_option linter.all false
namespace Mine
theorem RpAll.three {h : Heap} {vs : List Value} {d e f : PyData} (x : RpAll h vs [d, e, f]) : ∃ v u t, vs = [v, u, t] ∧ Rp h v d ∧ Rp h u e ∧ Rp h t f := by
  obtain ⟨_, r⟩ := x
  cases r with | cons a b => cases b with | cons c b => cases b with | cons g b => cases b; exact ⟨_, _, _, rfl, ⟨_, a⟩, ⟨_, c⟩, ⟨_, g⟩⟩
theorem hs_head {rows : List Row} : ∀ i, (∀ j < i, 1 ≤ (rows.getD j (0, "")).1) → (hsAt rows i).path[0]? = some 0
  | 0, _ => rfl
  | i + 1, h => by
    have ih := hs_head (rows := rows) i fun j hj => h j (by omega)
    have h1 := h i (by omega)
    show ((hsAt rows i).path.take (rows.getD i (0, "")).1 ++ [i + 1])[0]? = some 0
    have hne : 0 < (hsAt rows i).path.length := (List.getElem?_eq_some_iff.mp ih).1
    rw [List.getElem?_append_left (by rw [List.length_take]; omega), List.getElem?_take_of_lt (by omega), ih]
section
variable {prog : Program} {w : World} {W : Wd} {off : List Addr} {tb : Tb} {k : Nat} {X : List Addr} {s : Shared} {A : Around} {ρ : Rho}
  {more : List (Str × Const)} {eL eg cC cO cN cU ebu : Addr} {equal : Str} {efunc eframe : Option Addr}
  {a1 a2 a3 a4 a5 a6 a7 a8 a9 a10 a11 a12 a13 a14 a15 a16 a17 a18 a19 : Pos} {x1 x2 : Nat}
  {b1 b2 b3 b4 b5 b6 b7 b8 c1 c2 c3 c4 c5 : Pos}
  {d1 d2 d3 d4 d5 d6 d7 d8 d9 d10 d11 d12 d13 d14 d15 d16 d17 : Pos}
  {e1 e2 e3 e4 e5 e6 e7 e8 f1 f2 f3 f4 f5 f6 f7 f8 f9 f10 f11 f12 f13 f14 f15 f16 f17 f18 f19 : Pos}
theorem law_body {u0 u1 u2 u3 u4 u5 : Stmt} {ns xs : List Int} {chain : Nat → List Int} {srt : List (List Int)} {Q : Flow → Shared → Prop} (hxs : xs = ns.take 5 ++ [0, 5, 10, 14, 3, 18]) (LO : LawOk xs chain srt)
    (hnd : cU ≠ cN ∧ cU ≠ cO ∧ cU ≠ cC ∧ cN ≠ cO ∧ cN ≠ cC ∧ cO ≠ cC) (hC0 : ∀ c ∈ [cU, cN, cO, cC], ∃ v, s.heap.IsCell c v)
    (hoff : ∀ a ∈ offAll, a ∉ off) (hoffT : ∀ a ∈ off, a ∈ tb.map (·.1)) (hm : ((118 : Addr), TK.code qChains) ∈ tb) (ho : ∀ p ∈ tb, p.1 = 118 → p.2 = .code qChains)
    (hns : ns.length ≤ 63) (hR : Room A (k + 60)) (S : St (K1 W) off tb X (envL more eL eg cC cO cN cU equal efunc eframe ebu) [("script", .list (dints ns))] [] s) (hX : ∀ y ∈ own (envL more eL eg cC cO cN cU equal efunc eframe ebu), y ∈ X)
    (hsw : swapsWith (.ListComp (.Tuple [.Call (.Name "len" d2) [.Name "chain" d3] [] d4, .Subscript (.Name "coming" d5) (.Subscript (.Name "chain" d6) (.UnaryOp .USub (.Constant (.int 1) 0 d7) d8) d9) d10] x2 d11) [⟨.Name "chain" d12, .Call (.Name "sorted" d13) [.Name "chains" d14] [] d15, [], 0⟩] scR d16) (some (.Name "rows" d1)) d17.line (envL more eL eg cC cO cN cU equal efunc eframe ebu) = pure true)
    (q0 : u0 = .Assign [.Tuple [.Name "ups" a1, .Name "names" a2, .Name "order" a3] x1 a4] (.Call (.Name "_law_drawn" a5) [.BinOp (.Subscript (.Name "script" a6) (.Slice none (some (.Constant (.int 5) 0 a7)) none a8) a9) .Add (.List [.Constant (.int 0) 0 a10, .Constant (.int 5) 0 a11, .Constant (.int 10) 0 a12, .Constant (.int 14) 0 a13, .Constant (.int 3) 0 a14, .Constant (.int 18) 0 a15] a16) a17] [] a18) a19)
    (q1 : u1 = .Assign [.Name "coming" b1] (.ListComp (.Subscript (.Name "names" b2) (.Name "k" b3) b4) [⟨.Name "k" b5, .Name "order" b6, [], 0⟩] scC b7) b8)
    (q2 : u2 = .Assign [.Name "chains" c1] (.Call (.Name "_law_chains" c2) [.Name "coming" c3] [] c4) c5)
    (q3 : u3 = .Assign [.Name "rows" d1] (.ListComp (.Tuple [.Call (.Name "len" d2) [.Name "chain" d3] [] d4, .Subscript (.Name "coming" d5) (.Subscript (.Name "chain" d6) (.UnaryOp .USub (.Constant (.int 1) 0 d7) d8) d9) d10] x2 d11) [⟨.Name "chain" d12, .Call (.Name "sorted" d13) [.Name "chains" d14] [] d15, [], 0⟩] scR d16) d17)
    (q4 : u4 = .Assign [.Name "path" e1] (.Call (.Name "reduce" e2) [.Name "_law_hung" e3, .Name "rows" e4, .List [.List [] e5] e6] [] e7) e8)
    (q5 : u5 = .Return (some (.Compare (.Subscript (.Name "path" f1) (.Constant (.int 0) 0 f2) f3) [.Eq] [.ListComp (.Call (.Name "_law_tree" f4) [.Name "k" f5, .Name "ups" f6, .Name "names" f7, .Name "order" f8] [] f9) [⟨.Name "k" f10, .Name "order" f11, [.Compare (.Subscript (.Name "ups" f12) (.Name "k" f13) f14) [.Lt] [.Constant (.int 0) 0 f15] f16], 0⟩] scT f17] f18)) f19)
    (hQ : ∀ s', ExtO tb (23 :: own (envL more eL eg cC cO cN cU equal efunc eframe ebu)) s s' → TabOk s'.heap 23 .any → Q (.ret (.bool true)) s') :
    wpAny (model prog w) A (execs [u0, u1, u2, u3, u4, u5] (envL more eL eg cC cO cN cU equal efunc eframe ebu)) Q NoE s := by
  have G : Globs (K1 W) off (mg1 W) (mb1 W) := globs1 (hoff 0 (by decide)) (hoff 2 (by decide)) (hoff 3 (by decide))
  have sub : ∀ a ∈ ([0, 1, 2, 3, 4, 27, 28, 29, 30, 36, 37, 80, 84, 85, 91, 92, 94, 95, 105, 106, 110, 111, 115, 116, 120, 121, 127, 128, 132] : List Nat), a ∈ offAll := by decide
  have hoff' : ∀ a ∈ [0, 1, 2, 3, 4, 27, 28, 29, 30, 36, 37, 80, 84, 85, 91, 92, 94, 95, 105, 106, 110, 111, 115, 116, 120, 121, 127, 128, 132], a ∉ (23 :: off) := fun a ha z => by
    rcases List.mem_cons.mp z with z | z
    · subst z; revert ha; decide
    · exact hoff a (sub a ha) z
  have G' : Globs (K1 W) (23 :: off) (mg1 W) (mb1 W) := globs1 (hoff' 0 (by decide)) (hoff' 2 (by decide)) (hoff' 3 (by decide))
  have r2 : Room A (k + 2) := hR.less (Nat.add_le_add_left (by decide) k)
  have r3 : Room A (k + 3) := hR.less (Nat.add_le_add_left (by decide) k)
  have rk : Room A k := hR.less (Nat.le_add_right k 60)
  have rn : Room A xs.length := hR.less (Nat.le_trans LO.few (Nat.le_trans (by decide) (Nat.le_add_left 60 k)))
  obtain ⟨n1, n2, n3, n4, n5, n6⟩ := hnd
  have hz : sizeLine = 2 ^ 24 := rfl
  have hcl := comD_len xs
  have hf := LO.few
  have hU : ∀ (x y : Str) (c : Addr), List.lookup x [(("coming" : Str), cC), ("order", cO), ("names", cN), ("ups", cU)] = some c → List.lookup y [(("coming" : Str), cC), ("order", cO), ("names", cN), ("ups", cU)] = some c → x = y := fun x y c hx hy => uniq_of_nodup (l := [(("coming" : Str), cC), ("order", cO), ("names", cN), ("ups", cU)]) (nd4 (Ne.symm n6) (Ne.symm n5) (Ne.symm n3) (Ne.symm n4) (Ne.symm n2) (Ne.symm n1)) hx hy
  have oU : cU ∈ own (envL more eL eg cC cO cN cU equal efunc eframe ebu) := own_cell (x := "ups") rfl rfl
  have oN : cN ∈ own (envL more eL eg cC cO cN cU equal efunc eframe ebu) := own_cell (x := "names") rfl rfl
  have oO : cO ∈ own (envL more eL eg cC cO cN cU equal efunc eframe ebu) := own_cell (x := "order") rfl rfl
  have oC : cC ∈ own (envL more eL eg cC cO cN cU equal efunc eframe ebu) := own_cell (x := "coming") rfl rfl
  -- ups, names, order
  rw [q0]
  refine wpAny_execs_cons (Assign_Tuple (pv_drawn (k := k) (ns := ns) G (sub_off hoff (by decide)) hns rfl A X s _ r2 S.ok S.en fun v s₁ e₁ r₁ => ?_) rfl rfl)
  rw [← hxs] at r₁
  obtain ⟨t0, vs, rfl, ht, rvs⟩ := Rp.isTuple r₁
  obtain ⟨v1, v2, v3, rfl, r1, r2, r3⟩ := rvs.three
  have ht' : s₁.heap.IsTuple t0 #[v1, v2, v3] := let ⟨o, g, r⟩ := ht; ⟨o, vis_below _ _ _ _ _ g, r⟩
  refine wpAny_assign_Tuple hR.handled ht' rfl rfl fun h1 x1 => ?_
  have kp1 : ∀ b o, s₁.heap.get? b = some o → h1.get? b = some o := fun b o g => x1 b o (Nat.ne_of_lt (Heap.lt_size g)) g
  have e1' : Ext tb s₁ { s₁ with heap := h1 } := .of_sub kp1 rfl rfl
  have eA := e₁.trans e1'
  have S1 := S.ext eA
  replace r1 := r1.sub e1'.vis
  replace r2 := r2.sub e1'.vis
  replace r3 := r3.sub e1'.vis
  have cell1 : ∀ c ∈ [cU, cN, cO, cC], ∃ v, ({ s₁ with heap := h1 } : Shared).heap.IsCell c v := fun c hc => let ⟨v, h⟩ := hC0 c hc; ⟨v, S.ok.cellExt h eA⟩
  have Y1 : ExtO tb (23 :: own (envL more eL eg cC cO cN cU equal efunc eframe ebu)) s { s₁ with heap := h1 } := .of eA
  show wpAny _ A (do holding [v2, v3] (assign (.Name "ups" a1) (envL more eL eg cC cO cN cU equal efunc eframe ebu) v1); do holding [v3] (assign (.Name "names" a2) (envL more eL eg cC cO cN cU equal efunc eframe ebu) v2); do holding [] (assign (.Name "order" a3) (envL more eL eg cC cO cN cU equal efunc eframe ebu) v3); pure ()) _ _ _
  generalize ({ s₁ with heap := h1 } : Shared) = sA at *
  clear e₁ e1' eA kp1 x1 ht ht' r₁ rvs
  refine wpAny_bind (wpAny_holding (wpAny_assign_Name (S1.storeC (c := cU) (x := "ups") (hX _ oU) rfl rfl (cell1 cU (by simp)) hU fun s2 y2 nc2 mk2 kp2 => ?_)))
  have vis2 : Sub (vis tb X sA.heap) (vis tb X s2.heap) := vis_sub fun b o n m g => kp2 b o (fun z => m (z ▸ hX _ oU)) g
  have S2 := mk2 [("ups", .list (dints (upsD xs)))] [] (all1 (.inl ⟨rfl, r1⟩)) (fun _ h => nomatch h)
  have cell2 : ∀ c ∈ [cN, cO, cC], ∃ v, s2.heap.IsCell c v := fun c hc => by
    obtain ⟨v, h⟩ := cell1 c (List.mem_cons_of_mem _ hc)
    refine ⟨v, S1.ok.cellExtO h y2 fun z => ?_⟩
    rw [List.mem_singleton] at z; subst z
    simp only [List.mem_cons, List.not_mem_nil, or_false] at hc
    rcases hc with z | z | z
    · exact n1 z
    · exact n2 z
    · exact n3 z
  refine wpAny_bind (wpAny_holding (wpAny_assign_Name (S2.storeC (c := cN) (x := "names") (hX _ oN) rfl rfl (cell2 cN (by simp)) hU fun s3 y3 nc3 mk3 kp3 => ?_)))
  have vis3 : Sub (vis tb X s2.heap) (vis tb X s3.heap) := vis_sub fun b o n m g => kp3 b o (fun z => m (z ▸ hX _ oN)) g
  have S3 := mk3 [("names", .list (sts (nmsD xs))), ("ups", .list (dints (upsD xs)))] [] (all2 (.inl ⟨rfl, r2.sub vis2⟩) (.inr ⟨by simp, by dsimp only; decide⟩)) (fun _ h => nomatch h)
  have cell3 : ∀ c ∈ [cO, cC], ∃ v, s3.heap.IsCell c v := fun c hc => by
    obtain ⟨v, h⟩ := cell2 c (List.mem_cons_of_mem _ hc)
    refine ⟨v, S2.ok.cellExtO h y3 fun z => ?_⟩
    rw [List.mem_singleton] at z; subst z
    simp only [List.mem_cons, List.not_mem_nil, or_false] at hc
    rcases hc with z | z
    · exact n4 z
    · exact n5 z
  refine wpAny_bind (wpAny_holding (wpAny_assign_Name (S3.storeC (c := cO) (x := "order") (hX _ oO) rfl rfl (cell3 cO (by simp)) hU fun s4 y4 nc4 mk4 kp4 => wpAny_pure ?_)))
  have S4 := mk4 [("order", .list (dints (ordD xs))), ("names", .list (sts (nmsD xs))), ("ups", .list (dints (upsD xs)))] [] (all3 (.inl ⟨rfl, (r3.sub vis2).sub vis3⟩) (.inr ⟨by simp, by dsimp only; decide⟩) (.inr ⟨by simp, by dsimp only; decide⟩)) (fun _ h => nomatch h)
  have cell4 : ∃ v, s4.heap.IsCell cC v := by
    obtain ⟨v, h⟩ := cell3 cC (by simp)
    exact ⟨v, S3.ok.cellExtO h y4 fun z => n6 (List.mem_singleton.mp z).symm⟩
  have Y4 : ExtO tb (23 :: own (envL more eL eg cC cO cN cU equal efunc eframe ebu)) s s4 := ((Y1.trans (y2.mono (all1 (List.mem_cons_of_mem _ oU)))).trans (y3.mono (all1 (List.mem_cons_of_mem _ oN)))).trans (y4.mono (all1 (List.mem_cons_of_mem _ oO)))
  clear S1 S2 S3 mk2 mk3 mk4 kp2 kp3 kp4 y2 y3 y4 r1 r2 r3 vis2 vis3 cell1 cell2 cell3 Y1
  -- coming
  rw [q1]
  refine wpAny_execs_cons (wpAny_Assign_Name (pv_coming (k := k) LO rfl rfl A X s4 _ r2 S4.ok S4.en fun v5 s5 e5 r5 => ?_) rfl)
  have S5 := S4.ext e5
  refine S5.storeC (c := cC) (x := "coming") (hX _ oC) rfl rfl (let ⟨v, h⟩ := cell4; ⟨v, S4.ok.cellExt h e5⟩) hU fun s6 y6 nc6 mk6 kp6 => ?_
  have S6 := mk6 [("coming", .list (sts (comD xs))), ("order", .list (dints (ordD xs))), ("names", .list (sts (nmsD xs))), ("ups", .list (dints (upsD xs)))] [] (all4 (.inl ⟨rfl, r5⟩) (.inr ⟨by simp, by dsimp only; decide⟩) (.inr ⟨by simp, by dsimp only; decide⟩) (.inr ⟨by simp, by dsimp only; decide⟩)) (fun _ h => nomatch h)
  have Y6 : ExtO tb (23 :: own (envL more eL eg cC cO cN cU equal efunc eframe ebu)) s s6 := (Y4.trans (.of e5)).trans (y6.mono (all1 (List.mem_cons_of_mem _ oC)))
  clear S4 S5 mk6 kp6 y6 Y4 r5 e5 cell4
  -- chains
  obtain ⟨o121, fd121, l121, d121⟩ : ∃ o fd, (K1 W).lookup 121 = some o ∧ o.data = .func fd := ⟨_, _, rfl, rfl⟩
  rw [q2]
  refine wpAny_execs_cons (wpAny_Assign_Name (wpAny_Call_NameR (load_global G S6.ok S6.en (by exact rfl) rfl (by decide) (callWith_fn d121 ?_ rfl))) rfl)
  obtain ⟨vc, bc, rc⟩ := S6.en.vars ("coming", .list (sts (comD xs))) (by simp)
  refine spliced_cons (bound_load S6.en.kind bc (spliced_nil ⟨S6.ok.get l121 (hoff 121 (by decide)), ?_⟩) (by decide) (by decide))
  refine call_chains (k := k + 53) (chain := chain) LO.nms (hcl ▸ Nat.le_trans hf (by decide)) LO.ch hR S6.ok (sub_off hoff (by decide)) hoffT hm ho rc fun v7 s7 y7 O7 md7 r7 => ?_
  have hP0 : (vis tb X s6.heap).get? 23 = some (tabObj #[]) := S6.ok.top 23 _ rfl (hoff 23 (by decide))
  have S7 := S6.mark y7 hP0 (O7.tabs (23, .any) List.mem_cons_self)
  have Y7 : ExtO tb (23 :: own (envL more eL eg cC cO cN cU equal efunc eframe ebu)) s s7 := Y6.trans (y7.mono (all1 List.mem_cons_self))
  refine S7.store (x := "chains") hX rfl fun s8 y8 _ mk8 kp8 => ?_
  have S8 := mk8 [("chains", .list (dlists (chainsD xs chain))), ("coming", .list (sts (comD xs))), ("order", .list (dints (ordD xs))), ("names", .list (sts (nmsD xs))), ("ups", .list (dints (upsD xs)))] [] (List.forall_mem_cons.mpr ⟨.inl ⟨rfl, r7⟩, all4 (.inr ⟨by simp, by dsimp only; decide⟩) (.inr ⟨by simp, by dsimp only; decide⟩) (.inr ⟨by simp, by dsimp only; decide⟩) (.inr ⟨by simp, by dsimp only; decide⟩)⟩) (fun _ h => nomatch h)
  have mono8 : ∀ y ∈ 23 :: own (envL more eL eg cC cO cN cU equal efunc eframe ebu), y ∈ 23 :: own (envL more eL eg cC cO cN cU equal efunc eframe ebu) := fun _ h => h
  have Y8 : ExtO tb (23 :: own (envL more eL eg cC cO cN cU equal efunc eframe ebu)) s s8 := Y7.trans y8.back
  clear S6 S7 mk8 kp8 y7 y8 Y6 Y7 r7 md7 O7
  -- rows
  rw [q3]
  refine wpAny_execs_cons (St.assignComp (es := (rowsD (comD xs) srt).map rowD) hsw rfl S8 hX (fun use Q' hend => comp_rows (k := k) LO G' r2 S8.ok S8.en (by simp) (by simp) hend) fun s9 y9 ck9 mk9 => ?_)
  have S9 := mk9 [("rows", .list ((rowsD (comD xs) srt).map rowD)), ("order", .list (dints (ordD xs))), ("names", .list (sts (nmsD xs))), ("ups", .list (dints (upsD xs)))] [] (all4 (.inl rfl) (.inr ⟨by simp, by dsimp only; decide⟩) (.inr ⟨by simp, by dsimp only; decide⟩) (.inr ⟨by simp, by dsimp only; decide⟩)) (fun _ h => nomatch h)
  have Y9 : ExtO tb (23 :: own (envL more eL eg cC cO cN cU equal efunc eframe ebu)) s s9 := Y8.trans y9.back
  clear S8 mk9 y9 Y8 ck9
  -- path
  have hrl : (rowsD (comD xs) srt).length ≤ 99 := by
    unfold rowsD; rw [List.length_map]; exact LO.slen
  rw [q4]
  refine wpAny_execs_cons (wpAny_Assign_Name (eval_hung (k := k) (rows := rowsD (comD xs) srt) G' (sub_off hoff' (by decide)) r3 S9.ok S9.en rfl hrl LO.dep (fun as p s10 e10 H10 fr10 => ?_) rfl rfl rfl) rfl)
  have S10 := S9.ext e10
  refine S10.store (x := "path") hX rfl fun s11 y11 _ mk11 kp11 => ?_
  have S11 := mk11 [("order", .list (dints (ordD xs))), ("names", .list (sts (nmsD xs))), ("ups", .list (dints (upsD xs)))] [("path", .ref p)] (all3 (.inr ⟨by simp, by dsimp only; decide⟩) (.inr ⟨by simp, by dsimp only; decide⟩) (.inr ⟨by simp, by dsimp only; decide⟩)) (all1 (.inl rfl))
  have H11 := H10.keeps (S10.lists (Y := []) kp11)
  have Y11 : ExtO tb (23 :: own (envL more eL eg cC cO cN cU equal efunc eframe ebu)) s s11 := (Y9.trans ((ExtO.of (Y := []) e10).back.mono (all1 List.mem_cons_self))).trans y11.back
  have nX11 : ∀ e, e ≤ (rowsD (comD xs) srt).length → as e ∉ X := fun e he => (notTab_new S9.ok (fr10 e he)).2
  clear S9 S10 mk11 kp11 y11 Y9 e10 fr10 H10
  -- the answer
  have head0 : (((hsAt (rowsD (comD xs) srt) (rowsD (comD xs) srt).length).path.map fun e => Value.ref (as e)).toArray)[0]? = some (.ref (as 0)) := by
    have := hs_head (rows := rowsD (comD xs) srt) (rowsD (comD xs) srt).length fun j hj => (LO.dep j hj).1
    simp [this]
  rw [q5]
  refine wpAny_execs_cons (wpAny_Return_some (wpAny_Compare1 (eval_item (tb := (23, .any) :: tb) (p := p) (i := 0) (v := .ref (as 0)) (eval_local S11 (x := "path") (by simp)) H11.path H11.pnt (by omega) head0 (fun s₁ Q e₁ h => wpAny_Constant_int (h _ _ (ext_tok _ _))) fun s12 e12 => ?_) (by with_unfolding_all rfl)))
  have S12 := S11.ext e12
  have H12 := H11.keeps e12.lists
  have rH := hung_rp H12 nX11 LO.kid ((rowsD (comD xs) srt).length + 1) 0 (Nat.zero_le _) (Nat.lt_succ_of_le (Nat.sub_le _ _))
  rw [LO.fin] at rH
  refine pv_roots LO G' (sub_off hoff' (by decide)) rfl rfl rfl A X s12 _ rn S12.ok S12.en fun v13 s13 e13 r13 => ?_
  have hcan : (PyData.list (rootsD xs)).canLay0 = true := by
    show PyData.canLayAll0 (rootsD xs) = true
    refine canAll fun d hd => ?_
    obtain ⟨j, _, rfl⟩ := List.mem_map.mp hd
    exact can_tree LO.sok _ _
  have hdep : (PyData.list (rootsD xs)).depth < 900 := by
    have : PyData.depthAll (rootsD xs) ≤ xs.length := depAll fun d hd => by
      obtain ⟨j, _, rfl⟩ := List.mem_map.mp hd
      exact dep_tree _ _
    show PyData.depthAll (rootsD xs) + 1 < 900
    omega
  refine op_eq (k := k) hcan hcan (by rw [Nat.min_self]; exact hdep) A X s13 _ _ _ rk (S12.ok.ext e13) (rH.sub e13.vis) r13 fun s14 e14 => ?_
  rw [SeqAt.eqv_refl _ hcan]
  have e := (e12.trans e13).trans e14
  exact hQ s14 (Y11.trans ((ExtO.of (Y := []) e).back.mono (all1 List.mem_cons_self))) (e.tab (23, .any) List.mem_cons_self (S11.ok.tabs _ List.mem_cons_self))
end
end Mine
end
section
open PySem PySem.W PySem.Calls PyProof.Rows
set_option maxRecDepth 100000
set_option maxHeartbeats 8000000
set_option linter.all false
namespace Mine
section
variable {prog : Program} {w : World} {W : Wd} {K : Frag} {off : List Addr} {tb : Tb} {k : Nat} {X : List Addr} {s : Shared} {A : Around}
theorem call_law {ns : List Int} {chain : Nat → List Int} {srt : List (List Int)} {v : Value} {Q : Value → Shared → Prop} (LO : LawOk (ns.take 5 ++ [0, 5, 10, 14, 3, 18]) chain srt) (hns : ns.length ≤ 63) (hR : Room A (k + 61)) (hO : Ok (K1 W) off tb X s)
    (hoff : ∀ a ∈ offAll, a ∉ off) (h133 : (133 : Nat) ∉ off) (hoffT : ∀ a ∈ off, a ∈ tb.map (·.1)) (hm : ((118 : Addr), TK.code qChains) ∈ tb) (ho : ∀ p ∈ tb, p.1 = 118 → p.2 = .code qChains)
    (r : Rp (vis tb X s.heap) v (.list (dints ns))) (hQ : ∀ s', ExtO tb [23] s s' → TabOk s'.heap 23 .any → Q (.bool true) s') :
    wpAny (model prog w) A (call (.ref 133) [v]) Q NoE s := by
  have G : Globs (K1 W) off (mg1 W) (mb1 W) := globs1 (hoff 0 (by decide)) (hoff 2 (by decide)) (hoff 3 (by decide))
  have h132 := hoff 132 (by decide)
  refine wpAny_call ?_
  refine codeAny_call_binds (binds := [("script", v)]) hR.lim (hO.get (a := 133) rfl h133) rfl (hO.globs G).2.2 ?_ rfl ?_ rfl ?_ (fun s₁ I₁ => ?_)
  · exact Heap.CodeRec.keeps (⟨132, _, _, _, rfl, hO.top 132 _ rfl h132, rfl, rfl⟩ : (vis tb X s.heap).CodeRec _ _) (vis_below _ _ _)
  · intro A' Q E' hq
    exact wpAny_pure hq
  · exact List.forall_mem_cons.mpr ⟨.inl rfl, fun _ h => nomatch h⟩
  · have T := entered (ρ := [("script", .list (dints ns))]) rfl I₁ hO rfl rfl rfl (show (["script"] : List Str).Nodup by decide)
      (List.forall_mem_cons.mpr ⟨.inl rfl, fun _ h => nomatch h⟩)
      (List.forall_mem_cons.mpr ⟨⟨v, by simp, r⟩, fun _ h => nomatch h⟩)
    refine wpAny_mono (E := NoE) ?_ (fun _ _ z => z) fun _ _ z => z.elim
    refine law_body (k := k) (ns := ns) (cC := s.heap.objs.size + 1 + 1 + 1 + 1) (cO := s.heap.objs.size + 1 + 1 + 1) (cN := s.heap.objs.size + 1 + 1) (cU := s.heap.objs.size + 1) rfl LO ?_ ?_ hoff hoffT hm ho
      hns hR.deeper ⟨T.ok, T.en, (fun _ h => nomatch h), T.loc⟩ (fun z hz => List.mem_append_left _ hz) rfl rfl rfl rfl rfl rfl rfl fun s' e t23 => ?_
    · refine ⟨?_, ?_, ?_, ?_, ?_, ?_⟩ <;> (show @Ne Nat _ _; omega)
    · exact all4 ⟨_, I₁.cell "ups" _ rfl⟩ ⟨_, I₁.cell "names" _ rfl⟩ ⟨_, I₁.cell "order" _ rfl⟩ ⟨_, I₁.cell "coming" _ rfl⟩
    · exact hQ s' ⟨fun b o n m g => e.keep b o n (fun z => by
          rcases List.mem_cons.mp z with z | z
          · exact m (List.mem_singleton.mpr z)
          · rw [T.fresh b z] at g; cases g) (T.ext.keep b o n g), fun q hq z => e.tab q hq (T.ext.tab q hq z), e.gens.trans T.ext.gens, e.os.trans T.ext.os⟩ t23
end
end Mine
end
section
open PySem PySem.W PySem.Calls PyProof.Rows
set_option maxRecDepth 100000
set_option maxHeartbeats 2000000
set_option linter.all false
namespace Mine
/- the order of rows of numbers -/
theorem lexI_irr : ∀ a : List Int, lexI a a = false
  | [] => rfl
  | a :: as => by unfold lexI; rw [if_pos rfl]; exact lexI_irr as
theorem lexI_tr : ∀ a b c : List Int, lexI a b = true → lexI b c = true → lexI a c = true
  | [], [], _, h, _ => by cases h
  | [], _ :: _, [], _, h => by cases h
  | [], _ :: _, _ :: _, _, _ => rfl
  | _ :: _, [], _, h, _ => by cases h
  | _ :: _, _ :: _, [], _, h => by cases h
  | a :: as, b :: bs, c :: cs, h1, h2 => by
    unfold lexI at h1 h2 ⊢
    by_cases e1 : a = b
    · rw [if_pos e1] at h1
      by_cases e2 : b = c
      · rw [if_pos e2] at h2
        rw [if_pos (e1.trans e2)]; exact lexI_tr as bs cs h1 h2
      · rw [if_neg e2] at h2
        rw [if_neg (e1 ▸ e2)]; rw [e1]; exact h2
    · rw [if_neg e1] at h1
      have h1 := of_decide_eq_true h1
      by_cases e2 : b = c
      · rw [if_neg (by omega)]; exact decide_eq_true (by omega)
      · rw [if_neg e2] at h2
        have h2 := of_decide_eq_true h2
        rw [if_neg (by omega)]; exact decide_eq_true (by omega)
theorem lexI_tot : ∀ a b : List Int, a ≠ b → lexI a b = true ∨ lexI b a = true
  | [], [], h => absurd rfl h
  | [], _ :: _, _ => .inl rfl
  | _ :: _, [], _ => .inr rfl
  | a :: as, b :: bs, h => by
    unfold lexI
    by_cases e : a = b
    · rw [if_pos e, if_pos e.symm]
      exact lexI_tot as bs fun z => h (by rw [e, z])
    · rw [if_neg e, if_neg (Ne.symm e)]
      rcases Int.lt_or_gt_of_ne e with q | q
      · exact .inl (decide_eq_true q)
      · exact .inr (decide_eq_true q)
theorem lexI_asym {a b : List Int} (h : lexI a b = true) : lexI b a = false := by
  cases e : lexI b a with
  | false => rfl
  | true => have := lexI_tr _ _ _ h e; rw [lexI_irr] at this; cases this
theorem lexI_app : ∀ (p : List Int) (a b : List Int), lexI (p ++ a) (p ++ b) = lexI a b
  | [], _, _ => rfl
  | x :: p, a, b => by
    show (if x = x then lexI (p ++ a) (p ++ b) else decide (x < x)) = lexI a b
    rw [if_pos rfl]; exact lexI_app p a b
theorem lexI_pre : ∀ (p : List Int) (x : Int) , lexI p (p ++ [x]) = true
  | [], _ => rfl
  | y :: p, x => by
    show lexI (y :: p) (y :: (p ++ [x])) = true
    unfold lexI
    rw [if_pos rfl]; exact lexI_pre p x
/-- what lies between p and p ++ [x] begins with p -/
theorem lexI_between : ∀ (p c : List Int) (x : Int), (p = c ∨ lexI p c = true) → lexI c (p ++ [x]) = true → p <+: c
  | [], c, _, _, _ => ⟨c, rfl⟩
  | y :: p, [], x, h, _ => by
    rcases h with h | h
    · cases h
    · cases h
  | y :: p, z :: c, x, h, h2 => by
    have h2 : lexI (z :: c) (y :: (p ++ [x])) = true := h2
    unfold lexI at h2
    rcases h with h | h
    · exact h ▸ List.prefix_rfl
    · unfold lexI at h
      by_cases e : y = z
      · subst e
        rw [if_pos rfl] at h h2
        exact (List.cons_prefix_cons.mpr ⟨rfl, lexI_between p c x (.inr h) h2⟩)
      · rw [if_neg e] at h
        rw [if_neg (Ne.symm e)] at h2
        have := of_decide_eq_true h
        have := of_decide_eq_true h2
        omega
/-- two rows in order with the same members are one -/
theorem uniq_sorted {α : Type} {R : α → α → Prop} (asym : ∀ a b, R a b → ¬ R b a) : ∀ {l m : List α}, l.Perm m → l.Pairwise R → m.Pairwise R → l = m
  | [], m, h, _, _ => by rw [List.nil_perm.mp h]
  | a :: l, [], h, _, _ => by have := h.length_eq; simp at this
  | a :: l, b :: m, h, h1, h2 => by
    have p1 := List.pairwise_cons.mp h1
    have p2 := List.pairwise_cons.mp h2
    have e : a = b := by
      have ha : a ∈ b :: m := h.mem_iff.mp List.mem_cons_self
      have hb : b ∈ a :: l := h.mem_iff.mpr List.mem_cons_self
      rcases List.mem_cons.mp ha with ha | ha
      · exact ha
      · rcases List.mem_cons.mp hb with hb | hb
        · exact hb.symm
        · exact absurd (p1.1 b hb) (asym _ _ (p2.1 a ha))
    subst e
    rw [uniq_sorted asym (List.perm_cons a |>.mp h) p1.2 p2.2]
theorem perm_of_mem {α : Type} {l m : List α} (h1 : l.Nodup) (h2 : m.Nodup) (h : ∀ a, a ∈ l ↔ a ∈ m) : l.Perm m := (List.perm_ext_iff_of_nodup h1 h2).mpr h
theorem nodup_of_lt {R : α → α → Prop} (irr : ∀ a, ¬ R a a) {l : List α} (h : l.Pairwise R) : l.Nodup := by
  refine List.Pairwise.imp ?_ h
  intro a b r z
  subst z
  exact irr _ r
/-- two lists of rising numbers with the same members -/
theorem rising_eq {l m : List Nat} (h1 : l.Pairwise (· < ·)) (h2 : m.Pairwise (· < ·)) (h : ∀ a, a ∈ l ↔ a ∈ m) : l = m :=
  uniq_sorted (fun a b x y => Nat.lt_asymm x y) (perm_of_mem (nodup_of_lt (fun a => Nat.lt_irrefl a) h1) (nodup_of_lt (fun a => Nat.lt_irrefl a) h2) h) h1 h2
end Mine
end
section
open PySem PySem.W PySem.Calls PyProof.Rows
set_option maxRecDepth 100000
set_option maxHeartbeats 2000000
set_option linter.all false
namespace Mine
/-- a forest by places: pre t stands above t -/
structure Fst (n : Nat) (pre chain : Nat → List Int) (S : List (List Int)) : Prop where
  chn : ∀ t, t < n → chain t = pre t ++ [((t : Nat) : Int)]
  up : ∀ t, t < n → pre t = [] ∨ ∃ u, u < n ∧ pre t = chain u
  perm : S.Perm ((List.range n).map chain)
  srt : S.Pairwise fun a b => lexI a b = true
def tpos (c : List Int) : Nat := (c.getLast?.getD 0).toNat
section
variable {n : Nat} {pre chain : Nat → List Int} {S : List (List Int)} {coming : List Str}
theorem Fst.mem (F : Fst n pre chain S) {c : List Int} : c ∈ S ↔ ∃ t, t < n ∧ c = chain t := by
  rw [F.perm.mem_iff, List.mem_map]
  constructor
  · rintro ⟨t, ht, rfl⟩; exact ⟨t, List.mem_range.mp ht, rfl⟩
  · rintro ⟨t, ht, rfl⟩; exact ⟨t, List.mem_range.mpr ht, rfl⟩
theorem Fst.len (F : Fst n pre chain S) : S.length = n := by
  rw [F.perm.length_eq, List.length_map, List.length_range]
theorem Fst.tpos (F : Fst n pre chain S) {t : Nat} (h : t < n) : tpos (chain t) = t := by
  unfold Mine.tpos
  rw [F.chn t h]; simp
theorem Fst.ne (F : Fst n pre chain S) {t : Nat} (h : t < n) : chain t ≠ [] := by rw [F.chn t h]; simp
theorem Fst.inj (F : Fst n pre chain S) {t u : Nat} (h : t < n) (h2 : u < n) (e : chain t = chain u) : t = u := by
  rw [← F.tpos h, ← F.tpos h2, e]
theorem Fst.drop (F : Fst n pre chain S) {t : Nat} (h : t < n) : (chain t).dropLast = pre t := by rw [F.chn t h]; simp
theorem Fst.at (F : Fst n pre chain S) {i : Nat} (h : i < n) : ∃ t, t < n ∧ S[i]? = some (chain t) ∧ S.getD i [] = chain t := by
  have hi : i < S.length := by rw [F.len]; exact h
  obtain ⟨t, ht, e⟩ := F.mem.mp (List.getElem_mem hi)
  refine ⟨t, ht, by rw [List.getElem?_eq_getElem hi, e], ?_⟩
  rw [List.getD_eq_getElem?_getD, List.getElem?_eq_getElem hi, Option.getD_some, e]
theorem Fst.less (F : Fst n pre chain S) {i j : Nat} {a b : List Int} (ha : S[i]? = some a) (hb : S[j]? = some b) (h : lexI a b = true) : i < j := by
  obtain ⟨hi, rfl⟩ := List.getElem?_eq_some_iff.mp ha
  obtain ⟨hj, rfl⟩ := List.getElem?_eq_some_iff.mp hb
  have pw := List.pairwise_iff_getElem.mp F.srt
  rcases Nat.lt_trichotomy i j with q | q | q
  · exact q
  · subst q; rw [lexI_irr] at h; cases h
  · have := lexI_asym (pw j i hj hi q)
    rw [h] at this; cases this
theorem Fst.lex (F : Fst n pre chain S) {i j : Nat} {a b : List Int} (ha : S[i]? = some a) (hb : S[j]? = some b) (h : i < j) : lexI a b = true := by
  obtain ⟨hi, rfl⟩ := List.getElem?_eq_some_iff.mp ha
  obtain ⟨hj, rfl⟩ := List.getElem?_eq_some_iff.mp hb
  exact List.pairwise_iff_getElem.mp F.srt i j hi hj h
theorem Fst.one (F : Fst n pre chain S) {i j : Nat} {a : List Int} (ha : S[i]? = some a) (hb : S[j]? = some a) : i = j := by
  rcases Nat.lt_trichotomy i j with q | q | q
  · have := F.lex ha hb q; rw [lexI_irr] at this; cases this
  · exact q
  · have := F.lex hb ha q; rw [lexI_irr] at this; cases this
/-- the node of a row of numbers -/
def Nd (S : List (List Int)) (c : List Int) (e : Nat) : Prop := (c = [] ∧ e = 0) ∨ ∃ i, S[i]? = some c ∧ e = i + 1
theorem Nd.fun (F : Fst n pre chain S) {c : List Int} {e e' : Nat} (h : Nd S c e) (h' : Nd S c e') : e = e' := by
  have no : ∀ i, S[i]? ≠ some [] := fun i z => by
    have hi := (List.getElem?_eq_some_iff.mp z).1
    rw [F.len] at hi
    obtain ⟨t, ht, e, _⟩ := F.at hi
    rw [z] at e
    exact F.ne ht (Option.some.inj e).symm
  rcases h with ⟨rfl, rfl⟩ | ⟨i, hi, rfl⟩
  · rcases h' with ⟨_, rfl⟩ | ⟨j, hj, rfl⟩
    · rfl
    · exact absurd hj (no j)
  · rcases h' with ⟨rfl, rfl⟩ | ⟨j, hj, rfl⟩
    · exact absurd hi (no i)
    · rw [F.one hi hj]
abbrev rws (coming : List Str) (S : List (List Int)) : List Row := rowsD coming S
theorem rws_at (h : i < S.length) : (rws coming S).getD i (0, "") = ((S.getD i []).length, coming.getD (tpos (S.getD i [])) "") := by
  unfold rws rowsD tpos
  simp [List.getD_eq_getElem?_getD, h]
def prev (S : List (List Int)) (i : Nat) : List Int := if i = 0 then [] else S.getD (i - 1) []
/-- what stands above the next row stands above the one before, or is it -/
theorem Fst.step (F : Fst n pre chain S) {i t : Nat} (hi : i < n) (ht : t < n) (e : S[i]? = some (chain t)) : pre t <+: prev S i := by
  unfold prev
  rcases F.up t ht with h | ⟨u, hu, h⟩
  · rw [h]; exact List.nil_prefix
  · obtain ⟨j, hj⟩ := List.getElem?_of_mem (F.mem.mpr ⟨u, hu, rfl⟩)
    have hlt : lexI (chain u) (chain t) = true := by rw [F.chn t ht, h]; exact lexI_pre _ _
    have hji := F.less hj e hlt
    rw [if_neg (by omega), h]
    obtain ⟨v, hv, ev, eg⟩ := F.at (i := i - 1) (by omega)
    rw [eg]
    refine lexI_between (chain u) (chain v) ((t : Nat) : Int) ?_ ?_
    · by_cases q : j = i - 1
      · subst q; rw [ev] at hj; exact .inl (Option.some.inj hj).symm
      · exact .inr (F.lex hj ev (by omega))
    · have := F.lex ev e (by omega)
      rw [F.chn t ht, h] at this
      exact this
structure HInv (S : List (List Int)) (i : Nat) (T : HS) : Prop where
  len : T.path.length = (prev S i).length + 1
  path : ∀ t, t ≤ (prev S i).length → Nd S ((prev S i).take t) (T.path.getD t 0)
  rise : ∀ e, (T.kids e).Pairwise (· < ·)
  kids : ∀ e c, c ∈ T.kids e ↔ ∃ j, j < i ∧ c = j + 1 ∧ Nd S (S.getD j []).dropLast e
theorem Fst.hinv (F : Fst n pre chain S) : ∀ i, i ≤ n → HInv S i (hsAt (rws coming S) i)
  | 0, _ => by
    refine ⟨rfl, fun t ht => ?_, fun e => .nil, fun e c => ⟨fun h => (by cases h), fun ⟨j, h, _⟩ => (by omega)⟩⟩
    have : t = 0 := by
      have : (prev S 0).length = 0 := rfl
      omega
    subst this
    exact .inl ⟨rfl, rfl⟩
  | i + 1, hi => by
    have hlt : i < n := hi
    have I := F.hinv i (Nat.le_of_lt hlt)
    obtain ⟨t, ht, et, eg⟩ := F.at hlt
    have st := F.step hlt ht et
    have hl := F.len
    have hr : ((rws coming S).getD i (0, "")).1 = (pre t).length + 1 := by
      rw [rws_at (hl ▸ hlt), eg, F.chn t ht]; simp
    have pl := st.length_le
    have ptake : ∀ m, m ≤ (pre t).length → (chain t).take m = (prev S i).take m := fun m hm => by
      rw [F.chn t ht, List.take_append_of_le_length hm]
      obtain ⟨r, hr⟩ := st
      rw [← hr, List.take_append_of_le_length hm]
    have pv : prev S (i + 1) = chain t := by
      unfold prev; rw [if_neg (Nat.succ_ne_zero i)]; exact eg
    have cl : (chain t).length = (pre t).length + 1 := by rw [F.chn t ht]; simp
    have np : Nd S (pre t) ((hsAt (rws coming S) i).path.getD (pre t).length 0) := by
      have := I.path (pre t).length pl
      have e : (prev S i).take (pre t).length = pre t := by
        obtain ⟨r, hr⟩ := st
        rw [← hr]; simp
      rw [e] at this; exact this
    show HInv S (i + 1) (hsStep i ((rws coming S).getD i (0, "")).1 (hsAt (rws coming S) i))
    rw [hr]
    generalize hsAt (rws coming S) i = T at I np
    have hle : (pre t).length + 1 ≤ T.path.length := by rw [I.len]; exact Nat.succ_le_succ pl
    refine ⟨?_, fun m hm => ?_, fun e => ?_, fun e c => ?_⟩
    · show (T.path.take ((pre t).length + 1) ++ [i + 1]).length = _
      rw [pv, cl, List.length_append, List.length_take, List.length_singleton, Nat.min_eq_left hle]
    · show Nd S _ ((T.path.take ((pre t).length + 1) ++ [i + 1]).getD m 0)
      rw [pv]
      rw [pv, cl] at hm
      by_cases h : m ≤ (pre t).length
      · rw [ptake m h]
        have := I.path m (Nat.le_trans h pl)
        rw [List.getD_eq_getElem?_getD] at this ⊢
        rw [List.getElem?_append_left (by rw [List.length_take, Nat.min_eq_left hle]; exact Nat.lt_succ_of_le h), List.getElem?_take_of_lt (Nat.lt_succ_of_le h)]
        exact this
      · obtain rfl : m = (pre t).length + 1 := (last_or hm).elim id fun z => absurd z h
        rw [List.take_of_length_le (by rw [cl]; exact Nat.le_refl _)]
        have e : (T.path.take ((pre t).length + 1) ++ [i + 1]).getD ((pre t).length + 1) 0 = i + 1 := by
          rw [List.getD_eq_getElem?_getD, List.getElem?_append_right (by rw [List.length_take, Nat.min_eq_left hle]; exact Nat.le_refl _), List.length_take, Nat.min_eq_left hle]
          simp
        rw [e]
        exact .inr ⟨i, et, rfl⟩
    · show (if e = T.path.getD ((pre t).length + 1 - 1) 0 then T.kids e ++ [i + 1] else T.kids e).Pairwise (· < ·)
      split
      · rw [List.pairwise_append]
        refine ⟨I.rise e, List.pairwise_singleton _ _, fun a ha b hb => ?_⟩
        rw [List.mem_singleton] at hb
        obtain ⟨j, hj, rfl, _⟩ := (I.kids e a).mp ha
        rw [hb]; exact Nat.succ_lt_succ hj
      · exact I.rise e
    · show c ∈ (if e = T.path.getD ((pre t).length + 1 - 1) 0 then T.kids e ++ [i + 1] else T.kids e) ↔ _
      rw [Nat.add_sub_cancel]
      have dl : (S.getD i []).dropLast = pre t := by rw [eg]; exact F.drop ht
      constructor
      · intro h
        by_cases he : e = T.path.getD (pre t).length 0
        · rw [if_pos he] at h
          rcases List.mem_append.mp h with h | h
          · obtain ⟨j, hj, r⟩ := (I.kids e c).mp h
            exact ⟨j, Nat.lt_succ_of_lt hj, r⟩
          · exact ⟨i, Nat.lt_succ_self i, List.mem_singleton.mp h, by rw [dl, he]; exact np⟩
        · rw [if_neg he] at h
          obtain ⟨j, hj, r⟩ := (I.kids e c).mp h
          exact ⟨j, Nat.lt_succ_of_lt hj, r⟩
      · rintro ⟨j, hj, rfl, hn⟩
        by_cases hji : j < i
        · have := (I.kids e (j + 1)).mpr ⟨j, hji, rfl, hn⟩
          split
          · exact List.mem_append_left _ this
          · exact this
        · obtain rfl : j = i := Nat.le_antisymm (Nat.le_of_lt_succ hj) (Nat.le_of_not_lt hji)
          rw [dl] at hn
          rw [if_pos (hn.fun F np)]
          exact List.mem_append_right _ (List.mem_singleton.mpr rfl)
end
end Mine
end
section
open PySem PySem.W PySem.Calls PyProof.Rows
set_option maxRecDepth 100000
set_option maxHeartbeats 2000000
set_option linter.all false
namespace Mine
/-- the tree below a place -/
def treeP (n : Nat) (pre chain : Nat → List Int) (nm : Nat → Str) : Nat → Nat → PyData
  | 0, _ => .none
  | f + 1, t => .list (.str (nm t) :: ((List.range n).filter fun u => decide (pre u = chain t)).map (treeP n pre chain nm f))
section
variable {n : Nat} {pre chain : Nat → List Int} {S : List (List Int)} {coming : List Str}
theorem Fst.dep (F : Fst n pre chain S) : ∀ i < (rws coming S).length, 1 ≤ ((rws coming S).getD i (0, "")).1 ∧ ((rws coming S).getD i (0, "")).1 ≤ (hsAt (rws coming S) i).path.length := fun i hi => by
  have hi : i < n := by
    have : (rws coming S).length = S.length := List.length_map ..
    rw [this, F.len] at hi; exact hi
  obtain ⟨t, ht, et, eg⟩ := F.at hi
  have st := F.step hi ht et
  have I := F.hinv (coming := coming) i (by omega)
  have hr : ((rws coming S).getD i (0, "")).1 = (pre t).length + 1 := by
    rw [rws_at (by rw [F.len]; exact hi), eg, F.chn t ht]; simp
  have := st.length_le
  rw [hr, I.len]; omega
theorem Fst.rlen (F : Fst n pre chain S) : (rws coming S).length = n := by
  have : (rws coming S).length = S.length := List.length_map ..
  rw [this, F.len]
theorem Fst.kid (F : Fst n pre chain S) : ∀ e, ∀ c ∈ (hsAt (rws coming S) n).kids e, e < c := fun e c hc => by
  obtain ⟨j, hj, rfl, hn⟩ := ((F.hinv n (Nat.le_refl _)).kids e c).mp hc
  obtain ⟨t, ht, et, eg⟩ := F.at hj
  rw [eg, F.drop ht] at hn
  rcases hn with ⟨_, rfl⟩ | ⟨i, hi, rfl⟩
  · omega
  · have hi' : i < n := by rw [← F.len]; exact (List.getElem?_eq_some_iff.mp hi).1
    obtain ⟨u, hu, eu, _⟩ := F.at hi'
    rw [hi] at eu
    have := F.less hi et (by rw [F.chn t ht]; exact lexI_pre _ _)
    omega
/-- the children of a node, by places -/
theorem Fst.below (F : Fst n pre chain S) {c : List Int} {e : Nat} (hc : Nd S c e) : ((hsAt (rws coming S) n).kids e).map (fun j => Mine.tpos (S.getD (j - 1) [])) = (List.range n).filter fun u => decide (pre u = c) := by
  have I := F.hinv (coming := coming) n (Nat.le_refl _)
  refine rising_eq ?_ (List.pairwise_lt_range.filter _) fun t => ?_
  · rw [List.pairwise_map]
    refine (I.rise e).imp_of_mem fun {a b} ha hb hab => ?_
    obtain ⟨j, hj, rfl, hn⟩ := (I.kids e a).mp ha
    obtain ⟨k, hk, rfl, hn2⟩ := (I.kids e b).mp hb
    obtain ⟨t, ht, et, eg⟩ := F.at hj
    obtain ⟨u, hu, eu, eg2⟩ := F.at hk
    simp only [Nat.add_sub_cancel]
    rw [eg, F.drop ht] at hn
    rw [eg2, F.drop hu] at hn2
    rw [eg, eg2, F.tpos ht, F.tpos hu]
    have hp : pre t = pre u := by
      rcases hn with ⟨h, rfl⟩ | ⟨i, h, rfl⟩
      · rcases hn2 with ⟨h2, _⟩ | ⟨i, _, h2⟩
        · rw [h, h2]
        · omega
      · rcases hn2 with ⟨_, h2⟩ | ⟨i2, h2, e2⟩
        · omega
        · have : i = i2 := by omega
          subst this
          rw [h] at h2; exact Option.some.inj h2
    have := F.lex et eu (by omega)
    rw [F.chn t ht, F.chn u hu, hp, lexI_app] at this
    unfold lexI at this
    by_cases q : ((t : Nat) : Int) = u
    · rw [if_pos q] at this; cases this
    · rw [if_neg q] at this
      have := of_decide_eq_true this
      omega
  · rw [List.mem_map, List.mem_filter, List.mem_range]
    constructor
    · rintro ⟨a, ha, rfl⟩
      obtain ⟨j, hj, rfl, hn⟩ := (I.kids e a).mp ha
      obtain ⟨t, ht, et, eg⟩ := F.at hj
      simp only [Nat.add_sub_cancel]
      rw [eg, F.drop ht] at hn
      rw [eg, F.tpos ht]
      refine ⟨ht, decide_eq_true ?_⟩
      rcases hn with ⟨h, rfl⟩ | ⟨i, h, rfl⟩
      · rcases hc with ⟨h2, _⟩ | ⟨i, _, h2⟩
        · rw [h, h2]
        · omega
      · rcases hc with ⟨_, h2⟩ | ⟨i2, h2, e2⟩
        · omega
        · have : i = i2 := by omega
          subst this
          rw [h] at h2; exact Option.some.inj h2
    · rintro ⟨ht, hp⟩
      have hp := of_decide_eq_true hp
      obtain ⟨j, hj⟩ := List.getElem?_of_mem (F.mem.mpr ⟨t, ht, rfl⟩)
      have hj' : j < n := by rw [← F.len]; exact (List.getElem?_eq_some_iff.mp hj).1
      have eg : S.getD j [] = chain t := by rw [List.getD_eq_getElem?_getD, hj]; rfl
      refine ⟨j + 1, (I.kids e (j + 1)).mpr ⟨j, hj', rfl, by rw [eg, F.drop ht, hp]; exact hc⟩, ?_⟩
      rw [Nat.add_sub_cancel, eg, F.tpos ht]
theorem Fst.tree (F : Fst n pre chain S) : ∀ f i, i < n → treeH (hsAt (rws coming S) n).kids (nmOf (rws coming S)) f (i + 1) = treeP n pre chain (fun t => coming.getD t "") f (Mine.tpos (S.getD i []))
  | 0, _, _ => rfl
  | f + 1, i, hi => by
    obtain ⟨t, ht, et, eg⟩ := F.at hi
    have I := F.hinv (coming := coming) n (Nat.le_refl _)
    have hb := F.below (coming := coming) (c := chain t) (e := i + 1) (.inr ⟨i, et, rfl⟩)
    have nm : nmOf (rws coming S) (i + 1) = coming.getD t "" := by
      unfold nmOf
      rw [Nat.add_sub_cancel, rws_at (by rw [F.len]; exact hi), eg, F.tpos ht]
    show PyData.list ((if i + 1 = 0 then [] else [.str (nmOf (rws coming S) (i + 1))]) ++ _) = PyData.list (_ :: _)
    rw [if_neg (by omega), nm, eg, F.tpos ht, ← hb, List.map_map]
    refine congrArg PyData.list (congrArg _ (List.map_congr_left fun c hc => ?_))
    obtain ⟨j, hj, rfl, _⟩ := (I.kids _ c).mp hc
    exact F.tree f j hj
theorem Fst.fin (F : Fst n pre chain S) (f : Nat) : treeH (hsAt (rws coming S) n).kids (nmOf (rws coming S)) (f + 1) 0 = .list (((List.range n).filter fun u => decide (pre u = [])).map (treeP n pre chain (fun t => coming.getD t "") f)) := by
  have I := F.hinv (coming := coming) n (Nat.le_refl _)
  have hb := F.below (coming := coming) (c := []) (e := 0) (.inl ⟨rfl, rfl⟩)
  show PyData.list ((if 0 = 0 then [] else [.str (nmOf (rws coming S) 0)]) ++ _) = PyData.list _
  rw [if_pos rfl, List.nil_append, ← hb, List.map_map]
  refine congrArg PyData.list (List.map_congr_left fun c hc => ?_)
  obtain ⟨j, hj, rfl, _⟩ := (I.kids _ c).mp hc
  exact F.tree f j hj
end
end Mine
end
section
open PySem PySem.W PySem.Calls PyProof.Rows
set_option maxRecDepth 100000
set_option maxHeartbeats 2000000
set_option linter.all false
namespace Mine
/- paths from the root -/
def pathN (up : Nat → Option Nat) : Nat → Nat → List Nat
  | 0, k => [k]
  | f + 1, k => (match up k with | some j => pathN up f j | none => []) ++ [k]
abbrev pth (up : Nat → Option Nat) (k : Nat) : List Nat := pathN up k k
section
variable {up : Nat → Option Nat} (hup : ∀ k j, up k = some j → j < k)
include hup
theorem pathN_eq : ∀ f k, k ≤ f → pathN up f k = pth up k
  | 0, k, h => by
    obtain rfl : k = 0 := by omega
    rfl
  | f + 1, k, h => by
    cases k with
    | zero =>
      have : up 0 = none := by
        cases e : up 0 with
        | none => rfl
        | some j => exact absurd (hup 0 j e) (by omega)
      unfold pth pathN
      rw [this]; rfl
    | succ k =>
      unfold pth pathN
      cases e : up (k + 1) with
      | none => rfl
      | some j =>
        have := hup _ _ e
        dsimp only
        rw [pathN_eq f j (by omega), pathN_eq k j (by omega)]
theorem pth_eq (k : Nat) : pth up k = (match up k with | some j => pth up j | none => []) ++ [k] := by
  rw [← pathN_eq hup (k + 1) k (by omega)]
  show (match up k with | some j => pathN up k j | none => []) ++ [k] = _
  cases e : up k with
  | none => rfl
  | some j =>
    dsimp only
    rw [pathN_eq hup k j (Nat.le_of_lt (hup _ _ e))]
theorem pth_self (k : Nat) : k ∈ pth up k := by rw [pth_eq hup]; exact List.mem_append_right _ (List.mem_singleton.mpr rfl)
theorem pth_le : ∀ k, ∀ i ∈ pth up k, i ≤ k := by
  intro k
  induction k using Nat.strongRecOn with
  | _ k ih =>
    intro i hi
    rw [pth_eq hup] at hi
    rcases List.mem_append.mp hi with hi | hi
    · cases e : up k with
      | none => rw [e] at hi; cases hi
      | some j =>
        rw [e] at hi
        have h1 := hup _ _ e
        have := ih j h1 i hi
        omega
    · rw [List.mem_singleton.mp hi]; exact Nat.le_refl _
theorem pth_rise : ∀ k, (pth up k).Pairwise (· < ·) := by
  intro k
  induction k using Nat.strongRecOn with
  | _ k ih =>
    rw [pth_eq hup, List.pairwise_append]
    cases e : up k with
    | none => exact ⟨.nil, List.pairwise_singleton _ _, fun a h => by cases h⟩
    | some j =>
      have h1 := hup _ _ e
      refine ⟨ih j h1, List.pairwise_singleton _ _, fun a ha b hb => ?_⟩
      rw [List.mem_singleton.mp hb]
      have := pth_le hup j a ha
      omega
theorem pth_pre : ∀ k, ∀ i ∈ pth up k, pth up i <+: pth up k := by
  intro k
  induction k using Nat.strongRecOn with
  | _ k ih =>
    intro i hi
    rw [pth_eq hup] at hi
    rcases List.mem_append.mp hi with hi | hi
    · cases e : up k with
      | none => rw [e] at hi; cases hi
      | some j =>
        rw [e] at hi
        have h1 := hup _ _ e
        have h2 := ih j h1 i hi
        rw [pth_eq hup k, e]
        exact h2.trans (List.prefix_append _ _)
    · rw [List.mem_singleton.mp hi]; exact List.prefix_rfl
theorem pth_iff {a b : Nat} : pth up a <+: pth up b ↔ a ∈ pth up b := ⟨fun h => h.subset (pth_self hup a), pth_pre hup b a⟩
/-- on a path, who is less stands above -/
theorem pth_on {k u v : Nat} (hu : u ∈ pth up k) (hv : v ∈ pth up k) (h : u ≤ v) : u ∈ pth up v := by
  obtain ⟨r, hr⟩ := pth_pre hup k v hv
  rw [← hr] at hu
  rcases List.mem_append.mp hu with hu | hu
  · exact hu
  · have pw := pth_rise hup k
    rw [← hr, List.pairwise_append] at pw
    have := pw.2.2 v (pth_self hup v) u hu
    omega
end
/- names and their parts -/
theorem tl_app (a b : Str) : tl (a ++ b) = tl a ++ tl b := by
  show (a ++ b).cps.toList = _
  rw [Str.cps_append]; simp
theorem tl_dot : tl ("." : Str) = [46] := by
  have : ("." : Str) = ⟨#[46]⟩ := dot_eq
  rw [this]
theorem cut_app : ∀ (l r : List Nat), cut (l ++ 46 :: r) = cut l ++ cut r
  | [], r => by rw [List.nil_append, cut_dot]; rfl
  | a :: l, r => by
    by_cases h : a = 46
    · subst h
      rw [List.cons_append, cut_dot, cut_dot, cut_app l r]; rfl
    · cases e : cut l with
      | nil => exact absurd e (cut_ne l)
      | cons p ps =>
        have e2 : cut (l ++ 46 :: r) = p :: (ps ++ cut r) := by rw [cut_app l r, e]; rfl
        rw [List.cons_append, cut_other h e2, cut_other h e]; rfl
theorem cut_one : ∀ (l : List Nat), (∀ c ∈ l, c ≠ 46) → cut l = [l]
  | [], _ => rfl
  | a :: l, h => by rw [cut_other (h a List.mem_cons_self) (cut_one l fun c hc => h c (List.mem_cons_of_mem _ hc))]
theorem pre_map {α β : Type} {f : α → β} (hf : ∀ a b, f a = f b → a = b) : ∀ {l m : List α}, l.map f <+: m.map f ↔ l <+: m
  | [], m => ⟨fun _ => List.nil_prefix, fun _ => List.nil_prefix⟩
  | a :: l, [] => ⟨fun h => by simp at h, fun h => by simp at h⟩
  | a :: l, b :: m => by
    rw [List.map_cons, List.map_cons, List.cons_prefix_cons, List.cons_prefix_cons, pre_map hf]
    exact ⟨fun h => ⟨hf _ _ h.1, h.2⟩, fun h => ⟨congrArg f h.1, h.2⟩⟩
abbrev rep (i : Nat) : List Nat := List.replicate (i + 1) 109
theorem rep_inj (a b : Nat) (h : rep a = rep b) : a = b := by
  have := congrArg List.length h
  simp at this; exact this
/- what was drawn -/
def upD (xs : List Int) (k : Nat) : Option Nat := if 0 ≤ drUp k (xs.getD k 0) then some (drUp k (xs.getD k 0)).toNat else none
theorem upD_lt (xs : List Int) : ∀ k j, upD xs k = some j → j < k := fun k j h => by
  unfold upD at h
  split at h
  · have := drUp_hi k (xs.getD k 0)
    cases h; omega
  · cases h
def nameF (xs : List Int) (j : Nat) : Str := (drAt xs (j + 1)).names.getD j ""
theorem ups_at (xs : List Int) : ∀ i j, j < i → (drAt xs i).ups.getD j 0 = drUp j (xs.getD j 0)
  | 0, j, h => by omega
  | i + 1, j, h => by
    have hl := (drAt_len xs i).1
    show ((drAt xs i).ups ++ [drUp i (xs.getD i 0)]).getD j 0 = _
    rw [List.getD_eq_getElem?_getD]
    by_cases e : j < i
    · rw [List.getElem?_append_left (by omega), ← List.getD_eq_getElem?_getD]; exact ups_at xs i j e
    · obtain rfl : j = i := by omega
      rw [List.getElem?_append_right (by omega), hl]; simp
theorem names_at (xs : List Int) : ∀ i j, j < i → (drAt xs i).names.getD j "" = nameF xs j
  | 0, j, h => by omega
  | i + 1, j, h => by
    have hl := (drAt_len xs i).2.1
    by_cases e : j < i
    · rw [← names_at xs i j e]
      show ((drAt xs i).names ++ [_]).getD j "" = _
      rw [List.getD_eq_getElem?_getD, List.getElem?_append_left (by omega), ← List.getD_eq_getElem?_getD]
    · obtain rfl : j = i := by omega
      rfl
theorem nameF_eq (xs : List Int) (j : Nat) : nameF xs j = (match upD xs j with | some u => nameF xs u ++ "." | none => "") ++ ms (j + 1) := by
  have hl := (drAt_len xs j).2.1
  show ((drAt xs j).names ++ [dpart (drAt xs j) (drUp j (xs.getD j 0)) ++ ms (j + 1)]).getD j "" = _
  rw [List.getD_eq_getElem?_getD, List.getElem?_append_right (by omega), hl]
  simp only [Nat.sub_self, List.getElem?_cons_zero, Option.getD_some]
  unfold dpart upD
  have := drUp_hi j (xs.getD j 0)
  split
  · rw [names_at xs j _ (by omega)]
  · rfl
theorem name_cut (xs : List Int) : ∀ j, cut (tl (nameF xs j)) = (pth (upD xs) j).map rep := by
  intro j
  induction j using Nat.strongRecOn with
  | _ j ih =>
    have h1 : ∀ c ∈ tl (ms (j + 1)), c ≠ 46 := fun c hc => by
      rw [tl_ms] at hc
      rw [(List.mem_replicate.mp hc).2]; decide
    rw [nameF_eq, pth_eq (upD_lt xs), tl_app]
    cases e : upD xs j with
    | none =>
      have e0 : tl ("" : Str) = [] := by decide +kernel
      dsimp only
      rw [e0, List.nil_append, cut_one _ h1, tl_ms]; rfl
    | some u =>
      dsimp only
      rw [tl_app, tl_dot, List.append_assoc, List.singleton_append, cut_app, ih u (upD_lt xs _ _ e), cut_one _ h1, tl_ms, List.map_append]; rfl
theorem name_chars (xs : List Int) : ∀ j, ∀ c ∈ tl (nameF xs j), c = 109 ∨ c = 46 := by
  intro j
  induction j using Nat.strongRecOn with
  | _ j ih =>
    intro c hc
    rw [nameF_eq, tl_app] at hc
    rcases List.mem_append.mp hc with hc | hc
    · cases e : upD xs j with
      | none =>
        have e0 : tl ("" : Str) = [] := by decide +kernel
        rw [e] at hc; dsimp only at hc; rw [e0] at hc; cases hc
      | some u =>
        rw [e] at hc; dsimp only at hc
        rw [tl_app, tl_dot] at hc
        rcases List.mem_append.mp hc with hc | hc
        · exact ih u (upD_lt xs _ _ e) c hc
        · exact .inr (List.mem_singleton.mp hc)
    · rw [tl_ms] at hc
      exact .inl (List.mem_replicate.mp hc).2
theorem tell_path (xs : List Int) (a b : Nat) : tell [nameF xs a] (nameF xs b) = if a ∈ pth (upD xs) b then 1 else 0 := by
  have h : isAbove (nameF xs a) (nameF xs b) = true ↔ a ∈ pth (upD xs) b := by
    rw [isAbove_iff, ← prefix_map, parts_cut, parts_cut, name_cut, name_cut, pre_map rep_inj, pth_iff (upD_lt xs)]
  unfold tell
  simp only [List.any_cons, List.any_nil, Bool.or_false]
  by_cases e : a ∈ pth (upD xs) b
  · rw [if_pos (h.mpr e), if_pos e]
  · rw [if_neg (fun z => e (h.mp z)), if_neg e]
/-- the order is a change of the numbers -/
theorem order_perm (xs : List Int) : ∀ i, (drAt xs i).order.Perm ((List.range i).map fun k => ((k : Nat) : Int))
  | 0 => .nil
  | i + 1 => by
    rw [List.range_succ, List.map_append]
    show ((drAt xs i).order.take _ ++ ((i : Nat) : Int) :: (drAt xs i).order.drop _).Perm _
    refine (List.perm_middle).trans ?_
    rw [List.take_append_drop]
    refine (List.Perm.cons _ (order_perm xs i)).trans ?_
    exact (List.perm_append_singleton _ _).symm
end Mine
end
section
open PySem PySem.W PySem.Calls PyProof.Rows
set_option maxRecDepth 100000
set_option maxHeartbeats 2000000
set_option linter.all false
namespace Mine
section
variable (xs : List Int)
/-- who stands at a place -/
def oF (i : Nat) : Nat := ((ordD xs).getD i 0).toNat
/-- where one stands -/
def psF (k : Nat) : Nat := (ordD xs).idxOf ((k : Nat) : Int)
def castL (l : List Nat) : List Int := l.map fun k => ((psF xs k : Nat) : Int)
def preF (i : Nat) : List Int := match upD xs (oF xs i) with | some u => castL xs (pth (upD xs) u) | none => []
def chainF (i : Nat) : List Int := castL xs (pth (upD xs) (oF xs i))
def srtF : List (List Int) := ((List.range xs.length).map (chainF xs)).mergeSort fun a b => !lexI b a
variable {xs}
theorem ord_len : (ordD xs).length = xs.length := (drAt_len xs xs.length).2.2
theorem ord_mem {x : Int} : x ∈ ordD xs ↔ ∃ k : Nat, k < xs.length ∧ x = (k : Nat) := by
  rw [(order_perm xs xs.length).mem_iff, List.mem_map]
  constructor
  · rintro ⟨k, hk, rfl⟩; exact ⟨k, List.mem_range.mp hk, rfl⟩
  · rintro ⟨k, hk, rfl⟩; exact ⟨k, List.mem_range.mpr hk, rfl⟩
theorem ord_nodup : (ordD xs).Nodup := (order_perm xs xs.length).nodup_iff.mpr (by
  rw [List.nodup_iff_pairwise_ne, List.pairwise_map]
  refine List.pairwise_lt_range.imp fun {a b} h e => ?_
  omega)
theorem oF_at {i : Nat} (h : i < xs.length) : (ordD xs)[i]? = some ((oF xs i : Nat) : Int) ∧ oF xs i < xs.length := by
  have hi : i < (ordD xs).length := by rw [ord_len]; exact h
  obtain ⟨k, hk, e⟩ := ord_mem.mp (List.getElem_mem hi)
  have : oF xs i = k := by
    unfold oF
    rw [List.getD_eq_getElem?_getD, List.getElem?_eq_getElem hi, Option.getD_some, e]; omega
  rw [this, List.getElem?_eq_getElem hi, e]
  exact ⟨rfl, hk⟩
theorem oF_inj {i j : Nat} (h : i < xs.length) (h2 : j < xs.length) (e : oF xs i = oF xs j) : i = j := by
  have e1 := (oF_at h).1
  have e2 := (oF_at h2).1
  rw [e] at e1
  obtain ⟨hi, e1⟩ := List.getElem?_eq_some_iff.mp e1
  obtain ⟨hj, e2⟩ := List.getElem?_eq_some_iff.mp e2
  have pw := List.pairwise_iff_getElem.mp (ord_nodup (xs := xs))
  rcases Nat.lt_trichotomy i j with q | q | q
  · exact absurd (e1.trans e2.symm) (pw i j hi hj q)
  · exact q
  · exact absurd (e2.trans e1.symm) (pw j i hj hi q)
theorem psF_lt {k : Nat} (h : k < xs.length) : psF xs k < xs.length ∧ oF xs (psF xs k) = k := by
  have hm : ((k : Nat) : Int) ∈ ordD xs := ord_mem.mpr ⟨k, h, rfl⟩
  have hl : psF xs k < (ordD xs).length := List.idxOf_lt_length_iff.mpr hm
  have e := List.getElem_idxOf hl
  refine ⟨by rw [← ord_len (xs := xs)]; exact hl, ?_⟩
  unfold oF
  rw [List.getD_eq_getElem?_getD, List.getElem?_eq_getElem hl, Option.getD_some]
  show ((ordD xs)[(ordD xs).idxOf ((k : Nat) : Int)]).toNat = k
  rw [e]; omega
theorem psF_oF {i : Nat} (h : i < xs.length) : psF xs (oF xs i) = i := by
  have h2 := psF_lt (oF_at h).2
  exact oF_inj h2.1 h h2.2
theorem com_at {i : Nat} (h : i < xs.length) : (comD xs).getD i "" = nameF xs (oF xs i) := by
  unfold comD
  rw [List.getD_eq_getElem?_getD, List.getElem?_map, (oF_at h).1]
  show ((drAt xs xs.length).names.getD ((oF xs i : Nat) : Int).toNat "") = _
  rw [Int.toNat_natCast, names_at xs _ _ (oF_at h).2]
theorem path_lt {k i : Nat} (h : k < xs.length) (hi : i ∈ pth (upD xs) k) : i < xs.length := by
  have := pth_le (upD_lt xs) k i hi; omega
theorem chn (t : Nat) (h : t < xs.length) : chainF xs t = preF xs t ++ [((t : Nat) : Int)] := by
  unfold chainF preF castL
  rw [pth_eq (upD_lt xs), List.map_append, List.map_cons, List.map_nil, psF_oF h]
  cases upD xs (oF xs t) <;> rfl
theorem fst_ok : Fst xs.length (preF xs) (chainF xs) (srtF xs) := by
  have hin : ∀ t < xs.length, ∀ u < xs.length, chainF xs t = chainF xs u → t = u := fun t ht u hu e => by
    rw [chn t ht, chn u hu] at e
    have := congrArg List.getLast? e
    simp at this; omega
  have nd : (srtF xs).Nodup := by
    unfold srtF
    rw [(List.mergeSort_perm _ _).nodup_iff]
    rw [List.nodup_iff_pairwise_ne, List.pairwise_map]
    refine List.pairwise_lt_range.imp_of_mem fun {a b} ha hb hab e => ?_
    have := hin a (List.mem_range.mp ha) b (List.mem_range.mp hb) e
    omega
  refine ⟨chn, fun t ht => ?_, List.mergeSort_perm _ _, ?_⟩
  · unfold preF
    cases e : upD xs (oF xs t) with
    | none => exact .inl rfl
    | some u =>
      have h1 := upD_lt xs _ _ e
      have h2 := (oF_at ht).2
      have h3 := psF_lt (xs := xs) (k := u) (by omega)
      refine .inr ⟨psF xs u, h3.1, ?_⟩
      unfold chainF
      rw [h3.2]
  · have pw := List.pairwise_mergeSort (le := fun a b => !lexI b a) (fun a b c h1 h2 => ?_) (fun a b => ?_) ((List.range xs.length).map (chainF xs))
    · refine (pw.and (List.nodup_iff_pairwise_ne.mp nd)).imp fun {a b} ⟨h1, h2⟩ => ?_
      rcases lexI_tot a b h2 with h | h
      · exact h
      · rw [h] at h1; cases h1
    · cases e : lexI c a with
      | false => rfl
      | true =>
        exfalso
        have h1 : lexI b a = false := by simpa using h1
        have h2 : lexI c b = false := by simpa using h2
        by_cases q : a = b
        · subst q; rw [e] at h2; cases h2
        · rcases lexI_tot a b q with h | h
          · have := lexI_tr _ _ _ e h; rw [this] at h2; cases h2
          · rw [h] at h1; cases h1
    · cases e : lexI b a with
      | false => rfl
      | true => rw [lexI_asym e]; rfl
/- who is told to stand above -/
theorem anc_mem {i : Nat} (hi : i < xs.length) {x : Int} : x ∈ ancI (comD xs) i ↔ ∃ j : Nat, j < xs.length ∧ x = (j : Nat) ∧ oF xs j ∈ pth (upD xs) (oF xs i) := by
  unfold ancI
  rw [comD_len, List.mem_map]
  constructor
  · rintro ⟨j, hj, rfl⟩
    obtain ⟨h1, h2⟩ := List.mem_filter.mp hj
    have h1 := List.mem_range.mp h1
    have h2 := of_decide_eq_true h2
    rw [com_at h1, com_at hi, tell_path] at h2
    refine ⟨j, h1, rfl, ?_⟩
    by_cases q : oF xs j ∈ pth (upD xs) (oF xs i)
    · exact q
    · rw [if_neg q] at h2; cases h2
  · rintro ⟨j, h1, rfl, h2⟩
    refine ⟨j, List.mem_filter.mpr ⟨List.mem_range.mpr h1, decide_eq_true ?_⟩, rfl⟩
    rw [com_at h1, com_at hi, tell_path, if_pos h2]
theorem anc_nodup {names : List Str} {i : Nat} : (ancI names i).Nodup := by
  unfold ancI
  rw [List.nodup_iff_pairwise_ne, List.pairwise_map]
  refine (List.pairwise_lt_range.filter _).imp fun {a b} h e => ?_
  omega
theorem cmp_iff {i : Nat} (hi : i < xs.length) {x y : Int} (hx : x ∈ ancI (comD xs) i) (hy : y ∈ ancI (comD xs) i) : cmpI (comD xs) x y < 0 ↔ oF xs x.toNat < oF xs y.toNat := by
  obtain ⟨a, ha, rfl, pa⟩ := (anc_mem hi).mp hx
  obtain ⟨b, hb, rfl, pb⟩ := (anc_mem hi).mp hy
  unfold cmpI
  rw [Int.toNat_natCast, Int.toNat_natCast, com_at ha, com_at hb, tell_path, tell_path]
  rcases Nat.lt_or_ge (oF xs a) (oF xs b) with h | h
  · have h1 := pth_on (upD_lt xs) pa pb (Nat.le_of_lt h)
    have h2 : oF xs b ∉ pth (upD xs) (oF xs a) := fun z => by
      have := pth_le (upD_lt xs) _ _ z; omega
    rw [if_neg h2, if_pos h1]
    exact ⟨fun _ => h, fun _ => by decide⟩
  · have h1 := pth_on (upD_lt xs) pb pa h
    rw [if_pos h1]
    constructor
    · intro z
      split at z <;> exact absurd z (by decide)
    · intro z; omega
theorem ch_ok : ChOk (comD xs) (chainF xs) := by
  refine ⟨fun i hi => ?_, fun i hi q hp hq => ?_⟩
  · rw [comD_len] at hi
    have mem : ∀ {a : Nat}, a < (ancI (comD xs) i).length → (ancI (comD xs) i).getD a 0 ∈ ancI (comD xs) i := fun h => dec_getD h
    have key : ∀ {a b : Nat}, a < (ancI (comD xs) i).length → b < (ancI (comD xs) i).length → (decide (cmpI (comD xs) ((ancI (comD xs) i).getD a 0) ((ancI (comD xs) i).getD b 0) < 0) = true ↔ oF xs ((ancI (comD xs) i).getD a 0).toNat < oF xs ((ancI (comD xs) i).getD b 0).toNat) := fun h1 h2 => by
      rw [decide_eq_true_iff]; exact cmp_iff hi (mem h1) (mem h2)
    refine ⟨fun a ha => ?_, fun a b c ha hb hc h1 h2 => ?_, fun a b ha hb hab => ?_⟩
    · cases e : decide (cmpI (comD xs) ((ancI (comD xs) i).getD a 0) ((ancI (comD xs) i).getD a 0) < 0) with
      | false => rfl
      | true => exact absurd ((key ha ha).mp e) (Nat.lt_irrefl _)
    · exact (key ha hc).mpr (Nat.lt_trans ((key ha hb).mp h1) ((key hb hc).mp h2))
    · obtain ⟨u, hu, eu, _⟩ := (anc_mem hi).mp (mem ha)
      obtain ⟨v, hv, ev, _⟩ := (anc_mem hi).mp (mem hb)
      have ne : oF xs ((ancI (comD xs) i).getD a 0).toNat ≠ oF xs ((ancI (comD xs) i).getD b 0).toNat := fun z => by
        rw [eu, ev, Int.toNat_natCast, Int.toNat_natCast] at z
        have z := oF_inj hu hv z
        have ez : (ancI (comD xs) i).getD a 0 = (ancI (comD xs) i).getD b 0 := by rw [eu, ev, z]
        rw [List.getD_eq_getElem?_getD, List.getElem?_eq_getElem ha, List.getD_eq_getElem?_getD, List.getElem?_eq_getElem hb] at ez
        have pw := List.pairwise_iff_getElem.mp (anc_nodup (names := comD xs) (i := i))
        rcases Nat.lt_or_gt_of_ne hab with q | q
        · exact pw a b ha hb q ez
        · exact pw b a hb ha q ez.symm
      rcases Nat.lt_or_gt_of_ne ne with q | q
      · exact .inl ((key ha hb).mpr q)
      · exact .inr ((key hb ha).mpr q)
  · rw [comD_len] at hi
    have hpath : ∀ k ∈ pth (upD xs) (oF xs i), k < xs.length := fun k hk => path_lt (oF_at hi).2 hk
    have cr : (chainF xs i).Pairwise fun x y => oF xs x.toNat < oF xs y.toNat := by
      unfold chainF castL
      rw [List.pairwise_map]
      refine (pth_rise (upD_lt xs) (oF xs i)).imp_of_mem fun {a b} ha hb hab => ?_
      rw [Int.toNat_natCast, Int.toNat_natCast, (psF_lt (hpath a ha)).2, (psF_lt (hpath b hb)).2]; exact hab
    refine uniq_sorted (R := fun x y => oF xs x.toNat < oF xs y.toNat) (fun a b h1 h2 => Nat.lt_asymm h1 h2) (hp.trans ?_) (hq.imp_of_mem fun {a b} ha hb h => (cmp_iff hi (hp.mem_iff.mp ha) (hp.mem_iff.mp hb)).mp h) cr
    refine perm_of_mem anc_nodup (nodup_of_lt (R := fun x y : Int => oF xs x.toNat < oF xs y.toNat) (fun a => Nat.lt_irrefl _) cr) fun x => ?_
    rw [anc_mem hi]
    unfold chainF castL
    rw [List.mem_map]
    constructor
    · rintro ⟨j, hj, rfl, h⟩
      exact ⟨oF xs j, h, by rw [psF_oF hj]⟩
    · rintro ⟨k, hk, rfl⟩
      have := psF_lt (hpath k hk)
      exact ⟨psF xs k, this.1, rfl, by rw [this.2]; exact hk⟩
end
end Mine
end
section
open PySem PySem.W PySem.Calls PyProof.Rows
set_option maxRecDepth 100000
set_option maxHeartbeats 2000000
set_option linter.all false
namespace Mine
theorem rise_len (n : Nat) : ∀ (l : List Nat) (lo : Nat), l.Pairwise (· < ·) → (∀ i ∈ l, lo ≤ i ∧ i < n) → l.length ≤ n - lo
  | [], _, _, _ => Nat.zero_le _
  | a :: l, lo, h, hb => by
    have p := List.pairwise_cons.mp h
    have h1 := hb a List.mem_cons_self
    have := rise_len n l (a + 1) p.2 fun i hi => ⟨p.1 i hi, (hb i (List.mem_cons_of_mem _ hi)).2⟩
    rw [List.length_cons]; omega
section
variable {xs : List Int}
theorem ups_eq {k : Nat} (h : k < xs.length) : (upsD xs).getD k 0 = drUp k (xs.getD k 0) := ups_at xs _ _ h
theorem pre_iff {t u : Nat} (ht : t < xs.length) (hu : u < xs.length) : decide (preF xs u = chainF xs t) = decide ((upsD xs).getD (oF xs u) 0 = ((oF xs t : Nat) : Int)) := by
  have F := fst_ok (xs := xs)
  rw [ups_eq (oF_at hu).2]
  refine decide_eq_decide.mpr ?_
  unfold preF
  cases e : upD xs (oF xs u) with
  | none =>
    dsimp only
    constructor
    · intro h; exact absurd h.symm (F.ne ht)
    · intro h
      unfold upD at e
      rw [if_pos (by omega)] at e; cases e
  | some v =>
    dsimp only
    have hv := upD_lt xs _ _ e
    have h2 := (oF_at hu).2
    have h3 := psF_lt (xs := xs) (k := v) (by omega)
    have e2 : drUp (oF xs u) (xs.getD (oF xs u) 0) = ((v : Nat) : Int) := by
      unfold upD at e
      split at e
      · cases e; omega
      · cases e
    have e3 : castL xs (pth (upD xs) v) = chainF xs (psF xs v) := by unfold chainF; rw [h3.2]
    rw [e2, e3]
    constructor
    · intro h
      have := F.inj h3.1 ht h
      rw [← this, h3.2]
    · intro h
      have : v = oF xs t := by omega
      rw [this, psF_oF ht]
theorem root_iff {u : Nat} (hu : u < xs.length) : decide (preF xs u = []) = decide ((upsD xs).getD (oF xs u) 0 < 0) := by
  rw [ups_eq (oF_at hu).2]
  refine decide_eq_decide.mpr ?_
  unfold preF
  cases e : upD xs (oF xs u) with
  | none =>
    dsimp only
    refine ⟨fun _ => ?_, fun _ => rfl⟩
    unfold upD at e
    split at e
    · cases e
    · omega
  | some v =>
    dsimp only
    constructor
    · intro h
      unfold castL at h
      rw [pth_eq (upD_lt xs)] at h
      simp at h
    · intro h
      unfold upD at e
      rw [if_neg (by omega)] at e; cases e
theorem ord_eq : ordD xs = (List.range xs.length).map fun i => ((oF xs i : Nat) : Int) := by
  refine List.ext_getElem? fun i => ?_
  rw [List.getElem?_map]
  by_cases h : i < xs.length
  · rw [(oF_at h).1, List.getElem?_range h]; rfl
  · rw [List.getElem?_eq_none (by rw [ord_len]; omega), List.getElem?_eq_none (by simp; omega)]; rfl
theorem ord_pick (P : Int → Bool) (g : Int → PyData) : ((ordD xs).filter P).map g = ((List.range xs.length).filter fun u => P ((oF xs u : Nat) : Int)).map fun u => g ((oF xs u : Nat) : Int) := by
  rw [ord_eq, List.filter_map, List.map_map]; rfl
theorem tree_eq : ∀ f t, t < xs.length → treeP xs.length (preF xs) (chainF xs) (fun t => (comD xs).getD t "") f t = treeD (upsD xs) (nmsD xs) (ordD xs) f (oF xs t)
  | 0, _, _ => rfl
  | f + 1, t, ht => by
    have hn : (nmsD xs).getD (oF xs t) "" = (comD xs).getD t "" := by rw [com_at ht, ← names_at xs _ _ (oF_at ht).2]
    show PyData.list (.str ((comD xs).getD t "") :: _) = PyData.list (.str ((nmsD xs).getD (oF xs t) "") :: _)
    rw [hn, ord_pick]
    refine congrArg PyData.list (congrArg _ ?_)
    have hf : (List.range xs.length).filter (fun u => decide (preF xs u = chainF xs t)) = (List.range xs.length).filter fun u => decide ((upsD xs).getD (((oF xs u : Nat) : Int)).toNat 0 = ((oF xs t : Nat) : Int)) :=
      List.filter_congr fun u hu => by rw [Int.toNat_natCast]; exact pre_iff ht (List.mem_range.mp hu)
    rw [hf]
    refine List.map_congr_left fun u hu => ?_
    have hu := List.mem_range.mp (List.mem_filter.mp hu).1
    rw [tree_eq f u hu, Int.toNat_natCast]
theorem roots_eq : ((List.range xs.length).filter fun u => decide (preF xs u = [])).map (treeP xs.length (preF xs) (chainF xs) (fun t => (comD xs).getD t "") xs.length) = rootsD xs := by
  unfold rootsD
  rw [ord_pick]
  have hf : (List.range xs.length).filter (fun u => decide (preF xs u = [])) = (List.range xs.length).filter fun u => decide ((upsD xs).getD (((oF xs u : Nat) : Int)).toNat 0 < 0) :=
    List.filter_congr fun u hu => by rw [Int.toNat_natCast]; exact root_iff (List.mem_range.mp hu)
  rw [hf]
  refine List.map_congr_left fun u hu => ?_
  have hu := List.mem_range.mp (List.mem_filter.mp hu).1
  rw [tree_eq _ u hu, Int.toNat_natCast]
theorem name_ok (j : Nat) : PyData.strOk (nameF xs j) = true := by
  unfold PyData.strOk
  rw [Array.all_eq_true]
  intro i hi
  have : (nameF xs j).cps[i] ∈ tl (nameF xs j) := by
    show _ ∈ (nameF xs j).cps.toList
    exact Array.getElem_mem_toList hi
  rcases name_chars xs j _ this with h | h <;> rw [h] <;> decide
theorem name_not (j : Nat) : nameF xs j ≠ "<string>" := fun z => by
  have h : (60 : Nat) ∈ tl ("<string>" : Str) := by decide +kernel
  rw [← z] at h
  rcases name_chars xs j _ h with h | h <;> cases h
theorem com_nms (h : xs.length ≤ 15) : Nms (comD xs) := by
  refine ⟨by rw [comD_len]; omega, fun x hx => ?_⟩
  obtain ⟨i, hi⟩ := List.getElem?_of_mem hx
  have hlt : i < xs.length := by rw [← comD_len xs]; exact (List.getElem?_eq_some_iff.mp hi).1
  have e : x = nameF xs (oF xs i) := by
    rw [← com_at hlt, List.getD_eq_getElem?_getD, hi]; rfl
  rw [e]
  refine ⟨⟨?_, name_ok _⟩, name_not _⟩
  rw [← names_at xs xs.length _ (oF_at hlt).2]
  have := names_len xs xs.length h (oF xs i)
  omega
theorem law_ok (h : xs.length ≤ 15) : LawOk xs (chainF xs) (srtF xs) := by
  have F := fst_ok (xs := xs)
  have hc := comD_len xs
  have hr : (rowsD (comD xs) (srtF xs)).length = xs.length := F.rlen
  have cg : ∀ i, i < xs.length → ((List.range xs.length).map (chainF xs)).getD i [] = chainF xs i := fun i hi => by
    rw [List.getD_eq_getElem?_getD, List.getElem?_map, List.getElem?_range hi]; rfl
  refine ⟨by omega, com_nms h, ch_ok, ?_, ?_, fun c hc' => ?_, by rw [F.len]; omega, F.dep, ?_, fun j hj => ?_, fun j hj => ?_, fun k => ?_, ?_⟩
  · rw [hc, List.length_map, List.length_range]
    refine ⟨fun i hi => lexI_irr _, fun i j k hi hj hk h1 h2 => lexI_tr _ _ _ h1 h2, fun i j hi hj hij => ?_⟩
    rw [cg i hi, cg j hj]
    exact lexI_tot _ _ fun e => hij (F.inj hi hj e)
  · rw [hc]
    intro q hp hq
    refine uniq_sorted (R := fun x y => lexI x y = true) (fun a b h1 h2 => ?_) (hp.trans F.perm.symm) hq F.srt
    rw [lexI_asym h1] at h2; cases h2
  · obtain ⟨t, ht, rfl⟩ := F.mem.mp hc'
    refine ⟨((t : Nat) : Int), ?_, by omega, by rw [hc, Int.toNat_natCast]; exact ht, ?_⟩
    · rw [chn t ht]; simp
    · unfold chainF castL
      rw [List.length_map]
      have h1 := pth_rise (upD_lt xs) (oF xs t)
      have h2 : ∀ i ∈ pth (upD xs) (oF xs t), i < 16 := fun i hi => by
        have := path_lt (oF_at ht).2 hi; omega
      have h3 := rise_len 16 _ 0 h1 (fun i hi => ⟨Nat.zero_le _, h2 i hi⟩)
      omega
  · rw [hr]
    exact fun e _ => F.kid e
  · obtain ⟨k, hk, rfl⟩ := ord_mem.mp hj
    exact ⟨by omega, by rw [Int.toNat_natCast]; exact hk⟩
  · rw [ups_eq hj]; exact drUp_hi _ _
  · by_cases hk : k < xs.length
    · rw [names_at xs _ _ hk]; exact name_ok k
    · rw [List.getD_eq_getElem?_getD, List.getElem?_eq_none (by rw [(drAt_len xs xs.length).2.1]; omega)]
      decide +kernel
  · rw [hr]
    have := F.fin (coming := comD xs) xs.length
    rw [roots_eq] at this
    exact this
end
end Mine
end
section
open PySem PySem.W PySem.W.X PySem.Calls PyProof.Rows PySem.Spec
set_option maxRecDepth 100000
set_option maxHeartbeats 8000000
set_option linter.all false
namespace Mine
abbrev tbL : Tb := [((118 : Addr), TK.code qChains)]
abbrev offL : List Addr := [118]
section
variable {W : Wd} {s s' : Shared}
theorem start_ok (KX : (K1 W).In s.heap) : Ok (K1 W) offL tbL [] s := by
  have g1 : s.heap.get? 118 = some (tabObj #[]) := KX 118 _ rfl
  refine ⟨(fun _ h => nomatch h), all1 ⟨#[], g1, trivial, (fun pos cv h => nomatch h)⟩, fun a o e n => vis_mk (KX a o e) n (fun h => nomatch h)⟩
theorem start_rp (KX : (K1 W).In s.heap) {v : Value} {d : PyData} (r : Rp s.heap v d) : Rp (vis tbL [] s.heap) v d := by
  have g1 : s.heap.get? 118 = some (tabObj #[]) := KX 118 _ rfl
  refine r.seqs fun b o hd g => vis_mk g (fun z => ?_) (fun h => nomatch h)
  have z : b ∈ ([118] : List Addr) := z
  have z := List.mem_singleton.mp z
  subst z
  rw [g1] at g; cases g
  rcases hd with ⟨_, _, hd⟩ | ⟨_, _, hd⟩ <;> cases hd
theorem tab_old {c P : Addr} (C : CodeHd s.heap c P) (hP : s.heap.get? P = some (tabObj #[])) (h : ∃ ps, s'.heap.get? P = some (tabObj ps)) : ∀ o, s.heap.get? P = some o → asItWas s.heap s'.heap P o := fun o g => by
  rw [hP] at g; cases g
  obtain ⟨ps, hps⟩ := h
  refine .inr (.inl ⟨(C.tab hP).isCodeTable, rfl, #[], ps, rfl, ?_⟩)
  rw [hps]; simp
theorem end_old (KX : (K1 W).In s.heap) (x : ExtO tbL [23] s s') (t : TabOk s'.heap 23 .any) : OldK s.heap s'.heap := by
  have O := start_ok KX
  have tp : TopOk (K1 W) offL s.heap := O.top.sub (vis_below _ _ _)
  have g23 : s.heap.get? 23 = some (tabObj #[]) := KX 23 _ rfl
  have g1 : s.heap.get? 118 = some (tabObj #[]) := KX 118 _ rfl
  obtain ⟨p23, h23, _⟩ := t
  obtain ⟨p1, h1, _⟩ := x.tab (118, .code qChains) (by simp) (O.tabs _ (by simp))
  have key : ∀ b o, s.heap.get? b = some o → asItWas s.heap s'.heap b o ∧ ∃ o', s'.heap.get? b = some o' := fun b o g => by
    by_cases hb : b ∈ ([118] : List Addr)
    · have hb := List.mem_singleton.mp hb
      subst hb
      exact ⟨tab_old (code120 tp (by decide)) g1 ⟨p1, h1⟩ o g, _, h1⟩
    · by_cases hb3 : b = 23
      · subst hb3
        exact ⟨tab_old (code27 tp (by decide)) g23 ⟨p23, h23⟩ o g, _, h23⟩
      · have := x.keep b o hb (fun z => hb3 (List.mem_singleton.mp z)) g
        exact ⟨.inl this, o, this⟩
  exact ⟨fun b o g => (key b o g).1, fun b o g => (key b o g).2⟩
theorem in_cons {K : Frag} {h : Heap} {a : Addr} {o : Obj} (g : h.get? a = some o) (k : K.In h) : Frag.In ((a, o) :: K) h := fun b o' e => by
  have e : List.lookup b ((a, o) :: K) = some o' := e
  by_cases z : b = a
  · subst z; simp at e; subst e; exact g
  · have y : (b == a) = false := by simpa using z
    simp only [List.lookup, y] at e
    exact k b o' e
theorem room_caller : Room callerA 62 := ⟨rfl, by decide, by decide⟩
end
end Mine
open Mine in
theorem Mine.law_true : PySem.Challenge.rw_mr0152_02.Holds := by
  refine hdx ?_
  intro w s₀ s₁ mg mb G Y fa o pm cd doc dV kV ho hd hcd hD hmg hg args vals as hpre hlay hrd hwl hlo
  have KX := kIn_of Y
  have T := G.T
  clear hd hcd hD ho
  x_fa T KX hmg
  obtain ⟨o0, es0, n0, g0, d0, k0, f0⟩ := T.b
  obtain ⟨mm, ⟨o1, es1, n1, g1, _⟩, _⟩ := (T.seer (by rfl)).mods
  obtain ⟨bm, o4, hbm, _, g4, c4⟩ := T.bmain
  have h4 := mg_of KX T.g (rfl : nsIn (K0 w.params) mainGlobals "__builtins__" = some (some (.ref 4)))
  rw [h4] at hbm
  cases hbm
  have bi : ∀ x : Str, x ≠ "__name__" → mb x = bootBuiltins x := T.builtins
  have b1 : mb "len" = some (.builtin "len") := (bi _ (by decide)).trans (by kernel_rfl)
  have b2 : mb "range" = some (.type "range") := (bi _ (by decide)).trans (by kernel_rfl)
  have b3 : mb "set" = some (.type "set") := (bi _ (by decide)).trans (by kernel_rfl)
  have b4 : mb "iter" = some (.builtin "iter") := (bi _ (by decide)).trans (by kernel_rfl)
  have b5 : mb "enumerate" = some (.type "enumerate") := (bi _ (by decide)).trans (by kernel_rfl)
  have b6 : mb "sorted" = some (.builtin "sorted") := (bi _ (by decide)).trans (by kernel_rfl)
  have b7 : mb "object" = some (.type "object") := (bi _ (by decide)).trans (by kernel_rfl)
  have b8 : mb "__build_class__" = some (.builtin "__build_class__") := (bi _ (by decide)).trans (by kernel_rfl)
  obtain ⟨W, hW⟩ : ∃ W : Wd, (K1 W).In s₁.heap := ⟨⟨w.params, o0, o1, o4, mb, es0, n0, d0, k0, f0, c4, b1, b2, b3, b4, b5, b6, b7, b8⟩,
    in_cons g0 (in_cons g1 (in_cons g4 KX))⟩
  clear KX Y
  wrow_args hpre hlay hrd hwl hlo
  rename_i ns _ _ _ _ _ _ _ a _ _ _ _ _ r0 _ _ hlen _
  have hlen' : ns.length ≤ 63 := by
    have : ¬ ((63 : Nat) : Int) < (ns.length : Int) := hlen
    omega
  refine wpAny_mono (E := NoE) ?_ (fun _ _ z => z) fun _ _ z => z.elim
  refine call_law (W := W) (k := 1) (ns := ns) (law_ok (by
    rw [List.length_append]
    show (ns.take 5).length + 6 ≤ 15
    have := List.length_take_le 5 ns
    omega)) hlen' room_caller (start_ok hW) (by decide) (by decide) (by decide) (by simp) (by simp) (start_rp hW ⟨_, r0⟩) fun s' x t => ?_
  refine ⟨.inl ⟨.bool true, .bool true, [], rfl, fun _ => rfl, .bool _, (by wrow_post), fun _ => ⟨List.nodup_nil, fun _ h => nomatch h⟩⟩, end_old hW x t, x.os, ?_⟩
  rw [x.gens, hg]
  exact fun i hi => by simp at hi
end

theorem PySem.Challenge.cw_mr0152_02_holds : PySem.Challenge.rw_mr0152_02.Holds :=
  Mine.law_true
