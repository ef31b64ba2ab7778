import PyProof.Rows.All
import Wide.All
import OpenK.AllK
import Wide.FinOn
import PySem.Challenge.RW_mr0152_01
set_option Elab.async false
section
open PySem PySem.W PySem.Calls PyProof.Rows
set_option maxRecDepth 100000
namespace Mine

/- sets of texts -/
theorem orStandIn_led (t : SetTable) (n : Nat) : (t.orStandIn n).led = t.led := by unfold SetTable.orStandIn; split <;> rfl
theorem orStandIn_plain (t : SetTable) (n : Nat) (h : t.plain = false) : (t.orStandIn n).plain = false := by unfold SetTable.orStandIn; split; exact h; rfl
theorem layNew_led (t : SetTable) (es : Array (Int × Value)) (h : Int) (x : Value) : (layNew t es h x).2.1.led = t.led := by
  unfold layNew
  split
  · rename_i slot d e
    exact orStandIn_led (t.put slot).1 _
  · rfl
theorem layNew_plain (t : SetTable) (es : Array (Int × Value)) (h : Int) (x : Value) (hp : t.plain = false) : (layNew t es h x).2.1.plain = false := by
  unfold layNew
  split
  · rename_i slot d e
    exact orStandIn_plain (t.put slot).1 _ hp
  · rfl
theorem laid_led {mask finger moves : Nat} {led plain : Bool} {hs : Array Int} {r : SetTable × Array Nat} (h : SetTable.laid mask finger moves led plain hs = some r) : r.1.led = led ∧ r.1.plain = plain := by
  unfold SetTable.laid at h
  cases e : SetTable.layClean mask hs with
  | none => rw [e] at h; cases h
  | some o => rw [e] at h; cases h; exact ⟨rfl, rfl⟩
theorem relayAll_led (t : SetTable) (es : Array (Int × Value)) (n : Nat) : (relayAll t es n).2.1.led = t.led := by
  unfold relayAll
  split
  · rename_i t' order e
    have := laid_led e
    dsimp only
    split
    · exact this.1
    · rfl
  · rfl
theorem relayAll_plain (t : SetTable) (es : Array (Int × Value)) (n : Nat) (hp : t.plain = false) : (relayAll t es n).2.1.plain = false := by
  unfold relayAll
  split
  · rename_i t' order e
    have := laid_led e
    dsimp only
    split
    · exact this.2.trans hp
    · rfl
  · rfl

structure SetIs (prog : Program) (w : World) (h : Heap) (a : Addr) (S : Str → Bool) (n : Nat) (es : Array (Int × Value)) (ep : Nat) (t : SetTable) : Prop where
  obj : h.get? a = some { cls := .type "set", dict := none, data := .set es ep t }
  el : ElemsOf (strKind prog w) es.toList
  mem : ∀ k, S k = true ↔ ∃ e ∈ es.toList, (strKind prog w).is k e.2 = true
  small : es.size ≤ n
  fits : t.fits es.size = true
  led : t.led = true ∨ w.params.followText "set-order" = true
  plain : t.plain = false ∨ es.size = 0

def StrSet (prog : Program) (w : World) (h : Heap) (a : Addr) (S : Str → Bool) (n : Nat) : Prop := ∃ es ep t, SetIs prog w h a S n es ep t
theorem StrSet.at {prog : Program} {w : World} {h h' : Heap} {a : Addr} {S : Str → Bool} {n : Nat} (x : StrSet prog w h a S n) (k : ∀ o, h.get? a = some o → h'.get? a = some o) : StrSet prog w h' a S n :=
  let ⟨es, ep, t, y⟩ := x; ⟨es, ep, t, k _ y.obj, y.el, y.mem, y.small, y.fits, y.led, y.plain⟩
theorem StrSet.congr {prog : Program} {w : World} {h : Heap} {a : Addr} {S S' : Str → Bool} {n n' : Nat} (x : StrSet prog w h a S n) (e : ∀ k, S k = S' k) (hn : n ≤ n') : StrSet prog w h a S' n' := by
  obtain ⟨es, ep, t, y⟩ := x
  exact ⟨es, ep, t, y.obj, y.el, fun k => by rw [← e k]; exact y.mem k, Nat.le_trans y.small hn, y.fits, y.led, y.plain⟩
theorem StrSet.setOf {prog : Program} {w : World} {h : Heap} {a : Addr} {S : Str → Bool} {n : Nat} (x : StrSet prog w h a S n) (hn : n < scanBound) : ∃ m, h.SetOf (strKind prog w) a S m := by
  obtain ⟨es, ep, t, y⟩ := x
  exact ⟨es.size, _, es, ep, t, y.obj, ⟨rfl, rfl, rfl⟩, rfl, y.el, y.mem, Nat.lt_of_le_of_lt y.small hn, y.fits, rfl⟩

section
variable {prog : Program} {w : World} {A : Around} {E : Value → Shared → Prop} {s : Shared}

theorem stored_set {h : Heap} {a : Addr} {es es' : Array (Int × Value)} {ep : Nat} {t t' : SetTable} (ho : h.get? a = some { cls := .type "set", dict := none, data := .set es ep t }) :
    (h.update a (Obj.putSet es' t')).get? a = some { cls := .type "set", dict := none, data := .set es' (ep + 1) t' } := by
  have := Heap.get?_update_self (Obj.putSet es' t') ho (by rw [putSet_of es' t' rfl]; rfl)
  rw [putSet_of es' t' rfl] at this; exact this

theorem add_str {a : Addr} {S : Str → Bool} {n : Nat} {x : Str} {tk : Tok} {Q : Bool → Shared → Prop} (hS : StrSet prog w s.heap a S n) (hroom : n + 1 < scanBound)
    (h : ∀ b h', Heap.SameBut a s.heap h' → StrSet prog w h' a (fun k' => S k' || decide (k' = x)) (n + 1) → Q b { s with heap := h' }) :
    wpAny (model prog w) A (setAddHashed a (.str x tk) ((strKind prog w).hash x)) Q E s := by
  obtain ⟨es, ep, t, y⟩ := hS
  have hkey : (strKind prog w).is x (.str x tk) = true := by show Value.isStrOf x (.str x tk) = true; simp [Value.isStrOf]
  have hsc : (Value.str x tk).scannable = true := rfl
  have hb : es.size < scanBound := by have := y.small; omega
  have ho := y.obj
  unfold setAddHashed setAddHashedIn
  refine wpAny_holding (wpAny_bind (wpAny_setState_of ho rfl y.fits ?_))
  dsimp only
  rw [byScan_of hsc hb y.el]
  simp only [↓reduceIte]
  unfold setAddByScan
  refine wpAny_bind ?_
  refine wpAny_bind (wpAny_rule ?_)
  refine wpAny_bind (wpAny_setScan_of hkey ho rfl y.fits y.el ?_)
  cases hr : List.findIdx? (fun e => (strKind prog w).is x e.2) es.toList with
  | some j =>
    dsimp only
    obtain ⟨hj, hpj, _⟩ := List.findIdx?_eq_some_iff_getElem.mp hr
    have hSk : S x = true := (y.mem x).mpr ⟨es.toList[j], List.getElem_mem hj, hpj⟩
    refine wpAny_pure (wpAny_pure ?_)
    have e : s = { s with heap := s.heap } := by cases s; rfl
    have := h false s.heap (Heap.SameBut.refl a s.heap) ⟨es, ep, t, y.obj, y.el, fun k' => by
      rw [Bool.or_eq_true, decide_eq_true_eq, ← y.mem k']
      exact ⟨fun hk => hk.elim id (fun e => e ▸ hSk), .inl⟩, Nat.le_succ_of_le y.small, y.fits, y.led, y.plain⟩
    rw [e]; exact this
  | none =>
    dsimp only
    have hgw : ∀ (b : Bool) {s₁ : Shared} {Q' : Unit → Shared → Prop}, Q' () s₁ → wpAny (model prog w) A (match b with | true => rule "set.scan.the-table-gave-way" | false => pure ()) Q' E s₁ :=
      fun b s₁ Q' hq => by cases b <;> first | exact wpAny_pure hq | exact wpAny_rule hq
    have hperm := layNew_perm t es ((strKind prog w).hash x) (.str x tk)
    have hfits := layNew_fits t es ((strKind prog w).hash x) (.str x tk)
    have hled := layNew_led t es ((strKind prog w).hash x) (.str x tk)
    generalize hL : layNew t es ((strKind prog w).hash x) (.str x tk) = L at hperm hfits hled ⊢
    obtain ⟨es1, t1, wasDummy, gave⟩ := L
    dsimp only at hperm hfits hled ⊢
    rw [Array.toList_push] at hperm
    have hel1 : ElemsOf (strKind prog w) es1.toList := (y.el.push hkey hsc).perm hperm
    have hmem1 : ∀ k', (S k' || decide (k' = x)) = true ↔ ∃ e ∈ es1.toList, (strKind prog w).is k' e.2 = true := mem_push_iff hkey y.mem hperm
    have hsz1 : es1.size = es.size + 1 := by rw [← Array.length_toList, hperm.length_eq, List.length_append, Array.length_toList]; rfl
    have hb1 : es1.size < scanBound := by have := y.small; omega
    refine wpAny_bind (hgw _ ?_)
    -- the rest, for a table that is no more plain
    have tail : ∀ t2 : SetTable, t2.fits es1.size = true → t2.led = t.led → t2.plain = false → wpAny (model prog w) A (do
        storeSet a es1 t2
        if (!wasDummy && t2.tooFull) = true then do
            (match (relayAll t2 es1 (SetTable.grown es1.size)).2.2 with | true => rule "set.scan.the-table-gave-way" | false => pure ())
            storeSet a (relayAll t2 es1 (SetTable.grown es1.size)).1 (relayAll t2 es1 (SetTable.grown es1.size)).2.1
            pure (some true)
          else pure (some true)) (fun r s' => ∃ h', s' = { s with heap := h' } ∧ r = some true ∧ Heap.SameBut a s.heap h' ∧ StrSet prog w h' a (fun k' => S k' || decide (k' = x)) (n + 1)) E s := by
      intro t2 f2 l2 p2
      refine wpAny_bind (wpAny_storeSet_of ho rfl ?_ (fits_of_scanBound hb1))
      have ho1 := stored_set (es' := es1) (t' := t2) ho
      have hsb1 := Heap.SameBut.update s.heap a (Obj.putSet es1 t2)
      have hn1 : es1.size ≤ n + 1 := by have := y.small; omega
      split
      · have hp := relayAll_perm t2 es1 (SetTable.grown es1.size)
        have hfr := relayAll_fits t2 es1 (SetTable.grown es1.size)
        have hlr := relayAll_led t2 es1 (SetTable.grown es1.size)
        have hpr := relayAll_plain t2 es1 (SetTable.grown es1.size) p2
        generalize hRl : relayAll t2 es1 (SetTable.grown es1.size) = Rl at hp hfr hlr hpr ⊢
        obtain ⟨es2, t3, gave2⟩ := Rl
        dsimp only at hp hfr hlr hpr ⊢
        have hsz : es2.size = es1.size := by rw [← Array.length_toList, hp.length_eq, Array.length_toList]
        refine wpAny_bind (hgw _ ?_)
        refine wpAny_bind (wpAny_storeSet_of (s := { s with heap := s.heap.update a (Obj.putSet es1 t2) }) ho1 rfl ?_ (fits_of_scanBound (by omega)))
        refine wpAny_pure ⟨_, rfl, rfl, hsb1.trans (Heap.SameBut.update _ a _), es2, ep + 1 + 1, t3, stored_set ho1, hel1.perm hp, fun k' => (hmem1 k').trans ⟨fun ⟨e, he, q⟩ => ⟨e, hp.mem_iff.mpr he, q⟩, fun ⟨e, he, q⟩ => ⟨e, hp.mem_iff.mp he, q⟩⟩, by omega, hfr, ?_, .inl hpr⟩
        rw [hlr, l2]; exact y.led
      · refine wpAny_pure ⟨_, rfl, rfl, hsb1, es1, ep + 1, t2, ho1, hel1, hmem1, hn1, f2, ?_, .inl p2⟩
        rw [l2]; exact y.led
    have fin : ∀ {r : Option Bool} {s' : Shared}, (∃ h', s' = { s with heap := h' } ∧ r = some true ∧ Heap.SameBut a s.heap h' ∧ StrSet prog w h' a (fun k' => S k' || decide (k' = x)) (n + 1)) →
        wpAny (model prog w) A (match r with | some b => pure b | none => setAddHashedIn a (.str x tk) ((strKind prog w).hash x) 99999) Q E s' := by
      rintro r s' ⟨h', rfl, rfl, hsb, hS'⟩
      exact wpAny_pure (h true h' hsb hS')
    split
    · refine wpAny_bind ?_
      rw [hashByValue_scannable 8 hsc]
      refine wpAny_pure ?_
      show wpAny _ A _ _ _ _
      refine wpAny_mono (tail { t1 with plain := false } (SetTable.fits_plain_off hfits) hled rfl) (fun r s' z => ?_) fun _ _ z => z
      exact fin z
    · rename_i hpl
      refine wpAny_bind (wpAny_pure ?_)
      simp only [↓reduceIte]
      refine wpAny_mono (tail t1 hfits hled (by simpa using hpl)) (fun r s' z => ?_) fun _ _ z => z
      exact fin z
end
end Mine
end
section
open PySem PySem.W PySem.Calls PyProof.Rows
set_option maxRecDepth 100000
namespace Mine
section
variable {prog : Program} {w : World} {A : Around} {E : Value → Shared → Prop} {s : Shared}

theorem code_set_made (a : Value) {Q₁ : Value → Shared → Prop}
    (h : ∀ led : Bool, (led = true ∨ w.params.followText "set-order" = true) → Q₁ (.ref s.heap.objs.size) { s with heap := s.heap.push { cls := .type "set", dict := none, data := .set #[] 0 (.fresh 0 0 led) } }) :
    codeAny (model prog w) A (.call (.builtin "set.__new__") ⟨[.type "set", a], []⟩) (wants Q₁ E) s := by
  refine codeAny_of_tree ?_
  show wpAny _ A.in1 (do checkBuiltinCall "set.__new__" ⟨[.type "set", a], []⟩; again (.builtin "set.__new__" ⟨[.type "set", a], []⟩)) _ _ s
  refine wpAny_bind (wpAny_of_eq (PySem.F.newCall_set_1 a) (wpAny_pure ⟨plainId_quiet PySem.F.plain_set_new _, codeAny_builtin PySem.F.entry_set_new ?_⟩))
  rw [Around.under_plainId PySem.F.plain_set_new _]
  unfold Builtin.«set.__new__» Builtin.Frozenset.newClass
  have hsub := sub_set_self
  obtain ⟨hp, g, d, tk, os⟩ := s
  dsimp only
  wp_walk
  refine wpAny_askSetting (wpAny_pure ?_)
  dsimp only
  simp only [newObj]
  refine wpAny_bind (wpAny_alloc (wpAny_pure ?_))
  refine wpAny_pure (h _ ?_)
  show (!(model prog w).w.params.followText "set-order") = true ∨ _
  cases e : w.params.followText "set-order" with
  | true => exact .inr rfl
  | false => left; show (!w.params.followText "set-order") = true; rw [e]; rfl

variable {I : Addr} {fp wr : List Addr} {G : Array GenState → Array GenState → Prop} {n : Nat} {P : Nat → Value → Prop} {St : Nat → Shared → Prop} {R : Result → Shared → Prop}
theorem set_update_strs (W : WalksS prog w A.in1 I fp wr G n P St) (S : Addr) (hSf : S ∉ fp) (val : Nat → Str) (hval : ∀ i v, P i v → ∃ t, v = .str (val i) t) (hb : n + 1 < scanBound) :
    ∀ (k i : Nat) (s : Shared), n - i = k → i ≤ n → St i s → StrSet prog w s.heap S (fun k' => ((List.range i).map val).any (· == k')) i →
      (∀ s', Moved (S :: wr) G s s' → StrSet prog w s'.heap S (fun k' => ((List.range n).map val).any (· == k')) n → R (.ok (.ret .none)) s') →
      codeAny (model prog w) A (.builtin "set.update.loop" ⟨[.ref S, .ref I], []⟩) R s := by
  have hSw : S ∉ wr := fun h => hSf (W.sub _ h)
  have hsub : ∀ b ∈ wr, b ∈ S :: wr := fun b hb => List.mem_cons_of_mem _ hb
  intro k
  induction k with
  | zero =>
    intro i s hk hi hst hS hR
    have hin : i = n := by omega
    subst hin
    refine codeAny_builtin PyProof.Rows.F.entry_set_update_loop ?_
    rw [Around.under_plainId PyProof.Rows.F.plain_set_update_loop _]
    show wpAny _ A.in1 (pyNext (.ref I) >>= _) _ _ s
    refine wpAny_bind (W.done s _ _ hst fun s' hm => ?_)
    show wpAny _ A.in1 (ret Value.none) _ _ s'
    exact wpAny_pure (hR s' (hm.mono hsub) (hS.at fun o e => hm.heap S o hSw e))
  | succ k ih =>
    intro i s hk hi hst hS hR
    have hlt : i < n := by omega
    refine codeAny_builtin PyProof.Rows.F.entry_set_update_loop ?_
    rw [Around.under_plainId PyProof.Rows.F.plain_set_update_loop _]
    show wpAny _ A.in1 (pyNext (.ref I) >>= _) _ _ s
    refine wpAny_bind (W.item i s _ _ hlt hst fun v s' hP hst' hm => ?_)
    obtain ⟨t, rfl⟩ := hval i v hP
    have hS' := hS.at (h' := s'.heap) fun o e => hm.heap S o hSw e
    show wpAny _ A.in1 (holding [Value.str (val i) t] (setAdd S (.str (val i) t)) >>= _) _ _ s'
    refine wpAny_bind (wpAny_holding ?_)
    unfold setAdd
    refine wpAny_holding ?_
    refine wpAny_bind ((strKind prog w).pyHash (k := val i) (by show Value.isStrOf (val i) (.str (val i) t) = true; simp [Value.isStrOf]) ?_)
    refine add_str (s := { s' with toks := s'.toks + 1 }) hS' (by omega) fun b h' hsb hS2 => ?_
    have hSi : StrSet prog w h' S (fun k' => ((List.range (i + 1)).map val).any (· == k')) (i + 1) := by
      refine hS2.congr (fun k' => ?_) (Nat.le_refl _)
      rw [List.range_succ, List.map_append, List.any_append]
      simp [eq_comm, Bool.beq_eq_decide_eq]
    refine wpAny_pure ⟨plainId_quiet PyProof.Rows.F.plain_set_update_loop _, ih (i + 1) _ (by omega) hlt (W.frame _ s' _ _ hst' (Nat.le_succ _) fun b hb o e => ?_) hSi fun s'' hm'' hS'' => ?_⟩
    · rw [hsb.2 b (fun h : b = S => hSf (by rw [← h]; exact hb))]; exact e
    · refine hR s'' (Moved.trans W.gtrans ((hm.mono hsub).then_heap (Nat.le_succ _) fun b o hb e => ?_) hm'') hS''
      rw [hsb.2 b (fun h : b = S => hb (by rw [h]; exact List.mem_cons_self))]; exact e
end

section
variable {prog : Program} {w : World} {A : Around} {E : Value → Shared → Prop} {s : Shared}
set_option maxHeartbeats 3200000 in
theorem call_set_strs {l : Addr} {items : Array Value} {xs : List Str} {Q : Value → Shared → Prop}
    (hh : A.handled = none) (hl : s.heap.IsList l items) (hi : ∃ q : List (Str × Tok), items.toList = strValues q ∧ q.map (·.1) = xs) (hb : xs.length + 1 < scanBound)
    (h : ∀ (h' : Heap) (tk : Nat), StrSet prog w h' s.heap.objs.size (fun k' => xs.any (· == k')) xs.length →
      (∀ b o, b < s.heap.objs.size → s.heap.get? b = some o → h'.get? b = some o) → Q (.ref s.heap.objs.size) { s with heap := h', toks := tk }) :
    wpAny (model prog w) A (call (.type "set") [.ref l]) Q E s := by
  obtain ⟨q, hq, hqx⟩ := hi
  have hsz : items.size = xs.length := by rw [← Array.length_toList, hq, ← hqx]; simp [strValues]
  have hval : ∀ (i : Nat) (v : Value), items[i]? = some v → ∃ t, v = .str ((fun i => xs.getD i "") i) t := fun i v hv => by
    rw [← Array.getElem?_toList, hq] at hv
    simp only [strValues, List.getElem?_map, Option.map_eq_some_iff] at hv
    obtain ⟨p, hp, rfl⟩ := hv
    refine ⟨p.2, ?_⟩
    have : xs[i]? = some p.1 := by rw [← hqx, List.getElem?_map, hp]; rfl
    show Value.str p.1 p.2 = .str (xs.getD i "") p.2
    rw [List.getD_eq_getElem?_getD, this]; rfl
  have hall : (List.range items.size).map (fun i => xs.getD i "") = xs := by
    refine List.ext_getElem (by simp [hsz]) fun i h1 h2 => ?_
    simp [List.getD_eq_getElem?_getD, List.getElem?_eq_getElem h2]
  obtain ⟨c, tl, hmro⟩ := PySem.F.called_set.mro
  have hmade := PySem.F.called_set.made
  have hsub := PySem.F.called_set.sub
  refine wpAny_call (codeAny_of_tree ?_)
  show wpAny _ _ (callAny (.type "set") _) _ _ _
  refine wpAny_pure ⟨Code.quiet_builtin _ (by decide +kernel), codeAny_builtin PySem.F.entry_type_call ?_⟩
  rw [Around.under_plain (weight_type_call_type "set" [.ref l] []) rfl]
  have h1 := PySem.F.called_set.notType
  have h2 := PySem.F.called_set.canCreate
  have hct := PySem.F.typeCall_set_1 (.ref l)
  repeat (any_goals (first | assumption | wp_step))
  refine codeAny_mono (code_set_made (.ref l) (E := E) (Q₁ := fun obj s₁ => ∃ led : Bool, (led = true ∨ w.params.followText "set-order" = true) ∧ obj = .ref s.heap.objs.size ∧ s₁ = { s with heap := s.heap.push { cls := .type "set", dict := none, data := .set #[] 0 (.fresh 0 0 led) } }) fun led hled => ⟨led, hled, rfl, rfl⟩) fun r s₁ hr => ?_
  cases r with
  | error e => exact hr
  | ok fl =>
    cases fl with
    | ret obj =>
      obtain ⟨led, hled, rfl, rfl⟩ := hr
      have hS : (s.heap.push { cls := .type "set", dict := none, data := .set #[] 0 (.fresh 0 0 led) }).get? s.heap.objs.size = some { cls := .type "set", dict := none, data := .set #[] 0 (.fresh 0 0 led) } := Heap.get?_push_size _ rfl
      have hT : Shared.TypeIs { s with heap := s.heap.push { cls := .type "set", dict := none, data := .set #[] 0 (.fresh 0 0 led) } } (.ref s.heap.objs.size) "set" := ⟨_, hS, rfl⟩
      have hli := PySem.F.called_set.init.lookup
      have hbi := PySem.F.called_set.init.bind (.ref s.heap.objs.size)
      repeat (any_goals (first | assumption | wp_step))
      refine codeAny_mono (codeAny_call_builtin (R := wants (fun r s₂ => r = .none ∧ ∃ h' tk, s₂ = { s with heap := h', toks := tk } ∧
          StrSet prog w h' s.heap.objs.size (fun k' => xs.any (· == k')) xs.length ∧
          (∀ b o, b < s.heap.objs.size → s.heap.get? b = some o → h'.get? b = some o)) E) PySem.F.called_set.init.plain PySem.F.entry_set_init (check_set_init_1 hT ?_)) fun r₂ s₂ hr₂ => ?_
      · obtain ⟨ol, hol, hcl, nl, hdl⟩ := hl
        obtain ⟨ocls, odict, odata, oslots⟩ := ol
        simp only at hcl hdl
        subst hcl; subst hdl
        have hol' : (s.heap.push { cls := .type "set", dict := none, data := .set #[] 0 (.fresh 0 0 led) }).get? l = some { cls := .type "list", dict := odict, data := .seq items nl, slots := oslots } := Heap.get?_push_of_some _ hol
        have hsls := PySem.F.sub_list_set
        have hslf := PySem.F.sub_list_frozenset
        have hne : (Value.type "list" == Value.type "dict") = false := by decide
        have hl1 : (s.heap.push { cls := .type "set", dict := none, data := .set #[] 0 (.fresh 0 0 led) }).IsList l items := ⟨_, hol', rfl, nl, rfl⟩
        unfold Builtin.«set.__init__» noKeywords Builtin.Frozenset.updateFrom
        generalize hPI : pyIter = PI
        wp_walk
        subst hPI
        refine wpAny_pyIter_list hl1 ?_
        refine wpAny_bind (wpAny_runValue ?_)
        have hlS : l < s.heap.objs.size := Heap.lt_size hol
        have hh3 : A.in1.in1.in1.handled = none := by simp [hh]
        have hneI : l ≠ (s.heap.push { cls := .type "set", dict := none, data := .set #[] 0 (.fresh 0 0 led) }).objs.size := by
          rw [Heap.size_push]; exact Nat.ne_of_lt (Nat.lt_succ_of_lt hlS)
        have hSf : s.heap.objs.size ∉ [(s.heap.push { cls := .type "set", dict := none, data := .set #[] 0 (.fresh 0 0 led) }).objs.size, l] := by
          rw [Heap.size_push]; simp only [List.mem_cons, List.mem_singleton, List.not_mem_nil, or_false, not_or]
          exact ⟨Nat.ne_of_lt (Nat.lt_succ_self _), Nat.ne_of_gt hlS⟩
        refine set_update_strs ((Walks.list hh3 _ l hneI items).toS) s.heap.objs.size
          hSf (fun i => xs.getD i "") hval (by omega) (items.size - 0) 0 _ (by omega) (Nat.zero_le _)
          ⟨⟨_, Heap.get?_push_size _ rfl, rfl, rfl⟩, (hl1.push _)⟩ ?hS0 ?hR
        case hS0 =>
          have hget : ((s.heap.push { cls := .type "set", dict := none, data := .set #[] 0 (.fresh 0 0 led) }).push { cls := .type "list_iterator", data := .fields #[.ref l, .int 0 0] }).get? s.heap.objs.size
              = some { cls := .type "set", dict := none, data := .set #[] 0 (.fresh 0 0 led) } := Heap.get?_push_of_some _ hS
          exact ⟨#[], 0, _, hget, fun e he => by simp at he, fun k => by simp, by simp, rfl, hled, .inr rfl⟩
        case hR =>
          intro s' hm hS'
          rw [hall, hsz] at hS'
          obtain ⟨h', g', d', tk', os'⟩ := s'
          have eg : g' = s.gens := hm.gens
          have ed : d' = s.drawn := hm.drawn
          have eo : os' = s.os := hm.os
          subst eg; subst ed; subst eo
          show wpAny _ _ _ _ _ _
          refine wpAny_pure ?_
          show wpAny _ _ (ret Value.none) _ _ _
          refine wpAny_pure ⟨rfl, h', tk', rfl, hS', fun b o hb e => ?_⟩
          have hb1 : b ≠ s.heap.objs.size := Nat.ne_of_lt hb
          have hb2 : b ≠ (s.heap.push { cls := .type "set", dict := none, data := .set #[] 0 (.fresh 0 0 led) }).objs.size := by
            rw [Heap.size_push]; exact Nat.ne_of_lt (Nat.lt_succ_of_lt hb)
          exact hm.heap b o (by simp only [List.mem_cons, List.mem_singleton, List.not_mem_nil, or_false, not_or]; exact ⟨hb1, hb2⟩) (Heap.get?_push_of_some _ (Heap.get?_push_of_some _ e))
      · cases r₂ with
        | error e => exact hr₂
        | ok fl₂ =>
          cases fl₂ with
          | ret r =>
            obtain ⟨rfl, h', tk, rfl, hS', hk'⟩ := hr₂
            repeat (any_goals (first | assumption | wp_step))
            exact h _ _ hS' hk'
          | _ => exact hr₂.elim
    | _ => exact hr.elim
end
end Mine
end
section
open PySem PySem.W PySem.Calls PyProof.Rows
set_option maxRecDepth 100000
namespace Mine

theorem erase_perm {α : Type} : ∀ (l : List α) (i : Nat) (h : i < l.length), (l[i] :: l.eraseIdx i).Perm l
  | [], _, h => by cases h
  | x :: r, 0, _ => List.Perm.refl _
  | x :: r, i + 1, h => (List.Perm.swap _ _ _).trans (List.Perm.cons _ (erase_perm r i (Nat.lt_of_succ_lt_succ h)))
section
variable {M : Model} {A : Around} {E : Value → Shared → Prop} {s : Shared}
theorem wpAny_choose {src : Source} {n : Nat} {Q : Nat → Shared → Prop} (hn : n ≠ 0) (h : ∀ i d, i < n → Q i { s with drawn := d }) : wpAny M A (choose src n) Q E s := fun Γ p hΓ => by
  unfold choose
  rw [Sem.wp_choose]
  exact ⟨hn, h _ _ (Nat.mod_lt _ (Nat.pos_of_ne_zero hn))⟩
theorem wpAny_drawOrder {α : Type} : ∀ (n : Nat) (xs : List α) (s : Shared) (Q : List α → Shared → Prop), xs.length = n → (∀ ys d, ys.Perm xs → Q ys { s with drawn := d }) → wpAny M A (drawOrder n xs) Q E s
  | 0, xs, s, Q, hl, h => by
    obtain rfl := List.length_eq_zero_iff.mp hl
    unfold drawOrder
    exact wpAny_pure (h [] s.drawn (List.Perm.refl _))
  | n + 1, [], s, Q, hl, h => by cases hl
  | n + 1, x :: r, s, Q, hl, h => by
    unfold drawOrder
    refine wpAny_bind (wpAny_choose (by simp) fun i d hi => ?_)
    rw [List.getElem?_eq_getElem hi]
    dsimp only
    refine wpAny_bind (wpAny_drawOrder n _ _ _ (by rw [List.length_eraseIdx_of_lt hi, hl]; rfl) fun ys d' hp => wpAny_pure ?_)
    refine h _ d' ?_
    exact (List.Perm.cons _ hp).trans (erase_perm _ _ hi)
end

theorem pick_go {α : Type} (next : Nat → Nat) : ∀ (fuel k : Nat) (left : List α) (out : Array α), left.length = fuel → (pickOrder.go next fuel k left out).toList.Perm (out.toList ++ left)
  | 0, k, left, out, h => by
    obtain rfl := List.length_eq_zero_iff.mp h
    unfold pickOrder.go; simp
  | fuel + 1, k, left, out, h => by
    unfold pickOrder.go
    have hi : next k % left.length < left.length := Nat.mod_lt _ (by omega)
    rw [List.getElem?_eq_getElem hi]
    dsimp only
    refine (pick_go next fuel (k + 1) _ _ (by rw [List.length_eraseIdx_of_lt hi, h]; rfl)).trans ?_
    rw [Array.toList_push, List.append_assoc]
    exact List.Perm.append_left _ (erase_perm _ _ hi)
theorem pick_perm {α : Type} (next : Nat → Nat) (xs : Array α) : (pickOrder next xs).toList.Perm xs.toList := by
  unfold pickOrder
  simpa using pick_go next xs.size 0 xs.toList #[] (by simp)

abbrev byText (w : World) : Bool := w.params.followText "set-order"
abbrev itObj (first : Value) (i : Nat) (a : Addr) (n ep : Nat) : Obj := { cls := .type "set_iterator", data := .fields #[first, .int i 0, .ref a, .int n 0, .int ep 0] }
abbrev tupObj (vs : List Value) : Obj := { cls := .type "tuple", data := .seq vs.toArray }

/-- a walk over a set: it stands ahead of its i-th item -/
structure SetIt (w : World) (h : Heap) (I a : Addr) (ord : List Value) (i : Nat) : Prop where
  ex : ∃ (es : Array (Int × Value)) (ep : Nat) (t : SetTable) (first : Value), h.get? I = some (itObj first i a es.size ep) ∧ h.get? a = some { cls := .type "set", dict := none, data := .set es ep t } ∧ t.fits es.size = true ∧
    ((byText w = true ∧ (∃ k : Nat, first = .int k 0) ∧ ord = (pickOrder (w.params.setOrder a ep) es).toList.map (·.2)) ∨
     (byText w = false ∧ ∃ (T : Addr) (places : List Nat), first = .ref T ∧ h.get? T = some (tupObj (places.map fun (j : Nat) => rawInt j)) ∧ (∀ j ∈ places, j < es.size) ∧ ord = places.map fun j => (es.getD j (0, .none)).2) ∨
     (byText w = false ∧ (es.size = 0 ∨ (es.size = 1 ∧ t.led = true ∧ t.plain = false)) ∧ ord = es.toList.map (·.2) ∧ first = .int ((if i = 0 then 0 else t.place.getD 0 0 + 1 : Nat) : Int) 0))

theorem SetIt.keeps {w : World} {h h' : Heap} {I a : Addr} {ord : List Value} {i : Nat} (x : SetIt w h I a ord i) (k : ∀ b o, (∀ es n, o.data ≠ .dict es n) → h.get? b = some o → h'.get? b = some o) : SetIt w h' I a ord i := by
  obtain ⟨es, ep, t, first, h1, h2, h3, h4⟩ := x
  refine ⟨es, ep, t, first, k _ _ (fun _ _ z => by cases z) h1, k _ _ (fun _ _ z => by cases z) h2, h3, ?_⟩
  rcases h4 with h4 | ⟨b, T, p, z1, z2, z3⟩ | h4
  · exact .inl h4
  · exact .inr (.inl ⟨b, T, p, z1, k _ _ (fun _ _ z => by cases z) z2, z3⟩)
  · exact .inr (.inr h4)

theorem slot_setiter_next : Slot "set_iterator" "__next__" "set_iterator.__next__" :=
  .of (owner := "set_iterator") (n := "__next__") (by rw [typeLookup_type, builtinLookup_eq_fast]; kernel_rfl) (by decide +kernel) (by decide +kernel) (by decide +kernel)
    (by first | exact .inl (by decide +kernel) | exact .inr (by decide +kernel)) (by rw [isSubtype_type]; kernel_rfl)
theorem entry_setiter_next : entryFor table "set_iterator.__next__" = some Builtin.«set_iterator.__next__» := entryFor_of_fast (by kernel_rfl)
theorem args_setiter_next (a : Value) : argsOk "set_iterator.__next__" ⟨[a], []⟩ := by unfold argsOk; kernel_rfl
theorem entry_set_iter : entryFor table "set.__iter__" = some Builtin.«frozenset.__iter__» :=
  entryFor_alias (id' := "frozenset.__iter__") (by kernel_rfl) rfl (by decide +kernel) (by kernel_rfl)

section
variable {prog : Program} {w : World} {A : Around} {E : Value → Shared → Prop} {s : Shared}

theorem set_iter {a : Addr} {es : Array (Int × Value)} {ep : Nat} {t : SetTable} {Q : Value → Shared → Prop} (ho : s.heap.get? a = some { cls := .type "set", dict := none, data := .set es ep t }) (hf : t.fits es.size = true)
    (hl : t.led = true ∨ byText w = true ∨ es.size = 0) (hp : t.plain = false ∨ es.size = 0) (hsz : es.size ≤ 4096)
    (h : ∀ I ord h' d, ord.Perm (es.toList.map (·.2)) → (∀ b o, s.heap.get? b = some o → h'.get? b = some o) → s.heap.get? I = none → SetIt w h' I a ord 0 → Q (.ref I) { s with heap := h', drawn := d }) :
    wpAny (model prog w) A (pyIter (.ref a)) Q E s := by
  have hT : s.TypeIs (.ref a) "set" := ⟨_, ho, rfl⟩
  refine wpAny_pyIter_slot hT F.slot_set_iter (wpAny_call_entry F.slot_set_iter hT entry_set_iter ?_ (F.args_set_iter_1 _))
  unfold Builtin.«frozenset.__iter__» Builtin.Frozenset.slot0 Builtin.Frozenset.sizeOf
  refine wpAny_bind (wpAny_bind (wpAny_pure (wpAny_pure ?_)))
  refine wpAny_bind (wpAny_bind (wpAny_setEntries_of ho rfl hf (wpAny_pure ?_)))
  refine wpAny_bind ?_
  refine wpAny_bind ?_
  refine wpAny_setState_of ho rfl hf ?_
  refine wpAny_bind (wpAny_bind (wpAny_askSetting (wpAny_pure ?_)))
  refine wpAny_pure ?_
  dsimp only
  generalize hb : (!(_ : Bool) && _) = b
  have hb' : (!byText w && (!t.plain && decide (es.size > 1))) = b := hb
  clear hb
  have fin : ∀ (first : Value) (s₁ : Shared) (h₁ : Heap) (d : Drawn) (ord : List Value), s₁ = { s with heap := h₁, drawn := d } → ord.Perm (es.toList.map (·.2)) → (∀ b o, s.heap.get? b = some o → h₁.get? b = some o) → s.heap.objs.size ≤ h₁.objs.size →
      SetIt w (h₁.push (itObj first 0 a es.size ep)) h₁.objs.size a ord 0 →
      wpAny (model prog w) A.in1 (do
              let __do_lift ← setEpoch a
              let __do_lift ← newFields "set_iterator" [first, rawInt 0, Value.ref a, rawInt ↑es.size, rawInt ↑__do_lift]
              ret __do_lift) (fun fin s' => ∃ v, fin = Fin.done (Flow.ret v) ∧ ∃ T' r, s'.TypeIs v T' ∧ typeLookup (Value.type T') (Str.ofString "__next__") = pure (some r) ∧ Q v s') E s₁ := by
    rintro first s₁ h₁ d ord rfl hperm hk hsz1 hit
    refine wpAny_bind (wpAny_setEpoch_of (s := { s with heap := h₁, drawn := d }) (hk _ _ ho) rfl hf ?_)
    refine wpAny_bind (wpAny_newObj_type (wpAny_pure ⟨_, rfl, "set_iterator", _, ⟨_, Heap.get?_push_size _ rfl, rfl⟩, slot_setiter_next.lookup, ?_⟩))
    refine h _ ord _ d hperm (fun b o e => Heap.get?_push_of_some _ (hk b o e)) ?_ hit
    cases hg : s.heap.get? h₁.objs.size with
    | none => rfl
    | some o => exact absurd hsz1 (Nat.not_le.mpr (Heap.lt_size hg))
  have gI : ∀ (h₁ : Heap) (first : Value), (h₁.push (itObj first 0 a es.size ep)).get? h₁.objs.size = some (itObj first 0 a es.size ep) := fun h₁ first => Heap.get?_push_size _ rfl
  cases b with
  | true =>
    simp only [Bool.and_eq_true, Bool.not_eq_true', decide_eq_true_eq] at hb'
    simp only [if_true]
    refine wpAny_bind (wpAny_drawOrder es.size (List.range es.size) s _ (by simp) fun ys d hperm => ?_)
    refine wpAny_bind (wpAny_newObj_type ?_ ?_)
    · have hlt : ∀ j ∈ ys, j < es.size := fun j hj => List.mem_range.mp (hperm.mem_iff.mp hj)
      refine fin _ _ _ d (ys.map fun j => (es.getD j (0, .none)).2) rfl ?_ (fun b o e => Heap.get?_push_of_some _ e) (by rw [Heap.size_push]; exact Nat.le_succ _) ⟨es, ep, t, _, gI _ _, Heap.get?_push_of_some _ (Heap.get?_push_of_some _ ho), hf, .inr (.inl ⟨hb'.1, s.heap.objs.size, ys, rfl, Heap.get?_push_of_some _ (Heap.get?_push_size _ rfl), hlt, rfl⟩)⟩
      have : (es.toList.map (·.2)) = (List.range es.size).map fun j => (es.getD j (0, .none)).2 := by
        refine List.ext_getElem (by simp) fun i h1 h2 => ?_
        simp at h1
        simp [Array.getD, h1]
      rw [this]
      exact hperm.map _
    · show (ys.map fun (i : Nat) => rawInt i).toArray.size ≤ sizeLine
      have := hperm.length_eq
      simp at this ⊢
      have hz : sizeLine = 2 ^ 24 := rfl
      omega
  | false =>
    simp only [Bool.false_eq_true, if_false]
    refine wpAny_bind (wpAny_pure ?_)
    cases hbt : byText w with
    | true =>
      refine fin _ s s.heap s.drawn _ (by cases s; rfl) ((pick_perm (w.params.setOrder a ep) es).map _) (fun _ _ e => e) (Nat.le_refl _) ⟨es, ep, t, _, gI _ _, Heap.get?_push_of_some _ ho, hf, .inl ⟨hbt, ⟨0, rfl⟩, rfl⟩⟩
    | false =>
      rw [hbt] at hb' hl
      have hsz0 : es.size = 0 ∨ (es.size = 1 ∧ t.led = true ∧ t.plain = false) := by
        rcases hp with hp | hp
        · rw [hp] at hb'
          simp at hb'
          have : es.size = 0 ∨ es.size = 1 := by omega
          rcases this with z | z
          · exact .inl z
          · rcases hl with l | l | l
            · exact .inr ⟨z, l, hp⟩
            · cases l
            · omega
        · exact .inl hp
      refine fin _ s s.heap s.drawn _ (by cases s; rfl) (List.Perm.refl _) (fun _ _ e => e) (Nat.le_refl _) ⟨es, ep, t, _, gI _ _, Heap.get?_push_of_some _ ho, hf, .inr (.inr ⟨hbt, hsz0, rfl, rfl⟩)⟩

theorem setiter_tail {I a : Addr} {i n ep next : Nat} {first x : Value} {Q : Option Value → Shared → Prop} {E' : Value → Shared → Prop} (hI : s.heap.get? I = some (itObj first i a n ep))
    (h : ∀ h', h'.get? I = some (itObj (.int next 0) (i + 1) a n ep) → Heap.ExtBut I s.heap h' → Q (some x) { s with heap := h' }) :
    wpAny (model prog w) A.in1 (do
          setField (Value.ref I) 0 (rawInt ↑next)
          setField (Value.ref I) 1 (rawInt (↑i + 1))
          ret x) (fun fin s' => ∃ v, fin = Fin.done (Flow.ret v) ∧ wpAny (model prog w) A (pure (some v)) Q E s') E' s := by
  refine wpAny_bind (wpAny_setField_rec hI (by simp) fun h1 g1 b1 => ?_)
  refine wpAny_bind (wpAny_setField_rec (s := { s with heap := h1 }) g1 (by simp) fun h2 g2 b2 => ?_)
  refine wpAny_pure ⟨x, rfl, wpAny_pure (h h2 ?_ (b1.trans b2).extBut)⟩
  rw [g2]
  simp [rawInt]
theorem setiter_end {I : Addr} {cls : Value} {vs : Array Value} {Q : Option Value → Shared → Prop} (hh : A.handled = none) (hI : s.heap.get? I = some { cls := cls, dict := none, data := .fields vs, slots := #[] }) (hn : 2 < vs.size)
    (h : ∀ h', Heap.ExtBut I s.heap h' → Q none { s with heap := h' }) :
    wpAny (model prog w) A.in1 (do
          setField (Value.ref I) 2 Value.none
          let __do_lift ← newExc (Value.type "StopIteration") []
          (raiseNew __do_lift : Sem Fin)) (fun fin s' => ∃ v, fin = Fin.done (Flow.ret v) ∧ wpAny (model prog w) A (pure (some v)) Q E s')
      (fun e s' => wpAny (model prog w) A (do
          let __do_lift ← isInstance e (Value.type "StopIteration")
          if __do_lift = true then pure none else throw e) Q E s') s := by
  refine wpAny_bind (wpAny_setField_rec hI hn fun h1 g1 b1 => ?_)
  refine wpAny_bind ?_
  simp only [newExc, newTuple]
  refine wpAny_bind (wpAny_newObj_type ?_ (by size_fits))
  refine wpAny_bind (m := firstArgMember _ _) (wpAny_of_eq (a := Value.none) (by first | rfl | (simp only [firstArgMember]; rfl)) ?_)
  refine wpAny_newObj_type ?_ (by size_fits)
  simp only [raiseNew]
  refine wpAny_bind (wpAny_handled ?_)
  rw [show A.in1.handled = none from hh]
  refine wpAny_bind (wpAny_pure (wpAny_throw ?_))
  refine wpAny_bind (wpAny_isInstance (T := "StopIteration") (b := true) ⟨_, Heap.get?_push_size _ rfl, rfl⟩ isSubtype_stop ?_)
  exact wpAny_pure (h _ ((b1.extBut.push _).push _))

theorem below_one (p : Nat) : SetTable.below #[p] 0 = 0 ∧ SetTable.below #[p] (p + 1) = 1 := by
  constructor
  · simp [SetTable.below, SetTable.below.go]
  · simp [SetTable.below, SetTable.below.go]

theorem wpAny_setNext {I a : Addr} {es : Array (Int × Value)} {ep : Nat} {t : SetTable} {ord : List Value} {slot i : Nat} {Q : Option (Value × Nat) → Shared → Prop}
    (ha : s.heap.get? a = some { cls := .type "set", dict := none, data := .set es ep t }) (hf : t.fits es.size = true)
    (hm : (byText w = true ∧ ord = (pickOrder (w.params.setOrder a ep) es).toList.map (·.2)) ∨
      (byText w = false ∧ (es.size = 0 ∨ (es.size = 1 ∧ t.led = true ∧ t.plain = false)) ∧ ord = es.toList.map (·.2) ∧ slot = if i = 0 then 0 else t.place.getD 0 0 + 1))
    (h1 : ∀ v next, ord[i]? = some v → (byText w = true ∨ next = t.place.getD 0 0 + 1) → Q (some (v, next)) s) (h2 : ord[i]? = none → Q none s) : wpAny (model prog w) A (setNext a slot i ep) Q E s := by
  unfold setNext
  refine wpAny_bind (wpAny_setState_of ha rfl hf ?_)
  dsimp only
  unfold setsByText
  refine wpAny_bind (wpAny_bind (wpAny_askSetting (wpAny_pure ?_)))
  rcases hm with ⟨hb, rfl⟩ | ⟨hb, hs, rfl, rfl⟩
  · rw [show (model prog w).w.params.followText "set-order" = true from hb]
    simp only [if_true]
    rw [if_neg (by simp)]
    refine wpAny_bind ?_
    unfold setWalk
    refine wpAny_bind (wpAny_setState_of ha rfl hf ?_)
    dsimp only
    unfold setsByText
    refine wpAny_bind (wpAny_bind (wpAny_askSetting (wpAny_pure ?_)))
    rw [show (model prog w).w.params.followText "set-order" = true from hb]
    simp only [if_true]
    refine wpAny_bind (wpAny_askSetting (wpAny_pure (wpAny_pure ?_)))
    show Q (((pickOrder (w.params.setOrder a ep) es)[i]?).map fun e => (e.2, slot)) s
    cases hg : (pickOrder (w.params.setOrder a ep) es)[i]? with
    | none => exact h2 (by simp [hg])
    | some e => exact h1 _ _ (by simp [hg]) (.inl hb)
  · rw [show (model prog w).w.params.followText "set-order" = false from hb]
    simp only [Bool.false_eq_true, if_false]
    have hd : (!t.plain && decide (es.size > 1)) = false := by
      rcases hs with z | z <;> simp [z]
    split
    · rename_i z
      have z : (!t.plain && decide (es.size > 1)) = true := z
      rw [hd] at z; cases z
    · refine wpAny_bind ?_
      have hl : (!t.led && !es.isEmpty) = false := by
        rcases hs with z | z
        · have : es = #[] := Array.size_eq_zero_iff.mp z
          simp [this]
        · simp [z.2.1]
      refine (show wpAny (model prog w) A (if (!t.led && !es.isEmpty) = true then (unsupported "set:maker-not-led" : Sem Unit) else pure ()) _ E s from ?_)
      rw [if_neg (by rw [hl]; decide)]
      refine wpAny_pure (wpAny_pure ?_)
      have hps : t.place.size = es.size := by
        simp only [SetTable.fits, Bool.and_eq_true, beq_iff_eq] at hf; exact hf.1
      rcases hs with z | ⟨z, _⟩
      · have e0 : es = #[] := Array.size_eq_zero_iff.mp z
        subst e0
        exact h2 (by simp)
      · obtain ⟨e, rfl⟩ : ∃ e, es = #[e] := Array.size_eq_one_iff.mp z
        obtain ⟨q, hq⟩ : ∃ e, t.place = #[e] := Array.size_eq_one_iff.mp (by rw [hps]; rfl)
        rw [hq] at h1 ⊢
        by_cases hi : i = 0
        · subst hi
          simp only [if_true, (below_one q).1]
          exact h1 e.2 (q + 1) rfl (.inr rfl)
        · rw [if_neg hi]
          have : (#[q] : Array Nat).getD 0 0 = q := rfl
          rw [this, (below_one q).2]
          exact h2 (by simp; omega)

theorem set_next_item {I a : Addr} {ord : List Value} {i : Nat} {v : Value} {Q : Option Value → Shared → Prop} (x : SetIt w s.heap I a ord i) (hv : ord[i]? = some v)
    (h : ∀ h', Heap.ExtBut I s.heap h' → SetIt w h' I a ord (i + 1) → Q (some v) { s with heap := h' }) : wpAny (model prog w) A (pyNext (.ref I)) Q E s := by
  obtain ⟨es, ep, t, first, hI, ha, hf, hm⟩ := x
  have hT : s.TypeIs (.ref I) "set_iterator" := ⟨_, hI, rfl⟩
  have hIa : a ≠ I := fun z => by rw [z, hI] at ha; simp at ha
  unfold pyNext
  refine wpAny_bind (wpAny_attempt (wpAny_callSpecial?_slot (name := Str.ofString "__next__") hT slot_setiter_next (wpAny_call_entry slot_setiter_next hT entry_setiter_next ?_ (args_setiter_next _))))
  unfold Builtin.«set_iterator.__next__»
  refine wpAny_bind (wpAny_pure ?_)
  refine wpAny_bind (wpAny_bind (wpAny_load hI (wpAny_pure ?_)))
  dsimp only
  refine wpAny_bind (wpAny_setEntries_of ha rfl hf ?_)
  rw [if_neg (by simp)]
  rcases hm with ⟨hb, ⟨k, rfl⟩, ho⟩ | ⟨hb, T, places, rfl, hTo, hlt, rfl⟩ | ⟨hb, hs, ho, rfl⟩
  · dsimp only
    simp only [Int.toNat_natCast]
    refine wpAny_bind (wpAny_setNext (I := I) (ord := ord) ha hf (.inl ⟨hb, ho⟩) (fun v' next hv' _ => ?_) fun z => by rw [hv] at z; cases z)
    rw [hv] at hv'; cases hv'
    dsimp only
    refine setiter_tail hI fun h' g e => h h' e ⟨es, ep, t, _, g, e _ _ hIa ha, hf, .inl ⟨hb, ⟨next, rfl⟩, ho⟩⟩
  · dsimp only
    refine wpAny_bind (wpAny_seqItems hTo rfl ?_)
    dsimp only
    simp only [List.getElem?_map, Option.map_eq_some_iff] at hv
    obtain ⟨j, hj, rfl⟩ := hv
    simp only [Int.toNat_natCast, List.getElem?_toArray, List.getElem?_map, hj, Option.map_some, rawInt]
    have hjl : j < es.size := hlt j (List.mem_of_getElem? hj)
    unfold setNextDrawn
    refine wpAny_bind (wpAny_bind (wpAny_setState_of ha rfl hf ?_))
    dsimp only
    rw [if_neg (by simp)]
    simp only [Int.toNat_natCast, Array.getElem?_eq_getElem hjl]
    refine wpAny_pure ?_
    have hTI : T ≠ I := fun z => by rw [z, hI] at hTo; simp at hTo
    refine wpAny_bind (wpAny_setField_rec hI (by simp) fun h2 g2 b2 => ?_)
    refine wpAny_pure ⟨_, rfl, wpAny_pure ?_⟩
    have hval : (es.getD j (0, Value.none)).2 = es[j].2 := by simp [Array.getD, hjl]
    rw [hval] at h
    refine h h2 b2.extBut ⟨es, ep, t, _, ?_, b2.extBut _ _ hIa ha, hf, .inr (.inl ⟨hb, T, places, rfl, b2.extBut _ _ hTI hTo, hlt, rfl⟩)⟩
    rw [g2]
    simp [rawInt]
  · dsimp only
    simp only [Int.toNat_natCast]
    refine wpAny_bind (wpAny_setNext (I := I) (ord := ord) ha hf (.inr ⟨hb, hs, ho, rfl⟩) (fun v' next hv' hn => ?_) fun z => by rw [hv] at z; cases z)
    rw [hv] at hv'; cases hv'
    dsimp only
    have hn : next = t.place.getD 0 0 + 1 := hn.resolve_left (by rw [hb]; decide)
    refine setiter_tail hI fun h' g e => h h' e ⟨es, ep, t, _, g, e _ _ hIa ha, hf, .inr (.inr ⟨hb, hs, ho, ?_⟩)⟩
    rw [hn, if_neg (by omega)]

theorem set_next_end {I a : Addr} {ord : List Value} {i : Nat} {Q : Option Value → Shared → Prop} (hh : A.handled = none) (x : SetIt w s.heap I a ord i) (hv : ord[i]? = none)
    (h : ∀ h', Heap.ExtBut I s.heap h' → Q none { s with heap := h' }) : wpAny (model prog w) A (pyNext (.ref I)) Q E s := by
  obtain ⟨es, ep, t, first, hI, ha, hf, hm⟩ := x
  have hT : s.TypeIs (.ref I) "set_iterator" := ⟨_, hI, rfl⟩
  unfold pyNext
  refine wpAny_bind (wpAny_attempt (wpAny_callSpecial?_slot (name := Str.ofString "__next__") hT slot_setiter_next (wpAny_call_entry slot_setiter_next hT entry_setiter_next ?_ (args_setiter_next _))))
  unfold Builtin.«set_iterator.__next__»
  refine wpAny_bind (wpAny_pure ?_)
  refine wpAny_bind (wpAny_bind (wpAny_load hI (wpAny_pure ?_)))
  dsimp only
  refine wpAny_bind (wpAny_setEntries_of ha rfl hf ?_)
  rw [if_neg (by simp)]
  rcases hm with ⟨hb, ⟨k, rfl⟩, ho⟩ | ⟨hb, T, places, rfl, hTo, hlt, rfl⟩ | ⟨hb, hs, ho, rfl⟩
  · dsimp only
    simp only [Int.toNat_natCast]
    refine wpAny_bind (wpAny_setNext (I := I) (ord := ord) ha hf (.inl ⟨hb, ho⟩) (fun v' next hv' _ => by rw [hv] at hv'; cases hv') fun z => ?_)
    dsimp only
    exact setiter_end hh hI (by simp) h
  · dsimp only
    refine wpAny_bind (wpAny_seqItems hTo rfl ?_)
    dsimp only
    have hj : places[i]? = none := by simpa using hv
    simp only [Int.toNat_natCast, List.getElem?_toArray, List.getElem?_map, hj, Option.map_none]
    refine wpAny_bind (wpAny_setField_rec hI (by simp) fun h1 g1 b1 => ?_)
    refine setiter_end (s := { s with heap := h1 }) hh g1 (by simp) fun h' e => h h' (b1.extBut.trans e)
  · dsimp only
    simp only [Int.toNat_natCast]
    refine wpAny_bind (wpAny_setNext (I := I) (ord := ord) ha hf (.inr ⟨hb, hs, ho, rfl⟩) (fun v' next hv' _ => by rw [hv] at hv'; cases hv') fun z => ?_)
    dsimp only
    exact setiter_end hh hI (by simp) h
end
end Mine
end
section
open PySem PySem.W PySem.Calls PyProof.Rows
set_option maxRecDepth 100000
namespace Mine

/-- what may change at a marked address: a table of codes grows; a dict keeps to its own rule -/
inductive TK where
  | code (q : Str)
  | own (P : Obj → Prop)
  | any
abbrev Tb := List (Addr × TK)
def Sub (h h' : Heap) : Prop := ∀ b o, h.get? b = some o → h'.get? b = some o
theorem Sub.refl (h : Heap) : Sub h h := fun _ _ e => e
theorem Sub.trans {a b c : Heap} (x : Sub a b) (y : Sub b c) : Sub a c := fun k o e => y k o (x k o e)
theorem Sub.push (h : Heap) (o : Obj) : Sub h (h.push o) := fun _ _ e => Heap.get?_push_of_some o e

def TabOk (h : Heap) (P : Addr) : TK → Prop
  | .code q => ∃ ps, h.get? P = some (tabObj ps) ∧ TriplesOk ps.toList ∧ ∀ pos cv, codeAmong pos ps.toList = some cv → h.CodeRec cv q
  | .own G => ∃ o es n, h.get? P = some o ∧ o.data = .dict es n ∧ G o
  | .any => ∃ ps, h.get? P = some (tabObj ps) ∧ TriplesOk ps.toList
theorem TabOk.get {h : Heap} {P : Addr} {q : TK} (x : TabOk h P q) : ∃ o, h.get? P = some o ∧ ((∃ ps, o = tabObj ps) ∨ ∃ es n, o.data = .dict es n) := by
  cases q with
  | code q => obtain ⟨ps, e, _⟩ := x; exact ⟨_, e, .inl ⟨ps, rfl⟩⟩
  | own G => obtain ⟨o, es, n, e, d, _⟩ := x; exact ⟨o, e, .inr ⟨es, n, d⟩⟩
  | any => obtain ⟨ps, e, _⟩ := x; exact ⟨_, e, .inl ⟨ps, rfl⟩⟩
theorem TabOk.sub {h h' : Heap} {P : Addr} {q : TK} (x : TabOk h P q) (k : Sub h h') : TabOk h' P q := by
  cases q with
  | code q => obtain ⟨ps, e, t, c⟩ := x; exact ⟨ps, k _ _ e, t, fun pos cv e => (c pos cv e).keeps k⟩
  | own G => obtain ⟨o, es, n, e, d⟩ := x; exact ⟨o, es, n, k _ _ e, d⟩
  | any => obtain ⟨ps, e, t⟩ := x; exact ⟨ps, k _ _ e, t⟩

structure Ext (tb : Tb) (s s' : Shared) : Prop where
  keep : ∀ b o, b ∉ tb.map (·.1) → s.heap.get? b = some o → s'.heap.get? b = some o
  tab : ∀ p ∈ tb, TabOk s.heap p.1 p.2 → TabOk s'.heap p.1 p.2
  gens : s'.gens = s.gens
  os : s'.os = s.os
theorem Ext.refl (tb : Tb) (s : Shared) : Ext tb s s := ⟨fun _ _ _ e => e, fun _ _ e => e, rfl, rfl⟩
theorem Ext.trans {tb : Tb} {a b c : Shared} (x : Ext tb a b) (y : Ext tb b c) : Ext tb a c :=
  ⟨fun k o n e => y.keep k o n (x.keep k o n e), fun p hp e => y.tab p hp (x.tab p hp e), y.gens.trans x.gens, y.os.trans x.os⟩
theorem Ext.of_sub {tb : Tb} {s s' : Shared} (k : Sub s.heap s'.heap) (g : s'.gens = s.gens) (o : s'.os = s.os) : Ext tb s s' :=
  ⟨fun b o _ e => k b o e, fun _ _ e => e.sub k, g, o⟩

def vis (tb : Tb) (X : List Addr) (h : Heap) : Heap := hideAll h (tb.map (·.1) ++ X)
theorem vis_get {tb : Tb} {X : List Addr} {h : Heap} {b : Addr} {o : Obj} (e : (vis tb X h).get? b = some o) : h.get? b = some o ∧ b ∉ tb.map (·.1) ∧ b ∉ X := by
  refine ⟨of_hideAll _ e, fun m => ?_, fun m => ?_⟩
  · rw [show (vis tb X h).get? b = none from hideAll_none _ (List.mem_append_left _ m)] at e; cases e
  · rw [show (vis tb X h).get? b = none from hideAll_none _ (List.mem_append_right _ m)] at e; cases e
theorem vis_mk {tb : Tb} {X : List Addr} {h : Heap} {b : Addr} {o : Obj} (e : h.get? b = some o) (n : b ∉ tb.map (·.1)) (m : b ∉ X) : (vis tb X h).get? b = some o :=
  hideAll_get _ e (fun q => (List.mem_append.mp q).elim n m)
theorem vis_sub {tb : Tb} {X : List Addr} {h h' : Heap} (k : ∀ b o, b ∉ tb.map (·.1) → b ∉ X → h.get? b = some o → h'.get? b = some o) : Sub (vis tb X h) (vis tb X h') :=
  fun b o e => let ⟨e, n, m⟩ := vis_get e; vis_mk (k b o n m e) n m
theorem vis_below (tb : Tb) (X : List Addr) (h : Heap) : Sub (vis tb X h) h := fun _ _ e => (vis_get e).1
theorem vis_more {tb : Tb} {X Y : List Addr} {h : Heap} (k : ∀ x ∈ X, x ∈ Y) : Sub (vis tb Y h) (vis tb X h) :=
  fun _ _ e => let ⟨e, n, m⟩ := vis_get e; vis_mk e n fun q => m (k _ q)
theorem Ext.vis {tb : Tb} {X : List Addr} {s s' : Shared} (x : Ext tb s s') : Sub (vis tb X s.heap) (vis tb X s'.heap) := vis_sub fun b o n _ e => x.keep b o n e

def Rp (h : Heap) (v : Value) (d : PyData) : Prop := ∃ as, Reads h v d as
theorem Rp.sub {h h' : Heap} {v : Value} {d : PyData} (x : Rp h v d) (k : Sub h h') : Rp h' v d := let ⟨as, r⟩ := x; ⟨as, PyProof.Rows.Reads.keeps k r⟩
def RpAll (h : Heap) (vs : List Value) (ds : List PyData) : Prop := ∃ as, ReadsAll h vs ds as
theorem RpAll.sub {h h' : Heap} {v : List Value} {d : List PyData} (x : RpAll h v d) (k : Sub h h') : RpAll h' v d := let ⟨as, r⟩ := x; ⟨as, PyProof.Rows.ReadsAll.keeps k r⟩
theorem RpAll.nil {h : Heap} : RpAll h [] [] := ⟨[], .nil⟩
theorem RpAll.cons {h : Heap} {v : Value} {d : PyData} {vs : List Value} {ds : List PyData} (a : Rp h v d) (b : RpAll h vs ds) : RpAll h (v :: vs) (d :: ds) :=
  let ⟨_, r⟩ := a; let ⟨_, q⟩ := b; ⟨_, .cons r q⟩
theorem RpAll.inv {h : Heap} {v : Value} {d : PyData} {vs : List Value} {ds : List PyData} (x : RpAll h (v :: vs) (d :: ds)) : Rp h v d ∧ RpAll h vs ds := by
  obtain ⟨as, r⟩ := x; cases r with | cons r q => exact ⟨⟨_, r⟩, ⟨_, q⟩⟩
theorem RpAll.length {h : Heap} {vs : List Value} {ds : List PyData} (x : RpAll h vs ds) : vs.length = ds.length := let ⟨_, r⟩ := x; PySem.SeqAt.ReadsAll.length _ _ _ r
theorem RpAll.snoc {h : Heap} {v : Value} {d : PyData} : ∀ {vs : List Value} {ds : List PyData}, RpAll h vs ds → Rp h v d → RpAll h (vs ++ [v]) (ds ++ [d])
  | [], [], _, r => .cons r .nil
  | [], _ :: _, x, _ => by have := x.length; simp at this
  | _ :: _, [], x, _ => by have := x.length; simp at this
  | _ :: _, _ :: _, x, r => .cons x.inv.1 (RpAll.snoc x.inv.2 r)
theorem RpAll.get {h : Heap} : ∀ {vs : List Value} {ds : List PyData}, RpAll h vs ds → ∀ {i : Nat} {d : PyData}, ds[i]? = some d → ∃ v, vs[i]? = some v ∧ Rp h v d
  | [], [], _, _, _, e => by simp at e
  | [], _ :: _, x, _, _, _ => by have := x.length; simp at this
  | _ :: _, [], x, _, _, _ => by have := x.length; simp at this
  | v :: vs, d :: ds, x, 0, _, e => by cases e; exact ⟨v, rfl, x.inv.1⟩
  | v :: vs, d :: ds, x, i + 1, _, e => by simpa using x.inv.2.get (i := i) (by simpa using e)
theorem RpAll.app {h : Heap} : ∀ {vs : List Value} {ds : List PyData} {ws : List Value} {es : List PyData}, RpAll h vs ds → RpAll h ws es → RpAll h (vs ++ ws) (ds ++ es)
  | [], [], _, _, _, y => y
  | [], _ :: _, _, _, x, _ => by have := x.length; simp at this
  | _ :: _, [], _, _, x, _ => by have := x.length; simp at this
  | _ :: _, _ :: _, _, _, x, y => .cons x.inv.1 (RpAll.app x.inv.2 y)
theorem RpAll.take {h : Heap} : ∀ {vs : List Value} {ds : List PyData} (n : Nat), RpAll h vs ds → RpAll h (vs.take n) (ds.take n)
  | _, _, 0, _ => by simp; exact .nil
  | [], [], _ + 1, _ => .nil
  | [], _ :: _, _ + 1, x => by have := x.length; simp at this
  | _ :: _, [], _ + 1, x => by have := x.length; simp at this
  | _ :: _, _ :: _, n + 1, x => .cons x.inv.1 (RpAll.take n x.inv.2)
theorem RpAll.drop {h : Heap} : ∀ {vs : List Value} {ds : List PyData} (n : Nat), RpAll h vs ds → RpAll h (vs.drop n) (ds.drop n)
  | _, _, 0, x => x
  | [], [], _ + 1, _ => .nil
  | [], _ :: _, _ + 1, x => by have := x.length; simp at this
  | _ :: _, [], _ + 1, x => by have := x.length; simp at this
  | _ :: _, _ :: _, n + 1, x => RpAll.drop n x.inv.2
theorem Rp.isList {h : Heap} {v : Value} {ds : List PyData} (x : Rp h v (.list ds)) : ∃ a vs, v = .ref a ∧ h.IsList a vs.toArray ∧ RpAll h vs ds := by
  obtain ⟨as, r⟩ := x
  cases r with
  | list e1 e2 e3 e4 => rename_i a o vs n as; exact ⟨a, vs.toList, rfl, ⟨o, e1, e2, n, by simpa using e3⟩, _, e4⟩
theorem Rp.ofList {h : Heap} {a : Addr} {vs : List Value} {ds : List PyData} (l : h.IsList a vs.toArray) (x : RpAll h vs ds) : Rp h (.ref a) (.list ds) := by
  obtain ⟨o, e1, e2, n, e3⟩ := l; obtain ⟨as, r⟩ := x
  exact ⟨_, .list e1 e2 e3 (by simpa using r)⟩
theorem Rp.int {h : Heap} {v : Value} {i : Int} (x : Rp h v (.int i)) : ∃ t, v = .int i t := by obtain ⟨_, r⟩ := x; cases r; exact ⟨_, rfl⟩
theorem Rp.str {h : Heap} {v : Value} {i : Str} (x : Rp h v (.str i)) : ∃ t, v = .str i t := by obtain ⟨_, r⟩ := x; cases r; exact ⟨_, rfl⟩
theorem Rp.bool {h : Heap} {v : Value} {i : Bool} (x : Rp h v (.bool i)) : v = .bool i := by obtain ⟨_, r⟩ := x; cases r; rfl
theorem Rp.mkInt {h : Heap} {i : Int} {t : Tok} : Rp h (.int i t) (.int i) := ⟨_, .int i t⟩
theorem Rp.mkStr {h : Heap} {i : Str} {t : Tok} : Rp h (.str i t) (.str i) := ⟨_, .str i t⟩
theorem Rp.mkBool {h : Heap} {i : Bool} : Rp h (.bool i) (.bool i) := ⟨_, .bool i⟩

def TopOk (K : Frag) (off : List Addr) (g : Heap) : Prop := ∀ a o, K.lookup a = some o → a ∉ off → g.get? a = some o
theorem TopOk.sub {K : Frag} {off : List Addr} {g g' : Heap} (x : TopOk K off g) (k : Sub g g') : TopOk K off g' := fun a o e n => k _ _ (x a o e n)

structure Ok (K : Frag) (off : List Addr) (tb : Tb) (X : List Addr) (s : Shared) : Prop where
  priv : ∀ x ∈ X, x ∉ tb.map (·.1) ∧ ∃ o, s.heap.get? x = some o
  tabs : ∀ p ∈ tb, TabOk s.heap p.1 p.2
  top : TopOk K off (vis tb X s.heap)
section
variable {K : Frag} {off : List Addr} {tb : Tb} {X : List Addr} {s s' : Shared}
theorem Ok.ext (x : Ok K off tb X s) (e : Ext tb s s') : Ok K off tb X s' :=
  ⟨fun y hy => ⟨(x.priv y hy).1, let ⟨o, ho⟩ := (x.priv y hy).2; ⟨o, e.keep _ _ (x.priv y hy).1 ho⟩⟩, fun p hp => e.tab p hp (x.tabs p hp), x.top.sub e.vis⟩
theorem Ok.notTab (x : Ok K off tb X s) {b : Addr} {o : Obj} (e : s.heap.get? b = some o) (n : ∀ ps, o ≠ tabObj ps) (n2 : ∀ es k, o.data ≠ .dict es k) : b ∉ tb.map (·.1) := fun m => by
  obtain ⟨p, hp, rfl⟩ := List.mem_map.mp m
  obtain ⟨o', h1, h2⟩ := (x.tabs p hp).get
  rw [e] at h1; cases h1
  rcases h2 with ⟨ps, z⟩ | ⟨es, k, z⟩
  · exact n ps z
  · exact n2 es k z
theorem Ok.cellTab (x : Ok K off tb X s) {b : Addr} {v : Option Value} (e : s.heap.IsCell b v) : b ∉ tb.map (·.1) := by
  obtain ⟨o, h1, h2⟩ := e
  exact x.notTab h1 (fun ps q => by rw [q] at h2; cases h2) fun es k q => by rw [q] at h2; cases h2
theorem Ok.get (x : Ok K off tb X s) {a : Addr} {o : Obj} (e : K.lookup a = some o) (n : a ∉ off) : s.heap.get? a = some o := (vis_get (x.top a o e n)).1
end

def CellKind (env : Env) (x : Str) : Prop := env.kindOf x = some .cell ∨ env.kindOf x = some .free
def Bound (env : Env) (h : Heap) (x : Str) (v : Value) : Prop :=
  (env.kindOf x = some .local ∧ ∃ m, h.Ns env.locals m ∧ m x = some v) ∨ (CellKind env x ∧ ∃ c, env.cells.lookup x = some c ∧ h.IsCell c (some v))

abbrev Rho := List (Str × PyData)
structure EnvOk (tb : Tb) (X : List Addr) (env : Env) (ρ : Rho) (s : Shared) : Prop where
  kind : env.scope.kind = .function
  globals : env.globals = mainGlobals
  builtins : env.builtins = builtinsNs
  nloc : env.locals ∉ tb.map (·.1)
  vars : ∀ p ∈ ρ, ∃ v, Bound env s.heap p.1 v ∧ Rp (vis tb X s.heap) v p.2
section
variable {K : Frag} {off : List Addr} {tb : Tb} {X : List Addr} {s s' : Shared} {env : Env} {ρ : Rho}
theorem Bound.ext {x : Str} {v : Value} (b : Bound env s.heap x v) (o : Ok K off tb X s) (hl : env.locals ∉ tb.map (·.1)) (e : Ext tb s s') : Bound env s'.heap x v := by
  rcases b with ⟨k, m, ⟨ob, es, ep, h1, h2, h3⟩, hm⟩ | ⟨k, c, hc, ob, h1, h2⟩
  · exact .inl ⟨k, m, ⟨ob, es, ep, e.keep _ _ hl h1, h2, h3⟩, hm⟩
  · exact .inr ⟨k, c, hc, ob, e.keep _ _ (o.cellTab ⟨ob, h1, h2⟩) h1, h2⟩
theorem EnvOk.ext (x : EnvOk tb X env ρ s) (o : Ok K off tb X s) (e : Ext tb s s') : EnvOk tb X env ρ s' :=
  ⟨x.kind, x.globals, x.builtins, x.nloc, fun p hp => let ⟨v, b, r⟩ := x.vars p hp; ⟨v, b.ext o x.nloc e, r.sub e.vis⟩⟩
end

structure Room (A : Around) (k : Nat) : Prop where
  handled : A.handled = none
  depth : A.depth + k ≤ 900
  units : A.units + 20 * k ≤ 9000
theorem Room.lim {A : Around} {k : Nat} (r : Room A k) : A.depth < recursionLimit := Nat.lt_of_le_of_lt (Nat.le_trans (Nat.le_add_right _ k) r.depth) (by decide)
theorem Room.c {A : Around} {k : Nat} (r : Room A k) : A.units + 900 ≤ cLine := by have := r.units; show _ ≤ 9900; omega
theorem Room.in1 {A : Around} {k : Nat} (r : Room A (k + 1)) : Room A.in1 k := ⟨r.handled, by have := r.depth; show A.depth + k ≤ 900; omega, by have := r.units; show A.units + 1 + 20 * k ≤ 9000; omega⟩
theorem Room.deeper {A : Around} {k : Nat} {env : Env} (r : Room A (k + 1)) : Room (A.deeper env) k := ⟨r.handled, by have := r.depth; show A.depth + 1 + k ≤ 900; omega, by have := r.units; show A.units + 3 + 20 * k ≤ 9000; omega⟩
theorem Room.less {A : Around} {k j : Nat} (r : Room A k) (h : j ≤ k) : Room A j := ⟨r.handled, by have := r.depth; omega, by have := r.units; omega⟩

/- short ways to say a thing of each member -/
theorem all1 {α : Type} {P : α → Prop} {a : α} (h : P a) : ∀ x ∈ [a], P x := fun x hx => List.mem_singleton.mp hx ▸ h
theorem all2 {α : Type} {P : α → Prop} {a b : α} (h : P a) (h2 : P b) : ∀ x ∈ [a, b], P x := List.forall_mem_cons.mpr ⟨h, all1 h2⟩
theorem all3 {α : Type} {P : α → Prop} {a b c : α} (h : P a) (h2 : P b) (h3 : P c) : ∀ x ∈ [a, b, c], P x := List.forall_mem_cons.mpr ⟨h, all2 h2 h3⟩
theorem all4 {α : Type} {P : α → Prop} {a b c d : α} (h : P a) (h2 : P b) (h3 : P c) (h4 : P d) : ∀ x ∈ [a, b, c, d], P x := List.forall_mem_cons.mpr ⟨h, all3 h2 h3 h4⟩
theorem sub_off {l l' : List Nat} {off : List Addr} (k : ∀ a ∈ l', a ∉ off) (h : l.all (fun x => l'.contains x) = true) : ∀ a ∈ l, a ∉ off := fun a ha => k a (by have := List.all_eq_true.mp h a ha; simpa using this)
end Mine
end
section
open PySem PySem.W PySem.Calls PyProof.Rows
set_option maxRecDepth 100000
namespace Mine

/-- no exception is meant to leave -/
abbrev NoE : Value → Shared → Prop := fun _ _ => False

section
variable (prog : Program) (w : World) (K : Frag) (off : List Addr) (tb : Tb)

/-- in every state that bears the names ρ the expression comes back with the datum d, and what stood stands -/
def PV (k : Nat) (env : Env) (ρ : Rho) (e : Expr) (d : PyData) : Prop :=
  ∀ (A : Around) (X : List Addr) (s : Shared) (Q : Value → Shared → Prop), Room A k → Ok K off tb X s → EnvOk tb X env ρ s →
    (∀ v s', Ext tb s s' → Rp (vis tb X s'.heap) v d → Q v s') → wpAny (model prog w) A (eval e env) Q NoE s

/-- the same of a test -/
def PT (k : Nat) (env : Env) (ρ : Rho) (e : Expr) (b : Bool) : Prop :=
  ∀ (A : Around) (X : List Addr) (s : Shared) (Q : Bool → Shared → Prop), Room A k → Ok K off tb X s → EnvOk tb X env ρ s →
    (∀ s', Ext tb s s' → Q b s') → wpAny (model prog w) A (isTrue e env (eval e env)) Q NoE s

/-- several expressions -/
def PVs (k : Nat) (env : Env) (ρ : Rho) (pos : Pos) (es : List Expr) (ds : List PyData) : Prop :=
  ∀ (A : Around) (X : List Addr) (s : Shared) (Q : List Value → Shared → Prop), Room A k → Ok K off tb X s → EnvOk tb X env ρ s →
    (∀ vs s', Ext tb s s' → RpAll (vis tb X s'.heap) vs ds → Q vs s') → wpAny (model prog w) A (spliced (backTo pos (starEach es env))) Q NoE s

/-- an operator on two data -/
def OpB (k : Nat) (op : Operator) (a b d : PyData) : Prop :=
  ∀ (A : Around) (X : List Addr) (s : Shared) (Q : Value → Shared → Prop) (v u : Value), Room A k → Ok K off tb X s → Rp (vis tb X s.heap) v a → Rp (vis tb X s.heap) u b →
    (∀ v s', Ext tb s s' → Rp (vis tb X s'.heap) v d → Q v s') → wpAny (model prog w) A (binaryOp op v u) Q NoE s
def OpC (k : Nat) (op : CmpOp) (a b : PyData) (r : Bool) : Prop :=
  ∀ (A : Around) (X : List Addr) (s : Shared) (Q : Value → Shared → Prop) (v u : Value), Room A k → Ok K off tb X s → Rp (vis tb X s.heap) v a → Rp (vis tb X s.heap) u b →
    (∀ s', Ext tb s s' → Q (.bool r) s') → wpAny (model prog w) A (compareOp op v u) Q NoE s
end

section
variable {prog : Program} {w : World} {K : Frag} {off : List Addr} {tb : Tb} {k : Nat} {env : Env} {ρ : Rho}

theorem ext_tok (s : Shared) (t : Nat) : Ext tb s { s with toks := t } := .of_sub (.refl _) rfl rfl
theorem ext_push (s : Shared) (o : Obj) : Ext tb s { s with heap := s.heap.push o } := .of_sub (.push _ _) rfl rfl

theorem bound_load {M : Model} {A : Around} {E : Value → Shared → Prop} {s : Shared} {x : Str} {pos : Pos} {v : Value} {Q : Value → Shared → Prop} (hk : env.scope.kind = .function) (b : Bound env s.heap x v) (h : Q v s)
    (hd : (x == ("__debug__" : Str)) = false) (hn : (x == ("__classdict__" : Str)) = false) : wpAny M A (eval (.Name x pos) env) Q E s := by
  refine wpAny_Name ?_ hd
  rcases b with ⟨kd, m, hns, hm⟩ | ⟨kd | kd, c, hc, hv⟩
  · exact wpAny_loadName_local hk kd hns hm h
  · exact wpAny_loadName_cell hk kd hc hv h
  · exact wpAny_loadName_free hk kd hc hv h hn

theorem pv_name {x : Str} {pos : Pos} {d : PyData} (hm : (x, d) ∈ ρ) (hd : (x == ("__debug__" : Str)) = false := by decide) (hn : (x == ("__classdict__" : Str)) = false := by decide) : PV prog w K off tb k env ρ (.Name x pos) d := by
  intro A X s Q hR hO hE h
  obtain ⟨v, b, r⟩ := hE.vars _ hm
  exact bound_load hE.kind b (h v s (.refl _ _) r) hd hn
theorem pv_int {i : Int} {n : Nat} {pos : Pos} : PV prog w K off tb k env ρ (.Constant (.int i) n pos) (.int i) := by
  intro A X s Q hR hO hE h
  exact wpAny_Constant_int (h _ _ (ext_tok _ _) .mkInt)
theorem pv_str {i : Str} {n : Nat} {pos : Pos} : PV prog w K off tb k env ρ (.Constant (.str i) n pos) (.str i) := by
  intro A X s Q hR hO hE h
  exact wpAny_Constant_str (h _ _ (ext_tok _ _) .mkStr)
theorem pv_bool {i : Bool} {n : Nat} {pos : Pos} : PV prog w K off tb k env ρ (.Constant (.bool i) n pos) (.bool i) := by
  intro A X s Q hR hO hE h
  exact wpAny_Constant_bool (h _ _ (.refl _ _) .mkBool)
theorem pvs_nil {pos : Pos} : PVs prog w K off tb k env ρ pos [] [] := by
  intro A X s Q hR hO hE h
  exact wpAny_items_nil (h _ _ (.refl _ _) .nil)
theorem pvs_cons {pos : Pos} {e : Expr} {es : List Expr} {d : PyData} {ds : List PyData} (a : PV prog w K off tb k env ρ e d) (b : PVs prog w K off tb k env ρ pos es ds)
    (he : starEach (e :: es) env = (false, eval e env) :: starEach es env := by rfl) : PVs prog w K off tb k env ρ pos (e :: es) (d :: ds) := by
  intro A X s Q hR hO hE h
  refine wpAny_items_cons (a A X s _ hR hO hE fun v s₁ e₁ r₁ => b A X s₁ _ hR (hO.ext e₁) (hE.ext hO e₁) fun vs s₂ e₂ r₂ => h _ _ (e₁.trans e₂) (.cons (r₁.sub e₂.vis) r₂)) he
theorem fresh_vis {X : List Addr} {s : Shared} (hO : Ok K off tb X s) : s.heap.objs.size ∉ tb.map (·.1) ∧ s.heap.objs.size ∉ X := by
  refine ⟨fun m => ?_, fun m => ?_⟩
  · obtain ⟨p, hp, e⟩ := List.mem_map.mp m
    obtain ⟨ps, h1, _⟩ := (hO.tabs p hp).get
    exact absurd (Heap.lt_size h1) (by rw [e]; exact Nat.lt_irrefl _)
  · obtain ⟨_, o, h1⟩ := hO.priv _ m
    exact absurd (Heap.lt_size h1) (Nat.lt_irrefl _)
theorem newlist_rp {X : List Addr} {s : Shared} {vs : List Value} {ds : List PyData} (hO : Ok K off tb X s) (r : RpAll (vis tb X s.heap) vs ds) :
    Rp (vis tb X (s.heap.push { cls := .type "list", data := .seq vs.toArray })) (.ref s.heap.objs.size) (.list ds) := by
  refine Rp.ofList (vs := vs) ⟨_, vis_mk (Heap.get?_push_size _ rfl) (fresh_vis hO).1 (fresh_vis hO).2, rfl, _, rfl⟩ (r.sub (vis_sub fun b o _ _ e => Heap.get?_push_of_some _ e))
theorem pv_list {es : List Expr} {pos : Pos} {ds : List PyData} (a : PVs prog w K off tb k env ρ pos es ds) (hz : ds.length ≤ sizeLine := by first | decide | (simp; decide)) : PV prog w K off tb k env ρ (.List es pos) (.list ds) := by
  intro A X s Q hR hO hE h
  refine wpAny_List (a A X s _ hR hO hE fun vs s₁ e₁ r₁ => ⟨by rw [r₁.length]; exact hz, h _ _ (e₁.trans (ext_push _ _)) (newlist_rp (hO.ext e₁) r₁)⟩)

theorem pv_binop {l r : Expr} {op : Operator} {pos : Pos} {a b d : PyData} (hl : PV prog w K off tb k env ρ l a) (hr : PV prog w K off tb k env ρ r b) (ho : OpB prog w K off tb k op a b d) : PV prog w K off tb k env ρ (.BinOp l op r pos) d := by
  intro A X s Q hR hO hE h
  exact wpAny_BinOp (hl A X s _ hR hO hE fun v s₁ e₁ r₁ => hr A X s₁ _ hR (hO.ext e₁) (hE.ext hO e₁) fun u s₂ e₂ r₂ =>
    ho A X s₂ Q v u hR ((hO.ext e₁).ext e₂) (r₁.sub e₂.vis) r₂ fun v' s₃ e₃ r₃ => h v' s₃ ((e₁.trans e₂).trans e₃) r₃)
theorem pv_cmp {l r : Expr} {op : CmpOp} {pos : Pos} {a b : PyData} {c : Bool} (hl : PV prog w K off tb k env ρ l a) (hr : PV prog w K off tb k env ρ r b) (ho : OpC prog w K off tb k op a b c)
    (hm : behindInMarks op r = false := by with_unfolding_all rfl) : PV prog w K off tb k env ρ (.Compare l [op] [r] pos) (.bool c) := by
  intro A X s Q hR hO hE h
  exact wpAny_Compare1 (hl A X s _ hR hO hE fun v s₁ e₁ r₁ => hr A X s₁ _ hR (hO.ext e₁) (hE.ext hO e₁) fun u s₂ e₂ r₂ =>
    ho A X s₂ Q v u hR ((hO.ext e₁).ext e₂) (r₁.sub e₂.vis) r₂ fun s₃ e₃ => h _ s₃ ((e₁.trans e₂).trans e₃) .mkBool) hm
theorem pt_cmp {l r : Expr} {op : CmpOp} {pos : Pos} {a b : PyData} {c : Bool} (hl : PV prog w K off tb k env ρ l a) (hr : PV prog w K off tb k env ρ r b) (ho : OpC prog w K off tb k op a b c)
    (hm : behindInMarks op r = false := by with_unfolding_all rfl) : PT prog w K off tb k env ρ (.Compare l [op] [r] pos) c := by
  intro A X s Q hR hO hE h
  exact wpAny_isTrue_Compare1 (hl A X s _ hR hO hE fun v s₁ e₁ r₁ => hr A X s₁ _ hR (hO.ext e₁) (hE.ext hO e₁) fun u s₂ e₂ r₂ =>
    ho A X s₂ _ v u hR ((hO.ext e₁).ext e₂) (r₁.sub e₂.vis) r₂ fun s₃ e₃ => wpAny_truthy_bool (h s₃ ((e₁.trans e₂).trans e₃))) hm
theorem pv_ifexp {t b o : Expr} {pos : Pos} {c : Bool} {d : PyData} (ht : PT prog w K off tb k env ρ t c) (hb : c = true → PV prog w K off tb k env ρ b d) (ho : c = false → PV prog w K off tb k env ρ o d) : PV prog w K off tb k env ρ (.IfExp t b o pos) d := by
  intro A X s Q hR hO hE h
  refine wpAny_IfExp (ht A X s _ hR hO hE fun s₁ e₁ => ?_)
  cases c with
  | true => simpa using hb rfl A X s₁ Q hR (hO.ext e₁) (hE.ext hO e₁) fun v s₂ e₂ r₂ => h v s₂ (e₁.trans e₂) r₂
  | false => simpa using ho rfl A X s₁ Q hR (hO.ext e₁) (hE.ext hO e₁) fun v s₂ e₂ r₂ => h v s₂ (e₁.trans e₂) r₂
theorem pt_and {x y : Expr} {pos : Pos} {b c : Bool} (hx : PT prog w K off tb k env ρ x b) (hy : b = true → PT prog w K off tb k env ρ y c) : PT prog w K off tb k env ρ (.BoolOp .And [x, y] pos) (b && c) := by
  intro A X s Q hR hO hE h
  refine wpAny_isTrue_BoolOp (wpAny_allTrue_And_cons (hx A X s _ hR hO hE fun s₁ e₁ => ?_))
  cases b with
  | false => simpa using h s₁ e₁
  | true =>
    simp only [if_true]
    refine wpAny_allTrue_And_cons (hy rfl A X s₁ _ hR (hO.ext e₁) (hE.ext hO e₁) fun s₂ e₂ => ?_)
    cases c with
    | false => simpa using h s₂ (e₁.trans e₂)
    | true => simpa using wpAny_allTrue_And_nil (h s₂ (e₁.trans e₂))
theorem pt_or {x y : Expr} {pos : Pos} {b c : Bool} (hx : PT prog w K off tb k env ρ x b) (hy : b = false → PT prog w K off tb k env ρ y c) : PT prog w K off tb k env ρ (.BoolOp .Or [x, y] pos) (b || c) := by
  intro A X s Q hR hO hE h
  refine wpAny_isTrue_BoolOp (wpAny_allTrue_Or_cons (hx A X s _ hR hO hE fun s₁ e₁ => ?_))
  cases b with
  | true => simpa using h s₁ e₁
  | false =>
    simp only [Bool.false_eq_true, if_false]
    refine wpAny_allTrue_Or_cons (hy rfl A X s₁ _ hR (hO.ext e₁) (hE.ext hO e₁) fun s₂ e₂ => ?_)
    cases c with
    | true => simpa using h s₂ (e₁.trans e₂)
    | false => simpa using wpAny_allTrue_Or_nil (h s₂ (e₁.trans e₂))

/- operators -/
theorem op_add_int {a b : Int} : OpB prog w K off tb k .Add (.int a) (.int b) (.int (a + b)) := by
  intro A X s Q v u hR hO r q h
  obtain ⟨t, rfl⟩ := r.int; obtain ⟨t', rfl⟩ := q.int
  exact PyProof.Rows.add_int (h _ _ (ext_tok _ _) .mkInt)
theorem op_sub_int {a b : Int} : OpB prog w K off tb k .Sub (.int a) (.int b) (.int (a - b)) := by
  intro A X s Q v u hR hO r q h
  obtain ⟨t, rfl⟩ := r.int; obtain ⟨t', rfl⟩ := q.int
  exact PyProof.Rows.sub_int (h _ _ (ext_tok _ _) .mkInt)
theorem op_mod_int {a b : Int} (hb : b ≠ 0) : OpB prog w K off tb k .Mod (.int a) (.int b) (.int (a.fmod b)) := by
  intro A X s Q v u hR hO r q h
  obtain ⟨t, rfl⟩ := r.int; obtain ⟨t', rfl⟩ := q.int
  exact PyProof.Rows.mod_int' hb (h _ _ (ext_tok _ _) .mkInt)
theorem op_add_str {a b : Str} (hz : a.length + b.length ≤ sizeLine) : OpB prog w K off tb k .Add (.str a) (.str b) (.str (a ++ b)) := by
  intro A X s Q v u hR hO r q h
  obtain ⟨t, rfl⟩ := r.str; obtain ⟨t', rfl⟩ := q.str
  exact PyProof.Rows.add_str (fun t' tk => h _ _ (ext_tok _ _) .mkStr) hz
theorem op_eq {a b : PyData} (ha : a.canLay0 = true) (hb : b.canLay0 = true) (hd : min a.depth b.depth < 900) : OpC prog w K off tb k .Eq a b (PyData.eqv a b) := by
  intro A X s Q v u hR hO r q h
  obtain ⟨_, r⟩ := r.sub (vis_below _ _ _); obtain ⟨_, q⟩ := q.sub (vis_below _ _ _)
  exact SeqAt.compareEq_reads r q ha hb (by have := hR.c; omega) (h s (.refl _ _))
theorem op_ne {a b : PyData} (ha : a.canLay0 = true) (hb : b.canLay0 = true) (hd : min a.depth b.depth < 900) : OpC prog w K off tb k .NotEq a b (!PyData.eqv a b) := by
  intro A X s Q v u hR hO r q h
  obtain ⟨_, r⟩ := r.sub (vis_below _ _ _); obtain ⟨_, q⟩ := q.sub (vis_below _ _ _)
  exact SeqAt.compareNe_reads r q ha hb (by have := hR.c; omega) (h s (.refl _ _))
theorem op_notIn {a : PyData} {ds : List PyData} (ha : a.canLay0 = true) (hb : PyData.canLayAll0 ds = true) (hd : min (PyData.depthAll ds) a.depth < 800) : OpC prog w K off tb k .NotIn a (.list ds) (!ds.any fun y => PyData.eqv y a) := by
  intro A X s Q v u hR hO r q h
  obtain ⟨_, r⟩ := r.sub (vis_below _ _ _); obtain ⟨_, q⟩ := q.sub (vis_below _ _ _)
  exact SeqAt.notIn_list_reads q r hb ha (by have := hR.c; omega) (h s (.refl _ _))
end
end Mine
end
section
open PySem PySem.W PySem.Calls PyProof.Rows
set_option maxRecDepth 100000
namespace Mine

/-- what the top's names are -/
def Globs (K : Frag) (off : List Addr) (mg mb : Str → Option Value) : Prop :=
  ∀ g : Heap, TopOk K off g → g.Ns mainGlobals mg ∧ g.Ns builtinsNs mb ∧ g.NoLimit

section
variable (prog : Program) (w : World) (K : Frag) (off : List Addr) (tb : Tb)
/-- a call of a value with data gives a datum -/
def Fn (k : Nat) (f : Value) (ds : List PyData) (d : PyData) : Prop :=
  ∀ (A : Around) (X : List Addr) (s : Shared) (vs : List Value) (Q : Value → Shared → Prop), Room A k → Ok K off tb X s → RpAll (vis tb X s.heap) vs ds →
    (∀ v s', Ext tb s s' → Rp (vis tb X s'.heap) v d → Q v s') → wpAny (model prog w) A (call f vs) Q NoE s
end

section
variable {prog : Program} {w : World} {K : Frag} {off : List Addr} {tb : Tb} {k : Nat} {env : Env} {ρ : Rho} {mg mb : Str → Option Value}

theorem Ok.globs {X : List Addr} {s : Shared} (G : Globs K off mg mb) (o : Ok K off tb X s) : s.heap.Ns mainGlobals mg ∧ s.heap.Ns builtinsNs mb ∧ s.heap.NoLimit :=
  let ⟨a, b, c⟩ := G _ o.top
  ⟨a.keeps (vis_below _ _ _), b.keeps (vis_below _ _ _), c.keeps (vis_below _ _ _)⟩

theorem load_global {A : Around} {X : List Addr} {s : Shared} {E : Value → Shared → Prop} {x : Str} {pos : Pos} {v : Value} {Q : Value → Shared → Prop} (G : Globs K off mg mb) (hO : Ok K off tb X s) (hE : EnvOk tb X env ρ s) (hv : mg x = some v)
    (hx : env.kindOf x = some .globalImplicit) (hd : (x == ("__debug__" : Str)) = false) (h : Q v s) : wpAny (model prog w) A (eval (.Name x pos) env) Q E s :=
  Name_function_global hE.kind hx (loadGlobal_global (env := env) (by rw [hE.globals]; exact (hO.globs G).1) hv h) hd
theorem load_builtin {A : Around} {X : List Addr} {s : Shared} {E : Value → Shared → Prop} {x : Str} {pos : Pos} {v : Value} {Q : Value → Shared → Prop} (G : Globs K off mg mb) (hO : Ok K off tb X s) (hE : EnvOk tb X env ρ s) (hm : mg x = none) (hv : mb x = some v)
    (hx : env.kindOf x = some .globalImplicit) (hd : (x == ("__debug__" : Str)) = false) (h : Q v s) : wpAny (model prog w) A (eval (.Name x pos) env) Q E s :=
  Name_function_global hE.kind hx (loadGlobal_builtin (env := env) (by rw [hE.globals]; exact (hO.globs G).1) hm (by rw [hE.builtins]; exact (hO.globs G).2.1) hv h) hd

/-- a call of a def of the top -/
theorem pv_call {x : Str} {p pos : Pos} {e : Expr} {es : List Expr} {f : Addr} {o : Obj} {fd : FuncData} {ds : List PyData} {d : PyData} (G : Globs K off mg mb) (hv : mg x = some (.ref f)) (ho : K.lookup f = some o) (hf : f ∉ off) (hdat : o.data = .func fd)
    (ha : PVs prog w K off tb k env ρ pos (e :: es) ds) (hfn : Fn prog w K off tb k (.ref f) ds d)
    (hx : env.kindOf x = some .globalImplicit := by rfl) (hd : (x == ("__debug__" : Str)) = false := by decide)
    (he : starEach (e :: es) env = (false, eval e env) :: starEach es env := by rfl) :
    PV prog w K off tb k env ρ (.Call (.Name x p) (e :: es) [] pos) d := by
  intro A X s Q hR hO hE h
  refine wpAny_Call_NameR (load_global G hO hE hv hx hd ?_)
  refine callWith_function (o := o) (fd := fd) ?_
  have ha' := ha A X s
  rw [he] at ha' ⊢
  refine evalArgs_plain (ha' _ hR hO hE fun vs s₁ e₁ r₁ => ⟨⟨(hO.ext e₁).get ho hf, hdat⟩, ?_⟩)
  exact hfn A X s₁ vs Q hR (hO.ext e₁) r₁ fun v s₂ e₂ r₂ => h v s₂ (e₁.trans e₂) r₂

/-- a call of a built-in function -/
theorem pv_builtin {x : Str} {p pos : Pos} {e : Expr} {es : List Expr} {id : String} {ds : List PyData} {d : PyData} (G : Globs K off mg mb) (hm : mg x = none) (hv : mb x = some (.builtin id))
    (ha : PVs prog w K off tb k env ρ pos (e :: es) ds) (hfn : Fn prog w K off tb k (.builtin id) ds d)
    (hx : env.kindOf x = some .globalImplicit := by rfl) (hd : (x == ("__debug__" : Str)) = false := by decide)
    (he : starEach (e :: es) env = (false, eval e env) :: starEach es env := by rfl)
    (hp : (backTo pos (starEach (e :: es) env)).any (·.1) = false := by rfl) :
    PV prog w K off tb k env ρ (.Call (.Name x p) (e :: es) [] pos) d := by
  intro A X s Q hR hO hE h
  refine wpAny_Call_NameR (load_builtin G hO hE hm hv hx hd ?_)
  refine callWith_builtin hp ?_
  have ha' := ha A X s
  rw [he] at ha' ⊢
  refine evalArgs_plain (ha' _ hR hO hE fun vs s₁ e₁ r₁ => ?_)
  exact hfn A X s₁ vs Q hR (hO.ext e₁) r₁ fun v s₂ e₂ r₂ => h v s₂ (e₁.trans e₂) r₂

theorem RpAll.one {h : Heap} {vs : List Value} {d : PyData} (x : RpAll h vs [d]) : ∃ v, vs = [v] ∧ Rp h v d := by
  obtain ⟨_, r⟩ := x
  cases r with | cons a b => cases b; exact ⟨_, rfl, _, a⟩
theorem RpAll.two {h : Heap} {vs : List Value} {d e : PyData} (x : RpAll h vs [d, e]) : ∃ v u, vs = [v, u] ∧ Rp h v d ∧ Rp h u e := by
  obtain ⟨_, r⟩ := x
  cases r with | cons a b => cases b with | cons c b => cases b; exact ⟨_, _, rfl, ⟨_, a⟩, ⟨_, c⟩⟩

theorem IsList.below {tb : Tb} {X : List Addr} {h : Heap} {a : Addr} {its : Array Value} (x : (vis tb X h).IsList a its) : h.IsList a its :=
  let ⟨o, e, r⟩ := x; ⟨o, vis_below _ _ _ _ _ e, r⟩

theorem fn_len {ds : List PyData} (hz : ds.length < 2 ^ 62) : Fn prog w K off tb k (.builtin "len") [.list ds] (.int ds.length) := by
  intro A X s vs Q hR hO r0 h
  obtain ⟨v, rfl, r⟩ := r0.one
  obtain ⟨a, us, rfl, hl, ra⟩ := r.isList
  have e : (us.toArray.size : Int) = ds.length := by rw [List.size_toArray, ra.length]
  refine call_len_list (IsList.below hl) (by rw [e]; omega) ?_
  rw [e]
  exact h _ _ (.of_sub (.refl _) rfl rfl) .mkInt

theorem op_add_list {as bs : List PyData} (hz : as.length + bs.length ≤ sizeLine) : OpB prog w K off tb k .Add (.list as) (.list bs) (.list (as ++ bs)) := by
  intro A X s Q v u hR hO r q h
  obtain ⟨a, vs, rfl, hl, ra⟩ := r.isList
  obtain ⟨b, us, rfl, hl', rb⟩ := q.isList
  obtain ⟨⟨cls, dd, data, sl⟩, ho, hc, n, hd⟩ := IsList.below hl
  obtain ⟨⟨cls2, dd2, data2, sl2⟩, ho2, hc2, n2, hd2⟩ := IsList.below hl'
  simp only at hc hd hc2 hd2
  subst hc hd hc2 hd2
  have e : vs.toArray ++ us.toArray = (vs ++ us).toArray := by simp
  refine concat_meets ⟨_, ho, rfl⟩ ⟨_, ho2, rfl⟩ noFill_list_add seq_list_add PySem.F.slot_list_add PySem.F.entry_list_add (PySem.F.args_list_add_2 _ _) (list_addW a b vs.toArray us.toArray n n2 dd dd2 sl sl2 (by simp [ra.length, rb.length]; exact hz)) ⟨ho, ho2, ?_⟩
  rw [e]
  exact h _ _ (ext_push _ _) (newlist_rp hO (ra.app rb))

/-- xs[i] -/
theorem pv_item {l i : Expr} {pos : Pos} {ds : List PyData} {j : Int} {d : PyData} (hl : PV prog w K off tb k env ρ l (.list ds)) (hi : PV prog w K off tb k env ρ i (.int j)) (h0 : 0 ≤ j) (h1 : j < 2 ^ 62) (hx : ds[j.toNat]? = some d)
    (hs : ∀ a u, subscripted i false (.ref a) (.int j u) = operate [.ref a, .int j u] (getItem (.ref a) (.int j u)) := by intro _ _; with_unfolding_all rfl) :
    PV prog w K off tb k env ρ (.Subscript l i pos) d := by
  intro A X s Q hR hO hE h
  refine Subscript_ (hl A X s _ hR hO hE fun v s₁ e₁ r₁ => hi A X s₁ _ hR (hO.ext e₁) (hE.ext hO e₁) fun u s₂ e₂ r₂ => ?_)
  obtain ⟨t, rfl⟩ := r₂.int
  obtain ⟨a, vs, rfl, hL, ra⟩ := (r₁.sub e₂.vis).isList
  obtain ⟨v, hv, rv⟩ := ra.get hx
  have hL' := IsList.below hL
  exact tail_any hL'.typeIs slot_list_getitem.lookup (wpAny_getItem_list hL' h0 (by omega) (by simpa using hv) (h _ _ (e₁.trans e₂) rv)) (hs _ _)
end
end Mine
end
section
open PySem PySem.W PySem.Calls PyProof.Rows
set_option maxRecDepth 100000
namespace Mine

section
variable {prog : Program} {w : World} {K : Frag} {off : List Addr} {tb : Tb} {k : Nat} {env : Env} {ρ : Rho} {mg mb : Str → Option Value}

theorem pv_neg {e : Expr} {pos : Pos} {i : Int} (h1 : PV prog w K off tb k env ρ e (.int i)) : PV prog w K off tb k env ρ (.UnaryOp .USub e pos) (.int (-i)) := by
  intro A X s Q hR hO hE h
  refine wpAny_UnaryOp (h1 A X s _ hR hO hE fun v s₁ e₁ r₁ => ?_)
  obtain ⟨t, rfl⟩ := r₁.int
  exact neg_int (h _ _ (e₁.trans (ext_tok _ _)) .mkInt)

/-- a part of a slice -/
def PP (prog : Program) (w : World) (K : Frag) (off : List Addr) (tb : Tb) (k : Nat) (env : Env) (ρ : Rho) (e : Option Expr) (i : Option Int) : Prop :=
  ∀ (A : Around) (X : List Addr) (s : Shared) (Q : Value → Shared → Prop), Room A k → Ok K off tb X s → EnvOk tb X env ρ s →
    (∀ v s', Ext tb s s' → IsPart v i → Q v s') → wpAny (model prog w) A (evalPart e env) Q NoE s
theorem pp_none : PP prog w K off tb k env ρ none none := by
  intro A X s Q hR hO hE h
  rw [evalPart_none]
  exact wpAny_pure (h _ _ (.refl _ _) .none)
theorem pp_some {e : Expr} {i : Int} (h1 : PV prog w K off tb k env ρ e (.int i)) : PP prog w K off tb k env ρ (some e) (some i) := by
  intro A X s Q hR hO hE h
  rw [evalPart_some]
  refine h1 A X s _ hR hO hE fun v s₁ e₁ r₁ => ?_
  obtain ⟨t, rfl⟩ := r₁.int
  exact h _ _ e₁ (.int _ _)
theorem pv_slice {l : Expr} {lo hi : Option Expr} {pos p : Pos} {ds es : List PyData} {a b : Option Int} (hl : PV prog w K off tb k env ρ l (.list ds)) (h1 : PP prog w K off tb k env ρ lo a) (h2 : PP prog w K off tb k env ρ hi b)
    (hz : ds.length ≤ sizeLine) (hp : ∀ (g : Heap) (vs : List Value), RpAll g vs ds → RpAll g (slicePick vs.toArray a b none).toList es)
    (hs : ∀ a u, subscripted (.Slice lo hi none p) false (.ref a) (.ref u) = operate [.ref u, .ref a] (getItem (.ref a) (.ref u)) := by intro _ _; with_unfolding_all rfl) :
    PV prog w K off tb k env ρ (.Subscript l (.Slice lo hi none p) pos) (.list es) := by
  intro A X s Q hR hO hE h
  refine Subscript_ (hl A X s _ hR hO hE fun v s₁ e₁ r₁ => ?_)
  refine wpAny_Slice (h1 A X s₁ _ hR (hO.ext e₁) (hE.ext hO e₁) fun x s₂ e₂ p₂ => h2 A X s₂ _ hR ((hO.ext e₁).ext e₂) ((hE.ext hO e₁).ext (hO.ext e₁) e₂) fun y s₃ e₃ p₃ => ?_)
  rw [evalPart_none]
  refine wpAny_pure ?_
  have O3 := ((hO.ext e₁).ext e₂).ext e₃
  obtain ⟨c, vs, rfl, hL, ra⟩ := ((r₁.sub e₂.vis).sub e₃.vis).isList
  have hL' := IsList.below hL
  have ep : Ext tb s₃ { s₃ with heap := s₃.heap.push { cls := .type "slice", data := .fields #[x, y, .none] } } := ext_push _ _
  have O4 := O3.ext ep
  have hLp := hL'.push { cls := .type "slice", data := .fields #[x, y, .none] }
  refine tail_any (Heap.IsList.typeIs (s := { s₃ with heap := s₃.heap.push { cls := .type "slice", data := .fields #[x, y, .none] } }) hLp) list_getitem_lookup
    (wpAny_getItem_list_slice hLp (Heap.IsSliceOf.new ..) p₂ p₃ .none (by simp) ?_ (by rw [List.size_toArray, ra.length]; exact hz)) (hs _ _)
  have e : slicePick vs.toArray a b none = (slicePick vs.toArray a b none).toList.toArray := by simp
  rw [e]
  exact h _ _ ((((e₁.trans e₂).trans e₃).trans ep).trans (ext_push _ _)) (newlist_rp O4 (hp _ _ (ra.sub ep.vis)))
theorem pick_upto {ds : List PyData} {j : Int} (h0 : 0 ≤ j) (g : Heap) (vs : List Value) (r : RpAll g vs ds) : RpAll g (slicePick vs.toArray none (some j) none).toList (ds.take j.toNat) := by
  obtain ⟨n, rfl⟩ := Int.eq_ofNat_of_zero_le h0
  rw [slicePick_upto']
  simpa using r.take n
theorem pick_from {ds : List PyData} {j : Int} (h0 : 0 ≤ j) (g : Heap) (vs : List Value) (r : RpAll g vs ds) : RpAll g (slicePick vs.toArray (some j) none none).toList (ds.drop j.toNat) := by
  obtain ⟨n, rfl⟩ := Int.eq_ofNat_of_zero_le h0
  rw [slicePick_from']
  simpa using r.drop n
theorem pick_butLast {ds : List PyData} (g : Heap) (vs : List Value) (r : RpAll g vs ds) : RpAll g (slicePick vs.toArray none (some (-1)) none).toList ds.dropLast := by
  have := slicePick_butLast vs.toArray 1 (Nat.le_refl _)
  rw [show (some (-1) : Option Int) = some (-((1 : Nat) : Int)) from rfl, this, List.dropLast_eq_take]
  have e := r.length
  simpa [e] using r.take (ds.length - 1)

/- texts -/
abbrev sts (xs : List Str) : List PyData := xs.map .str
theorem rp_sts {g : Heap} : ∀ l : List (Str × Tok), RpAll g (strValues l) (sts (l.map (·.1)))
  | [] => .nil
  | (x, t) :: l => .cons .mkStr (rp_sts l)
theorem strs_rp {g : Heap} : ∀ {vs : List Value} {xs : List Str}, RpAll g vs (sts xs) → ∃ l : List (Str × Tok), vs = strValues l ∧ l.map (·.1) = xs
  | [], [], _ => ⟨[], rfl, rfl⟩
  | [], _ :: _, r => by have := r.length; simp at this
  | _ :: _, [], r => by have := r.length; simp at this
  | v :: vs, x :: xs, r => by
    obtain ⟨a, b⟩ := RpAll.inv (d := .str x) (ds := sts xs) r
    obtain ⟨t, rfl⟩ := a.str
    obtain ⟨l, rfl, rfl⟩ := strs_rp b
    exact ⟨(x, t) :: l, rfl, rfl⟩

/-- a call of a method of a text with one argument -/
theorem pv_strMethod {o e : Expr} {name : Str} {apos pos : Pos} {id : String} {x : Str} {a d : PyData} (slot : Slot "str" name id) (hty : typeOf (.builtin id) = pure (.type "method_descriptor"))
    (ho : PV prog w K off tb k env ρ o (.str x)) (he : PV prog w K off tb k env ρ e a) (hf : Fn prog w K off tb k (.builtin id) [.str x, a] d)
    (hbase : attributeBase o name env (eval o env) = eval o env := by rfl)
    (hfew : ((backTo pos (starEach [e] env)).all (fun x => !x.1) && (backToKw pos (keywordEach [] env)).all (fun x => x.1.isSome)
      && decide ([e].length + ([] : List Keyword).length + (if ([] : List Keyword).isEmpty then 0 else 1) < 30)) = true := by rfl)
    (hline : (apos.endLine == pos.line) = true := by rfl)
    (hst : starEach [e] env = [(false, eval e env)] := by rfl) :
    PV prog w K off tb k env ρ (.Call (.Attribute o name apos) [e] [] pos) d := by
  intro A X s Q hR hO hE h
  refine wpAny_Call_method hbase hfew hline F.plainAttrs_str slot hty (ho A X s _ hR hO hE fun v s₁ e₁ r₁ => ?_)
  obtain ⟨t, rfl⟩ := r₁.str
  refine ⟨typeIs_str _ _ _, (fun _ e => nomatch e), ?_⟩
  rw [hst]
  refine callWith_builtin rfl (evalArgs_plain ?_)
  refine spliced_cons (he A X s₁ _ hR (hO.ext e₁) (hE.ext hO e₁) fun u s₂ e₂ r₂ => ?_)
  refine spliced_nil ?_
  exact hf A X s₂ [.str x t, u] Q hR ((hO.ext e₁).ext e₂) (.cons .mkStr (.cons r₂ .nil)) fun v s₃ e₃ r₃ => h v s₃ ((e₁.trans e₂).trans e₃) r₃

theorem listOf_rp {X : List Addr} {s : Shared} {n : Nat} {l : List (Str × Tok)} {xs : List Str} {Q : Value → Shared → Prop} (hO : Ok K off tb X s) (hx : l.map (·.1) = xs)
    (h : ∀ v s', Ext tb s s' → Rp (vis tb X s'.heap) v (.list (sts xs)) → Q v s') : Q (.ref s.heap.objs.size) { s with toks := n, heap := s.heap.push { cls := .type "list", data := .seq (strValues l).toArray } } := by
  subst hx
  exact h _ { s with toks := n, heap := s.heap.push { cls := .type "list", data := .seq (strValues l).toArray } } (.of_sub (.push _ _) rfl rfl) (newlist_rp hO (rp_sts l))
open Builtin Builtin.Str in
theorem fn_split {x y : Str} (hy : (y.length == 0) = false) (hx : x.length ≤ sizeLine) (hz : (partsBetween x (occurrences x y 0 x.length (x.length + 1)) y.length).length ≤ sizeLine) :
    Fn prog w K off tb k (.builtin "str.split") [.str x, .str y] (.list (sts (Txt.split x y))) := by
  intro A X s vs Q hR hO r0 h
  obtain ⟨v, u, rfl, r, q⟩ := r0.two
  obtain ⟨t, rfl⟩ := r.str
  obtain ⟨t', rfl⟩ := q.str
  cases h1 : (decide (x.length < y.length) || decide (strKind x < strKind y))
  · cases hf : (occurrences x y 0 x.length (x.length + 1)).isEmpty
    · refine call_meets F.slot_str_split (typeIs_str _ _ _) F.entry_str_split (F.args_str_split_2 _ _) (meets_str_split_sep x y t t' h1 hy hf hx hz) ?_
      show wants Q NoE _ { s with toks := _, heap := s.heap.push { cls := .type "list", data := .seq (strsFrom s.toks (partsBetween x (occurrences x y 0 x.length (x.length + 1)) y.length)).toArray } }
      rw [strsFrom_eq]
      exact listOf_rp (l := numbered s.toks _) hO ((numbered_texts _ _).trans ((if_neg (ne_true_of_eq_false h1)).trans (if_neg (ne_true_of_eq_false hf))).symm) h
    · exact call_meets F.slot_str_split (typeIs_str _ _ _) F.entry_str_split (F.args_str_split_2 _ _) (meets_str_split_not_found x y t t' h1 hy hf)
        (listOf_rp (n := s.toks) (l := [(x, t)]) hO ((if_neg (ne_true_of_eq_false h1)).trans (if_pos hf)).symm h)
  · exact call_meets F.slot_str_split (typeIs_str _ _ _) F.entry_str_split (F.args_str_split_2 _ _) (meets_str_split_cannot_occur x y t t' h1)
      (listOf_rp (n := s.toks) (l := [(x, t)]) hO (if_pos h1).symm h)
theorem fn_join {x : Str} {xs : List Str} (hok : JoinOk x xs = true) : Fn prog w K off tb k (.builtin "str.join") [.str x, .list (sts xs)] (.str (Txt.join x xs)) := by
  intro A X s vs Q hR hO r0 h
  obtain ⟨v, u, rfl, r, q⟩ := r0.two
  obtain ⟨t, rfl⟩ := r.str
  obtain ⟨a, us, rfl, hl, ra⟩ := q.isList
  obtain ⟨l, rfl, hx⟩ := strs_rp ra
  exact SC.join (IsList.below hl) hx hok fun t' n => h _ _ (ext_tok _ _) .mkStr
theorem pv_split {o e : Expr} {apos pos : Pos} {x y : Str} (ho : PV prog w K off tb k env ρ o (.str x)) (he : PV prog w K off tb k env ρ e (.str y)) (hy : (y.length == 0) = false) (hx : x.length ≤ sizeLine)
    (hz : (Builtin.Str.partsBetween x (Builtin.Str.occurrences x y 0 x.length (x.length + 1)) y.length).length ≤ sizeLine)
    (hbase : attributeBase o "split" env (eval o env) = eval o env := by rfl) (hline : (apos.endLine == pos.line) = true := by rfl) (hst : starEach [e] env = [(false, eval e env)] := by rfl) :
    PV prog w K off tb k env ρ (.Call (.Attribute o "split" apos) [e] [] pos) (.list (sts (Txt.split x y))) :=
  pv_strMethod F.slot_str_split F.type_str_split ho he (fn_split hy hx hz) hbase (by rw [hst]; rfl) hline hst
theorem pv_join {o e : Expr} {apos pos : Pos} {x : Str} {xs : List Str} (ho : PV prog w K off tb k env ρ o (.str x)) (he : PV prog w K off tb k env ρ e (.list (sts xs))) (hok : JoinOk x xs = true)
    (hbase : attributeBase o "join" env (eval o env) = eval o env := by rfl) (hline : (apos.endLine == pos.line) = true := by rfl) (hst : starEach [e] env = [(false, eval e env)] := by rfl) :
    PV prog w K off tb k env ρ (.Call (.Attribute o "join" apos) [e] [] pos) (.str (Txt.join x xs)) :=
  pv_strMethod F.slot_str_join F.type_str_join ho he (fn_join hok) hbase (by rw [hst]; rfl) hline hst
end
end Mine
end
section
open PySem PySem.W PySem.Calls PyProof.Rows
set_option maxRecDepth 100000
namespace Mine

/-- an object that is no code -/
def NoCode (o : Obj) : Prop := ∀ vs q t, o.data = .fields vs → vs[1]? ≠ some (.str q t)
theorem TabOk.but {h h' : Heap} {P : Addr} {q : TK} {y : Addr} {oy : Obj} (x : TabOk h P q) (e : Heap.ExtBut y h h') (g : h.get? y = some oy) (n : NoCode oy) (ne : y ≠ P) : TabOk h' P q := by
  cases q with
  | code q =>
    obtain ⟨ps, z1, z2, z3⟩ := x
    refine ⟨ps, e P _ (Ne.symm ne) z1, z2, fun pos cv hc => ?_⟩
    obtain ⟨c, o, vs, t, r1, r2, r3, r4⟩ := z3 pos cv hc
    refine ⟨c, o, vs, t, r1, e c o (fun z => ?_) r2, r3, r4⟩
    subst z; rw [g] at r2; cases r2; exact n vs q t r3 r4
  | own G =>
    obtain ⟨o, es, k, z1, z2⟩ := x
    exact ⟨o, es, k, e P _ (Ne.symm ne) z1, z2⟩
  | any => obtain ⟨ps, z, t⟩ := x; exact ⟨ps, e P _ (Ne.symm ne) z, t⟩
theorem ne_of_tab {tb : Tb} {b : Addr} (h : b ∉ tb.map (·.1)) {q : Addr × TK} (hq : q ∈ tb) : b ≠ q.1 := fun z => h (z ▸ List.mem_map_of_mem hq)
theorem noCode_seq {o : Obj} {its : Array Value} {n : Nat} (e : o.data = .seq its n) : NoCode o := fun vs q t z => (by rw [e] at z; cases z)
theorem noCode_dict {o : Obj} {es : Array DictEntry} {n : Nat} (e : o.data = .dict es n) : NoCode o := fun vs q t z => (by rw [e] at z; cases z)
theorem noCode_cell {o : Obj} {v : Option Value} (e : o.data = .cell v) : NoCode o := fun vs q t z => (by rw [e] at z; cases z)

/-- what a comprehension or a loop may run over: the walker's object in its i-th state bears SO i -/
structure Src (prog : Program) (w : World) (tb : Tb) (k : Nat) (X : List Addr) (s₁ : Shared) (xv : Value) (ds : List PyData) (SO : Nat → Obj → Prop) : Prop where
  lay : ∀ (A : Around) (Q : Value → Shared → Prop), Room A k → (∀ o, SO 0 o → o.isFreed = false → Q (.ref s₁.heap.objs.size) { s₁ with heap := s₁.heap.push o }) → wpAny (model prog w) A (pyIter xv) Q NoE s₁
  self : ∀ (A : Around) (s : Shared) (i : Nat) (o : Obj) (I : Addr) (Q : Value → Shared → Prop) (E : Value → Shared → Prop), s.heap.get? I = some o → SO i o → Q (.ref I) s → wpAny (model prog w) A (pyIter (.ref I)) Q E s
  noCode : ∀ i o, SO i o → NoCode o
  next : ∀ (A : Around) (s : Shared) (i : Nat) (o : Obj) (I : Addr) (Q : Option Value → Shared → Prop) (E : Value → Shared → Prop), Room A k → Sub (vis tb X s₁.heap) s.heap → s.heap.get? I = some o → SO i o →
    (∀ d v h' t o', ds[i]? = some d → Heap.ExtBut I s.heap h' → h'.get? I = some o' → SO (i + 1) o' → Rp (vis tb X s₁.heap) v d → Q (some v) { s with heap := h', toks := t }) →
    (∀ h', ds[i]? = none → Heap.ExtBut I s.heap h' → Q none { s with heap := h' }) → wpAny (model prog w) A (pyNext (.ref I)) Q E s

section
variable {prog : Program} {w : World} {K : Frag} {off : List Addr} {tb : Tb} {k : Nat} {env : Env} {ρ : Rho} {mg mb : Str → Option Value}

theorem src_list {X : List Addr} {s : Shared} {v : Value} {ds : List PyData} (r : Rp (vis tb X s.heap) v (.list ds)) : ∃ SO, Src prog w tb k X s v ds SO := by
  obtain ⟨l, vs, rfl, hl, ra⟩ := r.isList
  refine ⟨fun i o => o.cls = .type "list_iterator" ∧ o.data = .fields #[.ref l, .int i 0], ?_, ?_, ?_, ?_⟩
  · intro A Q hR h
    exact wpAny_pyIter_list (IsList.below hl) (h _ ⟨rfl, rfl⟩ rfl)
  · intro A s' i o I Q E e so h
    exact wpAny_pyIter_listiter ⟨o, e, so.1, so.2⟩ h
  · intro i o so
    exact fun vs q t z => (by rw [so.2] at z; cases z; simp)
  · intro A s' i o I Q E hR hs e so h1 h2
    obtain ⟨ob, hb, r⟩ := hl
    have hl' : s'.heap.IsList l vs.toArray := ⟨ob, hs _ _ hb, r⟩
    cases hd : ds[i]? with
    | none =>
      have : vs.toArray[i]? = none := by
        have := ra.length; simp at hd ⊢; omega
      exact wpAny_pyNext_list_end hR.handled ⟨o, e, so.1, so.2⟩ hl' this fun h' x => h2 h' hd x
    | some d =>
      obtain ⟨v, hv, rv⟩ := ra.get hd
      refine wpAny_pyNext_list_item ⟨o, e, so.1, so.2⟩ hl' (by simpa using hv) fun h' ⟨o', e', c, dd⟩ x => ?_
      exact h1 d v h' s'.toks o' hd x.extBut e' ⟨c, by simpa using dd⟩ rv

/-- names that the block sees through the cells -/
def Passes (env cenv : Env) (ρ' : Rho) : Prop := ∀ p ∈ ρ', CellKind env p.1 ∧ CellKind cenv p.1 ∧ cenv.cells.lookup p.1 = env.cells.lookup p.1

def PTs (prog : Program) (w : World) (K : Frag) (off : List Addr) (tb : Tb) (k : Nat) (env : Env) (ρ : Rho) (ifs : List Expr) (b : Bool) : Prop :=
  (ifs = [] ∧ b = true) ∨ ∃ c, ifs = [c] ∧ PT prog w K off tb k env ρ c b

/-- the turn of a block: what holds between two items -/
structure CInv (tb : Tb) (X : List Addr) (s₁ : Shared) (ds : List PyData) (SO : Nat → Obj → Prop) (p : PyData → Bool) (f : PyData → PyData) (T : Heap → Prop) (P : List Addr) (I D : Addr) (m : Nat) (s' : Shared) (i : Nat) (acc : List Value) (o : Obj) : Prop where
  cnt : m + i = ds.length + 1
  le : i ≤ ds.length
  tgt : T s'.heap
  ext : Ext tb s₁ s'
  gi : s'.heap.get? I = some o
  so : SO i o
  gd : s'.heap.IsList D acc.toArray
  rp : RpAll (vis tb P s'.heap) acc (((ds.take i).filter p).map f)
  few : acc.length ≤ i

theorem comp_loop {elt iter : Expr} {x : Str} {px : Pos} {ifs : List Expr} {scope : Scope} {pos : Pos} {cenv : Env} {ρ' : Rho} {ds : List PyData} (p : PyData → Bool) (f : PyData → PyData) {SO : Nat → Obj → Prop} {xv : Value} {Wl X : List Addr} {T : Heap → Prop} {I D C : Addr} {oI : Obj} {A : Around} {s₁ s₄ : Shared} {R : Result → Shared → Prop}
    (S : Src prog w tb k X s₁ xv ds SO) (hR : Room A k) (O1 : Ok K off tb X s₁) (hnew : ∀ b ∈ I :: D :: Wl, s₁.heap.get? b = none) (hID : I ≠ D) (hIW : I ∉ Wl) (hDW : D ∉ Wl) (hCW : C ∈ Wl)
    (hT : ∀ h, T h → ∀ b ∈ Wl, ∃ o, h.get? b = some o ∧ NoCode o) (hTk : ∀ h h' : Heap, T h → (∀ b o, b ∈ Wl → h.get? b = some o → h'.get? b = some o) → T h')
    (hst : ∀ (s' : Shared) (v : Value) (Q : Unit → Shared → Prop), T s'.heap → (∀ h2 tk, T h2 → (∀ b o, b ∉ Wl → s'.heap.get? b = some o → h2.get? b = some o) → Bound cenv h2 x v → Q () { s' with heap := h2, toks := tk }) → wpAny (model prog w) A (assign (.Name x px) cenv v) Q NoE s')
    (hk : cenv.scope.kind = .function) (hg : cenv.globals = mainGlobals) (hb : cenv.builtins = builtinsNs) (hl : cenv.locals ∈ Wl)
    (hρ : ∀ s', Ext tb s₁ s' → ∀ q ∈ ρ', ∃ u, Bound cenv s'.heap q.1 u ∧ Rp (vis tb X s₁.heap) u q.2) (hlen : ds.length ≤ sizeLine)
    (htest : ∀ d ∈ ds, PTs prog w K off tb k cenv ((x, d) :: ρ') ifs (p d)) (helt : ∀ d ∈ ds, p d = true → PV prog w K off tb k cenv ((x, d) :: ρ') elt (f d))
    (hend : ∀ s', Ext tb s₁ s' → Rp (vis tb (C :: X) s'.heap) (.ref D) (.list ((ds.filter p).map f)) → T s'.heap → R (.ok .next) s')
    (x4 : Ext tb s₁ s₄) (gI : s₄.heap.get? I = some oI) (hSO : SO 0 oI) (gD : s₄.heap.IsList D ([] : List Value).toArray) (hT0 : T s₄.heap) :
    codeAny (model prog w) A (.compLoop (.ListComp elt [⟨.Name x px, iter, ifs, 0⟩] scope pos) 0 (.ref I) (.ref D) cenv) R s₄ := by
  generalize hP : I :: D :: (Wl ++ X) = P
  have ntab : ∀ b ∈ I :: D :: Wl, b ∉ tb.map (·.1) := fun b hb m => by
    obtain ⟨q, hq, e⟩ := List.mem_map.mp m
    obtain ⟨_, g, _⟩ := (O1.tabs q hq).get
    rw [e, hnew b hb] at g; cases g
  have nX : ∀ b ∈ I :: D :: Wl, b ∉ X := fun b hb m => by
    obtain ⟨_, o, g⟩ := O1.priv b m
    rw [hnew b hb] at g; cases g
  have old : ∀ b o, s₁.heap.get? b = some o → b ∉ I :: D :: Wl := fun b o g z => by rw [hnew b z] at g; cases g
  have inI : I ∈ I :: D :: Wl := List.mem_cons_self
  have inD : D ∈ I :: D :: Wl := List.mem_cons_of_mem _ List.mem_cons_self
  have inW : ∀ b ∈ Wl, b ∈ I :: D :: Wl := fun b h => List.mem_cons_of_mem _ (List.mem_cons_of_mem _ h)
  have pI : I ∈ P := hP ▸ List.mem_cons_self
  have pD : D ∈ P := hP ▸ List.mem_cons_of_mem _ List.mem_cons_self
  have pW : ∀ b ∈ Wl, b ∈ P := fun b h => hP ▸ List.mem_cons_of_mem _ (List.mem_cons_of_mem _ (List.mem_append_left _ h))
  have pX : ∀ b ∈ P, b ∈ I :: D :: Wl ∨ b ∈ X := fun b h => by
    rw [← hP] at h
    rcases List.mem_cons.mp h with h | h
    · exact .inl (h ▸ inI)
    · rcases List.mem_cons.mp h with h | h
      · exact .inl (h ▸ inD)
      · exact (List.mem_append.mp h).imp (inW b) id
  have visS : ∀ s' : Shared, Ext tb s₁ s' → Sub (vis tb X s₁.heap) (vis tb P s'.heap) := fun s' e b o g => by
    obtain ⟨g0, n, m⟩ := vis_get g
    exact vis_mk (e.keep b o n g0) n fun q => (pX b q).elim (old b o g0) m
  have mkOk : ∀ s' : Shared, Ext tb s₁ s' → (∃ o, s'.heap.get? I = some o) → (∃ o, s'.heap.get? D = some o) → T s'.heap → Ok K off tb P s' := fun s' e a b c => by
    refine ⟨fun y hy => ?_, fun q hq => e.tab q hq (O1.tabs q hq), O1.top.sub (visS s' e)⟩
    rcases pX y hy with h | h
    · refine ⟨ntab y h, ?_⟩
      rcases List.mem_cons.mp h with h | h
      · exact h ▸ a
      · rcases List.mem_cons.mp h with h | h
        · exact h ▸ b
        · exact (hT _ c y h).imp fun _ z => z.1
    · obtain ⟨n, o, g⟩ := O1.priv y h
      exact ⟨n, o, e.keep y o n g⟩
  -- one object of one's own changes
  have goExt : ∀ (s' : Shared) (h' : Heap) (tk : Nat) (y : List Addr), (∀ b ∈ y, b ∈ I :: D :: Wl) → (∀ b o, b ∉ y → s'.heap.get? b = some o → h'.get? b = some o) → (∀ b ∈ y, ∀ o, s'.heap.get? b = some o → NoCode o) → Ext tb s₁ s' → Ext tb s₁ { s' with heap := h', toks := tk } := fun s' h' tk y hy kp nc e => by
    refine ⟨fun b o n g => kp b o (fun z => old b o g (hy b z)) (e.keep b o n g), fun q hq z => ?_, e.gens, e.os⟩
    have T' := e.tab q hq z
    have hqy : q.1 ∉ y := fun z => ntab _ (hy _ z) (List.mem_map_of_mem hq)
    cases hq2 : q.2 with
    | code q2 =>
      rw [hq2] at T'
      obtain ⟨ps, z1, z2, z3⟩ := T'
      refine ⟨ps, kp _ _ hqy z1, z2, fun pos cv hc => ?_⟩
      obtain ⟨c, o, vs, t, r1, r2, r3, r4⟩ := z3 pos cv hc
      exact ⟨c, o, vs, t, r1, kp c o (fun z => nc c z o r2 vs q2 t r3 r4) r2, r3, r4⟩
    | own G => rw [hq2] at T'; obtain ⟨o, es, n, z1, z2⟩ := T'; exact ⟨o, es, n, kp _ _ hqy z1, z2⟩
    | any => rw [hq2] at T'; obtain ⟨ps, z1, z2⟩ := T'; exact ⟨ps, kp _ _ hqy z1, z2⟩
  refine codeAny_compLoop_tests (fun m s' => ∃ i acc o, CInv tb X s₁ ds SO p f T P I D m s' i acc o) (fun m s' hinv => ?_) (ds.length + 1) ⟨0, [], oI, rfl, Nat.zero_le _, hT0, x4, gI, hSO, gD, by simpa using RpAll.nil, Nat.le_refl _⟩
  obtain ⟨i, acc, o, V⟩ := hinv
  have V1 := V.cnt
  have V2 := V.few
  refine S.next A s' i o I _ _ hR ((visS s' V.ext).trans (vis_below _ _ _)) V.gi V.so (fun d v h' tk o' hd hx1 gI1 so1 rv => ?_) fun h' hd hx1 => ?_
  · -- one more item
    have X2 : Ext tb s₁ { s' with heap := h', toks := tk } := goExt s' h' tk [I] (fun b h => by rw [List.mem_singleton] at h; exact h ▸ inI) (fun b o n g => hx1 b o (fun z => n (List.mem_singleton.mpr z)) g) (fun b h o g => by
      rw [List.mem_singleton] at h; subst h; rw [V.gi] at g; cases g; exact S.noCode _ _ V.so) V.ext
    have T1 : T h' := hTk _ _ V.tgt fun b o h g => hx1 b o (fun z => hIW (z ▸ h)) g
    have gD1 : h'.IsList D acc.toArray := V.gd.extBut hx1 (Ne.symm hID)
    have acc1 : RpAll (vis tb P h') acc (((ds.take i).filter p).map f) := V.rp.sub (vis_sub fun b o _ m e => hx1 b o (fun z => m (z ▸ pI)) e)
    refine wpAny_mono (hst { s' with heap := h', toks := tk } v _ T1 fun h2 tk2 T2 kp2 b2 => ?_) (fun _ _ z => z) fun _ _ z => z.elim
    have X3 : Ext tb s₁ { s' with heap := h2, toks := tk2 } := goExt { s' with heap := h', toks := tk } h2 tk2 Wl inW kp2 (fun b h o g => by
      obtain ⟨o2, g2, n2⟩ := hT _ T1 b h
      rw [g2] at g; cases g; exact n2) X2
    have gI2 : h2.get? I = some o' := kp2 _ _ hIW gI1
    have gD2 : h2.IsList D acc.toArray := let ⟨o, e, r⟩ := gD1; ⟨o, kp2 _ _ hDW e, r⟩
    have acc2 : RpAll (vis tb P h2) acc (((ds.take i).filter p).map f) := acc1.sub (vis_sub fun b o _ m e => kp2 b o (fun z => m (pW b z)) e)
    have O3 := mkOk _ X3 ⟨_, gI2⟩ (let ⟨o, e, _⟩ := gD2; ⟨o, e⟩) T2
    have hdm : d ∈ ds := List.mem_of_getElem? hd
    have E3 : EnvOk tb P cenv ((x, d) :: ρ') { s' with heap := h2, toks := tk2 } := by
      refine ⟨hk, hg, hb, ntab _ (inW _ hl), fun q hq => ?_⟩
      rcases List.mem_cons.mp hq with rfl | hq
      · exact ⟨v, b2, rv.sub (visS _ X3)⟩
      · obtain ⟨u, b, ru⟩ := hρ _ X3 q hq
        exact ⟨u, b, ru.sub (visS _ X3)⟩
    have hlt : i < ds.length := (List.getElem?_eq_some_iff.mp hd).1
    have htk : ds.take (i + 1) = ds.take i ++ [d] := by
      rw [List.take_succ, hd]; rfl
    have nt : ∀ b ∈ I :: D :: Wl, b ∉ tb.map (·.1) := ntab
    have next : ∀ s₃ : Shared, Ext tb { s' with heap := h2, toks := tk2 } s₃ → p d = false → ∃ m', m' < m ∧ ∃ i acc o, CInv tb X s₁ ds SO p f T P I D m' s₃ i acc o := fun s₃ e3 hp => by
      refine ⟨m - 1, by omega, i + 1, acc, o', by omega, hlt, hTk _ _ T2 fun b o h g => e3.keep b o (nt b (inW b h)) g, X3.trans e3, e3.keep _ _ (nt _ inI) gI2, so1, (let ⟨o, e, r⟩ := gD2; ⟨o, e3.keep _ _ (nt _ inD) e, r⟩), ?_, by omega⟩
      rw [htk, List.filter_append, List.map_append]
      simpa [hp] using acc2.sub e3.vis
    have more : ∀ s₃ : Shared, Ext tb { s' with heap := h2, toks := tk2 } s₃ → p d = true → wpAny (model prog w) A (eval elt cenv) (fun x_1 s₄ => wpAny (model prog w) A (call (.builtin "list.append") [.ref D, x_1]) (fun _ s₅ => ∃ m', m' < m ∧ ∃ i acc o, CInv tb X s₁ ds SO p f T P I D m' s₅ i acc o) NoE s₄) NoE s₃ := fun s₃ e3 hp => by
      refine helt d hdm hp A P s₃ _ hR (O3.ext e3) (E3.ext O3 e3) fun v' s₄ e4 r4 => ?_
      have e34 := e3.trans e4
      have gD5 : s₄.heap.IsList D acc.toArray := let ⟨o, e, r⟩ := gD2; ⟨o, e34.keep _ _ (nt _ inD) e, r⟩
      refine wpAny_list_append gD5 (fun h5 gD6 sb5 => ?_) (by rw [List.size_toArray]; omega)
      obtain ⟨oD, gDo, _, nD', dD⟩ := id gD5
      refine ⟨m - 1, by omega, i + 1, acc ++ [v'], o', by omega, hlt, hTk _ _ T2 fun b o h g => sb5.extBut b o (fun z => hDW (z ▸ h)) (e34.keep b o (nt b (inW b h)) g), ?_, sb5.extBut _ _ hID (e34.keep _ _ (nt _ inI) gI2), so1, by simpa using gD6, ?_, by simp; omega⟩
      · exact goExt s₄ h5 s₄.toks [D] (fun b h => by rw [List.mem_singleton] at h; exact h ▸ inD) (fun b o n g => sb5.extBut b o (fun z => n (List.mem_singleton.mpr z)) g) (fun b h o g => by
          rw [List.mem_singleton] at h; subst h; rw [gDo] at g; cases g; exact noCode_seq dD) (X3.trans e34)
      · have step : Sub (vis tb P s₄.heap) (vis tb P h5) := vis_sub fun b o _ m e => sb5.extBut b o (fun z => m (z ▸ pD)) e
        rw [htk, List.filter_append, List.map_append]
        simp only [List.filter_cons, hp, if_true, List.filter_nil, List.map_cons, List.map_nil]
        exact ((acc2.sub e34.vis).sub step).snoc (r4.sub step)
    rcases htest d hdm with ⟨rfl, hp⟩ | ⟨c, rfl, hc⟩
    · refine wpAny_tests_nil ?_
      simp only [if_true]
      exact wpAny_mono (more _ (.refl _ _) hp) (fun _ _ z => wpAny_mono z (fun _ _ z => z) fun _ _ z => z.elim) fun _ _ z => z.elim
    · refine wpAny_tests_one (wpAny_mono (hc A _ _ (fun b s₃ => Ext tb { s' with heap := h2, toks := tk2 } s₃ ∧ b = p d) hR O3 E3 fun s₃ e3 => ⟨e3, rfl⟩) (fun b s₃ ⟨e3, hb⟩ => ?_) fun _ _ z => z.elim)
      subst hb
      split
      · rename_i hp
        exact wpAny_mono (more s₃ e3 hp) (fun _ _ z => wpAny_mono z (fun _ _ z => z) fun _ _ z => z.elim) fun _ _ z => z.elim
      · rename_i hp
        exact next s₃ e3 (by simpa using hp)
  · -- the end
    have hi' : ds.length ≤ i := by simpa using hd
    have X2 : Ext tb s₁ { s' with heap := h' } := goExt s' h' s'.toks [I] (fun b h => by rw [List.mem_singleton] at h; exact h ▸ inI) (fun b o n g => hx1 b o (fun z => n (List.mem_singleton.mpr z)) g) (fun b h o g => by
      rw [List.mem_singleton] at h; subst h; rw [V.gi] at g; cases g; exact S.noCode _ _ V.so) V.ext
    refine hend _ X2 ?_ (hTk _ _ V.tgt fun b o h g => hx1 b o (fun z => hIW (z ▸ h)) g)
    have rp := V.rp
    rw [List.take_of_length_le hi'] at rp
    have step : Sub (vis tb P s'.heap) (vis tb (C :: X) h') := fun b o e => by
      obtain ⟨e0, n, m⟩ := vis_get e
      refine vis_mk (hx1 b o (fun z => m (z ▸ pI)) e0) n fun q => m ?_
      rcases List.mem_cons.mp q with q | q
      · exact q ▸ pW _ hCW
      · rw [← hP]; exact List.mem_cons_of_mem _ (List.mem_cons_of_mem _ (List.mem_append_right _ q))
    obtain ⟨oD, gDo, rD⟩ := V.gd.extBut hx1 (Ne.symm hID)
    exact Rp.ofList (vs := acc) ⟨oD, vis_mk gDo (ntab _ inD) (fun q => by
      rcases List.mem_cons.mp q with q | q
      · exact hDW (q ▸ hCW)
      · exact nX _ inD q), rD⟩ (rp.sub step)

theorem notTab_of {X : List Addr} {s₀ : Shared} {y : Addr} (o : Ok K off tb X s₀) (h : s₀.heap.get? y = none) : y ∉ tb.map (·.1) ∧ y ∉ X := by
  refine ⟨fun m => ?_, fun m => ?_⟩
  · obtain ⟨q, hq, e⟩ := List.mem_map.mp m
    obtain ⟨_, g, _⟩ := (o.tabs q hq).get
    rw [e, h] at g; cases g
  · obtain ⟨_, ob, g⟩ := o.priv y m
    rw [h] at g; cases g
theorem comp_gen {elt iter : Expr} {x : Str} {px : Pos} {ifs : List Expr} {scope : Scope} {pos : Pos} {cl : List (Str × Addr)} {ρ ρ' : Rho} {ds : List PyData} (p : PyData → Bool) (f : PyData → PyData)
    (hclos : closureFor scope env = pure cl) (hkind : scope.kind = .function) (hcell : ∀ y ∈ scope.names, y.2 ≠ .cell) (hnames : ∀ y ∈ scope.names, y.2 = .local → scope.names.lookup y.1 = some .local) (hx : scope.names.lookup x = some .local)
    (hpass : ∀ C, Passes env (compEnvC scope cl C env) ρ') (hsub : ∀ q ∈ ρ', q ∈ ρ) (hlen : ds.length ≤ sizeLine)
    (htest : ∀ d ∈ ds, ∀ C, PTs prog w K off tb k (compEnvC scope cl C env) ((x, d) :: ρ') ifs (p d))
    (helt : ∀ d ∈ ds, p d = true → ∀ C, PV prog w K off tb k (compEnvC scope cl C env) ((x, d) :: ρ') elt (f d))
    (hs : ∀ v, foldedSetIterable iter env v = pure v)
    (hiter : ∀ (A : Around) (X : List Addr) (s : Shared) (Q : Value → Shared → Prop), Room A k → Ok K off tb X s → EnvOk tb X env ρ s →
      (∀ v s', Ext tb s s' → (∃ SO, Src prog w tb k X s' v ds SO) → Q v s') → wpAny (model prog w) A (eval iter env) Q NoE s)
    {use : Option (Value → Sem Unit)} {pos' : Pos} {A : Around} {X : List Addr} {s : Shared} {Q : Value → Shared → Prop} (hR : Room A k) (hO : Ok K off tb X s) (hE : EnvOk tb X env ρ s)
    (hend : ∀ (D C : Addr) (s' : Shared) (mC : Str → Option Value), Ext tb s s' → Rp (vis tb (C :: X) s'.heap) (.ref D) (.list ((ds.filter p).map f)) → s'.heap.Ns C mC → s.heap.get? C = none → C ∉ X → C ∉ tb.map (·.1) →
      compPost (model prog w) A NoE use Q (.ref D) C (.ok .next) s') :
    wpAny (model prog w) A (comprehension (.ListComp elt [⟨.Name x px, iter, ifs, 0⟩] scope pos) scope env pos' (newList []) false (eval iter env) use) Q NoE s := by
  refine wpAny_comprehension_free rfl hs hclos hkind hnames (hiter A X s _ hR hO hE fun xv s₁ e₁ ⟨SO, S⟩ => ?_)
  have O1 := hO.ext e₁
  have E1 := hE.ext hO e₁
  refine S.lay A _ hR fun oI hSO hIf => ?_
  generalize hI : s₁.heap.objs.size = I
  refine wpAny_newObj_type ?_
  refine wpAny_newFunctionEnv hcell (by intro y hy; simp at hy) (fun h₁ hns hsb => ?_) hkind
  dsimp only at hns hsb ⊢
  generalize hH2 : (s₁.heap.push oI).push { cls := .type "list", dict := none, data := .seq ([] : List Value).toArray } = H2 at hns hsb ⊢
  generalize hD : (s₁.heap.push oI).objs.size = D
  generalize hC : H2.objs.size = C at hns hsb ⊢
  have hDI : D = I + 1 := by rw [← hD, ← hI, Heap.size_push]
  have hCI : C = I + 2 := by rw [← hC, ← hH2, Heap.size_push, hD, hDI]
  have none_ : ∀ b : Nat, I ≤ b → s₁.heap.get? b = none := fun b hb => Heap.get?_none_of_le (by rw [hI]; exact hb)
  have g2 : ∀ b o, (s₁.heap.push oI).get? b = some o → H2.get? b = some o := fun b o e => by rw [← hH2]; exact Heap.get?_push_of_some _ e
  have g2D : H2.get? D = some { cls := .type "list", dict := none, data := .seq ([] : List Value).toArray } := by
    rw [← hH2, ← hD]; exact Heap.get?_push_size _ rfl
  have k1 : ∀ b o, b ≠ C → H2.get? b = some o → h₁.get? b = some o := fun b o n e => hsb.extBut b o n (Heap.get?_push_of_some _ e)
  have gI : h₁.get? I = some oI := k1 I oI (by show @Ne Nat _ _; omega) (g2 _ _ (by rw [← hI]; exact Heap.get?_push_size _ hIf))
  have nC := none_ C (by omega)
  have hfin := @comp_loop prog w K off tb k elt iter x px ifs scope pos (compEnvC scope cl C env) ρ' ds p f SO xv [C] X (fun h => ∃ m, h.Ns C m) I D C oI A s₁ { s₁ with heap := h₁, toks := s₁.toks + ([] : List (Str × Value)).length } (compPost (model prog w) A NoE use Q (.ref D) C)
    S hR O1 (all3 (none_ I (Nat.le_refl _)) (none_ D (by omega)) nC) (by show @Ne Nat _ _; omega) (fun z => by have z : @Eq Nat I C := List.mem_singleton.mp z; omega) (fun z => by have z : @Eq Nat D C := List.mem_singleton.mp z; omega) List.mem_cons_self
    (fun h ⟨m, o, es, ep, g, d, _⟩ => all1 ⟨o, g, noCode_dict d⟩) (fun h h' ⟨m, o, es, ep, g, r⟩ kp => ⟨m, o, es, ep, kp _ _ List.mem_cons_self g, r⟩)
    (fun s' v Q ⟨m, n⟩ hQ => wpAny_assign_Name (wpAny_storeName_local (lookup_relabel_local hx) n (fun h2 n2 sb2 => hQ h2 _ ⟨_, n2⟩ (fun b o hb g => sb2.extBut b o (fun z => hb (List.mem_singleton.mpr z)) g) (.inl ⟨lookup_relabel_local hx, _, n2, by simp⟩)) (by simp [compEnvC, relabel, hkind])))
    hkind E1.globals E1.builtins List.mem_cons_self (fun s' e q hq => by
      obtain ⟨u, b, ru⟩ := E1.vars q (hsub q hq)
      obtain ⟨c1, c2, c3⟩ := hpass C q hq
      refine ⟨u, ?_, ru⟩
      rcases b.ext O1 E1.nloc e with ⟨kl, _⟩ | ⟨_, c, hc, hv⟩
      · rcases c1 with c1 | c1 <;> (rw [kl] at c1; cases c1)
      · exact .inr ⟨c2, c, c3.trans hc, hv⟩) hlen (fun d hd => htest d hd C) (fun d hd hp => helt d hd hp C)
    (fun s' e r ⟨mC, n⟩ => by
      have nn := notTab_of O1 nC
      refine hend D C _ _ (e₁.trans e) r n ?_ nn.2 nn.1
      cases hc : s.heap.get? C with
      | none => rfl
      | some o => rw [e₁.keep C o nn.1 hc] at nC; cases nC)
    (.of_sub (fun b o e => k1 b o (fun z => by rw [z, nC] at e; cases e) (g2 _ _ (Heap.get?_push_of_some _ e))) rfl rfl) gI hSO ⟨_, k1 D _ (by show @Ne Nat _ _; omega) g2D, rfl, _, rfl⟩ ⟨_, hns⟩
  exact codeAny_compStart_list hfin (S.self _ _ 0 oI I _ _ gI hSO hfin)

theorem comp_core {elt iter : Expr} {x : Str} {px : Pos} {ifs : List Expr} {scope : Scope} {pos : Pos} {cl : List (Str × Addr)} {ρ ρ' : Rho} {ds : List PyData} (p : PyData → Bool) (f : PyData → PyData)
    (hclos : closureFor scope env = pure cl) (hkind : scope.kind = .function) (hcell : ∀ y ∈ scope.names, y.2 ≠ .cell) (hnames : ∀ y ∈ scope.names, y.2 = .local → scope.names.lookup y.1 = some .local) (hx : scope.names.lookup x = some .local)
    (hpass : ∀ C, Passes env (compEnvC scope cl C env) ρ') (hsub : ∀ q ∈ ρ', q ∈ ρ) (hlen : ds.length ≤ sizeLine)
    (htest : ∀ d ∈ ds, ∀ C, PTs prog w K off tb k (compEnvC scope cl C env) ((x, d) :: ρ') ifs (p d))
    (helt : ∀ d ∈ ds, p d = true → ∀ C, PV prog w K off tb k (compEnvC scope cl C env) ((x, d) :: ρ') elt (f d))
    (hs : ∀ v, foldedSetIterable iter env v = pure v)
    (hiter : ∀ (A : Around) (X : List Addr) (s : Shared) (Q : Value → Shared → Prop), Room A k → Ok K off tb X s → EnvOk tb X env ρ s →
      (∀ v s', Ext tb s s' → (∃ SO, Src prog w tb k X s' v ds SO) → Q v s') → wpAny (model prog w) A (eval iter env) Q NoE s) :
    PV prog w K off tb k env ρ (.ListComp elt [⟨.Name x px, iter, ifs, 0⟩] scope pos) (.list ((ds.filter p).map f)) := by
  intro A X s Q hR hO hE h
  show wpAny (model prog w) A (comprehension (.ListComp elt [⟨.Name x px, iter, ifs, 0⟩] scope pos) scope env (firstIterPos [⟨.Name x px, iter, ifs, 0⟩] pos) (newList []) false (eval iter env) none) Q NoE s
  refine comp_gen (use := none) p f hclos hkind hcell hnames hx hpass hsub hlen htest helt hs hiter hR hO hE fun D C s' mC e r n c0 cX cT => ?_
  refine ⟨mC, n, fun h2 sb2 => ?_⟩
  obtain ⟨oC, esC, epC, gCo, dC, _⟩ := id n
  have X2 : Ext tb s { s' with heap := h2 } :=
    ⟨fun b ob n1 e1 => sb2.extBut b ob (fun z => by rw [z, c0] at e1; cases e1) (e.keep b ob n1 e1), fun q hq z => (e.tab q hq z).but sb2.extBut gCo (noCode_dict dC) (ne_of_tab cT hq), e.gens, e.os⟩
  refine h _ _ X2 (r.sub fun b o e1 => ?_)
  obtain ⟨e0, n1, m⟩ := vis_get e1
  exact vis_mk (sb2.extBut b o (fun z => m (z ▸ List.mem_cons_self)) e0) n1 fun q => m (List.mem_cons_of_mem _ q)
end
end Mine
end
section
open PySem PySem.W PySem.Calls PyProof.Rows
set_option maxRecDepth 100000
namespace Mine

section
variable {prog : Program} {w : World} {K : Frag} {off : List Addr} {tb : Tb} {k : Nat} {env : Env} {ρ : Rho} {mg mb : Str → Option Value}

abbrev nts (n : Nat) : List PyData := (List.range n).map fun j => .int (j : Nat)
/-- a range's object -/
def RgAt (h : Heap) (v : Value) (n : Nat) : Prop := ∃ r t u c, v = .ref r ∧ IsRange h r 0 n 1 t u c
theorem RgAt.sub {h h' : Heap} {v : Value} {n : Nat} (x : RgAt h v n) (s : Sub h h') : RgAt h' v n := let ⟨r, t, u, c, e, g⟩ := x; ⟨r, t, u, c, e, s _ _ g⟩

theorem src_range {X : List Addr} {s : Shared} {v : Value} {n : Nat} (hn : n < 2 ^ 62) (r : RgAt (vis tb X s.heap) v n) : ∃ SO, Src prog w tb k X s v (nts n) SO := by
  obtain ⟨a, t, u, c, rfl, g⟩ := r
  refine ⟨fun i o => i ≤ n ∧ o = { cls := .type "range_iterator", data := .fields #[rawInt i, rawInt ((n : Int) - i), rawInt 1] }, ?_, ?_, ?_, ?_⟩
  · intro A Q hR h
    have hsz : Builtin.Range.rangeSize 0 n 1 = n := by rw [rangeSize_one]; split <;> omega
    refine wpAny_pyIter_range (vis_below _ _ _ _ _ g) (small_one (by decide) (by decide) (by omega) (by omega)) ?_
    rw [hsz]
    exact h _ ⟨Nat.zero_le _, by simp⟩ rfl
  · intro A s' i o I Q E e so h
    obtain ⟨_, rfl⟩ := so
    exact wpAny_pyIter_rangeiter e h
  · rintro i o ⟨_, rfl⟩
    exact fun vs q t z => (by cases z; simp [rawInt])
  · intro A s' i o I Q E hR hs e so h1 h2
    obtain ⟨hi, rfl⟩ := so
    by_cases hlt : i < n
    · refine wpAny_pyNext_range_item e (by omega) fun h' it x => ?_
      refine h1 (.int i) (.int i s'.toks) h' (s'.toks + 1) _ (by simp [nts, hlt]) x.extBut it ⟨hlt, ?_⟩ .mkInt
      have e1 : (i : Int) + 1 = ((i + 1 : Nat) : Int) := by push_cast; rfl
      have e2 : (n : Int) - i - 1 = (n : Int) - ((i + 1 : Nat) : Int) := by push_cast; omega
      rw [e1, e2]
    · refine wpAny_pyNext_range_end hR.handled e (by omega) fun h' x => h2 h' (by simp [nts]; omega) x

/-- [elt for x in xs if ..] over a list -/
theorem pv_comp {elt iter : Expr} {x : Str} {px : Pos} {ifs : List Expr} {scope : Scope} {pos : Pos} {cl : List (Str × Addr)} {ρ ρ' : Rho} {ds es : List PyData} (p : PyData → Bool) (f : PyData → PyData)
    (hclos : closureFor scope env = pure cl) (hkind : scope.kind = .function) (hcell : ∀ y ∈ scope.names, y.2 ≠ .cell) (hnames : ∀ y ∈ scope.names, y.2 = .local → scope.names.lookup y.1 = some .local) (hx : scope.names.lookup x = some .local)
    (hpass : ∀ C, Passes env (compEnvC scope cl C env) ρ') (hsub : ∀ q ∈ ρ', q ∈ ρ) (hlen : ds.length ≤ sizeLine)
    (hiter : PV prog w K off tb k env ρ iter (.list ds))
    (htest : ∀ d ∈ ds, ∀ C, PTs prog w K off tb k (compEnvC scope cl C env) ((x, d) :: ρ') ifs (p d))
    (helt : ∀ d ∈ ds, p d = true → ∀ C, PV prog w K off tb k (compEnvC scope cl C env) ((x, d) :: ρ') elt (f d))
    (hes : es = (ds.filter p).map f)
    (hs : ∀ v, foldedSetIterable iter env v = pure v := by intro _; rfl) :
    PV prog w K off tb k env ρ (.ListComp elt [⟨.Name x px, iter, ifs, 0⟩] scope pos) (.list es) := by
  subst hes
  exact comp_core p f hclos hkind hcell hnames hx hpass hsub hlen htest helt hs fun A X s Q hR hO hE h => hiter A X s Q hR hO hE fun v s' e r => h v s' e (src_list r)

/-- range(n) -/
theorem eval_range {A : Around} {X : List Addr} {s : Shared} {Q : Value → Shared → Prop} {e : Expr} {p pos : Pos} {n : Nat} (G : Globs K off mg mb) (hm : mg "range" = none) (hv : mb "range" = some (.type "range")) (he : PV prog w K off tb k env ρ e (.int n))
    (hR : Room A k) (hO : Ok K off tb X s) (hE : EnvOk tb X env ρ s) (h : ∀ v s', Ext tb s s' → RgAt (vis tb X s'.heap) v n → Q v s')
    (hx : env.kindOf "range" = some .globalImplicit) (hst : starEach [e] env = [(false, eval e env)]) : wpAny (model prog w) A (eval (.Call (.Name "range" p) [e] [] pos) env) Q NoE s := by
  refine wpAny_Call_NameR (load_builtin G hO hE hm hv hx (by decide) ?_)
  rw [hst]
  refine PySem.callWith_type rfl (evalArgs_plain (spliced_cons (he A X s _ hR hO hE fun v s₁ e₁ r₁ => spliced_nil ?_)))
  obtain ⟨t, rfl⟩ := r₁.int
  refine call_range_1 (h _ _ (e₁.trans (.of_sub (.push _ _) rfl rfl)) ⟨_, s₁.toks, t, s₁.toks + 1, rfl, ?_⟩)
  exact vis_mk (Heap.get?_push_size _ rfl) (fresh_vis (hO.ext e₁)).1 (fresh_vis (hO.ext e₁)).2
theorem pv_comp_range {elt e : Expr} {x : Str} {px p1 pos1 : Pos} {ifs : List Expr} {scope : Scope} {pos : Pos} {cl : List (Str × Addr)} {ρ ρ' : Rho} {n : Nat} {es : List PyData} (p : PyData → Bool) (f : PyData → PyData)
    (G : Globs K off mg mb) (hm : mg "range" = none) (hv : mb "range" = some (.type "range"))
    (hclos : closureFor scope env = pure cl) (hkind : scope.kind = .function) (hcell : ∀ y ∈ scope.names, y.2 ≠ .cell) (hnames : ∀ y ∈ scope.names, y.2 = .local → scope.names.lookup y.1 = some .local) (hx : scope.names.lookup x = some .local)
    (hpass : ∀ C, Passes env (compEnvC scope cl C env) ρ') (hsub : ∀ q ∈ ρ', q ∈ ρ) (hlen : n ≤ 1000000)
    (hiter : PV prog w K off tb k env ρ e (.int n))
    (htest : ∀ j < n, ∀ C, PTs prog w K off tb k (compEnvC scope cl C env) ((x, .int (j : Nat)) :: ρ') ifs (p (.int (j : Nat))))
    (helt : ∀ j < n, p (.int (j : Nat)) = true → ∀ C, PV prog w K off tb k (compEnvC scope cl C env) ((x, .int (j : Nat)) :: ρ') elt (f (.int (j : Nat))))
    (hes : es = ((nts n).filter p).map f)
    (hxr : env.kindOf "range" = some .globalImplicit := by rfl) (hst : starEach [e] env = [(false, eval e env)] := by rfl)
    (hs : ∀ v, foldedSetIterable (.Call (.Name "range" p1) [e] [] pos1) env v = pure v := by intro _; rfl) :
    PV prog w K off tb k env ρ (.ListComp elt [⟨.Name x px, .Call (.Name "range" p1) [e] [] pos1, ifs, 0⟩] scope pos) (.list es) := by
  subst hes
  refine comp_core p f hclos hkind hcell hnames hx hpass hsub (by simp [nts]; have : sizeLine = 2 ^ 24 := rfl; omega) (fun d hd C => ?_) (fun d hd hp C => ?_) hs fun A X s Q hR hO hE h => eval_range G hm hv hiter hR hO hE (fun v s' e r => h v s' e (src_range (by omega) r)) hxr hst
  · obtain ⟨j, hj, rfl⟩ := List.mem_map.mp hd
    exact htest j (List.mem_range.mp hj) C
  · obtain ⟨j, hj, rfl⟩ := List.mem_map.mp hd
    exact helt j (List.mem_range.mp hj) hp C
end
end Mine
end
section
open PySem PySem.W PySem.Calls PyProof.Rows
set_option maxRecDepth 100000
namespace Mine

structure ExtO (tb : Tb) (Y : List Addr) (s s' : Shared) : Prop where
  keep : ∀ b o, b ∉ tb.map (·.1) → b ∉ Y → s.heap.get? b = some o → s'.heap.get? b = some o
  tab : ∀ p ∈ tb, TabOk s.heap p.1 p.2 → TabOk s'.heap p.1 p.2
  gens : s'.gens = s.gens
  os : s'.os = s.os
theorem ExtO.of {tb : Tb} {Y : List Addr} {s s' : Shared} (x : Ext tb s s') : ExtO tb Y s s' := ⟨fun b o n _ e => x.keep b o n e, x.tab, x.gens, x.os⟩
theorem ExtO.trans {tb : Tb} {Y : List Addr} {a b c : Shared} (x : ExtO tb Y a b) (y : ExtO tb Y b c) : ExtO tb Y a c :=
  ⟨fun k o n m e => y.keep k o n m (x.keep k o n m e), fun p hp e => y.tab p hp (x.tab p hp e), y.gens.trans x.gens, y.os.trans x.os⟩
theorem ExtO.vis {tb : Tb} {X Y : List Addr} {s s' : Shared} (x : ExtO tb Y s s') (h : ∀ y ∈ Y, y ∈ X) : Sub (vis tb X s.heap) (vis tb X s'.heap) := vis_sub fun b o n m e => x.keep b o n (fun q => m (h b q)) e

/-- the block's own objects: its names, its cells -/
def own (env : Env) : List Addr := env.locals :: env.scope.names.filterMap fun p => if p.2 == .cell then env.cells.lookup p.1 else none

def PB (prog : Program) (w : World) (K : Frag) (off : List Addr) (tb : Tb) (k : Nat) (env : Env) (ρ : Rho) (body : List Stmt) (d : PyData) : Prop :=
  ∀ (A : Around) (X : List Addr) (s : Shared) (Q : Flow → Shared → Prop), Room A k → Ok K off tb X s → EnvOk tb X env ρ s → (∀ y ∈ own env, y ∈ X) → (∃ m, s.heap.Ns env.locals m) →
    (∀ x c, env.kindOf x = some .cell → env.cells.lookup x = some c → ∃ v, s.heap.IsCell c v) → (∀ x y c, env.cells.lookup x = some c → env.cells.lookup y = some c → x = y) →
    (∀ v s', ExtO tb (own env) s s' → Rp (vis tb X s'.heap) v d → Q (.ret v) s') → wpAny (model prog w) A (execs body env) Q NoE s

section
variable {prog : Program} {w : World} {K : Frag} {off : List Addr} {tb : Tb} {k : Nat} {env : Env} {ρ : Rho} {mg mb : Str → Option Value}

theorem pb_return {e : Expr} {pos : Pos} {rest : List Stmt} {d : PyData} (h : PV prog w K off tb k env ρ e d) : PB prog w K off tb k env ρ (.Return (some e) pos :: rest) d := by
  intro A X s Q hR hO hE _ _ _ _ hQ
  refine wpAny_execs_cons (wpAny_Return_some (h A X s _ hR hO hE fun v s' e r => ?_))
  exact hQ v s' (.of e) r

theorem pb_ifret {t e : Expr} {p1 p2 : Pos} {rest : List Stmt} {c : Bool} {d : PyData} (ht : PT prog w K off tb k env ρ t c) (h1 : c = true → PV prog w K off tb k env ρ e d) (h2 : c = false → PB prog w K off tb k env ρ rest d) :
    PB prog w K off tb k env ρ (.If t [.Return (some e) p1] [] p2 :: rest) d := by
  intro A X s Q hR hO hE hX hL hC hU hQ
  refine wpAny_execs_cons (wpAny_If (ht A X s _ hR hO hE fun s₁ e₁ => ?_))
  cases c with
  | true =>
    simp only [if_true]
    refine wpAny_execs_cons (wpAny_Return_some (h1 rfl A X s₁ _ hR (hO.ext e₁) (hE.ext hO e₁) fun v s₂ e₂ r => ?_))
    exact hQ v s₂ (.of (e₁.trans e₂)) r
  | false =>
    simp only [Bool.false_eq_true, if_false]
    refine wpAny_execs_nil ?_
    have hLn : ∃ m, s₁.heap.Ns env.locals m := by
      obtain ⟨m, o, es, ep, h1, h2, h3⟩ := hL
      exact ⟨m, o, es, ep, e₁.keep _ _ hE.nloc h1, h2, h3⟩
    refine h2 rfl A X s₁ Q hR (hO.ext e₁) (hE.ext hO e₁) hX hLn (fun x c k1 k2 => ?_) hU fun v s₂ e₂ r => hQ v s₂ ((ExtO.of e₁).trans e₂) r
    obtain ⟨v, o, h1, h2⟩ := hC x c k1 k2
    exact ⟨v, o, e₁.keep _ _ (hO.cellTab ⟨o, h1, h2⟩) h1, h2⟩

theorem pb_assign {x : Str} {e : Expr} {p1 p2 : Pos} {rest : List Stmt} {a d : PyData} (h1 : PV prog w K off tb k env ρ e a) (h2 : PB prog w K off tb k env ((x, a) :: ρ) rest d)
    (hk : env.kindOf x = some .local) (hn : ∀ p ∈ ρ, p.1 ≠ x) (hs : swapsWith e (some (.Name x p1)) p2.line env = pure false) : PB prog w K off tb k env ρ (.Assign [.Name x p1] e p2 :: rest) d := by
  intro A X s Q hR hO hE hX hL hC hU hQ
  refine wpAny_execs_cons (wpAny_Assign_Name (h1 A X s _ hR hO hE fun v s₁ e₁ r => ?_) hs)
  have O1 := hO.ext e₁
  obtain ⟨m, o, es, ep, g1, g2, g3⟩ := hL
  have hLn : s₁.heap.Ns env.locals m := ⟨o, es, ep, e₁.keep _ _ hE.nloc g1, g2, g3⟩
  have hkd : env.scope.kind = .function := hE.kind
  refine wpAny_storeName_local hk hLn (fun h' n' sb => ?_) (by rw [hkd]; rfl)
  obtain ⟨oL, esL, epL, gL, dL, _⟩ := id hLn
  obtain ⟨oL', esL', epL', gL', dL', _⟩ := id n'
  have lx : env.locals ∈ X := hX _ List.mem_cons_self
  have x1 : ExtO tb (own env) s₁ { s₁ with heap := h', toks := s₁.toks + 1 } :=
    ⟨fun b o _ m e => sb.extBut b o (fun z => m (z ▸ List.mem_cons_self)) e, fun q hq z => z.but sb.extBut gL (noCode_dict dL) (ne_of_tab hE.nloc hq), rfl, rfl⟩
  have O2 : Ok K off tb X { s₁ with heap := h', toks := s₁.toks + 1 } := by
    refine ⟨fun y hy => ⟨(O1.priv y hy).1, ?_⟩, fun q hq => x1.tab q hq (O1.tabs q hq), O1.top.sub (x1.vis hX)⟩
    by_cases z : y = env.locals
    · subst z; exact ⟨_, gL'⟩
    · obtain ⟨o, e⟩ := (O1.priv y hy).2; exact ⟨o, sb.extBut y o z e⟩
  have E1 := hE.ext hO e₁
  have E2 : EnvOk tb X env ((x, a) :: ρ) { s₁ with heap := h', toks := s₁.toks + 1 } := by
    refine ⟨E1.kind, E1.globals, E1.builtins, E1.nloc, fun q hq => ?_⟩
    rcases List.mem_cons.mp hq with rfl | hq
    · exact ⟨v, .inl ⟨hk, _, n', by simp⟩, r.sub (x1.vis hX)⟩
    · obtain ⟨u, b, ru⟩ := E1.vars q hq
      refine ⟨u, ?_, ru.sub (x1.vis hX)⟩
      rcases b with ⟨kl, m', n1, hm⟩ | ⟨kc, c, hc, hv⟩
      · refine .inl ⟨kl, _, n', ?_⟩
        have : m q.1 = m' q.1 := by
          obtain ⟨o1, es1, ep1, a1, a2, _, a3⟩ := n1
          obtain ⟨o2, es2, ep2, b1, b2, _, b3⟩ := hLn
          rw [a1] at b1; cases b1; rw [a2] at b2; cases b2
          rw [← a3, ← b3]
        simp only [if_neg (hn q hq), this, hm]
      · obtain ⟨oc, c1, c2⟩ := hv
        exact .inr ⟨kc, c, hc, oc, sb.extBut c oc (fun z => by rw [z, gL] at c1; cases c1; rw [dL] at c2; cases c2) c1, c2⟩
  refine h2 A X _ Q hR O2 E2 hX ⟨_, n'⟩ (fun y c k1 k2 => ?_) hU fun v s₂ e₂ r => hQ v s₂ (((ExtO.of e₁).trans x1).trans e₂) r
  obtain ⟨v0, oc, c1, c2⟩ := hC y c k1 k2
  have c1' := e₁.keep _ _ (hO.cellTab ⟨oc, c1, c2⟩) c1
  exact ⟨v0, oc, sb.extBut c oc (fun z => by rw [z, gL] at c1'; cases c1'; rw [dL] at c2; cases c2) c1', c2⟩
end
end Mine
end
section
open PySem PySem.W PySem.Calls PyProof.Rows
set_option maxRecDepth 100000
namespace Mine
section
variable {prog : Program} {w : World} {K : Frag} {off : List Addr} {tb : Tb} {k : Nat} {env : Env} {ρ : Rho} {mg mb : Str → Option Value}

theorem own_cell {x : Str} {c : Addr} (hk : env.kindOf x = some .cell) (hc : env.cells.lookup x = some c) : c ∈ own env := by
  refine List.mem_cons_of_mem _ (List.mem_filterMap.mpr ⟨(x, .cell), mem_of_lookup hk, ?_⟩)
  simp [hc]

/- entering a def -/
theorem bindL_other {kd : Str → Option NameKind} {x : Str} : ∀ (binds : List (Str × Value)) (m : Str → Option Value), (∀ p ∈ binds, p.1 ≠ x) → bindL kd binds m x = m x
  | [], _, _ => rfl
  | (n, v) :: r, m, h => by
    unfold bindL
    rw [bindL_other r _ fun p hp => h p (List.mem_cons_of_mem _ hp)]
    have : n ≠ x := h (n, v) List.mem_cons_self
    split
    · exact if_neg (Ne.symm this)
    · rfl
theorem bindC_other {kd : Str → Option NameKind} {x : Str} : ∀ (binds : List (Str × Value)) (m : Str → Option Value), (∀ p ∈ binds, p.1 ≠ x) → bindC kd binds m x = m x
  | [], _, _ => rfl
  | (n, v) :: r, m, h => by
    unfold bindC
    rw [bindC_other r _ fun p hp => h p (List.mem_cons_of_mem _ hp)]
    have : n ≠ x := h (n, v) List.mem_cons_self
    split
    · rfl
    · exact if_neg (Ne.symm this)
theorem bindL_get {kd : Str → Option NameKind} : ∀ (binds : List (Str × Value)) (m : Str → Option Value), (binds.map (·.1)).Nodup → ∀ p ∈ binds, kd p.1 = some .local → bindL kd binds m p.1 = some p.2
  | [], _, _, _, hp, _ => nomatch hp
  | (n, v) :: r, m, h, p, hp, hk => by
    rw [List.map_cons, List.nodup_cons] at h
    unfold bindL
    rcases List.mem_cons.mp hp with rfl | hp
    · rw [bindL_other r _ (x := n) (fun q hq (z : q.1 = n) => h.1 (List.mem_map.mpr ⟨q, hq, z⟩)), if_pos hk]; simp
    · exact bindL_get r _ h.2 p hp hk
theorem bindC_get {kd : Str → Option NameKind} : ∀ (binds : List (Str × Value)) (m : Str → Option Value), (binds.map (·.1)).Nodup → ∀ p ∈ binds, kd p.1 = some .cell → bindC kd binds m p.1 = some p.2
  | [], _, _, _, hp, _ => nomatch hp
  | (n, v) :: r, m, h, p, hp, hk => by
    rw [List.map_cons, List.nodup_cons] at h
    unfold bindC
    rcases List.mem_cons.mp hp with rfl | hp
    · rw [bindC_other r _ (x := n) (fun q hq (z : q.1 = n) => h.1 (List.mem_map.mpr ⟨q, hq, z⟩)), if_neg (by rw [hk]; decide)]; simp
    · exact bindC_get r _ h.2 p hp hk

theorem zip_rp {h : Heap} : ∀ {xs : List Str} {vs : List Value} {ds : List PyData}, RpAll h vs ds → ∀ p ∈ xs.zip ds, ∃ v, (p.1, v) ∈ xs.zip vs ∧ Rp h v p.2
  | [], _, _, _, _, hp => by simp at hp
  | _ :: _, [], [], _, _, hp => by simp at hp
  | _ :: _, [], _ :: _, r, _, _ => by have := r.length; simp at this
  | _ :: _, _ :: _, [], r, _, _ => by have := r.length; simp at this
  | x :: xs, v :: vs, d :: ds, r, p, hp => by
    rw [List.zip_cons_cons] at hp
    rcases List.mem_cons.mp hp with rfl | hp
    · exact ⟨v, List.mem_cons_self, r.inv.1⟩
    · obtain ⟨u, a, b⟩ := zip_rp r.inv.2 p hp
      exact ⟨u, List.mem_cons_of_mem _ a, b⟩

theorem fn_enter {f : Addr} {o : Obj} {fd : FuncData} {body : List Stmt} {xs : List Str} {ds : List PyData} {d : PyData} (G : Globs K off mg mb) (ho : K.lookup f = some o) (hf : f ∉ off) (hdat : o.data = .func fd)
    (hbody : fd.body = .stmts body) (hclo : fd.closure = []) (hglob : fd.globals = mainGlobals) (hbuilt : fd.builtins = builtinsNs) (hcd : ∀ g, TopOk K off g → g.CodeRec fd.code fd.qualname)
    (hlen : xs.length = ds.length) (hbind : ∀ vs : List Value, vs.length = xs.length → bindArgs fd ⟨vs, []⟩ = pure (xs.zip vs)) (hnd : xs.Nodup)
    (hkind : ∀ x ∈ xs, fd.scope.names.lookup x = some .local ∨ (fd.scope.names.lookup x = some .cell ∧ ∀ L, ((cellsFrom L fd.scope.names []).lookup x).isSome = true))
    (huniq : ∀ L x y c, (cellsFrom L fd.scope.names []).lookup x = some c → (cellsFrom L fd.scope.names []).lookup y = some c → x = y)
    (hco : fd.scope.isCoroutine = false) (hgen : fd.scope.isGenerator = false) (hk : fd.scope.kind = .function)
    (h : ∀ L, PB prog w K off tb k (callEnvC fd L f) (xs.zip ds) body d) : Fn prog w K off tb (k + 1) (.ref f) ds d := by
  intro A X s vs Q hR hO r hQ
  have hvl : vs.length = xs.length := by rw [r.length, hlen]
  have hmem : ∀ p ∈ xs.zip vs, p.1 ∈ xs := fun p hp => (List.of_mem_zip hp).1
  have hnd' : ((xs.zip vs).map (·.1)).Nodup := by
    rw [List.map_fst_zip (by omega)]; exact hnd
  refine wpAny_call (codeAny_call_cells hR.lim (hO.get ho hf) hdat (hO.globs G).2.2 ((hcd _ hO.top).keeps (vis_below _ _ _)) hbody (hbind vs hvl) hclo
    (fun p hp => (hkind p.1 (hmem p hp)).imp id fun z => ⟨z.1, z.2 _⟩) (fun s₁ I => ?_) hco hgen hk)
  generalize hL : s.heap.objs.size = L at I ⊢
  have loc : (callEnvC fd L f).locals = L := rfl
  have cls : (callEnvC fd L f).cells = cellsFrom (L + 1) fd.scope.names [] := rfl
  obtain ⟨h₁, tk, hs₁⟩ := I.toInCall.same
  have e₁ : Ext tb s s₁ := .of_sub I.toInCall.keep (by rw [hs₁]) (by rw [hs₁])
  have old : ∀ (b : Nat) o, s.heap.get? b = some o → b < L := fun b o e => hL ▸ Heap.lt_size e
  have above : ∀ y ∈ own (callEnvC fd L f), @LE.le Nat _ L y ∧ ∃ o, s₁.heap.get? y = some o := fun y hy => by
    rcases List.mem_cons.mp hy with z | hy
    · subst z
      obtain ⟨o, es, ep, g, _⟩ := I.toInCall.ns
      exact ⟨Nat.le_refl _, o, g⟩
    · obtain ⟨p, hp, z⟩ := List.mem_filterMap.mp hy
      split at z
      · obtain ⟨o, g, _⟩ := I.cell _ _ z
        exact ⟨Nat.le_of_lt (I.above _ _ (mem_of_lookup z)), o, g⟩
      · cases z
  have ntab : ∀ b : Nat, L ≤ b → b ∉ tb.map (·.1) := fun b hb m => by
    obtain ⟨q, hq, e⟩ := List.mem_map.mp m
    obtain ⟨ps, z, _⟩ := (hO.tabs q hq).get
    have h0 : @LT.lt Nat _ q.1 L := old _ _ z
    have h1 : @Eq Nat q.1 b := e
    omega
  have visS : Sub (vis tb X s.heap) (vis tb (own (callEnvC fd L f) ++ X) s₁.heap) := fun (b : Nat) o e => by
    obtain ⟨e0, n, m⟩ := vis_get e
    refine vis_mk (e₁.keep b o n e0) n fun q => ?_
    rcases List.mem_append.mp q with q | q
    · have h0 := (above b q).1
      have h1 := old b o e0
      omega
    · exact m q
  have O1 : Ok K off tb (own (callEnvC fd L f) ++ X) s₁ := by
    refine ⟨fun y hy => ?_, fun q hq => e₁.tab q hq (hO.tabs q hq), hO.top.sub visS⟩
    rcases List.mem_append.mp hy with hy | hy
    · exact ⟨ntab _ (above y hy).1, (above y hy).2⟩
    · obtain ⟨n, o, e⟩ := hO.priv y hy
      exact ⟨n, o, e₁.keep y o n e⟩
  have E1 : EnvOk tb (own (callEnvC fd L f) ++ X) (callEnvC fd L f) (xs.zip ds) s₁ := by
    refine ⟨hk, hglob, hbuilt, ntab _ (Nat.le_refl _), fun p hp => ?_⟩
    obtain ⟨v, hv, rv⟩ := zip_rp r p hp
    refine ⟨v, ?_, rv.sub visS⟩
    rcases hkind p.1 (hmem (p.1, v) hv) with kl | ⟨kc, hc⟩
    · exact .inl ⟨kl, _, I.toInCall.ns, bindL_get _ _ hnd' (p.1, v) hv kl⟩
    · obtain ⟨c, hc⟩ := Option.isSome_iff_exists.mp (hc (L + 1))
      refine .inr ⟨.inl kc, c, hc, ?_⟩
      have := I.cell p.1 c hc
      rwa [bindC_get _ _ hnd' (p.1, v) hv kc] at this
  refine wpAny_mono (h L (A.deeper _) (own (callEnvC fd L f) ++ X) s₁ (fun fl s' => match fl with | .ret v => Q v s' | _ => False) hR.deeper O1 E1 (fun y hy => List.mem_append_left _ hy) ⟨_, I.toInCall.ns⟩
    (fun x c _ hc => ⟨_, I.cell x c hc⟩) (huniq (L + 1)) fun v s' e r => ?_) (fun fl s' z => ?_) fun _ _ z => z.elim
  · have ex : Ext tb s s' := ⟨fun (b : Nat) o n e0 => e.keep b o n (fun q => by have h0 := (above b q).1; have h1 := old b o e0; omega) (e₁.keep b o n e0), fun q hq z => e.tab q hq (e₁.tab q hq z), e.gens.trans e₁.gens, e.os.trans e₁.os⟩
    exact hQ v s' ex (r.sub (vis_more fun x hx => List.mem_append_right _ hx))
  · cases fl with
    | ret v => exact z
    | _ => exact z.elim
end
end Mine
end
section
open PySem PySem.W PySem.Calls PyProof.Rows
set_option maxRecDepth 100000
namespace Mine
section
variable {prog : Program} {w : World} {K : Frag} {off : List Addr} {tb : Tb} {k : Nat} {env : Env} {ρ : Rho} {mg mb : Str → Option Value}

theorem stored {x : Str} {a : PyData} {v : Value} {m : Str → Option Value} {X : List Addr} {s₁ : Shared} {h' : Heap} {t : Nat} (O1 : Ok K off tb X s₁) (E1 : EnvOk tb X env ρ s₁) (hX : ∀ y ∈ own env, y ∈ X) (hk : env.kindOf x = some .local)
    (hLn : s₁.heap.Ns env.locals m) (n' : h'.Ns env.locals (fun z => if z = x then some v else m z)) (sb : Heap.SameBut env.locals s₁.heap h') (r : Rp (vis tb X s₁.heap) v a) (hn : ∀ p ∈ ρ, p.1 ≠ x)
    (hC : ∀ x c, env.kindOf x = some .cell → env.cells.lookup x = some c → ∃ v, s₁.heap.IsCell c v) :
    ExtO tb (own env) s₁ { s₁ with heap := h', toks := t } ∧ Ok K off tb X { s₁ with heap := h', toks := t } ∧ EnvOk tb X env ((x, a) :: ρ) { s₁ with heap := h', toks := t } ∧
      (∀ x c, env.kindOf x = some .cell → env.cells.lookup x = some c → ∃ v, h'.IsCell c v) := by
  obtain ⟨oL, esL, epL, gL, dL, _⟩ := id hLn
  obtain ⟨oL', esL', epL', gL', dL', _⟩ := id n'
  have lx : env.locals ∈ X := hX _ List.mem_cons_self
  have x1 : ExtO tb (own env) s₁ { s₁ with heap := h', toks := t } :=
    ⟨fun b o _ m e => sb.extBut b o (fun z => m (z ▸ List.mem_cons_self)) e, fun q hq z => z.but sb.extBut gL (noCode_dict dL) (ne_of_tab E1.nloc hq), rfl, rfl⟩
  refine ⟨x1, ?_, ?_, fun y c k1 k2 => ?_⟩
  · refine ⟨fun y hy => ⟨(O1.priv y hy).1, ?_⟩, fun q hq => x1.tab q hq (O1.tabs q hq), O1.top.sub (x1.vis hX)⟩
    by_cases z : y = env.locals
    · subst z; exact ⟨_, gL'⟩
    · obtain ⟨o, e⟩ := (O1.priv y hy).2; exact ⟨o, sb.extBut y o z e⟩
  · refine ⟨E1.kind, E1.globals, E1.builtins, E1.nloc, fun q hq => ?_⟩
    rcases List.mem_cons.mp hq with rfl | hq
    · exact ⟨v, .inl ⟨hk, _, n', by simp⟩, r.sub (x1.vis hX)⟩
    · obtain ⟨u, b, ru⟩ := E1.vars q hq
      refine ⟨u, ?_, ru.sub (x1.vis hX)⟩
      rcases b with ⟨kl, m', n1, hm⟩ | ⟨kc, c, hc, hv⟩
      · refine .inl ⟨kl, _, n', ?_⟩
        have : m q.1 = m' q.1 := by
          obtain ⟨o1, es1, ep1, a1, a2, _, a3⟩ := n1
          obtain ⟨o2, es2, ep2, b1, b2, _, b3⟩ := hLn
          rw [a1] at b1; cases b1; rw [a2] at b2; cases b2
          rw [← a3, ← b3]
        simp only [if_neg (hn q hq), this, hm]
      · obtain ⟨oc, c1, c2⟩ := hv
        exact .inr ⟨kc, c, hc, oc, sb.extBut c oc (fun z => by rw [z, gL] at c1; cases c1; rw [dL] at c2; cases c2) c1, c2⟩
  · obtain ⟨v0, oc, c1, c2⟩ := hC y c k1 k2
    exact ⟨v0, oc, sb.extBut c oc (fun z => by rw [z, gL] at c1; cases c1; rw [dL] at c2; cases c2) c1, c2⟩

theorem Ok.less {X Y : List Addr} {s : Shared} (h : Ok K off tb Y s) (k : ∀ x ∈ X, x ∈ Y) : Ok K off tb X s := ⟨fun x hx => h.priv x (k x hx), h.tabs, h.top.sub (vis_more k)⟩
theorem EnvOk.less {X Y : List Addr} {s : Shared} (h : EnvOk tb Y env ρ s) (k : ∀ x ∈ X, x ∈ Y) : EnvOk tb X env ρ s := ⟨h.kind, h.globals, h.builtins, h.nloc, fun p hp => let ⟨v, b, r⟩ := h.vars p hp; ⟨v, b, r.sub (vis_more k)⟩⟩

theorem pv_var {x : Str} {pos : Pos} {d : PyData} (hm : ρ.lookup x = some d) (hd : (x == ("__debug__" : Str)) = false := by decide) (hn : (x == ("__classdict__" : Str)) = false := by decide) : PV prog w K off tb k env ρ (.Name x pos) d :=
  pv_name (PySem.mem_of_lookup hm) hd hn
theorem op_floordiv_int {a b : Int} (hb : b ≠ 0) (hs : b.natAbs < 1073741824) : OpB prog w K off tb k .FloorDiv (.int a) (.int b) (.int (a.fdiv b)) := by
  intro A X s Q v u hR hO r q h
  obtain ⟨t, rfl⟩ := r.int; obtain ⟨t', rfl⟩ := q.int
  exact PyProof.Rows.floordiv_int hb (h _ _ (ext_tok _ _) .mkInt) (.inl (PyProof.noPylong_small hs))
theorem op_pow_int {a n : Int} (hn : 0 ≤ n) (hn2 : n ≤ 1000000) (ha : a.natAbs < 2 ^ 64) : OpB prog w K off tb k .Pow (.int a) (.int n) (.int (a ^ n.toNat)) := by
  intro A X s Q v u hR hO r q h
  obtain ⟨t, rfl⟩ := r.int; obtain ⟨t', rfl⟩ := q.int
  exact PyProof.Rows.pow_int_small hn hn2 ha (h _ _ (ext_tok _ _) .mkInt)
end
end Mine
end
section
open PySem PySem.W PyProof.Rows
namespace Mine
open Builtin.Str

abbrev dot : Str := "."
abbrev parts (x : Str) : List Str := Txt.split x dot
theorem dot_eq : dot = ⟨#[46]⟩ := by decide +kernel
abbrev tl (x : Str) : List Nat := x.cps.toList
theorem tl_inj {x y : Str} (h : tl x = tl y) : x = y := Str.ext' (Array.toList_inj.mp h)

def cut : List Nat → List (List Nat)
  | [] => [[]]
  | a :: r => if a = 46 then [] :: cut r else match cut r with | p :: ps => (a :: p) :: ps | [] => [[a]]
theorem cut_ne (l : List Nat) : cut l ≠ [] := by
  cases l with
  | nil => simp [cut]
  | cons a r =>
    unfold cut
    split
    · simp
    · split <;> simp
theorem cut_dot (r : List Nat) : cut (46 :: r) = [] :: cut r := by simp [cut]
theorem cut_other {a : Nat} {r p : List Nat} {ps : List (List Nat)} (h : a ≠ 46) (e : cut r = p :: ps) : cut (a :: r) = (a :: p) :: ps := by simp [cut, h, e]

theorem occ_loop (x : Str) (limit : Nat) : ∀ (l : List Nat) (st : Array Nat × Nat), l.Pairwise (· < ·) → (∀ i ∈ l, st.2 ≤ i) → st.1.size + l.length ≤ limit →
    (forIn l st (StrLaws.occBody x ⟨#[46]⟩ x.length limit)).run.1.toList = st.1.toList ++ l.filter (fun i => decide ((tl x)[i]? = some 46))
  | [], st, _, _, _ => by simp
  | a :: l, st, hp, hf, hl => by
    rw [List.forIn_cons]
    unfold StrLaws.occBody
    have hp' := List.pairwise_cons.mp hp
    simp only [List.length_cons] at hl
    by_cases hc : (tl x)[a]? = some 46
    · have c1 : ((st.1.size < limit ∧ st.2 ≤ a) ∧ a + (⟨#[46]⟩ : Str).length ≤ x.length) ∧ subAt x ⟨#[46]⟩ a = true :=
        ⟨⟨⟨by omega, hf a List.mem_cons_self⟩, ((StrLaws.subAt_one x 46 a).mpr hc).1⟩, ((StrLaws.subAt_one x 46 a).mpr hc).2⟩
      rw [if_pos c1]
      have ih := occ_loop x limit l (st.1.push a, a + (⟨#[46]⟩ : Str).length) hp'.2 (fun i hi => hp'.1 i hi) (by simp; omega)
      rw [List.filter_cons_of_pos (by simpa using hc)]
      simp only [Array.toList_push, List.append_assoc, List.singleton_append] at ih
      exact ih
    · have c1 : ¬ (((st.1.size < limit ∧ st.2 ≤ a) ∧ a + (⟨#[46]⟩ : Str).length ≤ x.length) ∧ subAt x ⟨#[46]⟩ a = true) := fun h => hc ((StrLaws.subAt_one x 46 a).mp ⟨h.1.2, h.2⟩)
      rw [if_neg c1]
      have ih := occ_loop x limit l st hp'.2 (fun i hi => hf i (List.mem_cons_of_mem _ hi)) (by omega)
      rw [List.filter_cons_of_neg (by simpa using hc)]
      exact ih
theorem occ_dot (x : Str) : occurrences x ⟨#[46]⟩ 0 x.length (x.length + 1) = (List.range' 0 (x.length + 1)).filter (fun i => decide ((tl x)[i]? = some 46)) := by
  rw [StrLaws.occ_eq, Nat.sub_zero, occ_loop x _ _ _ (List.pairwise_lt_range') (fun _ _ => Nat.zero_le _) (by simp)]
  simp

theorem split_eq (x : Str) : parts x = partsBetween x (occurrences x dot 0 x.length (x.length + 1)) dot.length := by
  have h : some (WData.list ((partsBetween x (occurrences x dot 0 x.length (x.length + 1)) dot.length).map .str)) = some (.list ((Txt.split x dot).map .str)) := m_split x dot rfl
  simp only [Option.some.injEq, WData.list.injEq] at h
  exact (List.map_inj_right (fun a b h => by cases h; rfl)).mp h.symm
theorem sub_tl (x : Str) (i j : Nat) : tl (strSub x i j) = ((tl x).drop i).take (j - i) := StrLaws.strSub_toList x i j
theorem partsFrom_step (x : Str) (a c0 : Nat) (h : (tl x)[a]? = some c0) : ∀ cuts : List Nat, (∀ c ∈ cuts, a + 1 ≤ c) → (StrLaws.partsFrom x 1 a cuts).map tl =
    match (StrLaws.partsFrom x 1 (a + 1) cuts).map tl with | p :: ps => (c0 :: p) :: ps | [] => [[c0]] := by
  have hd : (tl x).drop a = c0 :: (tl x).drop (a + 1) := by
    obtain ⟨hl, e⟩ := List.getElem?_eq_some_iff.mp h
    rw [List.drop_eq_getElem_cons hl, e]
  have hlt : a < x.length := by obtain ⟨hl, e⟩ := List.getElem?_eq_some_iff.mp h; simpa [Str.length] using hl
  intro cuts hc
  cases cuts with
  | nil =>
    simp only [StrLaws.partsFrom, List.map_cons, List.map_nil, sub_tl, hd]
    rw [show x.length - a = (x.length - (a + 1)) + 1 by omega, List.take_succ_cons]
  | cons c r =>
    have := hc c List.mem_cons_self
    simp only [StrLaws.partsFrom, List.map_cons, sub_tl, hd]
    rw [show c - a = (c - (a + 1)) + 1 by omega, List.take_succ_cons]
theorem partsFrom_cut (x : Str) : ∀ (n a : Nat), a + n = x.length → (StrLaws.partsFrom x 1 a ((List.range' a (n + 1)).filter (fun i => decide ((tl x)[i]? = some 46)))).map tl = cut ((tl x).drop a)
  | 0, a, h => by
    have hn : (tl x)[a]? = none := by simp [Str.length] at h ⊢; omega
    have hd : (tl x).drop a = [] := by simp [Str.length] at h ⊢; omega
    have e : (List.range' a (0 + 1)).filter (fun i => decide ((tl x)[i]? = some 46)) = [] := by
      rw [List.range'_succ, List.filter_cons_of_neg (by rw [hn]; simp)]; rfl
    rw [e, hd]
    simp only [StrLaws.partsFrom, List.map_cons, List.map_nil, sub_tl, hd, List.take_nil, cut]
  | n + 1, a, h => by
    have hl : a < (tl x).length := by simp [Str.length] at h ⊢; omega
    have ih := partsFrom_cut x n (a + 1) (by omega)
    have hd : (tl x).drop a = (tl x)[a] :: (tl x).drop (a + 1) := List.drop_eq_getElem_cons hl
    have hg : (tl x)[a]? = some (tl x)[a] := List.getElem?_eq_getElem hl
    rw [hd, List.range'_succ]
    by_cases e : (tl x)[a] = 46
    · rw [List.filter_cons_of_pos (by rw [hg, e]; simp)]
      simp only [StrLaws.partsFrom, List.map_cons, ih, e, cut_dot, sub_tl, Nat.sub_self, List.take_zero]
    · rw [List.filter_cons_of_neg (by rw [hg]; simpa using e), partsFrom_step x a _ hg _ (fun c hc => by
        have := (List.mem_range'_1.mp (List.mem_filter.mp hc).1).1; omega), ih]
      conv => rhs; unfold cut
      rw [if_neg e]
theorem parts_cut (x : Str) : (parts x).map tl = cut (tl x) := by
  rw [split_eq, dot_eq, occ_dot, StrLaws.partsBetween_eq]
  exact partsFrom_cut x x.length 0 (by omega)

theorem cut_prefix : ∀ xs ys : List Nat, cut xs <+: cut ys ↔ (ys = xs ∨ (xs ++ [46]) <+: ys)
  | [], ys => by
    cases ys with
    | nil => simp [cut]
    | cons b r =>
      by_cases e : b = 46
      · subst e; rw [cut_dot]; simp [cut, List.cons_prefix_cons]
      · obtain ⟨p, ps, h⟩ : ∃ p ps, cut r = p :: ps := by cases h : cut r with | nil => exact absurd h (cut_ne r) | cons p ps => exact ⟨p, ps, rfl⟩
        rw [cut_other e h]
        simp [cut, List.cons_prefix_cons, Ne.symm e]
  | c :: xs, [] => by
    by_cases e : c = 46
    · subst e; rw [cut_dot]
      simp [cut, List.cons_prefix_cons, cut_ne]
    · obtain ⟨p, ps, h⟩ : ∃ p ps, cut xs = p :: ps := by cases h : cut xs with | nil => exact absurd h (cut_ne xs) | cons p ps => exact ⟨p, ps, rfl⟩
      rw [cut_other e h]
      simp [cut, List.cons_prefix_cons]
  | c :: xs, b :: ys => by
    have ih := cut_prefix xs ys
    obtain ⟨p, ps, h⟩ : ∃ p ps, cut xs = p :: ps := by cases h : cut xs with | nil => exact absurd h (cut_ne xs) | cons p ps => exact ⟨p, ps, rfl⟩
    obtain ⟨q, qs, g⟩ : ∃ p ps, cut ys = p :: ps := by cases h : cut ys with | nil => exact absurd h (cut_ne ys) | cons p ps => exact ⟨p, ps, rfl⟩
    by_cases e : c = 46 <;> by_cases e' : b = 46
    · subst e e'; rw [cut_dot, cut_dot]; simp [List.cons_prefix_cons, ih]
    · subst e; rw [cut_dot, cut_other e' g]; simp [List.cons_prefix_cons, Ne.symm e', e']
    · subst e'; rw [cut_dot, cut_other e h]; simp [List.cons_prefix_cons, e, Ne.symm e]
    · rw [cut_other e h, cut_other e' g]
      rw [h, g] at ih
      simp only [List.cons_prefix_cons, List.cons.injEq, List.cons_append] at ih ⊢
      constructor
      · rintro ⟨⟨e1, e2⟩, e3⟩
        rcases ih.mp ⟨e2, e3⟩ with z | z
        · exact .inl ⟨e1.symm, z⟩
        · exact .inr ⟨e1, z⟩
      · rintro (⟨e1, z⟩ | ⟨e1, z⟩)
        · obtain ⟨e2, e3⟩ := ih.mpr (.inl z); exact ⟨⟨e1.symm, e2⟩, e3⟩
        · obtain ⟨e2, e3⟩ := ih.mpr (.inr z); exact ⟨⟨e1, e2⟩, e3⟩

/-- the parts of x stand ahead among those of y -/
def isAbove (x y : Str) : Bool := decide ((parts y).take (parts x).length = parts x)
theorem map_tl_inj {a b : List Str} (h : a.map tl = b.map tl) : a = b := (List.map_inj_right (fun _ _ h => tl_inj h)).mp h
theorem isAbove_iff (x y : Str) : isAbove x y = true ↔ parts x <+: parts y := by
  unfold isAbove
  rw [decide_eq_true_eq, List.prefix_iff_eq_take]
  exact eq_comm
theorem prefix_map {a b : List Str} : a.map tl <+: b.map tl ↔ a <+: b := by
  constructor
  · intro h
    rw [List.prefix_iff_eq_take] at h ⊢
    rw [List.length_map, ← List.map_take] at h
    exact map_tl_inj h
  · exact fun h => h.map _
theorem startswith_iff (y z : Str) : Txt.startswith y z = true ↔ tl z <+: tl y := by
  unfold Txt.startswith
  rw [Bool.and_eq_true, decide_eq_true_eq, StrLaws.subAt_eq, beq_iff_eq, List.prefix_iff_eq_take]
  simp only [List.drop_zero]
  constructor
  · rintro ⟨_, h⟩; simpa [Str.length] using h.symm
  · intro h
    have e : (tl z).length = z.length := by simp [Str.length]
    refine ⟨?_, by rw [e] at h; exact h.symm⟩
    have := congrArg List.length h
    rw [List.length_take, e] at this
    have e2 : (tl y).length = y.length := by simp [Str.length]
    omega
/-- what a reader of the name x tells of y -/
theorem isAbove_eq (x y : Str) : isAbove x y = (y == x || Txt.startswith y (x ++ dot)) := by
  rw [Bool.eq_iff_iff, isAbove_iff, ← prefix_map, parts_cut, parts_cut, cut_prefix, Bool.or_eq_true, startswith_iff, beq_iff_eq, dot_eq]
  have e : tl (x ++ ⟨#[46]⟩) = tl x ++ [46] := by simp [tl, Str.cps_append]
  rw [e]
  exact ⟨fun h => h.imp tl_inj id, fun h => h.imp (congrArg _) id⟩

theorem parts_len (x : Str) : (partsBetween x (occurrences x dot 0 x.length (x.length + 1)) dot.length).length ≤ x.length + 2 := by
  rw [length_partsBetween, dot_eq, occ_dot]
  have := List.length_filter_le (fun i => decide ((tl x)[i]? = some 46)) (List.range' 0 (x.length + 1))
  rw [List.length_range'] at this
  omega
end Mine
end
section
open PySem PySem.W PySem.W.X PyProof.Rows
set_option maxRecDepth 100000
set_option maxHeartbeats 0
namespace Mine
def stOf (i : Nat) : Option Stmt := PySem.Challenge.pw_mr0152_01.main.body[i]?
def inClass : Option Stmt → Nat → Option Stmt
  | some (.ClassDef _ _ _ b _ _ _ _ _ _ _), i => b[i]?
  | _, _ => none
def fArgs : Option Stmt → Arguments
  | some (.FunctionDef _ a _ _ _ _ _ _ _ _) => a
  | _ => ⟨[], [], none, [], [], none, []⟩
def fBody : Option Stmt → List Stmt
  | some (.FunctionDef _ _ b _ _ _ _ _ _ _) => b
  | _ => []
def fScope : Option Stmt → Scope
  | some (.FunctionDef _ _ _ _ _ _ s _ _ _) => s
  | _ => ⟨.function, [], false, false, []⟩
/-- a def's object: its block as the row's term has it -/
def fnO (st : Option Stmt) (name qual : Str) (dfl pm : Value) (code : Addr) : Obj :=
  { cls := .type "function", data := .func { name := name, qualname := qual, params := fArgs st, body := .stmts (fBody st), scope := fScope st, globals := 3, closure := [], defaults := dfl, kwdefaults := .none, pyModule := pm, code := .ref code } }
/-- what the proofs look at -/
noncomputable def K0 : Params → Frag := fun P => ((nat_lit 2 : Nat), (
    { cls := Value.none, data := Data.dict #[] } : Obj)) ::
  ((nat_lit 3 : Nat), (
    { cls := Value.type "dict",
      data :=
        Data.dict
          #[{ hash := PyData.keyHash P (Str.ofString "__name__"), key := Value.str (Str.ofString "__name__") 165,
              val := Value.str (Str.ofString "law_mr0152_01") 318 },
            { hash := PyData.keyHash P (Str.ofString "__doc__"), key := Value.str (Str.ofString "__doc__") 166,
              val := Value.none },
            { hash := PyData.keyHash P (Str.ofString "__package__"), key := Value.str (Str.ofString "__package__") 167,
              val := Value.none },
            { hash := PyData.keyHash P (Str.ofString "__loader__"), key := Value.str (Str.ofString "__loader__") 168,
              val := Value.builtin "__main__.__loader__#opaque" },
            { hash := PyData.keyHash P (Str.ofString "__spec__"), key := Value.str (Str.ofString "__spec__") 169,
              val := Value.none },
            { hash := PyData.keyHash P (Str.ofString "__annotations__"),
              key := Value.str (Str.ofString "__annotations__") 170, val := Value.ref 6 },
            { hash := PyData.keyHash P (Str.ofString "__builtins__"), key := Value.str (Str.ofString "__builtins__") 171,
              val := Value.ref 4 },
            { hash := PyData.keyHash P (Str.ofString "__file__"), key := Value.str (Str.ofString "__file__") 173,
              val := Value.str (Str.ofString "/claim/cut.py") 172 },
            { hash := PyData.keyHash P (Str.ofString "__cached__"), key := Value.str (Str.ofString "__cached__") 174,
              val := Value.none },
            { hash := PyData.keyHash P (Str.ofString "_wall"), key := Value.str (Str.ofString "_wall") 193,
              val := Value.ref 21 },
            { hash := PyData.keyHash P (Str.ofString "cmp_to_key"), key := Value.str (Str.ofString "cmp_to_key") 204,
              val := Value.ref 28 },
            { hash := PyData.keyHash P (Str.ofString "_initial_missing"),
              key := Value.str (Str.ofString "_initial_missing") 205, val := Value.ref 29 },
            { hash := PyData.keyHash P (Str.ofString "reduce"), key := Value.str (Str.ofString "reduce") 217,
              val := Value.ref 37 },
            { hash := PyData.keyHash P (Str.ofString "sep"), key := Value.str (Str.ofString "sep") 219,
              val := Value.str (Str.ofString "/") 218 },
            { hash := PyData.keyHash P (Str.ofString "_kind"), key := Value.str (Str.ofString "_kind") 230,
              val := Value.ref 44 },
            { hash := PyData.keyHash P (Str.ofString "_c_path"), key := Value.str (Str.ofString "_c_path") 243,
              val := Value.ref 51 },
            { hash := PyData.keyHash P (Str.ofString "_splitroot"), key := Value.str (Str.ofString "_splitroot") 252,
              val := Value.ref 58 },
            { hash := PyData.keyHash P (Str.ofString "_normpath"), key := Value.str (Str.ofString "_normpath") 267,
              val := Value.ref 65 },
            { hash := PyData.keyHash P (Str.ofString "normpath"), key := Value.str (Str.ofString "normpath") 275,
              val := Value.ref 72 },
            { hash := PyData.keyHash P (Str.ofString "_Ignore"), key := Value.str (Str.ofString "_Ignore") 317,
              val := Value.ref 95 },
            { hash := PyData.keyHash P (Str.ofString "_law_name"), key := Value.str (Str.ofString "_law_name") 325,
              val := Value.ref 104 },
            { hash := PyData.keyHash P (Str.ofString "_law_keep"), key := Value.str (Str.ofString "_law_keep") 331,
              val := Value.ref 109 },
            { hash := PyData.keyHash P (Str.ofString "_law_above"), key := Value.str (Str.ofString "_law_above") 340,
              val := Value.ref 116 },
            { hash := PyData.keyHash P (Str.ofString "_law_answers"), key := Value.str (Str.ofString "_law_answers") 346,
              val := Value.ref 121 },
            { hash := PyData.keyHash P (Str.ofString "_law_roots"), key := Value.str (Str.ofString "_law_roots") 352,
              val := Value.ref 126 },
            { hash := PyData.keyHash P (Str.ofString "law"), key := Value.str (Str.ofString "law") 358,
              val := Value.ref 131 }]
          26 } : Obj)) ::
  ((nat_lit 23 : Nat), (
    tabObj #[] : Obj)) ::
  ((nat_lit 27 : Nat), (
    { cls := Value.type "code",
      data :=
        Data.fields
          #[Value.str (Str.ofString "cmp_to_key") 196, Value.str (Str.ofString "cmp_to_key") 197,
            Value.str (Str.ofString "/claim/cut.py") 198, Value.int 5 0, Value.int 1 0, Value.int 0 0, Value.int 0 0,
            Value.int 3 0, Value.ref 22, Value.bool true, Value.int 181 0, Value.ref 23, Value.none, Value.ref 24,
            Value.ref 25, Value.ref 26, Value.int 202 0, Value.int 5 0, Value.str (Str.ofString "/claim/cut.py") 203] } : Obj)) ::
  ((nat_lit 28 : Nat), (
    fnO (stOf 2) (Str.ofString "cmp_to_key") (Str.ofString "cmp_to_key") (Value.none) (Value.str (Str.ofString "cpy313.functools") 194) 27 : Obj)) ::
  ((nat_lit 29 : Nat), (
    { cls := Value.type "object" } : Obj)) ::
  ((nat_lit 30 : Nat), (
    { cls := Value.type "tuple", data := Data.seq #[Value.ref 29] } : Obj)) ::
  ((nat_lit 36 : Nat), (
    { cls := Value.type "code",
      data :=
        Data.fields
          #[Value.str (Str.ofString "reduce") 206, Value.str (Str.ofString "reduce") 207,
            Value.str (Str.ofString "/claim/cut.py") 208, Value.int 31 0, Value.int 3 0, Value.int 0 0, Value.int 0 0,
            Value.int 3 0, Value.ref 31, Value.bool true, Value.int 181 0, Value.ref 32, Value.none, Value.ref 33,
            Value.ref 34, Value.ref 35, Value.int 215 0, Value.int 31 0, Value.str (Str.ofString "/claim/cut.py") 216] } : Obj)) ::
  ((nat_lit 37 : Nat), (
    fnO (stOf 4) (Str.ofString "reduce") (Str.ofString "reduce") (Value.ref 30) (Value.str (Str.ofString "cpy313.functools") 194) 36 : Obj)) ::
  ((nat_lit 80 : Nat), (
    { cls := Value.type "tuple", data := Data.seq #[Value.none, Value.none] } : Obj)) ::
  ((nat_lit 84 : Nat), (
    { cls := Value.type "code",
      data :=
        Data.fields
          #[Value.str (Str.ofString "__init__") 290, Value.str (Str.ofString "_Ignore.__init__") 291,
            Value.str (Str.ofString "/claim/cut.py") 292, Value.int 110 0, Value.int 3 0, Value.int 0 0, Value.int 0 0,
            Value.int 3 0, Value.ref 81, Value.bool true, Value.int 181 0, Value.ref 82, Value.none, Value.none, Value.none,
            Value.ref 83, Value.int 293 0, Value.int 110 0, Value.str (Str.ofString "/claim/cut.py") 294] } : Obj)) ::
  ((nat_lit 85 : Nat), (
    fnO (inClass (stOf 13) 0) (Str.ofString "__init__") (Str.ofString "_Ignore.__init__") (Value.ref 80) (Value.str (Str.ofString "cpy313.trace") 276) 84 : Obj)) ::
  ((nat_lit 91 : Nat), (
    { cls := Value.type "code",
      data :=
        Data.fields
          #[Value.str (Str.ofString "names") 296, Value.str (Str.ofString "_Ignore.names") 297,
            Value.str (Str.ofString "/claim/cut.py") 298, Value.int 115 0, Value.int 3 0, Value.int 0 0, Value.int 0 0,
            Value.int 3 0, Value.ref 86, Value.bool true, Value.int 181 0, Value.ref 87, Value.none, Value.ref 88,
            Value.ref 89, Value.ref 90, Value.int 304 0, Value.int 115 0, Value.str (Str.ofString "/claim/cut.py") 305] } : Obj)) ::
  ((nat_lit 92 : Nat), (
    fnO (inClass (stOf 13) 1) (Str.ofString "names") (Str.ofString "_Ignore.names") (Value.none) (Value.str (Str.ofString "cpy313.trace") 276) 91 : Obj)) ::
  ((nat_lit 94 : Nat), (
    { cls := Value.type "dict",
      data :=
        Data.dict
          #[{ hash := PyData.keyHash P (Str.ofString "__module__"), key := Value.str (Str.ofString "__module__") 285,
              val := Value.str (Str.ofString "cpy313.trace") 276 },
            { hash := PyData.keyHash P (Str.ofString "__firstlineno__"),
              key := Value.str (Str.ofString "__firstlineno__") 289, val := Value.int 108 288 },
            { hash := PyData.keyHash P (Str.ofString "__init__"), key := Value.str (Str.ofString "__init__") 295,
              val := Value.ref 85 },
            { hash := PyData.keyHash P (Str.ofString "names"), key := Value.str (Str.ofString "names") 306,
              val := Value.ref 92 },
            { hash := PyData.keyHash P (Str.ofString "__static_attributes__"),
              key := Value.str (Str.ofString "__static_attributes__") 310, val := Value.ref 93 },
            { hash := PyData.keyHash P (Str.ofString "__dict__"), key := Value.str (Str.ofString "__dict__") 312,
              val := Value.ref 96 },
            { hash := PyData.keyHash P (Str.ofString "__weakref__"), key := Value.str (Str.ofString "__weakref__") 314,
              val := Value.ref 97 },
            { hash := PyData.keyHash P (Str.ofString "__doc__"), key := Value.str (Str.ofString "__doc__") 315,
              val := Value.none }]
          4 } : Obj)) ::
  ((nat_lit 95 : Nat), (
    { cls := Value.type "type",
      data :=
        Data.cls
          { name := Str.ofString "_Ignore", bases := [Value.type "object"], mro := [Value.ref 95, Value.type "object"],
            ns := 94, qualname := Str.ofString "_Ignore" },
      slots :=
        #[none, none, some (Value.str (Str.ofString "_Ignore") 278), some (Value.str (Str.ofString "_Ignore") 286),
          some (Value.builtin "object.__new__"), some (Value.bool true)] } : Obj)) ::
  ((nat_lit 103 : Nat), (
    { cls := Value.type "code",
      data :=
        Data.fields
          #[Value.str (Str.ofString "_law_name") 320, Value.str (Str.ofString "_law_name") 321,
            Value.str (Str.ofString "/claim/cut.py") 322, Value.int 135 0, Value.int 1 0, Value.int 0 0, Value.int 0 0,
            Value.int 3 0, Value.ref 100, Value.bool true, Value.int 181 0, Value.ref 101, Value.none, Value.none,
            Value.none, Value.ref 102, Value.int 323 0, Value.int 135 0, Value.str (Str.ofString "/claim/cut.py") 324] } : Obj)) ::
  ((nat_lit 104 : Nat), (
    fnO (stOf 15) (Str.ofString "_law_name") (Str.ofString "_law_name") (Value.none) (Value.str (Str.ofString "law_mr0152_01") 318) 103 : Obj)) ::
  ((nat_lit 108 : Nat), (
    { cls := Value.type "code",
      data :=
        Data.fields
          #[Value.str (Str.ofString "_law_keep") 326, Value.str (Str.ofString "_law_keep") 327,
            Value.str (Str.ofString "/claim/cut.py") 328, Value.int 137 0, Value.int 2 0, Value.int 0 0, Value.int 0 0,
            Value.int 3 0, Value.ref 105, Value.bool true, Value.int 181 0, Value.ref 106, Value.none, Value.none,
            Value.none, Value.ref 107, Value.int 329 0, Value.int 137 0, Value.str (Str.ofString "/claim/cut.py") 330] } : Obj)) ::
  ((nat_lit 109 : Nat), (
    fnO (stOf 16) (Str.ofString "_law_keep") (Str.ofString "_law_keep") (Value.none) (Value.str (Str.ofString "law_mr0152_01") 318) 108 : Obj)) ::
  ((nat_lit 115 : Nat), (
    { cls := Value.type "code",
      data :=
        Data.fields
          #[Value.str (Str.ofString "_law_above") 332, Value.str (Str.ofString "_law_above") 333,
            Value.str (Str.ofString "/claim/cut.py") 334, Value.int 142 0, Value.int 2 0, Value.int 0 0, Value.int 0 0,
            Value.int 3 0, Value.ref 110, Value.bool true, Value.int 181 0, Value.ref 111, Value.none, Value.ref 112,
            Value.ref 113, Value.ref 114, Value.int 338 0, Value.int 142 0, Value.str (Str.ofString "/claim/cut.py") 339] } : Obj)) ::
  ((nat_lit 116 : Nat), (
    fnO (stOf 17) (Str.ofString "_law_above") (Str.ofString "_law_above") (Value.none) (Value.str (Str.ofString "law_mr0152_01") 318) 115 : Obj)) ::
  ((nat_lit 120 : Nat), (
    { cls := Value.type "code",
      data :=
        Data.fields
          #[Value.str (Str.ofString "_law_answers") 341, Value.str (Str.ofString "_law_answers") 342,
            Value.str (Str.ofString "/claim/cut.py") 343, Value.int 145 0, Value.int 2 0, Value.int 0 0, Value.int 0 0,
            Value.int 3 0, Value.ref 117, Value.bool true, Value.int 181 0, Value.ref 118, Value.none, Value.none,
            Value.none, Value.ref 119, Value.int 344 0, Value.int 145 0, Value.str (Str.ofString "/claim/cut.py") 345] } : Obj)) ::
  ((nat_lit 121 : Nat), (
    fnO (stOf 18) (Str.ofString "_law_answers") (Str.ofString "_law_answers") (Value.none) (Value.str (Str.ofString "law_mr0152_01") 318) 120 : Obj)) ::
  ((nat_lit 123 : Nat), (
    tabObj #[] : Obj)) ::
  ((nat_lit 125 : Nat), (
    { cls := Value.type "code",
      data :=
        Data.fields
          #[Value.str (Str.ofString "_law_roots") 347, Value.str (Str.ofString "_law_roots") 348,
            Value.str (Str.ofString "/claim/cut.py") 349, Value.int 148 0, Value.int 1 0, Value.int 0 0, Value.int 0 0,
            Value.int 3 0, Value.ref 122, Value.bool true, Value.int 181 0, Value.ref 123, Value.none, Value.none,
            Value.none, Value.ref 124, Value.int 350 0, Value.int 148 0, Value.str (Str.ofString "/claim/cut.py") 351] } : Obj)) ::
  ((nat_lit 126 : Nat), (
    fnO (stOf 19) (Str.ofString "_law_roots") (Str.ofString "_law_roots") (Value.none) (Value.str (Str.ofString "law_mr0152_01") 318) 125 : Obj)) ::
  ((nat_lit 128 : Nat), (
    tabObj #[] : Obj)) ::
  ((nat_lit 130 : Nat), (
    { cls := Value.type "code",
      data :=
        Data.fields
          #[Value.str (Str.ofString "law") 353, Value.str (Str.ofString "law") 354,
            Value.str (Str.ofString "/claim/cut.py") 355, Value.int 153 0, Value.int 1 0, Value.int 0 0, Value.int 0 0,
            Value.int 3 0, Value.ref 127, Value.bool true, Value.int 181 0, Value.ref 128, Value.none, Value.none,
            Value.none, Value.ref 129, Value.int 356 0, Value.int 153 0, Value.str (Str.ofString "/claim/cut.py") 357] } : Obj)) ::
  ((nat_lit 131 : Nat), (
    fnO (stOf 20) (Str.ofString "law") (Str.ofString "law") (Value.none) (Value.str (Str.ofString "law_mr0152_01") 318) 130 : Obj)) :: []
/-- the named statements of the text -/
def pickOf (l : List Stmt) : List Nat → List Stmt
  | [] => []
  | i :: r => match l[i]? with
    | some s => s :: pickOf l r
    | none => pickOf l r
noncomputable def view : Program := { PySem.Challenge.pw_mr0152_01 with main := { PySem.Challenge.pw_mr0152_01.main with body := pickOf PySem.Challenge.pw_mr0152_01.main.body [0, 2, 3, 5, 7, 8, 9, 10, 11, 13, 15, 16, 17, 18, 19, 20] } }
end Mine
local macro_rules | `(tactic| k_head) => `(tactic| (
  refine holds_open (q := Mine.view) (loose := [Str.ofString "_initial_missing", Str.ofString "reduce"]) (Xt := fun s => xlAt Mine.view [] s && recOk (RowW.records (OpenRow.toRowW (OpenLaw.row PySem.Challenge.rw_mr0152_01))) s) (XP := XL Mine.view []) (Yf := Hook.obs (kHook Mine.K0 [(nat_lit 2 : Nat), (nat_lit 3 : Nat), (nat_lit 23 : Nat), (nat_lit 27 : Nat), (nat_lit 28 : Nat), (nat_lit 29 : Nat), (nat_lit 30 : Nat), (nat_lit 36 : Nat), (nat_lit 37 : Nat), (nat_lit 80 : Nat), (nat_lit 84 : Nat), (nat_lit 85 : Nat), (nat_lit 91 : Nat), (nat_lit 92 : Nat), (nat_lit 94 : Nat), (nat_lit 95 : Nat), (nat_lit 103 : Nat), (nat_lit 104 : Nat), (nat_lit 108 : Nat), (nat_lit 109 : Nat), (nat_lit 115 : Nat), (nat_lit 116 : Nat), (nat_lit 120 : Nat), (nat_lit 121 : Nat), (nat_lit 123 : Nat), (nat_lit 125 : Nat), (nat_lit 126 : Nat), (nat_lit 128 : Nat), (nat_lit 130 : Nat), (nat_lit 131 : Nat)] (fun _ => by kernel_rfl))) (Ya := Hook.val (kHook Mine.K0 [(nat_lit 2 : Nat), (nat_lit 3 : Nat), (nat_lit 23 : Nat), (nat_lit 27 : Nat), (nat_lit 28 : Nat), (nat_lit 29 : Nat), (nat_lit 30 : Nat), (nat_lit 36 : Nat), (nat_lit 37 : Nat), (nat_lit 80 : Nat), (nat_lit 84 : Nat), (nat_lit 85 : Nat), (nat_lit 91 : Nat), (nat_lit 92 : Nat), (nat_lit 94 : Nat), (nat_lit 95 : Nat), (nat_lit 103 : Nat), (nat_lit 104 : Nat), (nat_lit 108 : Nat), (nat_lit 109 : Nat), (nat_lit 115 : Nat), (nat_lit 116 : Nat), (nat_lit 120 : Nat), (nat_lit 121 : Nat), (nat_lit 123 : Nat), (nat_lit 125 : Nat), (nat_lit 126 : Nat), (nat_lit 128 : Nat), (nat_lit 130 : Nat), (nat_lit 131 : Nat)] (fun _ => by kernel_rfl))) (YP := Hook.says (kHook Mine.K0 [(nat_lit 2 : Nat), (nat_lit 3 : Nat), (nat_lit 23 : Nat), (nat_lit 27 : Nat), (nat_lit 28 : Nat), (nat_lit 29 : Nat), (nat_lit 30 : Nat), (nat_lit 36 : Nat), (nat_lit 37 : Nat), (nat_lit 80 : Nat), (nat_lit 84 : Nat), (nat_lit 85 : Nat), (nat_lit 91 : Nat), (nat_lit 92 : Nat), (nat_lit 94 : Nat), (nat_lit 95 : Nat), (nat_lit 103 : Nat), (nat_lit 104 : Nat), (nat_lit 108 : Nat), (nat_lit 109 : Nat), (nat_lit 115 : Nat), (nat_lit 116 : Nat), (nat_lit 120 : Nat), (nat_lit 121 : Nat), (nat_lit 123 : Nat), (nat_lit 125 : Nat), (nat_lit 126 : Nat), (nat_lit 128 : Nat), (nat_lit 130 : Nat), (nat_lit 131 : Nat)] (fun _ => by kernel_rfl))) (N := 1624) ?hl (Hook.of (kHook Mine.K0 [(nat_lit 2 : Nat), (nat_lit 3 : Nat), (nat_lit 23 : Nat), (nat_lit 27 : Nat), (nat_lit 28 : Nat), (nat_lit 29 : Nat), (nat_lit 30 : Nat), (nat_lit 36 : Nat), (nat_lit 37 : Nat), (nat_lit 80 : Nat), (nat_lit 84 : Nat), (nat_lit 85 : Nat), (nat_lit 91 : Nat), (nat_lit 92 : Nat), (nat_lit 94 : Nat), (nat_lit 95 : Nat), (nat_lit 103 : Nat), (nat_lit 104 : Nat), (nat_lit 108 : Nat), (nat_lit 109 : Nat), (nat_lit 115 : Nat), (nat_lit 116 : Nat), (nat_lit 120 : Nat), (nat_lit 121 : Nat), (nat_lit 123 : Nat), (nat_lit 125 : Nat), (nat_lit 126 : Nat), (nat_lit 128 : Nat), (nat_lit 130 : Nat), (nat_lit 131 : Nat)] (fun _ => by kernel_rfl))) (Hook.keeps (kHook Mine.K0 [(nat_lit 2 : Nat), (nat_lit 3 : Nat), (nat_lit 23 : Nat), (nat_lit 27 : Nat), (nat_lit 28 : Nat), (nat_lit 29 : Nat), (nat_lit 30 : Nat), (nat_lit 36 : Nat), (nat_lit 37 : Nat), (nat_lit 80 : Nat), (nat_lit 84 : Nat), (nat_lit 85 : Nat), (nat_lit 91 : Nat), (nat_lit 92 : Nat), (nat_lit 94 : Nat), (nat_lit 95 : Nat), (nat_lit 103 : Nat), (nat_lit 104 : Nat), (nat_lit 108 : Nat), (nat_lit 109 : Nat), (nat_lit 115 : Nat), (nat_lit 116 : Nat), (nat_lit 120 : Nat), (nat_lit 121 : Nat), (nat_lit 123 : Nat), (nat_lit 125 : Nat), (nat_lit 126 : Nat), (nat_lit 128 : Nat), (nat_lit 130 : Nat), (nat_lit 131 : Nat)] (fun _ => by kernel_rfl))) (fun s e => xl_of s (Bool.and_eq_true_iff.mp e).1) XL.keeps (by rfl) (by rfl) (by rfl) (fun s e => recFacts_of (Bool.and_eq_true_iff.mp e).2) (by rfl) (by first | assumption | decide +kernel) (by decide +kernel) ⟨rfl, rfl, rfl, rfl, rfl, by decide +kernel⟩ ?hw ?hc
  (case hl => (intro w; kernel_rfl))
  all_goals (rename_i sd; clear sd)))
open_top hdx for PySem.Challenge.rw_mr0152_01
end
section
open PySem PySem.W PySem.Calls PyProof.Rows
set_option maxRecDepth 100000
namespace Mine

def dictOf : Option Obj → Array DictEntry
  | some { data := .dict es _, .. } => es
  | _ => #[]
def nsOf (K : Frag) (a : Addr) (x : Str) : Option Value := nsFind (dictOf (K.lookup a)) x
/-- the row's heap, with what the head does not write out -/
structure Wd where
  P : Params
  o0 : Obj
  o1 : Obj
  o4 : Obj
  b : Str → Option Value
  es0 : Array DictEntry
  n0 : Nat
  d0 : o0.data = .dict es0 n0
  k0 : StrKeys es0
  f0 : ∀ x, nsFind es0 x = b x
  d4 : o4.cls = .type "module" ∧ o4.dict = some builtinsNs ∧ o4.data = .plain
  bLen : b "len" = some (.builtin "len")
  bRange : b "range" = some (.type "range")
  bSet : b "set" = some (.type "set")
  bIter : b "iter" = some (.builtin "iter")
  bMin : b "min" = some (.builtin "min")
  bObject : b "object" = some (.type "object")
  bBuild : b "__build_class__" = some (.builtin "__build_class__")
noncomputable abbrev K1 (W : Wd) : Frag := ((0 : Nat), W.o0) :: ((1 : Nat), W.o1) :: ((4 : Nat), W.o4) :: K0 W.P
noncomputable abbrev mg1 (W : Wd) := nsOf (K1 W) 3
abbrev mb1 (W : Wd) := W.b

theorem strKeys_of {es : Array DictEntry} (h : es.toList.all (fun e => match e.key with | .str _ _ => true | _ => false) = true) : StrKeys es := by
  intro e he
  have := List.all_eq_true.mp h e (Array.mem_toList_iff.mpr he)
  revert this
  cases e.key <;> simp
theorem ns_of {K : Frag} {off : List Addr} {g : Heap} {a : Addr} {o : Obj} {es : Array DictEntry} {n : Nat} (h : TopOk K off g) (e : K.lookup a = some o) (d : o.data = .dict es n) (hk : es.toList.all (fun e => match e.key with | .str _ _ => true | _ => false) = true) (n : a ∉ off) : g.Ns a (nsOf K a) := by
  refine ⟨o, es, _, h a o e n, d, strKeys_of hk, fun x => ?_⟩
  unfold nsOf
  rw [e]
  cases o; cases d; rfl
theorem globs1 {W : Wd} {off : List Addr} (h0 : (0 : Nat) ∉ off := by decide) (h2 : (2 : Nat) ∉ off := by decide) (h3 : (3 : Nat) ∉ off := by decide) : Globs (K1 W) off (mg1 W) (mb1 W) := by
  intro g h
  refine ⟨ns_of h rfl rfl rfl h3, ⟨W.o0, W.es0, W.n0, h 0 W.o0 rfl h0, W.d0, W.k0, W.f0⟩, nsOf (K1 W) 2, ns_of h rfl rfl rfl h2, rfl⟩

theorem cut_mem : ∀ (l : List Nat), ∀ p ∈ cut l, ∀ c ∈ p, c ∈ l
  | [], p, hp, c, hc => by simp [cut] at hp; subst hp; cases hc
  | a :: r, p, hp, c, hc => by
    have ih := cut_mem r
    unfold cut at hp
    split at hp
    · rcases List.mem_cons.mp hp with rfl | hp
      · cases hc
      · exact List.mem_cons_of_mem _ (ih p hp c hc)
    · split at hp
      · rename_i q qs e
        rw [e] at ih
        rcases List.mem_cons.mp hp with rfl | hp
        · rcases List.mem_cons.mp hc with rfl | hc
          · exact List.mem_cons_self
          · exact List.mem_cons_of_mem _ (ih q List.mem_cons_self c hc)
        · exact List.mem_cons_of_mem _ (ih p (List.mem_cons_of_mem _ hp) c hc)
      · rename_i e
        simp at hp; subst hp; simp at hc; subst hc; exact List.mem_cons_self
theorem strOk_iff (x : Str) : PyData.strOk x = true ↔ ∀ c ∈ tl x, c < 0x110000 := by
  unfold PyData.strOk
  rw [Array.all_eq_true_iff_forall_mem]
  simp
theorem parts_ok {x : Str} (h : PyData.strOk x = true) : ∀ p ∈ parts x, PyData.strOk p = true := by
  intro p hp
  rw [strOk_iff] at h ⊢
  intro c hc
  exact h c (cut_mem (tl x) (tl p) (parts_cut x ▸ List.mem_map_of_mem hp) c hc)
/-- a text that is in use -/
structure Nm (x : Str) : Prop where
  short : x.length ≤ 1000
  ok : PyData.strOk x = true
theorem nmem {ρ : Rho} {x : Str} (h : (ρ.all fun p => !(p.1 == x)) = true) : ∀ p ∈ ρ, p.1 ≠ x := by
  intro p hp e
  have := List.all_eq_true.mp h p hp
  simp [e] at this

theorem eqv_sts : ∀ a b : List Str, PyData.eqvAll (sts a) (sts b) = decide (a = b)
  | [], [] => by simp [PyData.eqvAll]
  | [], _ :: _ => by simp [PyData.eqvAll]
  | _ :: _, [] => by simp [PyData.eqvAll]
  | a :: r, b :: t => by
    have := eqv_sts r t
    simp only [sts] at this
    simp only [sts, List.map_cons, PyData.eqvAll, PyData.eqv, this]
    by_cases h : a = b <;> by_cases h' : r = t <;> simp [h, h']
theorem lay_sts : ∀ a : List Str, (∀ x ∈ a, PyData.strOk x = true) → PyData.canLayAll0 (sts a) = true
  | [], _ => rfl
  | a :: r, h => by have := lay_sts r fun x hx => h x (List.mem_cons_of_mem _ hx); simp only [sts] at this; simp [PyData.canLayAll0, PyData.canLay0, this, h]
theorem dep_sts : ∀ a : List Str, PyData.depthAll (sts a) ≤ 1
  | [] => by simp [PyData.depthAll]
  | a :: r => by have := dep_sts r; simp only [sts] at this; simp [PyData.depthAll, PyData.depth]; omega

section
variable {prog : Program} {w : World} {W : Wd} {off : List Addr} {tb : Tb} {k : Nat}
theorem fn_above {x y : Str} (hx : Nm x) (hy : Nm y) (h1 : (116 : Nat) ∉ off) (h2 : (115 : Nat) ∉ off) (G : Globs (K1 W) off (mg1 W) (mb1 W)) :
    Fn prog w (K1 W) off tb (k + 1) (.ref 116) [.str x, .str y] (.bool (isAbove x y)) := by
  have hz : sizeLine = 2 ^ 24 := rfl
  have hx1 := hx.short
  have hy1 := hy.short
  have lx : (parts x).length ≤ x.length + 2 := by rw [split_eq]; exact parts_len x
  have ly : (parts y).length ≤ y.length + 2 := by rw [split_eq]; exact parts_len y
  refine fn_enter (xs := ["one", "two"]) G (ho := by exact rfl) h1 (hdat := by exact rfl) (hbody := by exact rfl) rfl rfl rfl (fun g t => ⟨115, _, _, _, rfl, t 115 _ rfl h2, rfl, rfl⟩) rfl ?_ (by decide) ?_ ?_ rfl rfl rfl fun L => ?_
  · intro vs hv
    match vs, hv with
    | [a, b], _ => rfl
  · exact List.forall_mem_cons.mpr ⟨.inl rfl, List.forall_mem_cons.mpr ⟨.inl rfl, fun _ h => nomatch h⟩⟩
  · intro L x y c h1 h2
    cases h1
  · refine pb_assign (a := .list (sts (parts x))) (pv_split (pv_name (by simp)) pv_str rfl (by omega) (Nat.le_trans (parts_len x) (by omega))) ?_ rfl (nmem rfl) rfl
    refine pb_return ?_
    have e : isAbove x y = PyData.eqv (.list (sts ((parts y).take (parts x).length))) (.list (sts (parts x))) := by
      rw [PyData.eqv, eqv_sts]; rfl
    rw [e]
    refine pv_cmp ?_ (pv_name (by simp)) (op_eq ?_ ?_ ?_)
    · refine pv_slice (a := none) (b := some ((parts x).length : Nat)) (pv_split (pv_name (by simp)) pv_str rfl (by omega) (Nat.le_trans (parts_len y) (by omega))) pp_none (pp_some ?_) (by show (sts (parts y)).length ≤ _; simp only [sts, List.length_map]; omega) ?_
      · have := fn_len (prog := prog) (w := w) (K := K1 W) (off := off) (tb := tb) (k := k) (ds := sts (parts x)) (by simp [sts]; omega)
        simp only [sts, List.length_map] at this
        exact pv_builtin G rfl W.bLen (pvs_cons (pv_name (by simp)) pvs_nil) this
      · intro g vs r
        have := pick_upto (j := ((parts x).length : Nat)) (by omega) g vs r
        simpa [sts] using this
    · exact lay_sts _ fun p hp => parts_ok hy.ok p (List.mem_of_mem_take hp)
    · exact lay_sts _ fun p hp => parts_ok hx.ok p hp
    · have := dep_sts (parts x)
      simp only [PyData.depth]
      omega
end
end Mine
end
section
open PySem PySem.W PySem.Calls PyProof.Rows
set_option maxRecDepth 100000
namespace Mine

theorem TabOk.keepN {h h' : Heap} {P : Addr} {q : TK} (x : TabOk h P q) (Y : List Addr) (k : ∀ b o, b ∉ Y → h.get? b = some o → h'.get? b = some o) (hP : P ∉ Y) (hY : ∀ y ∈ Y, ∀ o, h.get? y = some o → NoCode o) : TabOk h' P q := by
  cases q with
  | code q =>
    obtain ⟨ps, z1, z2, z3⟩ := x
    refine ⟨ps, k P _ hP z1, z2, fun pos cv hc => ?_⟩
    obtain ⟨c, o, vs, t, r1, r2, r3, r4⟩ := z3 pos cv hc
    exact ⟨c, o, vs, t, r1, k c o (fun z => hY c z o r2 vs q t r3 r4) r2, r3, r4⟩
  | own G =>
    obtain ⟨o, es, n, z1, z2⟩ := x
    exact ⟨o, es, n, k P _ hP z1, z2⟩
  | any => obtain ⟨ps, z, t⟩ := x; exact ⟨ps, k P _ hP z, t⟩

/-- a set that is no more added to -/
structure SetR (prog : Program) (w : World) (h : Heap) (a : Addr) (S : Str → Bool) (n : Nat) : Prop where
  ex : ∃ es ep t, h.get? a = some { cls := .type "set", dict := none, data := .set es ep t } ∧ ElemsOf (strKind prog w) es.toList ∧ (∀ k, S k = true ↔ ∃ e ∈ es.toList, (strKind prog w).is k e.2 = true) ∧ es.size ≤ n ∧ t.fits es.size = true ∧
    (t.led = true ∨ byText w = true ∨ es.size = 0) ∧ (t.plain = false ∨ es.size = 0)
theorem StrSet.r {prog : Program} {w : World} {h : Heap} {a : Addr} {S : Str → Bool} {n : Nat} (x : StrSet prog w h a S n) : SetR prog w h a S n := by
  obtain ⟨es, ep, t, y⟩ := x
  exact ⟨es, ep, t, y.obj, y.el, y.mem, y.small, y.fits, y.led.imp id .inl, y.plain⟩

section
variable {prog : Program} {w : World} {W : Wd} {K : Frag} {off : List Addr} {tb : Tb} {k : Nat} {env : Env} {ρ : Rho} {mg mb : Str → Option Value}

theorem codeAny_call_binds {A : Around} {s : Shared} {R : Result → Shared → Prop} {a : Addr} {o : Obj} {fd : FuncData} {body : List Stmt} {args : Args} {binds : List (Str × Value)}
    (hroom : A.depth < recursionLimit) (ho : s.heap.get? a = some o) (hdata : o.data = .func fd) (hlim : s.heap.NoLimit) (hcd : s.heap.CodeRec fd.code fd.qualname)
    (hbody : fd.body = .stmts body) (hbind : ∀ (A' : Around) (Q : List (Str × Value) → Shared → Prop) (E' : Value → Shared → Prop), Q binds s → wpAny (model prog w) A' (bindArgs fd args) Q E' s) (hclo : fd.closure = [])
    (hkind : ∀ x ∈ binds, fd.scope.names.lookup x.1 = some .local ∨ (fd.scope.names.lookup x.1 = some .cell ∧ ((cellsFrom (s.heap.objs.size + 1) fd.scope.names []).lookup x.1).isSome = true))
    (h : ∀ s₁, InCallC s (callEnvC fd s.heap.objs.size a).locals (bindL (callEnvC fd s.heap.objs.size a).kindOf binds fun _ => none) (callEnvC fd s.heap.objs.size a).cells
        (bindC (callEnvC fd s.heap.objs.size a).kindOf binds fun _ => none) s₁ →
      wpAny (model prog w) (A.deeper (callEnvC fd s.heap.objs.size a)) (execs body (callEnvC fd s.heap.objs.size a)) (fun f s' => R (.ok (.ret (match f with | .ret v => v | _ => .none))) s')
        (fun e s' => wpAny (model prog w) (A.deeper (callEnvC fd s.heap.objs.size a)) (leaving (callEnvC fd s.heap.objs.size a) e) (fun _ s'' => R (.error e) s'') (fun e' s'' => R (.error e') s'') s') s₁)
    (hco : fd.scope.isCoroutine = false := by rfl) (hgen : fd.scope.isGenerator = false := by rfl) (hk : fd.scope.kind = .function := by rfl) :
    codeAny (model prog w) A (.call (.ref a) args) R s := by
  refine codeAny_call_function hroom ho hdata hco hgen hbody hcd ?_
  rw [hclo]
  refine hbind _ _ _ (wpAny_newFunctionEnv_cells hk hkind fun env he s' x => ?_)
  subst he
  exact ⟨hlim.keeps x.toInCall.keep, codeAny_func (h s' x)⟩

/-- set() if not xs else set(xs) -/
theorem set_value {A : Around} {X : List Addr} {s : Shared} {Q : Value → Shared → Prop} {p1 p2 p3 p4 p5 p6 p7 p8 : Pos} {x : Str} {xs : List Str} (G : Globs K off mg mb) (hm : mg "set" = none) (hv : mb "set" = some (.type "set"))
    (hR : Room A k) (hO : Ok K off tb X s) (hE : EnvOk tb X env ρ s) (hx : ρ.lookup x = some (.list (sts xs))) (hn : xs.length < 4000)
    (h : ∀ m s', Ext tb s s' → s.heap.get? m = none → SetR prog w s'.heap m (fun y => xs.any (· == y)) xs.length → Q (.ref m) s')
    (hks : env.kindOf "set" = some .globalImplicit := by rfl) (hd : (x == ("__debug__" : Str)) = false := by decide) (hc : (x == ("__classdict__" : Str)) = false := by decide) :
    wpAny (model prog w) A (eval (.IfExp (.UnaryOp .Not (.Name x p1) p2) (.Call (.Name "set" p3) [] [] p4) (.Call (.Name "set" p5) [.Name x p6] [] p7) p8) env) Q NoE s := by
  obtain ⟨v, b, r⟩ := hE.vars _ (PySem.mem_of_lookup hx)
  obtain ⟨l, vs, rfl, hl, ra⟩ := r.isList
  have hl' := IsList.below hl
  have hlen : vs.length = xs.length := by rw [ra.length]; simp [sts]
  obtain ⟨q, hq, hqx⟩ := strs_rp ra
  have nsz : ∀ (t : Shared) , t.heap.objs.size = t.heap.objs.size → t.heap.get? t.heap.objs.size = none := fun t _ => by
    cases hg : t.heap.get? t.heap.objs.size with
    | none => rfl
    | some o => exact absurd (Heap.lt_size hg) (Nat.lt_irrefl _)
  refine wpAny_IfExp (wpAny_isTrue_Not (wpAny_isTrue_value (bound_load hE.kind b ?_ hd hc)))
  refine wpAny_truthy_list hl' (by rw [List.size_toArray, hlen]; omega) ?_
  have e0 : Ext tb s { s with toks := s.toks + 1 + 1 } := ext_tok _ _
  have O1 := hO.ext e0
  have E1 := hE.ext hO e0
  split
  · rename_i he
    refine wpAny_Call_NameR (load_builtin G O1 E1 hm hv hks (by decide) ?_)
    refine PySem.callWith_type rfl (PyProof.Rows.evalArgs_empty ?_)
    refine call_set_0 fun led => ?_
    have hnil : xs = [] := by
      have : vs = [] := by simpa using he
      have : xs.length = 0 := by rw [← hlen, this]; rfl
      exact List.length_eq_zero_iff.mp this
    refine h _ _ (e0.trans (ext_push _ _)) (nsz s rfl) ⟨#[], 0, _, Heap.get?_push_size _ rfl, fun e he => by simp at he, fun k => by simp [hnil], by simp, rfl, .inr (.inr rfl), .inr rfl⟩
  · refine wpAny_Call_NameR (load_builtin G O1 E1 hm hv hks (by decide) ?_)
    refine PySem.callWith_type rfl (evalArgs_plain (spliced_cons (bound_load (s := { s with toks := s.toks + 1 + 1 }) hE.kind b (spliced_nil ?_) hd hc)))
    refine call_set_strs (s := { s with toks := s.toks + 1 + 1 }) hR.handled hl' ⟨q, by simpa using hq, hqx⟩ (by show _ < 4096; omega) fun h' tk hS hk => ?_
    refine h _ _ (e0.trans (.of_sub (fun b o e => hk b o (Heap.lt_size e) e) rfl rfl)) (nsz s rfl) hS.r
end
end Mine
end
section
open PySem PySem.W PySem.Calls PyProof.Rows
set_option maxRecDepth 100000
namespace Mine
section
variable {prog : Program} {w : World} {W : Wd} {K : Frag} {off : List Addr} {tb : Tb} {k : Nat} {env : Env} {ρ : Rho} {mg mb : Str → Option Value}

theorem ExtO.refl (tb : Tb) (Y : List Addr) (s : Shared) : ExtO tb Y s s := .of (.refl tb s)
theorem Ok.extO {X Y : List Addr} {s s' : Shared} (o : Ok K off tb X s) (x : ExtO tb Y s s') (h : ∀ y ∈ Y, y ∈ X) (g : ∀ y ∈ Y, ∃ o, s'.heap.get? y = some o) : Ok K off tb X s' := by
  refine ⟨fun y hy => ⟨(o.priv y hy).1, ?_⟩, fun q hq => x.tab q hq (o.tabs q hq), o.top.sub (x.vis h)⟩
  by_cases hY : y ∈ Y
  · exact g y hY
  · obtain ⟨n, ob, e⟩ := o.priv y hy
    exact ⟨ob, x.keep y ob n hY e⟩
theorem EnvOk.extO {X Y : List Addr} {s s' : Shared} (e : EnvOk tb X env ρ s) (o : Ok K off tb X s) (x : ExtO tb Y s s') (h : ∀ y ∈ Y, y ∈ X) (hl : env.locals ∉ Y) (hc : ∀ x c, env.cells.lookup x = some c → c ∉ Y) : EnvOk tb X env ρ s' := by
  refine ⟨e.kind, e.globals, e.builtins, e.nloc, fun p hp => ?_⟩
  obtain ⟨v, b, r⟩ := e.vars p hp
  refine ⟨v, ?_, r.sub (x.vis h)⟩
  rcases b with ⟨k, m, ⟨ob, es, ep, h1, h2, h3⟩, hm⟩ | ⟨k, c, hcc, ob, h1, h2⟩
  · exact .inl ⟨k, m, ⟨ob, es, ep, x.keep _ _ e.nloc hl h1, h2, h3⟩, hm⟩
  · exact .inr ⟨k, c, hcc, ob, x.keep _ _ (o.cellTab ⟨ob, h1, h2⟩) (hc _ _ hcc) h1, h2⟩

def InstD (C : Addr) (h : Heap) (r d : Addr) (mA : Str → Option Value) : Prop := ∃ o, h.get? r = some o ∧ o.cls = .ref C ∧ o.data = .plain ∧ o.dict = some d ∧ d ≠ r ∧ h.Ns1 d mA
theorem InstD.inst {C : Addr} {h : Heap} {r d : Addr} {mA : Str → Option Value} (x : InstD C h r d mA) : h.Inst r C mA :=
  let ⟨o, g, c, p, e, n, m⟩ := x; ⟨o, g, c, (fun _ z => by rw [p] at z; cases z), .inr ⟨d, e, n, m⟩⟩
theorem InstD.keeps {C : Addr} {h h' : Heap} {r d : Addr} {mA : Str → Option Value} (x : InstD C h r d mA) (k : ∀ b o, b ∈ [r, d] → h.get? b = some o → h'.get? b = some o) : InstD C h' r d mA :=
  let ⟨o, g, c, p, e, n, m⟩ := x; ⟨o, k _ _ (by simp) g, c, p, e, n, m.at fun o e => k _ o (by simp) e⟩

/-- a plain class of the top -/
structure PlainCls (h : Heap) (C N : Addr) (mN : Str → Option Value) : Prop where
  obj : ∃ nm q bs sn sub ab col dd k0 k1 k2 k3 k5, h.get? C = some (excClassObj nm q C N bs [.type "object"] true sn sub ab col dd k0 k1 k2 k3 k5 "object.__new__")
  ns : h.Ns N mN

theorem set_attr {A : Around} {X : List Addr} {s : Shared} {C N r d : Addr} {mN mA : Str → Option Value} {name : Str} {v : Value} {Q : Unit → Shared → Prop} {E : Value → Shared → Prop} (ns : List Str)
    (P : PlainCls s.heap C N mN) (hO : Ok K off tb X s) (hr : r ∈ X) (hd : d ∈ X) (I : InstD C s.heap r d mA) (hs : mN "__setattr__" = none) (hna : mN name = none) (hB : typeLookup (.type "object") name = pure none) (hrC : r ≠ C)
    (hw : Within mA ns) (hz : ns.length ≤ 100)
    (h : ∀ s', ExtO tb [r, d] s s' → InstD C s'.heap r d (fun y => if y = name then some v else mA y) → Q () s') : wpAny (model prog w) A (setAttr (.ref r) name v) Q E s := by
  obtain ⟨nm, q, bs, sn, sub, ab, col, dd, k0, k1, k2, k3, k5, hC⟩ := P.obj
  obtain ⟨hh, g, dr, t, os⟩ := s
  obtain ⟨o, g1, c1, p1, e1, n1, m1⟩ := id I
  refine store_attr PySem.F.store_object hC P.ns hs hna hB hrC I.inst (fun h' tk' I' hk hx => ?_) hw (by have : sizeLine = 2 ^ 24 := rfl; omega)
  obtain ⟨o', g2, c2, p2, _, e2⟩ := hx o g1
  refine h _ ⟨fun b ob _ m e => hk b ob (fun z => m (by simp [z])) (fun o₀ dx z1 z2 z3 => ?_) e, fun p hp z => ?_, rfl, rfl⟩ ?_
  · rw [g1] at z1; cases z1; rw [e1] at z2; cases z2; exact m (by simp [z3])
  · refine z.keepN [r, d] (fun b ob m e => hk b ob (fun z => m (by simp [z])) (fun o₀ dx z1 z2 z3 => by rw [g1] at z1; cases z1; rw [e1] at z2; cases z2; exact m (by simp [z3])) e) ?_ ?_
    · intro m
      rcases List.mem_cons.mp m with m | m
      · exact (hO.priv r hr).1 (m ▸ List.mem_map_of_mem hp)
      · rw [List.mem_singleton] at m
        exact (hO.priv d hd).1 (m ▸ List.mem_map_of_mem hp)
    · intro y hy oy gy
      rcases List.mem_cons.mp hy with rfl | hy
      · rw [g1] at gy; cases gy; exact fun vs q t z => by rw [p1] at z; cases z
      · rw [List.mem_singleton] at hy; subst hy
        obtain ⟨od, es, ep, z1, z2, _⟩ := m1
        rw [z1] at gy; cases gy; exact noCode_dict z2
  · obtain ⟨oi, gi, ci, di, hdict⟩ := I'
    rw [g2] at gi; cases gi
    have hd2 := e2 d e1
    rcases hdict with ⟨z, _⟩ | ⟨d', z, ne, nsd⟩
    · rw [hd2] at z; cases z
    · rw [hd2] at z; cases z
      exact ⟨o', g2, c2.trans c1, p2.trans p1, hd2, ne, nsd⟩
end
end Mine
end
section
open PySem PySem.W PySem.Calls PyProof.Rows
set_option maxRecDepth 100000
namespace Mine
section
variable {prog : Program} {w : World} {W : Wd} {K : Frag} {off : List Addr} {tb : Tb} {k : Nat} {mg mb : Str → Option Value}

structure Entered (K : Frag) (off : List Addr) (tb : Tb) (X : List Addr) (s s₁ : Shared) (env : Env) (ρ : Rho) (binds : List (Str × Value)) : Prop where
  ext : Ext tb s s₁
  ok : Ok K off tb (own env ++ X) s₁
  en : EnvOk tb (own env ++ X) env ρ s₁
  bound : ∀ p ∈ binds, Bound env s₁.heap p.1 p.2
  fresh : ∀ y ∈ own env, s.heap.get? y = none
  seen : Sub (vis tb X s.heap) (vis tb (own env ++ X) s₁.heap)
  loc : ∃ m, s₁.heap.Ns env.locals m

theorem entered {f : Addr} {fd : FuncData} {X : List Addr} {s s₁ : Shared} {binds : List (Str × Value)} {ρ : Rho} {L : Nat} (hL : s.heap.objs.size = L)
    (I : InCallC s (callEnvC fd L f).locals (bindL (callEnvC fd L f).kindOf binds fun _ => none) (callEnvC fd L f).cells (bindC (callEnvC fd L f).kindOf binds fun _ => none) s₁)
    (hO : Ok K off tb X s) (hk : fd.scope.kind = .function) (hglob : fd.globals = mainGlobals) (hbuilt : fd.builtins = builtinsNs) (hnd : (binds.map (·.1)).Nodup)
    (hkind : ∀ x ∈ binds, fd.scope.names.lookup x.1 = some .local ∨ (fd.scope.names.lookup x.1 = some .cell ∧ ((cellsFrom (L + 1) fd.scope.names []).lookup x.1).isSome = true))
    (hρ : ∀ p ∈ ρ, ∃ v, (p.1, v) ∈ binds ∧ Rp (vis tb X s.heap) v p.2) : Entered K off tb X s s₁ (callEnvC fd L f) ρ binds := by
  have loc : (callEnvC fd L f).locals = L := rfl
  have cls : (callEnvC fd L f).cells = cellsFrom (L + 1) fd.scope.names [] := rfl
  obtain ⟨h₁, tk, hs₁⟩ := I.toInCall.same
  have e₁ : Ext tb s s₁ := .of_sub I.toInCall.keep (by rw [hs₁]) (by rw [hs₁])
  have old : ∀ (b : Nat) o, s.heap.get? b = some o → b < L := fun b o e => hL ▸ Heap.lt_size e
  have above : ∀ y ∈ own (callEnvC fd L f), @LE.le Nat _ L y ∧ ∃ o, s₁.heap.get? y = some o := fun y hy => by
    rcases List.mem_cons.mp hy with z | hy
    · subst z
      obtain ⟨o, es, ep, g, _⟩ := I.toInCall.ns
      exact ⟨Nat.le_refl _, o, g⟩
    · obtain ⟨p, hp, z⟩ := List.mem_filterMap.mp hy
      split at z
      · obtain ⟨o, g, _⟩ := I.cell _ _ z
        exact ⟨Nat.le_of_lt (I.above _ _ (PySem.mem_of_lookup z)), o, g⟩
      · cases z
  have ntab : ∀ b : Nat, L ≤ b → b ∉ tb.map (·.1) := fun b hb m => by
    obtain ⟨q, hq, e⟩ := List.mem_map.mp m
    obtain ⟨ps, z, _⟩ := (hO.tabs q hq).get
    have h0 : @LT.lt Nat _ q.1 L := old _ _ z
    have h1 : @Eq Nat q.1 b := e
    omega
  have visS : Sub (vis tb X s.heap) (vis tb (own (callEnvC fd L f) ++ X) s₁.heap) := fun (b : Nat) o e => by
    obtain ⟨e0, n, m⟩ := vis_get e
    refine vis_mk (e₁.keep b o n e0) n fun q => ?_
    rcases List.mem_append.mp q with q | q
    · have h0 := (above b q).1
      have h1 := old b o e0
      omega
    · exact m q
  have bd : ∀ p ∈ binds, Bound (callEnvC fd L f) s₁.heap p.1 p.2 := fun p hp => by
    rcases hkind p hp with kl | ⟨kc, hc⟩
    · exact .inl ⟨kl, _, I.toInCall.ns, bindL_get _ _ hnd p hp kl⟩
    · obtain ⟨c, hc⟩ := Option.isSome_iff_exists.mp hc
      refine .inr ⟨.inl kc, c, hc, ?_⟩
      have := I.cell p.1 c hc
      rwa [bindC_get _ _ hnd p hp kc] at this
  refine ⟨e₁, ⟨fun y hy => ?_, fun q hq => e₁.tab q hq (hO.tabs q hq), hO.top.sub visS⟩, ⟨hk, hglob, hbuilt, ntab _ (Nat.le_refl _), fun p hp => ?_⟩, bd, fun (y : Nat) hy => ?_, visS, ⟨_, I.toInCall.ns⟩⟩
  · rcases List.mem_append.mp hy with hy | hy
    · exact ⟨ntab _ (above y hy).1, (above y hy).2⟩
    · obtain ⟨n, o, e⟩ := hO.priv y hy
      exact ⟨n, o, e₁.keep y o n e⟩
  · obtain ⟨v, hv, rv⟩ := hρ p hp
    exact ⟨v, bd (p.1, v) hv, rv.sub visS⟩
  · cases hg : s.heap.get? y with
    | none => rfl
    | some o => have h0 := (above y hy).1; have h1 := old y o hg; omega
end

theorem Bound.extO {K : Frag} {off : List Addr} {tb : Tb} {env : Env} {X Y : List Addr} {s s' : Shared} {x : Str} {v : Value} (b : Bound env s.heap x v) (o : Ok K off tb X s) (nl : env.locals ∉ tb.map (·.1)) (y : ExtO tb Y s s') (hl : env.locals ∉ Y)
    (hc : ∀ x c, env.cells.lookup x = some c → c ∉ Y) : Bound env s'.heap x v := by
  rcases b with ⟨k, m, ⟨ob, es, ep, h1, h2, h3⟩, hm⟩ | ⟨k, c, hcc, ob, h1, h2⟩
  · exact .inl ⟨k, m, ⟨ob, es, ep, y.keep _ _ nl hl h1, h2, h3⟩, hm⟩
  · exact .inr ⟨k, c, hcc, ob, y.keep _ _ (o.cellTab ⟨ob, h1, h2⟩) (hc _ _ hcc) h1, h2⟩
theorem none_back {K : Frag} {off : List Addr} {tb : Tb} {X Y : List Addr} {s s' : Shared} {b : Addr} (x : ExtO tb Y s s') (o : Ok K off tb X s') (hY : ∀ y ∈ Y, ∃ o, s'.heap.get? y = some o) (h : s'.heap.get? b = none) : s.heap.get? b = none := by
  cases hg : s.heap.get? b with
  | none => rfl
  | some ob =>
    by_cases h1 : b ∈ tb.map (·.1)
    · obtain ⟨q, hq, e⟩ := List.mem_map.mp h1
      obtain ⟨_, g, _⟩ := (o.tabs q hq).get
      rw [e, h] at g; cases g
    · by_cases h2 : b ∈ Y
      · obtain ⟨_, g⟩ := hY b h2
        rw [h] at g; cases g
      · rw [x.keep b ob h1 h2 hg] at h; cases h
theorem SetR.at {prog : Program} {w : World} {h h' : Heap} {a : Addr} {S : Str → Bool} {n : Nat} (x : SetR prog w h a S n) (k : ∀ o, h.get? a = some o → h'.get? a = some o) : SetR prog w h' a S n :=
  let ⟨es, ep, t, g, r⟩ := x.ex; ⟨es, ep, t, k _ g, r⟩
theorem at_none {h : Heap} {b : Addr} (e : h.objs.size ≤ b) : h.get? b = none := by
  cases hg : h.get? b with
  | none => rfl
  | some o => exact absurd e (Nat.not_le.mpr (Heap.lt_size hg))

section
variable {prog : Program} {w : World} {W : Wd} {off : List Addr} {tb : Tb} {k : Nat}
abbrev mIgn (m l c : Addr) : Str → Option Value := fun y => if y = "_ignore" then some (.ref c) else if y = "_dirs" then some (.ref l) else if y = "_mods" then some (.ref m) else none
theorem look_mods : typeLookup (.type "object") "_mods" = pure none := by rw [typeLookup_type, builtinLookup_eq_fast]; kernel_rfl
theorem look_dirs : typeLookup (.type "object") "_dirs" = pure none := by rw [typeLookup_type, builtinLookup_eq_fast]; kernel_rfl
theorem look_ignore : typeLookup (.type "object") "_ignore" = pure none := by rw [typeLookup_type, builtinLookup_eq_fast]; kernel_rfl
theorem cls95 {g : Heap} (t : TopOk (K1 W) off g) (h : ∀ a ∈ [94, 95], a ∉ off) : PlainCls g 95 94 (nsOf (K1 W) 94) :=
  ⟨⟨_, _, _, _, _, _, _, _, _, _, _, _, _, t 95 _ rfl (h 95 (by simp))⟩, ns_of t rfl rfl rfl (h 94 (by simp))⟩

theorem is_str (x : Str) (t : Tok) : (strKind prog w).is x (.str x t) = true := by show Value.isStrOf x (.str x t) = true; simp [Value.isStrOf]
theorem dict_one {A : Around} {s : Shared} {env : Env} {Q : Value → Shared → Prop} {E : Value → Shared → Prop} {p1 p2 p3 : Pos} {n1 n2 : Nat} {x : Str} {i : Int}
    (h : ∀ h' t, h'.DictOf (strKind prog w) s.heap.objs.size [(x, .int i t)] → (∀ b o, s.heap.get? b = some o → h'.get? b = some o) → ∀ t', Q (.ref s.heap.objs.size) { s with heap := h', toks := t' }) :
    wpAny (model prog w) A (eval (.Dict [some (.Constant (.str x) n1 p1)] [.Constant (.int i) n2 p2] p3) env) Q E s := by
  refine wpAny_Dict_pairs (knd := strKind prog w) (pairs := [(eval (.Constant (.str x) n1 p1) env, do let x ← eval (.Constant (.int i) n2 p2) env; standAt p3; pure x)]) rfl (by simp) (by simp) ?_
  refine evalPairs_cons ?_
  refine wpAny_Constant_str (wpAny_bind (wpAny_Constant_int (wpAny_bind (wpAny_standAt (wpAny_pure ?_)))))
  refine evalPairs_nil ?_
  refine ⟨[(x, .int i (s.toks + 1))], ⟨is_str _ _, rfl, trivial⟩, ?_, fun h' hD hs => ?_⟩
  · exact ⟨_, #[], 0, Heap.get?_push_size _ rfl, ⟨rfl, rfl, rfl⟩, rfl, fun e he => by simp at he, .nil, by simp⟩
  · refine h h' _ hD (fun b o e => hs.extBut b o (fun z => ?_) (Heap.get?_push_of_some _ e)) _
    have := Heap.lt_size e
    rw [z] at this
    exact Nat.lt_irrefl _ this

set_option maxHeartbeats 4000000 in
theorem ign_init {A : Around} {X : List Addr} {s : Shared} {r d : Addr} {v : Value} {mods : List Str} {R : Result → Shared → Prop} (hR : Room A (k + 1)) (hoff : ∀ a ∈ [80, 84, 85, 94, 95], a ∉ off) (G : Globs (K1 W) off (mg1 W) (mb1 W))
    (hO : Ok (K1 W) off tb X s) (hr : r ∈ X) (hd : d ∈ X) (I : InstD 95 s.heap r d (fun _ => none)) (rv : Rp (vis tb X s.heap) v (.list (sts mods))) (hn : mods.length < 4000)
    (h : ∀ m l c t s', ExtO tb [r, d] s s' → (∀ y ∈ [m, c], s.heap.get? y = none) → InstD 95 s'.heap r d (mIgn m l c) → SetR prog w s'.heap m (fun y => mods.any (· == y)) mods.length → (vis tb X s'.heap).IsList l #[] →
      s'.heap.DictOf (strKind prog w) c [("<string>", .int 1 t)] → R (.ok (.ret .none)) s') :
    codeAny (model prog w) A (.call (.ref 85) ⟨[.ref r, v], []⟩) R s := by
  have hkd : ∀ x ∈ [((Str.ofString "self"), Value.ref r), (Str.ofString "modules", v), (Str.ofString "dirs", Value.none)], True := fun _ _ => trivial
  refine codeAny_call_binds (binds := [("self", .ref r), ("modules", v), ("dirs", .none)]) hR.lim (hO.get (a := 85) rfl (hoff 85 (by decide))) rfl (hO.globs G).2.2 ?_ rfl ?_ rfl ?_ (fun s₁ I₁ => ?_)
  · exact Heap.CodeRec.keeps (⟨84, _, _, _, rfl, hO.top 84 _ rfl (hoff 84 (by decide)), rfl, rfl⟩ : (vis tb X s.heap).CodeRec _ _) (vis_below _ _ _)
  · intro A' Q E' hq
    exact nd_load (a := 80) (hO.get (a := 80) rfl (hoff 80 (by decide))) (wpAny_pure hq)
  · exact List.forall_mem_cons.mpr ⟨.inl rfl, List.forall_mem_cons.mpr ⟨.inl rfl, List.forall_mem_cons.mpr ⟨.inl rfl, fun _ h => nomatch h⟩⟩⟩
  · have T := entered (ρ := [("modules", .list (sts mods)), ("dirs", .none)]) rfl I₁ hO rfl rfl rfl (show (["self", "modules", "dirs"] : List Str).Nodup by decide)
      (List.forall_mem_cons.mpr ⟨.inl rfl, List.forall_mem_cons.mpr ⟨.inl rfl, List.forall_mem_cons.mpr ⟨.inl rfl, fun _ h => nomatch h⟩⟩⟩)
      (List.forall_mem_cons.mpr ⟨⟨v, by simp, rv⟩, List.forall_mem_cons.mpr ⟨⟨.none, by simp, ⟨_, .none⟩⟩, fun _ h => nomatch h⟩⟩)
    have ntr := (hO.priv r hr).1
    have ntd := (hO.priv d hd).1
    have inX0 : ∀ (Z : List Addr), ∀ y ∈ [r, d], y ∈ Z ++ X := fun Z y hy => List.mem_append_right _ (by
      rcases List.mem_cons.mp hy with rfl | hy
      · exact hr
      · rw [List.mem_singleton] at hy; exact hy ▸ hd)
    refine wpAny_mono (E := NoE) ?_ (fun _ _ z => z) fun _ _ z => z.elim
    have live : ∀ s' : Shared, ∀ mA, InstD 95 s'.heap r d mA → ∀ y ∈ [r, d], ∃ o, s'.heap.get? y = some o := fun s' mA i y hy => by
      obtain ⟨o, g, _, _, _, _, od, es, ep, gd, _⟩ := i
      rcases List.mem_cons.mp hy with rfl | hy
      · exact ⟨o, g⟩
      · rw [List.mem_singleton] at hy; exact ⟨od, hy ▸ gd⟩
    have kp : ∀ (a b : Shared) mA, Ext tb a b → InstD 95 a.heap r d mA → InstD 95 b.heap r d mA := fun a b mA e i => i.keeps fun y o hy g => e.keep y o (by
      rcases List.mem_cons.mp hy with rfl | hy
      · exact ntr
      · rw [List.mem_singleton] at hy; exact hy ▸ ntd) g
    have hrC : r ≠ 95 := fun z => by
      have := hO.top 95 _ rfl (hoff 95 (by decide))
      exact (vis_get this).2.2 (z ▸ hr)
    have lfr : ∀ y, s.heap.get? y = none → y ∉ [r, d] := fun y hy m => by
      obtain ⟨o, g⟩ := live s _ I y m
      rw [hy] at g; cases g
    have hcls : ∀ s' : Shared, ∀ Y, Ok (K1 W) off tb Y s' → PlainCls s'.heap 95 94 (nsOf (K1 W) 94) := fun s' Y o => cls95 (o.top.sub (vis_below _ _ _)) (sub_off hoff (by decide))
    -- self._mods
    refine wpAny_execs_cons (plainObj_wpAny_Assign_Attribute (set_value G rfl W.bSet hR.deeper T.ok T.en rfl hn fun m s₂ e₂ fm S₂ => ?_))
    have O2 := T.ok.ext e₂
    have B2 := (T.bound ("self", .ref r) (by simp)).ext T.ok T.en.nloc e₂
    refine bound_load T.en.kind B2 ?_ (by decide) (by decide)
    refine set_attr [] (hcls _ _ O2) O2 (inX0 _ r (by simp)) (inX0 _ d (by simp)) (kp _ _ _ e₂ (kp _ _ _ T.ext I)) rfl rfl look_mods hrC (fun _ z => absurd rfl z) (by simp) fun s₃ x₃ I₃ => ?_
    have O3 := O2.extO x₃ (inX0 _) (live _ _ I₃)
    have E2 := T.en.ext T.ok e₂
    have E3 := E2.extO O2 x₃ (inX0 _) (lfr _ (T.fresh _ List.mem_cons_self)) (fun x c hc => by cases hc)
    have B3 := B2.extO O2 T.en.nloc x₃ (lfr _ (T.fresh _ List.mem_cons_self)) (fun x c hc => by cases hc)
    -- self._dirs
    refine wpAny_execs_cons (plainObj_wpAny_Assign_Attribute (wpAny_IfExp (wpAny_isTrue_Not (wpAny_isTrue_value (bound_load T.en.kind (v := .none) ?bd (truthy_none ?_) (by decide) (by decide))))))
    case bd =>
      obtain ⟨vd, bd, rd⟩ := E3.vars ("dirs", .none) (by simp)
      obtain ⟨_, rd⟩ := rd
      cases rd
      exact bd
    simp only [Bool.not_false, if_true]
    refine pv_list pvs_nil (by decide) (A.deeper _) _ s₃ _ hR.deeper O3 E3 fun lv s₄ e₄ r₄ => ?_
    obtain ⟨l, vs, rfl, hl, ra⟩ := r₄.isList
    have O4 := O3.ext e₄
    have B4 := B3.ext O3 E3.nloc e₄
    refine bound_load T.en.kind B4 ?_ (by decide) (by decide)
    refine set_attr [Str.ofString "_mods"] (hcls _ _ O4) O4 (inX0 _ r (by simp)) (inX0 _ d (by simp)) (kp _ _ _ e₄ I₃) rfl rfl look_dirs hrC (fun y z => by
      by_cases q : y = Str.ofString "_mods"
      · simp [q]
      · rw [if_neg q] at z; exact absurd rfl z) (by simp) fun s₅ x₅ I₅ => ?_
    have O5 := O4.extO x₅ (inX0 _) (live _ _ I₅)
    have E4 := E3.ext O3 e₄
    have E5 := E4.extO O4 x₅ (inX0 _) (lfr _ (T.fresh _ List.mem_cons_self)) (fun x c hc => by cases hc)
    have B5 := B4.extO O4 T.en.nloc x₅ (lfr _ (T.fresh _ List.mem_cons_self)) (fun x c hc => by cases hc)
    -- self._ignore
    refine wpAny_execs_cons (plainObj_wpAny_Assign_Attribute (dict_one fun h₆ t₆ D₆ k₆ t₆' => ?_))
    have e₆ : Ext tb s₅ { s₅ with heap := h₆, toks := t₆' } := .of_sub k₆ rfl rfl
    have O6 := O5.ext e₆
    have B6 := B5.ext O5 E5.nloc e₆
    refine bound_load (s := { s₅ with heap := h₆, toks := t₆' }) T.en.kind B6 ?_ (by decide) (by decide)
    refine set_attr [Str.ofString "_mods", Str.ofString "_dirs"] (hcls _ _ O6) O6 (inX0 _ r (by simp)) (inX0 _ d (by simp)) (kp _ _ _ e₆ I₅) rfl rfl look_ignore hrC (fun y z => by
      by_cases q : y = Str.ofString "_dirs"
      · simp [q]
      · rw [if_neg q] at z
        by_cases q : y = Str.ofString "_mods"
        · simp [q]
        · rw [if_neg q] at z; exact absurd rfl z) (by simp) fun s₇ x₇ I₇ => ?_
    refine wpAny_execs_nil ?_
    have y4 : ExtO tb [r, d] s₂ s₇ := (((x₃.trans (.of e₄)).trans x₅).trans (.of e₆)).trans x₇
    have y5 : ExtO tb [r, d] s s₅ := ((((ExtO.of T.ext).trans (.of e₂)).trans x₃).trans (.of e₄)).trans x₅
    have fc : s₅.heap.get? s₅.heap.objs.size = none := at_none (Nat.le_refl _)
    have fc0 := none_back y5 O5 (live _ _ I₅) fc
    have fm0 := none_back (Y := []) (ExtO.of T.ext) T.ok (fun _ z => nomatch z) fm
    refine h m l s₅.heap.objs.size t₆ s₇ ((y5.trans (.of e₆)).trans x₇) ?_ I₇ ?_ ?_ ?_
    · intro y hy
      rcases List.mem_cons.mp hy with rfl | hy
      · exact fm0
      · rw [List.mem_singleton] at hy; subst hy; exact fc0
    · obtain ⟨es, ep, t, g, _⟩ := S₂.ex
      exact S₂.at fun o e => y4.keep _ _ (O2.notTab g (fun ps z => by cases z) fun _ _ z => by cases z) (lfr m fm0) e
    · obtain rfl : vs = [] := List.length_eq_zero_iff.mp (by rw [ra.length]; rfl)
      obtain ⟨ol, gl, rl⟩ := hl
      have y6 : ExtO tb [r, d] s₄ s₇ := (x₅.trans (.of e₆)).trans x₇
      exact ⟨ol, vis_more (fun x hx => List.mem_append_right _ hx) _ _ (y6.vis (inX0 _) _ _ gl), rl⟩
    · obtain ⟨o, es, ep, g, rr⟩ := D₆
      refine ⟨o, es, ep, x₇.keep _ _ (fun z => ?_) (lfr _ fc0) g, rr⟩
      obtain ⟨q, hq, e⟩ := List.mem_map.mp z
      obtain ⟨_, g', _⟩ := (O5.tabs q hq).get
      rw [e, fc] at g'; cases g'
end
end Mine
end
section
open PySem PySem.W PySem.Calls PyProof.Rows
set_option maxRecDepth 100000
namespace Mine
theorem lookup_part {f : Addr → Bool} {a : Addr} {o : Obj} : ∀ {K : Frag}, (K.filter fun p => f p.1).lookup a = some o → K.lookup a = some o ∧ f a = true
  | [], h => by cases h
  | (b, ob) :: r, h => by
    by_cases e : f b = true
    · rw [List.filter_cons_of_pos (by exact e)] at h
      by_cases q : a = b
      · subst q
        simp only [List.lookup_cons_self] at h ⊢
        exact ⟨h, e⟩
      · have q' : (a == b) = false := by simpa using q
        simp only [List.lookup, q'] at h ⊢
        exact lookup_part h
    · rw [List.filter_cons_of_neg (by simpa using e)] at h
      obtain ⟨h1, h2⟩ := lookup_part h
      have q' : (a == b) = false := by
        have : a ≠ b := fun z => e (z ▸ h2)
        simpa using this
      simp only [List.lookup, q']
      exact ⟨h1, h2⟩
noncomputable abbrev K95 (W : Wd) : Frag := (K1 W).filter fun p => p.1 == 95 || p.1 == 94 || p.1 == 85 || p.1 == 92
section
variable {prog : Program} {w : World} {W : Wd} {off : List Addr} {tb : Tb} {k : Nat}
theorem k95_in {g : Heap} (t : TopOk (K1 W) off g) (h : ∀ a ∈ [85, 92, 94, 95], a ∉ off) : (K95 W).In g := by
  intro a o e
  obtain ⟨e1, e2⟩ := lookup_part (f := fun b => b == 95 || b == 94 || b == 85 || b == 92) e
  simp only [Bool.or_eq_true, beq_iff_eq] at e2
  refine t a o e1 (h a ?_)
  rcases e2 with ((e | e) | e) | e <;> simp [e]
theorem makes95 : makesIn (K95 W) 95 = true := by rfl
theorem init95 : findIn (K95 W) (.ref 95) "__init__" = some (some (.ref 85)) := by rfl
theorem type85 : typeIn (K95 W) (.ref 85) = some (.type "function") := by rfl

/-- a reader's objects -/
structure Reader (prog : Program) (w : World) (tb : Tb) (X : List Addr) (h : Heap) (mods : List Str) (r d m l c : Addr) : Prop where
  inst : InstD 95 h r d (mIgn m l c)
  set : SetR prog w h m (fun y => mods.any (· == y)) mods.length
  dirs : (vis tb X h).IsList l #[]

theorem ign_new {A : Around} {X : List Addr} {s : Shared} {v : Value} {mods : List Str} {Q : Value → Shared → Prop} (hR : Room A (k + 2)) (hoff : ∀ a ∈ [80, 84, 85, 92, 94, 95], a ∉ off) (G : Globs (K1 W) off (mg1 W) (mb1 W))
    (hO : Ok (K1 W) off tb X s) (rv : Rp (vis tb X s.heap) v (.list (sts mods))) (hn : mods.length < 4000)
    (h : ∀ r d m l c t s', Ext tb s s' → (∀ y ∈ [r, d, m, c], s.heap.get? y = none) → c ≠ r → c ≠ d → Reader prog w tb X s'.heap mods r d m l c → s'.heap.DictOf (strKind prog w) c [("<string>", .int 1 t)] → Q (.ref r) s') :
    wpAny (model prog w) A (call (.ref 95) [v]) Q NoE s := by
  refine wpAny_call ?_
  obtain ⟨hh, g, dr, tk, os⟩ := s
  have X0 : (K95 W).In hh := k95_in (hO.top.sub (vis_below _ _ _)) (sub_off hoff (by decide))
  refine make_core (makes_of X0 makes95) (looks_findIn X0 init95) (fun self => bind_fn X0 self type85) (.inl rfl) ?_
  generalize hd : hh.objs.size = d
  have hR' : Room (A.under (.builtin "type.__call__" ⟨[.ref 95, v], []⟩)) (k + 1) :=
    ⟨hR.handled, by have := hR.depth; show A.depth + 1 + (k + 1) ≤ 900; omega, by have := hR.units; show A.units + 1 + 20 * (k + 1) ≤ 9000; omega⟩
  have gd0 : hh.get? d = none := at_none (Nat.le_of_eq hd)
  have gr0 : hh.get? (d + 1) = none := at_none (by rw [hd]; exact Nat.le_succ _)
  have sub : Sub hh ((hh.push emptyDict).push (instObj 95 d)) := fun b o e => Heap.get?_push_of_some _ (Heap.get?_push_of_some _ e)
  have gd : ((hh.push emptyDict).push (instObj 95 d)).get? d = some emptyDict := Heap.get?_push_of_some _ (by rw [← hd]; exact Heap.get?_push_size _ rfl)
  have gr : ((hh.push emptyDict).push (instObj 95 d)).get? (d + 1) = some (instObj 95 d) := by
    have : (hh.push emptyDict).objs.size = d + 1 := by rw [Heap.size_push, hd]
    rw [← this]; exact Heap.get?_push_size _ rfl
  have e0 : Ext tb ⟨hh, g, dr, tk, os⟩ ⟨(hh.push emptyDict).push (instObj 95 d), g, dr, tk, os⟩ := .of_sub sub rfl rfl
  have O1 := hO.ext e0
  have fresh : ∀ y ∈ [d + 1, d], hh.get? y = none := fun y hy => by
    rcases List.mem_cons.mp hy with rfl | hy
    · exact gr0
    · rw [List.mem_singleton] at hy; subst hy; exact gd0
  have ntb : ∀ y ∈ [d + 1, d], y ∉ tb.map (·.1) := fun y hy m => by
    obtain ⟨q, hq, e⟩ := List.mem_map.mp m
    obtain ⟨_, g', _⟩ := (hO.tabs q hq).get
    rw [e] at g'; rw [show (Shared.mk hh g dr tk os).heap = hh from rfl, fresh y hy] at g'; cases g'
  have seen : Sub (vis tb X hh) (vis tb ([d + 1, d] ++ X) ((hh.push emptyDict).push (instObj 95 d))) := fun b o e => by
    obtain ⟨e1, n1, n2⟩ := vis_get e
    refine vis_mk (sub b o e1) n1 fun q => ?_
    rcases List.mem_append.mp q with q | q
    · rw [fresh b q] at e1; cases e1
    · exact n2 q
  have O2 : Ok (K1 W) off tb ([d + 1, d] ++ X) ⟨(hh.push emptyDict).push (instObj 95 d), g, dr, tk, os⟩ := by
    refine ⟨fun y hy => ?_, O1.tabs, hO.top.sub seen⟩
    rcases List.mem_append.mp hy with hy | hy
    · refine ⟨ntb y hy, ?_⟩
      rcases List.mem_cons.mp hy with rfl | hy
      · exact ⟨_, gr⟩
      · rw [List.mem_singleton] at hy; subst hy; exact ⟨_, gd⟩
    · exact O1.priv y hy
  refine ign_init hR' (sub_off hoff (by decide)) G O2 (by simp) (by simp)
    ⟨_, gr, rfl, rfl, rfl, Nat.ne_of_lt (Nat.lt_succ_self _), .of_empty ⟨_, #[], 0, gd, rfl, fun _ he => by simp at he, fun _ => rfl⟩⟩ (rv.sub seen) hn fun m l c t s' x f I S D C => ⟨rfl, ?_⟩
  have fr4 : ∀ y ∈ [d + 1, d, m, c], hh.get? y = none := fun y hy => by
    simp only [List.mem_cons, List.not_mem_nil, or_false] at hy
    have back : ∀ z, ((hh.push emptyDict).push (instObj 95 d)).get? z = none → hh.get? z = none := fun z hz => by
      cases q : hh.get? z with
      | none => rfl
      | some o => rw [sub z o q] at hz; cases hz
    rcases hy with rfl | rfl | rfl | rfl
    · exact gr0
    · exact gd0
    · exact back _ (f _ (by simp))
    · exact back _ (f _ (by simp))
  refine h (d + 1) d m l c t s' ⟨fun b o n e => x.keep b o n (fun q => ?_) (sub b o e), fun q hq z => x.tab q hq (e0.tab q hq z), x.gens, x.os⟩ fr4 (fun z => by have q := f c (by simp); rw [z] at q; have q : ((hh.push emptyDict).push (instObj 95 d)).get? (d + 1) = none := q; rw [gr] at q; cases q) (fun z => by have q := f c (by simp); rw [z] at q; have q : ((hh.push emptyDict).push (instObj 95 d)).get? d = none := q; rw [gd] at q; cases q) ⟨I, S, ?_⟩ C
  · have e : hh.get? b = some o := e
    rw [fresh b q] at e; cases e
  · obtain ⟨ol, gl, rl⟩ := D
    exact ⟨ol, vis_more (fun y hy => List.mem_append_right _ hy) _ _ gl, rl⟩
end
end Mine
end
section
open PySem PySem.W PySem.Calls PyProof.Rows
set_option maxRecDepth 100000
namespace Mine

def tell (mods : List Str) (y : Str) : Int := if mods.any (fun m => isAbove m y) then 1 else 0
def said (mods : List Str) (y : Str) : Int := if y = "<string>" then 1 else tell mods y
def CacheP (prog : Program) (w : World) (dom : List Str) (mods : List Str) (o : Obj) : Prop := ∃ kvs, o.IsDictOf (strKind prog w) kvs ∧ ∀ p ∈ kvs, p.1 ∈ dom ∧ ∃ t, p.2 = .int (said mods p.1) t

/-- a reader's objects, as they are seen -/
structure Rd (prog : Program) (w : World) (g : Heap) (mods : List Str) (C N r d m l c : Addr) (mN : Str → Option Value) : Prop where
  inst : InstD C g r d (mIgn m l c)
  set : SetR prog w g m (fun y => mods.any (· == y)) mods.length
  dirs : g.IsList l #[]
  cls : PlainCls g C N mN
theorem Rd.sub {prog : Program} {w : World} {g g' : Heap} {mods : List Str} {C N r d m l c : Addr} {mN : Str → Option Value} (x : Rd prog w g mods C N r d m l c mN) (k : Sub g g') : Rd prog w g' mods C N r d m l c mN :=
  ⟨x.inst.keeps fun b o _ e => k b o e, x.set.at fun o e => k _ o e, let ⟨o, e, q⟩ := x.dirs; ⟨o, k _ _ e, q⟩,
    ⟨let ⟨a, b, c, d, e, f, g, h, i, j, k', l, m, z⟩ := x.cls.obj; ⟨a, b, c, d, e, f, g, h, i, j, k', l, m, k _ _ z⟩, x.cls.ns.keeps k⟩⟩

section
variable {prog : Program} {w : World} {W : Wd} {K : Frag} {off : List Addr} {tb : Tb} {k : Nat} {env : Env} {ρ : Rho} {mg mb : Str → Option Value} {A : Around} {X : List Addr} {s : Shared}
  {mods : List Str} {C N r d m l c : Addr} {mN : Str → Option Value}

theorem eval_attr {E : Value → Shared → Prop} {x attr : Str} {p pos : Pos} {a : Addr} {Q : Value → Shared → Prop} (R : Rd prog w s.heap mods C N r d m l c mN) (hk : env.scope.kind = .function) (b : Bound env s.heap x (.ref r))
    (hng : mN "__getattribute__" = none) (hna : mN attr = none) (hB : typeLookup (.type "object") attr = pure none) (hv : mIgn m l c attr = some (.ref a)) (h : Q (.ref a) { s with toks := s.toks + 1 })
    (hd : (x == ("__debug__" : Str)) = false) (hn : (x == ("__classdict__" : Str)) = false) : wpAny (model prog w) A (eval (.Attribute (.Name x p) attr pos) env) Q E s := by
  refine Attribute_name (bound_load hk b ?_ hd hn)
  obtain ⟨nm, q, bs, sn, sub, ab, col, dd, k0, k1, k2, k3, k5, hC⟩ := R.cls.obj
  obtain ⟨hh, g, dr, t, os⟩ := s
  exact load_attr hC R.cls.ns hng hna hB R.inst.inst hv rfl h

structure CacheAt (prog : Program) (w : World) (tb : Tb) (c : Addr) (dom mods : List Str) : Prop where
  mem : (c, TK.own (CacheP prog w dom mods)) ∈ tb
  only : ∀ q ∈ tb, q.1 = c → q.2 = .own (CacheP prog w dom mods)
  few : dom.length ≤ 1000
  sys : (c == sysModules) = false
theorem few_of {α : Type} [BEq α] [LawfulBEq α] : ∀ (l dom : List α), l.Nodup → (∀ x ∈ l, x ∈ dom) → l.length ≤ dom.length
  | [], _, _, _ => Nat.zero_le _
  | a :: t, dom, hn, hs => by
    have hn' := List.nodup_cons.mp hn
    have := few_of t (dom.erase a) hn'.2 (fun x hx => (List.mem_erase_of_ne (show x ≠ a from fun e => hn'.1 (e ▸ hx))).mpr (hs x (List.mem_cons_of_mem _ hx)))
    rw [List.length_erase_of_mem (hs a List.mem_cons_self)] at this
    have : 0 < dom.length := List.length_pos_of_mem (hs a List.mem_cons_self)
    simp only [List.length_cons]; omega
theorem Ok.cache {dom : List Str} (o : Ok K off tb X s) (hc : CacheAt prog w tb c dom mods) : ∃ kvs, s.heap.DictOf (strKind prog w) c kvs ∧ (∀ p ∈ kvs, p.1 ∈ dom ∧ ∃ t, p.2 = .int (said mods p.1) t) ∧ kvs.length ≤ 1000 := by
  obtain ⟨ob, es, n, g, _, kvs, hd, hp⟩ := o.tabs _ hc.mem
  have hD : s.heap.DictOf (strKind prog w) c kvs := Heap.dictOf_iff.mpr ⟨ob, g, hd⟩
  refine ⟨kvs, hD, hp, ?_⟩
  obtain ⟨es', ep', _, _, _, _, hnd⟩ := hd
  have := few_of (kvs.map (·.1)) dom hnd (fun x hx => by obtain ⟨p, hp', rfl⟩ := List.mem_map.mp hx; exact (hp p hp').1)
  rw [List.length_map] at this
  exact Nat.le_trans this hc.few
theorem stored_mem {kvs : List (Str × Value)} {y : Str} {v : Value} {p : Str × Value} (h : p ∈ PySem.stored kvs y v) : p = (y, v) ∨ p ∈ kvs := by
  unfold PySem.stored at h
  split at h
  · obtain ⟨q, hq, rfl⟩ := List.mem_map.mp h
    split
    · rename_i e; left; rw [e]
    · exact .inr hq
  · rcases List.mem_append.mp h with h | h
    · exact .inr h
    · rw [List.mem_singleton] at h; exact .inl h

theorem cache_store {dom : List Str} {y : Str} {ty t : Tok} {i : Int} {Q : Unit → Shared → Prop} {E : Value → Shared → Prop} (hO : Ok K off tb X s) (hc : CacheAt prog w tb c dom mods) (hi : said mods y = i) (hy : y ∈ dom)
    (h : ∀ s', Ext tb s s' → Q () s') : wpAny (model prog w) A (setItem (.ref c) (.str y ty) (.int i t)) Q E s := by
  obtain ⟨kvs, hD, hp, hl⟩ := hO.cache hc
  refine wpAny_setItem_pairs (is_str y ty) hD (fun h' hD' hs => ?_) (Nat.le_trans hl (by decide))
  obtain ⟨oc, g, _⟩ := Heap.dictOf_iff.mp hD
  obtain ⟨oc0, es0, n0, g0, d0, _⟩ := hO.tabs _ hc.mem
  refine h _ ⟨fun b o n e => hs.extBut b o (fun z => n (z ▸ List.mem_map_of_mem hc.mem)) e, fun q hq z => ?_, rfl, rfl⟩
  by_cases e : q.1 = c
  · rw [hc.only q hq e, e]
    obtain ⟨o', g', hd'⟩ := Heap.dictOf_iff.mp hD'
    obtain ⟨es', ep', hx, hd, _⟩ := id hd'
    refine ⟨o', es', ep', g', hd, PySem.stored kvs y (.int i t), hd', fun p hp' => ?_⟩
    rcases stored_mem hp' with rfl | hp'
    · exact ⟨hy, t, by rw [← hi]⟩
    · exact hp p hp'
  · exact z.but hs.extBut g0 (noCode_dict d0) (Ne.symm e)

theorem store_ret {dom : List Str} {y xs xm : Str} {i : Int} {p1 p2 p3 p4 p5 p6 p7 p8 : Pos} {n n' : Nat} {rest : List Stmt} {Q : Flow → Shared → Prop} (R : Rd prog w (vis tb X s.heap) mods C N r d m l c mN) (hO : Ok K off tb X s) (hE : EnvOk tb X env ρ s) (b : Bound env s.heap xs (.ref r))
    (hng : mN "__getattribute__" = none) (hna : mN "_ignore" = none) (hx : ρ.lookup xm = some (.str y)) (hc : CacheAt prog w tb c dom mods) (hi : said mods y = i) (hy : y ∈ dom)
    (h : ∀ t s', Ext tb s s' → Q (.ret (.int i t)) s')
    (hd : (xs == ("__debug__" : Str)) = false := by decide) (hn : (xs == ("__classdict__" : Str)) = false := by decide) (hd' : (xm == ("__debug__" : Str)) = false := by decide) (hn' : (xm == ("__classdict__" : Str)) = false := by decide) :
    wpAny (model prog w) A (execs (.Assign [.Subscript (.Attribute (.Name xs p1) "_ignore" p2) (.Name xm p3) p4] (.Constant (.int i) n p5) p6 :: .Return (some (.Constant (.int i) n' p7)) p8 :: rest) env) Q NoE s := by
  refine wpAny_execs_cons (wpAny_Assign_Subscript (wpAny_Constant_int ?_))
  have e1 : Ext tb s { s with toks := s.toks + 1 } := ext_tok _ _
  refine eval_attr (s := { s with toks := s.toks + 1 }) (R.sub (vis_below _ _ _)) hE.kind b hng hna look_ignore (a := c) rfl ?_ hd hn
  have e2 : Ext tb s { s with toks := s.toks + 1 + 1 } := ext_tok _ _
  obtain ⟨v, bv, rv⟩ := (hE.ext hO e2).vars _ (PySem.mem_of_lookup hx)
  obtain ⟨t, rfl⟩ := rv.str
  refine bound_load (s := { s with toks := s.toks + 1 + 1 }) hE.kind bv ?_ hd' hn'
  refine cache_store (hO.ext e2) hc hi hy fun s' e3 => ?_
  refine wpAny_execs_cons (wpAny_Return_some (wpAny_Constant_int ?_))
  exact h _ _ ((e2.trans e3).trans (ext_tok _ _))
end
end Mine
end
section
open PySem PySem.W PySem.Calls PyProof.Rows
set_option maxRecDepth 100000
namespace Mine
section
variable {prog : Program} {w : World} {W : Wd} {K : Frag} {off : List Addr} {tb : Tb} {k : Nat} {env : Env} {ρ : Rho} {mg mb : Str → Option Value}

theorem fn_startswith {x y : Str} : Fn prog w K off tb k (.builtin "str.startswith") [.str x, .str y] (.bool (Txt.startswith x y)) := by
  intro A X s vs Q hR hO r0 h
  obtain ⟨v, u, rfl, r, q⟩ := r0.two
  obtain ⟨t, rfl⟩ := r.str
  obtain ⟨t', rfl⟩ := q.str
  exact SC.startswith (h _ _ (.refl _ _) .mkBool)
theorem EnvOk.some {ρ' : Rho} {X : List Addr} {s : Shared} (e : EnvOk tb X env ρ s) (h : ∀ p ∈ ρ', p ∈ ρ) : EnvOk tb X env ρ' s := ⟨e.kind, e.globals, e.builtins, e.nloc, fun p hp => e.vars p (h p hp)⟩
theorem stored_bound {x y : Str} {u v : Value} {m : Str → Option Value} {h h' : Heap} (b : Bound env h y u) (hLn : h.Ns env.locals m) (n' : h'.Ns env.locals (fun z => if z = x then some v else m z)) (sb : Heap.SameBut env.locals h h') (hn : y ≠ x) : Bound env h' y u := by
  obtain ⟨oL, esL, epL, gL, dL, _⟩ := id hLn
  rcases b with ⟨kl, m', n1, hm⟩ | ⟨kc, c, hc, hv⟩
  · refine .inl ⟨kl, _, n', ?_⟩
    have : m y = m' y := by
      obtain ⟨o1, es1, ep1, a1, a2, _, a3⟩ := n1
      obtain ⟨o2, es2, ep2, b1, b2, _, b3⟩ := hLn
      rw [a1] at b1; cases b1; rw [a2] at b2; cases b2
      rw [← a3, ← b3]
    simp only [if_neg hn, this, hm]
  · obtain ⟨oc, c1, c2⟩ := hv
    exact .inr ⟨kc, c, hc, oc, sb.extBut c oc (fun z => by rw [z, gL] at c1; cases c1; rw [dL] at c2; cases c2) c1, c2⟩

variable {A : Around} {X : List Addr} {s : Shared} {mods : List Str} {C N r d m l c : Addr} {mN : Str → Option Value}

/-- what stands while names runs -/
structure NSt (prog : Program) (w : World) (K : Frag) (off : List Addr) (tb : Tb) (X : List Addr) (env : Env) (ρ : Rho) (xs : Str) (mods : List Str) (C N r d m l c : Addr) (mN : Str → Option Value) (s : Shared) : Prop where
  rd : Rd prog w (vis tb X s.heap) mods C N r d m l c mN
  ok : Ok K off tb X s
  en : EnvOk tb X env ρ s
  self : Bound env s.heap xs (.ref r)
  loc : ∃ mL, s.heap.Ns env.locals mL
theorem NSt.ext {xs : Str} {s' : Shared} (x : NSt prog w K off tb X env ρ xs mods C N r d m l c mN s) (e : Ext tb s s') : NSt prog w K off tb X env ρ xs mods C N r d m l c mN s' :=
  ⟨x.rd.sub e.vis, x.ok.ext e, x.en.ext x.ok e, x.self.ext x.ok x.en.nloc e, let ⟨mL, o, es, ep, g, q⟩ := x.loc; ⟨mL, o, es, ep, e.keep _ _ x.en.nloc g, q⟩⟩

theorem pt_bool {e : Expr} {b : Bool} (h : PV prog w K off tb k env ρ e (.bool b)) (he : ∀ whole, isTrue e env whole = (do let v ← whole; standAt e.pos; holding [v] (truthy v)) := by intro _; rfl) : PT prog w K off tb k env ρ e b := by
  intro A X s Q hR hO hE hQ
  refine wpAny_isTrue_value (h A X s _ hR hO hE fun v s₁ e₁ r₁ => ?_) (he _)
  obtain rfl := r₁.bool
  exact wpAny_truthy_bool (hQ s₁ e₁)
theorem Ok.hide {I : Addr} {s' : Shared} (o : Ok K off tb X s) (e : Ext tb s s') (hI : s.heap.get? I = none) (hI' : ∃ ob, s'.heap.get? I = some ob) (nt : I ∉ tb.map (·.1)) : Ok K off tb (I :: X) s' ∧ Sub (vis tb X s.heap) (vis tb (I :: X) s'.heap) := by
  have sb : Sub (vis tb X s.heap) (vis tb (I :: X) s'.heap) := fun b ob g => by
    obtain ⟨g0, n, m⟩ := vis_get g
    refine vis_mk (e.keep b ob n g0) n fun z => ?_
    rcases List.mem_cons.mp z with rfl | z
    · rw [hI] at g0; cases g0
    · exact m z
  refine ⟨⟨fun y hy => ?_, fun q hq => e.tab q hq (o.tabs q hq), o.top.sub sb⟩, sb⟩
  rcases List.mem_cons.mp hy with rfl | hy
  · exact ⟨nt, hI'⟩
  · exact (o.ext e).priv y hy
theorem NSt.hide {xs : Str} {I : Addr} {s' : Shared} (x : NSt prog w K off tb X env ρ xs mods C N r d m l c mN s) (e : Ext tb s s') (hI : s.heap.get? I = none) (hI' : ∃ ob, s'.heap.get? I = some ob) (nt : I ∉ tb.map (·.1)) :
    NSt prog w K off tb (I :: X) env ρ xs mods C N r d m l c mN s' := by
  obtain ⟨o, sb⟩ := x.ok.hide e hI hI' nt
  have y := x.ext e
  exact ⟨x.rd.sub sb, o, ⟨y.en.kind, y.en.globals, y.en.builtins, y.en.nloc, fun p hp => let ⟨v, b, rv⟩ := x.en.vars p hp; ⟨v, b.ext x.ok x.en.nloc e, rv.sub sb⟩⟩, y.self, y.loc⟩
theorem NSt.less {xs : Str} {I : Addr} (x : NSt prog w K off tb (I :: X) env ρ xs mods C N r d m l c mN s) : NSt prog w K off tb X env ρ xs mods C N r d m l c mN s :=
  ⟨x.rd.sub (vis_more fun _ z => List.mem_cons_of_mem _ z), x.ok.less fun _ z => List.mem_cons_of_mem _ z, x.en.less fun _ z => List.mem_cons_of_mem _ z, x.self, x.loc⟩
theorem NSt.turn {xs : Str} {I : Addr} {s' : Shared} (x : NSt prog w K off tb (I :: X) env ρ xs mods C N r d m l c mN s) (y : ExtO tb [I] s s') (hI : ∃ o, s'.heap.get? I = some o) (hl : env.locals ≠ I) (hc : env.cells = []) :
    NSt prog w K off tb (I :: X) env ρ xs mods C N r d m l c mN s' := by
  have m1 : ∀ z ∈ [I], z ∈ I :: X := fun z hz => by rw [List.mem_singleton] at hz; exact hz ▸ List.mem_cons_self
  have hl' : env.locals ∉ [I] := fun z => hl (List.mem_singleton.mp z)
  have hc' : ∀ x c, env.cells.lookup x = some c → c ∉ [I] := fun x c z => by rw [hc] at z; cases z
  refine ⟨x.rd.sub (y.vis m1), x.ok.extO y m1 (fun z hz => by rw [List.mem_singleton] at hz; exact hz ▸ hI), x.en.extO x.ok y m1 hl' hc', x.self.extO x.ok x.en.nloc y hl' hc', ?_⟩
  obtain ⟨mL, o, es, ep, g, q⟩ := x.loc
  exact ⟨mL, o, es, ep, y.keep _ _ x.en.nloc hl' g, q⟩

theorem NSt.leave {xs : Str} {I : Addr} {s' : Shared} (x : NSt prog w K off tb (I :: X) env ρ xs mods C N r d m l c mN s) (y : ExtO tb [I] s s') (hI : I ∉ X) (hl : env.locals ≠ I) (hc : env.cells = []) :
    NSt prog w K off tb X env ρ xs mods C N r d m l c mN s' := by
  have hl' : env.locals ∉ [I] := fun z => hl (List.mem_singleton.mp z)
  have hc' : ∀ x c, env.cells.lookup x = some c → c ∉ [I] := fun x c z => by rw [hc] at z; cases z
  have sb : Sub (vis tb (I :: X) s.heap) (vis tb X s'.heap) := fun b o g => by
    obtain ⟨g0, n, m⟩ := vis_get g
    exact vis_mk (y.keep b o n (fun z => m (List.mem_singleton.mp z ▸ List.mem_cons_self)) g0) n fun z => m (List.mem_cons_of_mem _ z)
  refine ⟨x.rd.sub sb, ⟨fun z hz => ?_, fun q hq => y.tab q hq (x.ok.tabs q hq), x.ok.top.sub sb⟩, ⟨x.en.kind, x.en.globals, x.en.builtins, x.en.nloc, fun p hp => ?_⟩, x.self.extO x.ok x.en.nloc y hl' hc', ?_⟩
  · obtain ⟨n, o, g⟩ := x.ok.priv z (List.mem_cons_of_mem _ hz)
    exact ⟨n, o, y.keep z o n (fun q => hI (List.mem_singleton.mp q ▸ hz)) g⟩
  · obtain ⟨v, b, rv⟩ := x.en.vars p hp
    exact ⟨v, b.extO x.ok x.en.nloc y hl' hc', rv.sub sb⟩
  · obtain ⟨mL, o, es, ep, g, q⟩ := x.loc
    exact ⟨mL, o, es, ep, y.keep _ _ x.en.nloc hl' g, q⟩

theorem SetIt.keeps2 {h h' : Heap} {I a : Addr} {ord : List Value} {i : Nat} (x : SetIt w h I a ord i) (k : ∀ b o, (∀ es n, o.data ≠ .dict es n) → o.cls ≠ .none → h.get? b = some o → h'.get? b = some o) : SetIt w h' I a ord i := by
  obtain ⟨es, ep, t, first, h1, h2, h3, h4⟩ := x
  refine ⟨es, ep, t, first, k _ _ (fun _ _ z => by cases z) (by simp) h1, k _ _ (fun _ _ z => by cases z) (by simp) h2, h3, ?_⟩
  rcases h4 with h4 | ⟨b, T, p, z1, z2, z3⟩ | h4
  · exact .inl h4
  · exact .inr (.inl ⟨b, T, p, z1, k _ _ (fun _ _ z => by cases z) (by simp) z2, z3⟩)
  · exact .inr (.inr h4)

set_option maxHeartbeats 1000000 in
theorem for_set {xt xm xs y : Str} {dom : List Str} {pt p1 p2 p3 p4 p5 p6 p7 p8 p9 p10 q1 q2 q3 q4 q5 q6 q7 q8 : Pos} {n0 n1 n2 : Nat} {Q : Flow → Shared → Prop} (hR : Room A k) (x : NSt prog w K off tb X env ρ xs mods C N r d m l c mN s)
    (hX : ∀ z ∈ own env, z ∈ X) (hkt : env.kindOf xt = some .local) (hρt : ∀ p ∈ ρ, p.1 ≠ xt) (hst : xs ≠ xt) (hmt : (xm == xt) = false) (hxm : ρ.lookup xm = some (.str y))
    (hng : mN "__getattribute__" = none) (hni : mN "_ignore" = none) (hnm : mN "_mods" = none) (hc : CacheAt prog w tb c dom mods) (hy : y ∈ dom) (hn : mods.length < 4000) (hshort : ∀ z ∈ mods, z.length ≤ 1000)
    (hi : mods.any (fun z => Txt.startswith y (z ++ dot)) = true → said mods y = 1)
    (h1 : ∀ t s', ExtO tb (own env) s s' → mods.any (fun z => Txt.startswith y (z ++ dot)) = true → Q (.ret (.int 1 t)) s')
    (h2 : ∀ s', ExtO tb (own env) s s' → NSt prog w K off tb X env ρ xs mods C N r d m l c mN s' → mods.any (fun z => Txt.startswith y (z ++ dot)) = false → Q .next s')
    (hline : (p4.endLine == p8.line) = true := by rfl)
    (hcl : env.cells = []) 
    (d1 : (xs == ("__debug__" : Str)) = false := by decide) (d2 : (xs == ("__classdict__" : Str)) = false := by decide) (d3 : (xm == ("__debug__" : Str)) = false := by decide) (d4 : (xm == ("__classdict__" : Str)) = false := by decide)
    (d5 : (xt == ("__debug__" : Str)) = false := by decide) (d6 : (xt == ("__classdict__" : Str)) = false := by decide) :
    wpAny (model prog w) A (exec (.For (.Name xt pt) (.Attribute (.Name xs p1) "_mods" p2) [.If (.Call (.Attribute (.Name xm p3) "startswith" p4) [.BinOp (.Name xt p5) .Add (.Constant (.str dot) n0 p6) p7] [] p8)
      [.Assign [.Subscript (.Attribute (.Name xs q1) "_ignore" q2) (.Name xm q3) q4] (.Constant (.int 1) n1 q5) q6, .Return (some (.Constant (.int 1) n2 q7)) q8] [] p9] [] p10) env) Q NoE s := by
  refine wpAny_For (eval_attr (x.rd.sub (vis_below _ _ _)) x.en.kind x.self hng hnm look_mods (a := m) rfl ?_ d1 d2)
  have e1 : Ext tb s { s with toks := s.toks + 1 } := ext_tok _ _
  obtain ⟨es, ep, t, gm, hel, hmem, hsz, hfit, hled, hpl⟩ := x.rd.set.ex
  have gm' := vis_below _ _ _ _ _ gm
  refine set_iter (s := { s with toks := s.toks + 1 }) gm' hfit hled hpl (by omega) fun I ord h₂ dr hperm hsub hI it => ?_
  have hI : s.heap.get? I = none := hI
  have e2 : Ext tb s { s with toks := s.toks + 1, heap := h₂, drawn := dr } := .of_sub hsub rfl rfl
  have nIt : I ∉ tb.map (·.1) := fun z => by
    obtain ⟨q, hq, e⟩ := List.mem_map.mp z
    obtain ⟨_, g', _⟩ := (x.ok.tabs q hq).get
    rw [e, hI] at g'; cases g'
  have nIX : I ∉ X := fun z => by obtain ⟨_, o, g⟩ := x.ok.priv I z; rw [hI] at g; cases g
  obtain ⟨es', ep', t', first, itI, _⟩ := id it.ex
  have x2 := x.hide e2 hI ⟨_, itI⟩ nIt
  have hlI : env.locals ≠ I := fun z => by obtain ⟨mL, o, es, ep, g, _⟩ := x.loc; rw [z, hI] at g; cases g
  have hmI : m ≠ I := fun z => by rw [z, hI] at gm'; cases gm'
  have hord : ∀ v ∈ ord, ∃ z t, v = .str z t ∧ z ∈ mods := fun v hv => by
    obtain ⟨e, he, rfl⟩ := List.mem_map.mp (hperm.mem_iff.mp hv)
    obtain ⟨⟨z, hz, _⟩, _⟩ := hel e he
    obtain ⟨t, et⟩ := Value.isStrOf_shape hz
    refine ⟨z, t, et, ?_⟩
    have := (hmem z).mpr ⟨e, he, hz⟩
    obtain ⟨z', hz', q⟩ := List.any_eq_true.mp this
    rw [beq_iff_eq] at q
    exact q ▸ hz'
  have hall : ∀ z ∈ mods, ∃ t, Value.str z t ∈ ord := fun z hz => by
    obtain ⟨e, he, q⟩ := (hmem z).mp (List.any_eq_true.mpr ⟨z, hz, by simp⟩)
    obtain ⟨t, et⟩ := Value.isStrOf_shape q
    exact ⟨t, hperm.mem_iff.mpr (et ▸ List.mem_map_of_mem he)⟩
  have hln : ord.length ≤ mods.length := by rw [hperm.length_eq]; simpa using hsz
  refine codeAny_forLoop (fun n s' => ∃ i, n + i = ord.length + 1 ∧ i ≤ ord.length ∧ ExtO tb (own env) s s' ∧ NSt prog w K off tb (I :: X) env ρ xs mods C N r d m l c mN s' ∧ SetIt w s'.heap I m ord i ∧
      ∀ j z t, j < i → ord[j]? = some (.str z t) → Txt.startswith y (z ++ dot) = false) (fun n s' hinv => ?_) (ord.length + 1) ⟨0, rfl, Nat.zero_le _, .of e2, x2, it, fun j z t hj => absurd hj (Nat.not_lt_zero _)⟩
  obtain ⟨i, hnn, hil, y1, x3, it3, hno⟩ := hinv
  have nte : ∀ h' : Heap, Heap.ExtBut I s'.heap h' → ∀ dd tt, ExtO tb [I] s' { s' with heap := h', drawn := dd, toks := tt } := fun h' hx dd tt => by
    obtain ⟨es, ep, t, first, gI, _⟩ := id it3.ex
    exact ⟨fun b o _ mm g => hx b o (fun z => mm (by simp [z])) g, fun q hq z => z.but hx gI (fun vs q t z => by cases z; simp) (ne_of_tab nIt hq), rfl, rfl⟩
  cases hv : ord[i]? with
  | none =>
    refine set_next_end hR.handled it3 hv fun h' hx => ?_
    refine wpAny_execs_nil ?_
    have y4 := nte h' hx s'.drawn s'.toks
    have x4 := x3.leave (s' := { s' with heap := h' }) y4 nIX hlI hcl
    refine h2 _ ⟨fun b o n1 n2 g => y4.keep b o n1 (fun z => ?_) (y1.keep b o n1 n2 g), fun q hq z => y4.tab q hq (y1.tab q hq z), y1.gens, y1.os⟩ x4 ?_
    · rw [List.mem_singleton.mp z, hI] at g; cases g
    · rw [List.any_eq_false]
      intro z hz
      obtain ⟨t, ht⟩ := hall z hz
      obtain ⟨j, hj⟩ := List.getElem?_of_mem ht
      have : j < i := by
        have h1 := (List.getElem?_eq_some_iff.mp hj).1
        have h2 := List.getElem?_eq_none_iff.mp hv
        omega
      rw [hno j z t this hj]; simp
  | some v =>
    refine set_next_item it3 hv fun h' hx it4 => ?_
    have y4 := nte h' hx s'.drawn s'.toks
    obtain ⟨_, _, _, _, gI4, _⟩ := id it4.ex
    have x4 := x3.turn (s' := { s' with heap := h' }) y4 ⟨_, gI4⟩ hlI hcl
    obtain ⟨mL, hLn⟩ := x4.loc
    obtain ⟨z, tz, rfl, hz⟩ := hord v (List.mem_of_getElem? hv)
    have hkd : env.scope.kind = .function := x.en.kind
    refine wpAny_assign_Name (wpAny_storeName_local hkt hLn (fun h5 n5 sb5 => ?_) (by rw [hkd]; rfl))
    obtain ⟨x5, O5, E5, _⟩ := stored (t := s'.toks + 1) (a := .str z) x4.ok x4.en (fun q hq => List.mem_cons_of_mem _ (hX q hq)) hkt hLn n5 sb5 .mkStr hρt (fun x c _ hc => by rw [hcl] at hc; cases hc)
    have S5 : NSt prog w K off tb (I :: X) env ((xt, .str z) :: ρ) xs mods C N r d m l c mN { s' with heap := h5, toks := s'.toks + 1 } :=
      ⟨x4.rd.sub (x5.vis fun q hq => List.mem_cons_of_mem _ (hX q hq)), O5, E5, stored_bound x4.self hLn n5 sb5 hst, ⟨_, n5⟩⟩
    have it5 : SetIt w h5 I m ord (i + 1) := it4.keeps fun b o nd g => sb5.extBut b o (fun q => by
      obtain ⟨oL, esL, epL, gL, dL, _⟩ := id hLn
      rw [q, gL] at g; cases g; exact nd _ _ dL) g
    have y5 : ExtO tb (own env) s { s' with heap := h5, toks := s'.toks + 1 } :=
      ⟨fun b o n1 n2 g => x5.keep b o n1 n2 (y4.keep b o n1 (fun q => by rw [List.mem_singleton.mp q, hI] at g; cases g) (y1.keep b o n1 n2 g)), fun q hq z => x5.tab q hq (y4.tab q hq (y1.tab q hq z)), y1.gens, y1.os⟩
    refine wpAny_mono (E := NoE) ?_ (fun _ _ q => q) fun _ _ q => q.elim
    have hzl : z.length + dot.length ≤ sizeLine := by have := hshort z hz; have e : dot.length = 1 := by decide
                                                      rw [e]; have : sizeLine = 2 ^ 24 := rfl; omega
    refine wpAny_execs_cons (wpAny_If (pt_bool (b := Txt.startswith y (z ++ dot)) (pv_strMethod F.slot_str_startswith F.type_str_startswith (pv_var (by rw [List.lookup_cons, hmt]; exact hxm) d3 d4)
      (pv_binop (pv_var (by simp) d5 d6) pv_str (op_add_str hzl)) fn_startswith (by rfl) (by rfl) hline (by rfl)) (by intro _; rfl) A (I :: X) _ _ hR S5.ok S5.en fun s₆ e₆ => ?_))
    have S6 := S5.ext e₆
    cases hb : Txt.startswith y (z ++ dot) with
    | true =>
      simp only [if_true]
      have hany : mods.any (fun z => Txt.startswith y (z ++ dot)) = true := List.any_eq_true.mpr ⟨z, hz, hb⟩
      refine store_ret S6.rd S6.ok S6.en S6.self hng hni (by rw [List.lookup_cons, hmt]; exact hxm) hc (hi hany) hy (fun t s₇ e₇ => ?_) d1 d2 d3 d4
      exact h1 t s₇ (y5.trans (.of (e₆.trans e₇))) hany
    | false =>
      simp only [Bool.false_eq_true, if_false]
      refine wpAny_execs_nil (wpAny_execs_nil ⟨n - 1, by omega, i + 1, by omega, (List.getElem?_eq_some_iff.mp hv).1, y5.trans (.of e₆), ⟨S6.rd, S6.ok, S6.en.some fun p hp => List.mem_cons_of_mem _ hp, S6.self, S6.loc⟩, ?_, ?_⟩)
      · exact it5.keeps2 fun b o nd ncl g => e₆.keep b o (S5.ok.notTab g (fun ps q => ncl (by rw [q])) nd) g
      · intro j z' t' hj hz'
        rcases Nat.lt_succ_iff_lt_or_eq.mp hj with hj | rfl
        · exact hno j z' t' hj hz'
        · rw [hv] at hz'; cases hz'; exact hb
end
end Mine
end
section
open PySem PySem.W PySem.Calls PyProof.Rows
set_option maxRecDepth 100000
set_option linter.all false
namespace Mine
theorem valueAt_mem {kvs : List (Str × Value)} {y : Str} {v : Value} (h : valueAt kvs y = some v) : (y, v) ∈ kvs := by
  unfold valueAt at h
  obtain ⟨p, hp, rfl⟩ := Option.map_eq_some_iff.mp h
  have := List.find?_some hp
  simp at this
  exact this ▸ List.mem_of_find?_eq_some hp
theorem SetR.setOf {prog : Program} {w : World} {h : Heap} {a : Addr} {S : Str → Bool} {n : Nat} (x : SetR prog w h a S n) (hn : n < 4000) : ∃ m, h.SetOf (strKind prog w) a S m := by
  obtain ⟨es, ep, t, g, el, mem, small, fits, _⟩ := x.ex
  exact ⟨es.size, _, es, ep, t, g, ⟨rfl, rfl, rfl⟩, rfl, el, mem, by show es.size < 4096; omega, fits, rfl⟩
theorem any_above (mods : List Str) (y : Str) : mods.any (fun m => isAbove m y) = (mods.any (· == y) || mods.any (fun z => Txt.startswith y (z ++ dot))) := by
  rw [Bool.eq_iff_iff]
  constructor
  · intro h
    obtain ⟨z, hz, q⟩ := List.any_eq_true.mp h
    rw [isAbove_eq] at q
    rcases Bool.or_eq_true_iff.mp q with q | q
    · exact Bool.or_eq_true_iff.mpr (.inl (List.any_eq_true.mpr ⟨z, hz, beq_iff_eq.mpr (beq_iff_eq.mp q).symm⟩))
    · exact Bool.or_eq_true_iff.mpr (.inr (List.any_eq_true.mpr ⟨z, hz, q⟩))
  · intro h
    rcases Bool.or_eq_true_iff.mp h with h | h
    · obtain ⟨z, hz, q⟩ := List.any_eq_true.mp h
      exact List.any_eq_true.mpr ⟨z, hz, by rw [isAbove_eq]; exact Bool.or_eq_true_iff.mpr (.inl (beq_iff_eq.mpr (beq_iff_eq.mp q).symm))⟩
    · obtain ⟨z, hz, q⟩ := List.any_eq_true.mp h
      exact List.any_eq_true.mpr ⟨z, hz, by rw [isAbove_eq]; exact Bool.or_eq_true_iff.mpr (.inr q)⟩

section
variable {prog : Program} {w : World} {W : Wd} {K : Frag} {off : List Addr} {tb : Tb} {k : Nat} {env : Env} {ρ : Rho} {mg mb : Str → Option Value}
variable {A : Around} {X : List Addr} {s : Shared} {mods : List Str} {C N r d m l c : Addr} {mN : Str → Option Value}

set_option maxHeartbeats 2000000 in
theorem names_body {xt xd xf xm xs y f : Str} {dom : List Str} {pt p1 p2 p3 p4 p5 p6 p7 p8 p9 p10 q1 q2 q3 q4 q5 q6 q7 q8 : Pos} {n0 n1 n2 : Nat} {Q : Flow → Shared → Prop}
    {a1 a2 a3 a4 a5 a6 a7 a8 a9 a10 b1 b2 b3 b4 b5 b6 b7 b8 b9 b10 b11 b12 b13 c1 c2 c3 c5 c6 c7 c8 c9 c10 c11 c12 c13 e1 e2 e3 e4 f1 f2 f3 f4 f5 f6 f7 f8 : Pos} {n3 n4 n5 n6 n7 n8 n9 : Nat} {body5 : List Stmt}
    (hR : Room A k) (x : NSt prog w K off tb X env ρ xs mods C N r d m l c mN s)
    (hX : ∀ z ∈ own env, z ∈ X) (hkt : env.kindOf xt = some .local) (hρt : ∀ p ∈ ρ, p.1 ≠ xt) (hst : xs ≠ xt) (hmt : (xm == xt) = false) (hxm : ρ.lookup xm = some (.str y)) (hxf : ρ.lookup xf = some (.str f))
    (hng : mN "__getattribute__" = none) (hni : mN "_ignore" = none) (hnm : mN "_mods" = none) (hnd : mN "_dirs" = none) (hc : CacheAt prog w tb c dom mods) (hy : y ∈ dom) (hn : mods.length < 4000) (hshort : ∀ z ∈ mods, z.length ≤ 1000)
    (hys : y ≠ "<string>") (hcl : env.cells = [])
    (h : ∀ t s', ExtO tb (own env) s s' → Q (.ret (.int (said mods y) t)) s')
    (hline : (p4.endLine == p8.line) = true := by rfl)
    (d1 : (xs == ("__debug__" : Str)) = false := by decide) (d2 : (xs == ("__classdict__" : Str)) = false := by decide) (d3 : (xm == ("__debug__" : Str)) = false := by decide) (d4 : (xm == ("__classdict__" : Str)) = false := by decide)
    (d5 : (xt == ("__debug__" : Str)) = false := by decide) (d6 : (xt == ("__classdict__" : Str)) = false := by decide) (d7 : (xf == ("__debug__" : Str)) = false := by decide) (d8 : (xf == ("__classdict__" : Str)) = false := by decide) :
    wpAny (model prog w) A (execs [
      .If (.Compare (.Name xm a1) [.In] [.Attribute (.Name xs a2) "_ignore" a3] a4) [.Return (some (.Subscript (.Attribute (.Name xs a5) "_ignore" a6) (.Name xm a7) a8)) a9] [] a10,
      .If (.Compare (.Name xm b1) [.In] [.Attribute (.Name xs b2) "_mods" b3] b4) [.Assign [.Subscript (.Attribute (.Name xs b5) "_ignore" b6) (.Name xm b7) b8] (.Constant (.int 1) n3 b9) b10, .Return (some (.Constant (.int 1) n4 b11)) b12] [] b13,
      .For (.Name xt pt) (.Attribute (.Name xs p1) "_mods" p2) [.If (.Call (.Attribute (.Name xm p3) "startswith" p4) [.BinOp (.Name xt p5) .Add (.Constant (.str dot) n0 p6) p7] [] p8)
        [.Assign [.Subscript (.Attribute (.Name xs q1) "_ignore" q2) (.Name xm q3) q4] (.Constant (.int 1) n1 q5) q6, .Return (some (.Constant (.int 1) n2 q7)) q8] [] p9] [] p10,
      .If (.Compare (.Name xf c1) [.Is] [.Constant .none n5 c2] c3) [.Assign [.Subscript (.Attribute (.Name xs c5) "_ignore" c6) (.Name xm c7) c8] (.Constant (.int 1) n6 c9) c10, .Return (some (.Constant (.int 1) n7 c11)) c12] [] c13,
      .For (.Name xd e1) (.Attribute (.Name xs e2) "_dirs" e3) body5 [] e4,
      .Assign [.Subscript (.Attribute (.Name xs f1) "_ignore" f2) (.Name xm f3) f4] (.Constant (.int 0) n8 f5) f6,
      .Return (some (.Constant (.int 0) n9 f7)) f8] env) Q NoE s := by
  have hsaid : said mods y = tell mods y := if_neg hys
  -- in the cache
  obtain ⟨v0, b0, r0⟩ := x.en.vars _ (PySem.mem_of_lookup hxm)
  obtain ⟨ty, rfl⟩ := r0.str
  obtain ⟨kvs, hD, hp, hl⟩ := x.ok.cache hc
  have e1' : Ext tb s { s with toks := s.toks + 1 } := ext_tok _ _
  have x1 := x.ext e1'
  refine wpAny_execs_cons (wpAny_If (wpAny_isTrue_Compare1 (bound_load x.en.kind b0 ?_ d3 d4) (by with_unfolding_all rfl)))
  refine eval_attr (x.rd.sub (vis_below _ _ _)) x.en.kind x.self hng hni look_ignore (a := c) rfl ?_ d1 d2
  refine wpAny_in_of (is_str y ty) hc.sys (s := { s with toks := s.toks + 1 }) hD.mapOf ?_
  refine wpAny_truthy_bool ?_
  have e2' : Ext tb s { s with toks := s.toks + 1 + 1 } := ext_tok _ _
  have x2 := x.ext e2'
  cases hv : valueAt kvs y with
  | some v =>
    simp only [Option.isSome_some, if_true]
    obtain ⟨_, t, hvt⟩ := hp _ (valueAt_mem hv)
    simp only at hvt
    subst hvt
    refine wpAny_execs_cons (wpAny_Return_some (Subscript_ (eval_attr (s := { s with toks := s.toks + 1 + 1 }) (x2.rd.sub (vis_below _ _ _)) x2.en.kind x2.self hng hni look_ignore (a := c) rfl ?_ d1 d2)))
    refine bound_load (s := { s with toks := s.toks + 1 + 1 + 1 }) x.en.kind b0 ?_ d3 d4
    refine tail_any (s := { s with toks := s.toks + 1 + 1 + 1 }) hD.mapOf.typeIs slot_dict_getitem.lookup (wpAny_getItem_of (s := { s with toks := s.toks + 1 + 1 + 1 }) (is_str y ty) hD.mapOf hv ?_) (by with_unfolding_all rfl)
    exact h _ _ (.of (ext_tok _ _))
  | none =>
    simp only [Option.isSome_none, Bool.false_eq_true, if_false]
    refine wpAny_execs_nil ?_
    obtain ⟨v1, b1', r1⟩ := x2.en.vars _ (PySem.mem_of_lookup hxm)
    obtain ⟨ty1, rfl⟩ := r1.str
    -- among the names
    refine wpAny_execs_cons (wpAny_If (wpAny_isTrue_Compare1 (bound_load (s := { s with toks := s.toks + 1 + 1 }) x.en.kind b1' ?_ d3 d4) (by with_unfolding_all rfl)))
    refine eval_attr (s := { s with toks := s.toks + 1 + 1 }) (x2.rd.sub (vis_below _ _ _)) x.en.kind x2.self hng hnm look_mods (a := m) rfl ?_ d1 d2
    obtain ⟨nn, hS⟩ := (x2.rd.sub (vis_below _ _ _)).set.setOf hn
    refine wpAny_inSet_of (s := { s with toks := s.toks + 1 + 1 + 1 }) (is_str y ty1) rfl hS ?_
    refine wpAny_truthy_bool ?_
    have e3' : Ext tb s { s with toks := s.toks + 1 + 1 + 1 + 1 } := ext_tok _ _
    have x3 := x.ext e3'
    have hab := any_above mods y
    cases hm : mods.any (· == y) with
    | true =>
      simp only [if_true]
      have hi : said mods y = 1 := by rw [hsaid, tell, hab, hm]; rfl
      refine store_ret (s := { s with toks := s.toks + 1 + 1 + 1 + 1 }) x3.rd x3.ok x3.en x3.self hng hni hxm hc hi hy (fun t s' e => ?_) d1 d2 d3 d4
      rw [hi] at h
      exact h _ _ (.of (e3'.trans e))
    | false =>
      simp only [Bool.false_eq_true, if_false]
      refine wpAny_execs_nil (wpAny_execs_cons ?_)
      rw [hm, Bool.false_or] at hab
      refine for_set (s := { s with toks := s.toks + 1 + 1 + 1 + 1 }) hR x3 hX hkt hρt hst hmt hxm hng hni hnm hc hy hn hshort (fun q => by rw [hsaid, tell, hab, q]; rfl) (fun t s' y1 q => ?_) (fun s₄ y1 x4 q => ?_) hline hcl d1 d2 d3 d4 d5 d6
      · have hi : said mods y = 1 := by rw [hsaid, tell, hab, q]; rfl
        rw [hi] at h
        exact h _ _ ((ExtO.of e3').trans y1)
      · -- the file is there
        have hi : said mods y = 0 := by rw [hsaid, tell, hab, q]; rfl
        obtain ⟨vf, bf, rf⟩ := x4.en.vars _ (PySem.mem_of_lookup hxf)
        obtain ⟨tf, rfl⟩ := rf.str
        refine wpAny_execs_cons (wpAny_If (wpAny_isTrue_Compare1 (bound_load x.en.kind bf (wpAny_Constant_none (wpAny_is_other rfl (by simp) (wpAny_truthy_bool ?_))) d7 d8) (by with_unfolding_all rfl)))
        simp only [Bool.false_eq_true, if_false]
        refine wpAny_execs_nil ?_
        -- no directories
        refine wpAny_execs_cons (wpAny_For (eval_attr (x4.rd.sub (vis_below _ _ _)) x4.en.kind x4.self hng hnd look_dirs (a := l) rfl ?_ d1 d2))
        have hL := (x4.rd.sub (vis_below _ _ _)).dirs
        refine wpAny_pyIter_list (s := { s₄ with toks := s₄.toks + 1 }) hL ?_
        refine codeAny_forLoop (fun n s' => s' = { s₄ with toks := s₄.toks + 1, heap := s₄.heap.push { cls := .type "list_iterator", data := .fields #[.ref l, .int 0 0] } }) (fun n s' hinv => ?_) 1 rfl
        subst hinv
        refine wpAny_pyNext_list_end (i := 0) (l := l) (items := #[]) hR.handled ⟨_, Heap.get?_push_size _ rfl, rfl, rfl⟩ (hL.push _) rfl fun h5 hx => ?_
        refine wpAny_execs_nil ?_
        have e5 : Ext tb s₄ { s₄ with toks := s₄.toks + 1, heap := h5 } := by
          refine .of_sub (fun b o g => hx b o (fun z => ?_) (Heap.get?_push_of_some _ g)) rfl rfl
          have := Heap.lt_size g
          rw [z] at this
          exact Nat.lt_irrefl _ this
        have x5 := x4.ext e5
        refine store_ret x5.rd x5.ok x5.en x5.self hng hni hxm hc hi hy (fun t s' e => ?_) d1 d2 d3 d4
        rw [hi] at h
        exact h _ _ (((ExtO.of e3').trans y1).trans (.of (e5.trans e)))
end
end Mine
end
section
open PySem PySem.W PySem.Calls PyProof.Rows
set_option maxRecDepth 100000
set_option linter.all false
namespace Mine
section
variable {prog : Program} {w : World} {W : Wd} {off : List Addr} {tb : Tb} {k : Nat}
variable {A : Around} {X : List Addr} {s : Shared} {mods : List Str} {r d m l c : Addr}

set_option maxHeartbeats 2000000 in
theorem call_names {y f : Str} {tf ty : Tok} {dom : List Str} {Q : Value → Shared → Prop} (hR : Room A (k + 1)) (hoff : ∀ a ∈ [91, 92], a ∉ off) (G : Globs (K1 W) off (mg1 W) (mb1 W)) (hO : Ok (K1 W) off tb X s)
    (R : Rd prog w (vis tb X s.heap) mods 95 94 r d m l c (nsOf (K1 W) 94)) (hc : CacheAt prog w tb c dom mods) (hy : y ∈ dom) (hn : mods.length < 4000) (hshort : ∀ z ∈ mods, z.length ≤ 1000) (hys : y ≠ "<string>")
    (h : ∀ t s', Ext tb s s' → Q (.int (said mods y) t) s') :
    wpAny (model prog w) A (call (.ref 92) [.ref r, .str f tf, .str y ty]) Q NoE s := by
  refine wpAny_call ?_
  refine codeAny_call_binds (binds := [("self", .ref r), ("filename", .str f tf), ("modulename", .str y ty)]) hR.lim (hO.get (a := 92) rfl (hoff 92 (by decide))) rfl (hO.globs G).2.2 ?_ rfl ?_ rfl ?_ (fun s₁ I₁ => ?_)
  · exact Heap.CodeRec.keeps (⟨91, _, _, _, rfl, hO.top 91 _ rfl (hoff 91 (by decide)), rfl, rfl⟩ : (vis tb X s.heap).CodeRec _ _) (vis_below _ _ _)
  · intro A' Q E' hq
    exact wpAny_pure hq
  · exact List.forall_mem_cons.mpr ⟨.inl rfl, List.forall_mem_cons.mpr ⟨.inl rfl, List.forall_mem_cons.mpr ⟨.inl rfl, fun _ h => nomatch h⟩⟩⟩
  · have T := entered (ρ := [("filename", .str f), ("modulename", .str y)]) rfl I₁ hO rfl rfl rfl (show (["self", "filename", "modulename"] : List Str).Nodup by decide)
      (List.forall_mem_cons.mpr ⟨.inl rfl, List.forall_mem_cons.mpr ⟨.inl rfl, List.forall_mem_cons.mpr ⟨.inl rfl, fun _ h => nomatch h⟩⟩⟩)
      (List.forall_mem_cons.mpr ⟨⟨.str f tf, by simp, .mkStr⟩, List.forall_mem_cons.mpr ⟨⟨.str y ty, by simp, .mkStr⟩, fun _ h => nomatch h⟩⟩)
    refine wpAny_mono (E := NoE) ?_ (fun _ _ z => z) fun _ _ z => z.elim
    refine names_body (xt := "mod") (xs := "self") (xm := "modulename") (xf := "filename") (y := y) (f := f) hR.deeper ⟨R.sub T.seen, T.ok, T.en, T.bound ("self", .ref r) (by simp), T.loc⟩ (fun z hz => List.mem_append_left _ hz) rfl (nmem rfl) (by decide) (by decide) rfl rfl rfl rfl rfl rfl hc hy hn hshort hys rfl
      fun t s' x => ?_
    refine h t s' ⟨fun b o n e => x.keep b o n (fun z => ?_) (T.ext.keep b o n e), fun q hq z => x.tab q hq (T.ext.tab q hq z), x.gens.trans T.ext.gens, x.os.trans T.ext.os⟩
    rw [T.fresh b z] at e; cases e
end
end Mine
end
section
open PySem PySem.W PySem.Calls PyProof.Rows
set_option maxRecDepth 100000
set_option linter.all false
namespace Mine
theorem lookup_app {a : Addr} : ∀ (K L : Frag), (K ++ L).lookup a = (K.lookup a).or (L.lookup a)
  | [], L => by simp
  | (b, o) :: K, L => by
    rw [List.cons_append]
    by_cases e : a = b
    · subst e; simp
    · have e' : (a == b) = false := by simpa using e
      simp only [List.lookup, e']
      exact lookup_app K L
theorem lookup_mem {a : Addr} {o : Obj} : ∀ {L : Frag}, L.lookup a = some o → (a, o) ∈ L
  | [], h => by cases h
  | (b, ob) :: L, h => by
    by_cases e : a = b
    · subst e; simp at h; subst h; exact List.mem_cons_self
    · have e' : (a == b) = false := by simpa using e
      simp only [List.lookup, e'] at h
      exact List.mem_cons_of_mem _ (lookup_mem h)

section
variable {prog : Program} {w : World} {W : Wd} {K L : Frag} {off : List Addr} {tb : Tb} {k : Nat} {env : Env} {ρ : Rho} {mg mb : Str → Option Value} {X : List Addr} {s s' s₀ : Shared} {c : Addr} {P : Obj → Prop}

theorem TopOk.shrink {g : Heap} (h : TopOk (K ++ L) off g) : TopOk K off g := fun a o e n => h a o (by rw [lookup_app, e]; rfl) n
theorem Ok.shrink (o : Ok (K ++ L) off tb X s) : Ok K off tb X s := ⟨o.priv, o.tabs, o.top.shrink⟩
theorem Ok.grow (o : Ok K off tb X s) (h : ∀ p ∈ L, (vis tb X s.heap).get? p.1 = some p.2) : Ok (K ++ L) off tb X s := by
  refine ⟨o.priv, o.tabs, fun a ob e n => ?_⟩
  rw [lookup_app] at e
  cases hK : K.lookup a with
  | some ob' => rw [hK] at e; cases e; exact o.top a _ hK n
  | none => rw [hK] at e; exact h _ (lookup_mem e)
theorem Ok.also {g : Heap} (h : TopOk (K ++ L) off g) {a : Addr} {o : Obj} (hm : (a, o) ∈ L) (hK : K.lookup a = none) (hu : ∀ o', (a, o') ∈ L → o' = o) (hoff : a ∉ off) : g.get? a = some o := by
  refine h a o ?_ hoff
  rw [lookup_app, hK]
  show L.lookup a = some o
  cases hl : L.lookup a with
  | none => exact absurd hm (fun hm => by
      have := List.lookup_eq_none_iff.mp hl (a, o) hm
      simp at this)
  | some o' => rw [hu o' (lookup_mem hl)]
theorem Globs.grow (G : Globs K off mg mb) : Globs (K ++ L) off mg mb := fun g h => G g h.shrink
theorem PV.grow {e : Expr} {d : PyData} (h : PV prog w K off tb k env ρ e d) : PV prog w (K ++ L) off tb k env ρ e d := fun A X s Q hR hO hE hQ => h A X s Q hR hO.shrink hE hQ
theorem Fn.grow {f : Value} {ds : List PyData} {d : PyData} (h : Fn prog w K off tb k f ds d) : Fn prog w (K ++ L) off tb k f ds d := fun A X s vs Q hR hO r hQ => h A X s vs Q hR hO.shrink r hQ
theorem Fn.less {f : Value} {ds : List PyData} {d : PyData} {k' : Nat} (h : Fn prog w K off tb k f ds d) (hk : k ≤ k') : Fn prog w K off tb k' f ds d := fun A X s vs Q hR hO r hQ => h A X s vs Q (hR.less hk) hO r hQ

/- a cache of one's own, for a while -/
theorem vis_cons {p : Addr × TK} {h : Heap} : Sub (vis (p :: tb) X h) (vis tb X h) := fun b o e => by
  obtain ⟨g, n, m⟩ := vis_get e
  exact vis_mk g (fun z => n (List.mem_cons_of_mem _ z)) m
theorem vis_in (e : Ext tb s₀ s) (hc : s₀.heap.get? c = none) : Sub (vis tb X s₀.heap) (vis ((c, .own P) :: tb) X s.heap) := fun b o g => by
  obtain ⟨g0, n, m⟩ := vis_get g
  refine vis_mk (e.keep b o n g0) (fun z => ?_) m
  rcases List.mem_cons.mp z with z | z
  · have z : b = c := z
    rw [z, hc] at g0; cases g0
  · exact n z
theorem Ok.cacheIn (o : Ok K off tb X s₀) (e : Ext tb s₀ s) (hc : s₀.heap.get? c = none) (t : TabOk s.heap c (.own P)) : Ok K off ((c, .own P) :: tb) X s := by
  refine ⟨fun y hy => ?_, fun q hq => ?_, o.top.sub (vis_in e hc)⟩
  · obtain ⟨n, ob, g⟩ := o.priv y hy
    refine ⟨fun z => ?_, ob, e.keep y ob n g⟩
    rcases List.mem_cons.mp z with z | z
    · have z : y = c := z
      rw [z, hc] at g; cases g
    · exact n z
  · rcases List.mem_cons.mp hq with rfl | hq
    · exact t
    · exact e.tab q hq (o.tabs q hq)
theorem EnvOk.cacheIn (x : EnvOk tb X env ρ s₀) (o : Ok K off tb X s₀) (e : Ext tb s₀ s) (hc : s₀.heap.get? c = none) (hl : env.locals ≠ c) : EnvOk ((c, .own P) :: tb) X env ρ s := by
  refine ⟨x.kind, x.globals, x.builtins, fun z => ?_, fun p hp => ?_⟩
  · rcases List.mem_cons.mp z with z | z
    · exact hl z
    · exact x.nloc z
  · obtain ⟨v, b, r⟩ := x.vars p hp
    exact ⟨v, b.ext o x.nloc e, r.sub (vis_in e hc)⟩
theorem Ext.cacheOut (e : Ext tb s₀ s) (e' : Ext ((c, .own P) :: tb) s s') (hc : s₀.heap.get? c = none) : Ext tb s₀ s' := by
  refine ⟨fun b o n g => e'.keep b o (fun z => ?_) (e.keep b o n g), fun q hq z => e'.tab q (List.mem_cons_of_mem _ hq) (e.tab q hq z), e'.gens.trans e.gens, e'.os.trans e.os⟩
  rcases List.mem_cons.mp z with z | z
  · have z : b = c := z
    rw [z, hc] at g; cases g
  · exact n z
end

section
variable {prog : Program} {w : World} {W : Wd} {off : List Addr} {tb : Tb} {k : Nat} {env : Env} {ρ : Rho} {X : List Addr} {s s' s₀ : Shared}

theorem notTab_new {K : Frag} {y : Addr} (o : Ok K off tb X s₀) (h : s₀.heap.get? y = none) : y ∉ tb.map (·.1) ∧ y ∉ X := by
  refine ⟨fun m => ?_, fun m => ?_⟩
  · obtain ⟨q, hq, e⟩ := List.mem_map.mp m
    obtain ⟨_, g, _⟩ := (o.tabs q hq).get
    rw [e, h] at g; cases g
  · obtain ⟨_, ob, g⟩ := o.priv y m
    rw [h] at g; cases g

/-- a reader that was just made, with its cache marked -/
theorem reader_rd {mods dom : List Str} {r d m l c : Addr} {t : Tok} (o : Ok (K1 W) off tb X s₀) (e : Ext tb s₀ s) (fr : ∀ y ∈ [r, d, m, c], s₀.heap.get? y = none) (hcr : c ≠ r) (hcd : c ≠ d) (R : Reader prog w tb X s.heap mods r d m l c)
    (D : s.heap.DictOf (strKind prog w) c [("<string>", .int 1 t)]) (hoff : ∀ a ∈ [1, 94, 95], a ∉ off) (hdom : dom.length ≤ 900) :
    Ok (K1 W) off ((c, .own (CacheP prog w ("<string>" :: dom) mods)) :: tb) X s ∧ Rd prog w (vis ((c, .own (CacheP prog w ("<string>" :: dom) mods)) :: tb) X s.heap) mods 95 94 r d m l c (nsOf (K1 W) 94) ∧
      CacheAt prog w ((c, .own (CacheP prog w ("<string>" :: dom) mods)) :: tb) c ("<string>" :: dom) mods := by
  have fc := fr c (by simp)
  obtain ⟨oc, gc, hdo⟩ := Heap.dictOf_iff.mp D
  obtain ⟨es, ep, hx, hd, _⟩ := id hdo
  have T : TabOk s.heap c (.own (CacheP prog w ("<string>" :: dom) mods)) := ⟨oc, es, ep, gc, hd, _, hdo, fun p hp => by
    rw [List.mem_singleton] at hp; subst hp
    exact ⟨List.mem_cons_self, t, rfl⟩⟩
  have O := o.cacheIn e fc T
  have nt : ∀ y ∈ [r, d, m], y ≠ c → y ∉ ((c, TK.own (CacheP prog w ("<string>" :: dom) mods)) :: tb).map (·.1) ∧ y ∉ X := fun y hy hne => by
    obtain ⟨n1, n2⟩ := notTab_new o (fr y (by simp at hy; rcases hy with rfl | rfl | rfl <;> simp))
    refine ⟨fun z => ?_, n2⟩
    rcases List.mem_cons.mp z with z | z
    · exact hne z
    · exact n1 z
  have look : ∀ y ∈ [r, d, m], y ≠ c → ∀ ob, s.heap.get? y = some ob → (vis ((c, .own (CacheP prog w ("<string>" :: dom) mods)) :: tb) X s.heap).get? y = some ob := fun y hy hne ob g => vis_mk g (nt y hy hne).1 (nt y hy hne).2
  have hmc : m ≠ c := fun z => by
    obtain ⟨es', ep', t', g', _⟩ := R.set.ex
    rw [z, gc] at g'; cases g'; cases hd
  refine ⟨O, ⟨?_, ?_, ?_, ?_⟩, ⟨List.mem_cons_self, fun q hq hqc => ?_, by simp; omega, ?_⟩⟩
  · exact R.inst.keeps fun b ob hb g => by
      rcases List.mem_cons.mp hb with rfl | hb
      · exact look _ (by simp) (Ne.symm hcr) _ g
      · rw [List.mem_singleton] at hb; subst hb; exact look _ (by simp) (Ne.symm hcd) _ g
  · exact R.set.at fun ob g => look _ (by simp) hmc _ g
  · obtain ⟨ol, gl, rl⟩ := R.dirs
    obtain ⟨g0, n1, n2⟩ := vis_get gl
    refine ⟨ol, vis_mk g0 (fun z => ?_) n2, rl⟩
    rcases List.mem_cons.mp z with z | z
    · have z : l = c := z
      rw [z, gc] at g0; cases g0
      obtain ⟨_, n, q⟩ := rl
      rw [hd] at q; cases q
    · exact n1 z
  · exact cls95 O.top (sub_off hoff (by decide))
  · rcases List.mem_cons.mp hq with rfl | hq
    · rfl
    · exact absurd (hqc ▸ List.mem_map_of_mem hq) (notTab_new o fc).1
  · have h1 := o.get (a := 1) rfl (hoff 1 (by decide))
    have : c ≠ sysModules := fun z => by rw [z] at fc; rw [show sysModules = (1 : Nat) from rfl] at fc; rw [fc] at h1; cases h1
    simpa using this
end
end Mine
end
section
open PySem PySem.W PySem.Calls PyProof.Rows
set_option maxRecDepth 100000
set_option linter.all false
namespace Mine
section
variable {prog : Program} {w : World} {W : Wd} {K L : Frag} {off : List Addr} {tb : Tb} {k : Nat} {env : Env} {ρ : Rho} {mg mb : Str → Option Value} {X : List Addr} {s s' s₀ : Shared} {c : Addr} {P : Obj → Prop}

theorem frozen (o : Ok K off tb X s) (hL : ∀ p ∈ L, (vis tb X s.heap).get? p.1 = some p.2) (hoff : ∀ a ∈ off, a ∈ tb.map (·.1)) (g : Heap) (h : TopOk (K ++ L) off g) : ∀ p ∈ L, g.get? p.1 = some p.2 := by
  intro p hp
  have hv := hL p hp
  have hn : p.1 ∉ off := fun z => (vis_get hv).2.1 (hoff _ z)
  have hg := o.grow hL
  cases hl : (K ++ L).lookup p.1 with
  | none =>
    rw [lookup_app] at hl
    have : L.lookup p.1 = none := by
      cases hk : K.lookup p.1 with
      | none => rw [hk] at hl; exact hl
      | some _ => rw [hk] at hl; cases hl
    have := List.lookup_eq_none_iff.mp this p hp
    simp at this
  | some ob =>
    have h1 := hg.top _ _ hl hn
    rw [hv] at h1; cases h1
    exact h _ _ hl hn
theorem Rd.frag {g : Heap} {mods : List Str} {C N r d m l c : Addr} {mN : Str → Option Value} (x : Rd prog w g mods C N r d m l c mN) :
    ∃ L : Frag, (∀ p ∈ L, g.get? p.1 = some p.2) ∧ ∀ g', (∀ p ∈ L, g'.get? p.1 = some p.2) → PlainCls g' C N mN → Rd prog w g' mods C N r d m l c mN := by
  obtain ⟨o, g1, c1, p1, e1, n1, n2⟩ := x.inst
  obtain ⟨od, esd, epd, gd, hd⟩ := id n2
  obtain ⟨om, gm⟩ : ∃ om, g.get? m = some om := by obtain ⟨es, ep, t, gm, _⟩ := x.set.ex; exact ⟨_, gm⟩
  obtain ⟨ol, gl, hl⟩ := id x.dirs
  refine ⟨[(r, o), (d, od), (m, om), (l, ol)], ?_, fun g' h hc => ⟨?_, ?_, ?_, hc⟩⟩
  · intro p hp
    simp only [List.mem_cons, List.not_mem_nil, or_false] at hp
    rcases hp with rfl | rfl | rfl | rfl
    · exact g1
    · exact gd
    · exact gm
    · exact gl
  · refine ⟨o, h (r, o) (by simp), c1, p1, e1, n1, n2.at fun ob q => ?_⟩
    have : g.get? d = some ob := q
    rw [gd] at this; cases this
    exact h (d, od) (by simp)
  · exact x.set.at fun ob q => by
      rw [gm] at q; cases q
      exact h (m, om) (by simp)
  · exact ⟨ol, h (l, ol) (by simp), hl⟩
end

theorem look_names : typeLookup (.type "object") "names" = pure none := by rw [typeLookup_type, builtinLookup_eq_fast]; kernel_rfl

section
variable {prog : Program} {w : World} {W : Wd} {off : List Addr} {tb : Tb} {k : Nat} {env : Env} {ρ : Rho} {X : List Addr} {s s' s₀ : Shared} {A : Around}

theorem keep95 : keepIn (K95 W) (.ref 95) = true := by rfl
theorem Reader.ext {mods : List Str} {r d m l c : Addr} {K : Frag} (R : Reader prog w tb X s.heap mods r d m l c) (o : Ok K off tb X s₀) (fr : ∀ y ∈ [r, d, m, c], s₀.heap.get? y = none) (e : Ext tb s s') : Reader prog w tb X s'.heap mods r d m l c := by
  have nt : ∀ y ∈ [r, d, m], y ∉ tb.map (·.1) := fun y hy => (notTab_new o (fr y (by simp at hy; rcases hy with rfl | rfl | rfl <;> simp))).1
  refine ⟨R.inst.keeps fun b ob hb g => e.keep b ob (nt b (by simp at hb ⊢; rcases hb with rfl | rfl <;> simp)) g, R.set.at fun ob g => e.keep _ _ (nt _ (by simp)) g, ?_⟩
  obtain ⟨ol, gl, rl⟩ := R.dirs
  exact ⟨ol, e.vis _ _ gl, rl⟩

/-- _Ignore(e) -/
theorem eval_ignore {e : Expr} {p pos : Pos} {mods : List Str} {Q : Value → Shared → Prop} (G : Globs (K1 W) off (mg1 W) (mb1 W)) (hoff : ∀ a ∈ [80, 84, 85, 92, 94, 95], a ∉ off) (he : PV prog w (K1 W) off tb (k + 2) env ρ e (.list (sts mods)))
    (hn : mods.length < 4000) (hR : Room A (k + 2)) (hO : Ok (K1 W) off tb X s) (hE : EnvOk tb X env ρ s)
    (h : ∀ r d m l c t s', Ext tb s s' → (∀ y ∈ [r, d, m, c], s.heap.get? y = none) → c ≠ r → c ≠ d → Reader prog w tb X s'.heap mods r d m l c → s'.heap.DictOf (strKind prog w) c [("<string>", .int 1 t)] → Q (.ref r) s')
    (hx : env.kindOf "_Ignore" = some .globalImplicit := by rfl) (hst : starEach [e] env = [(false, eval e env)] := by rfl) :
    wpAny (model prog w) A (eval (.Call (.Name "_Ignore" p) [e] [] pos) env) Q NoE s := by
  refine wpAny_Call_NameR (load_global G hO hE rfl hx (by decide) ?_)
  have hk : ∀ a ∈ [85, 92, 94, 95], a ∉ off := sub_off hoff (by decide)
  refine callWith_of (P := fun h => (K95 W).In h) (by rw [hst]; rfl) (keeps_K keep95) ?_
  rw [hst]
  refine evalArgs_plain (spliced_cons (he A X s _ hR hO hE fun v s₁ e₁ r₁ => spliced_nil ⟨k95_in ((hO.ext e₁).top.sub (vis_below _ _ _)) hk, ?_⟩))
  refine ign_new hR hoff G (hO.ext e₁) r₁ hn fun r d m l c t s₂ e₂ f q1 q2 R D => ?_
  refine h r d m l c t s₂ (e₁.trans e₂) (fun y hy => ?_) q1 q2 R D
  have hy' := f y hy
  cases hg : s.heap.get? y with
  | none => rfl
  | some ob =>
    by_cases hm : y ∈ tb.map (·.1)
    · obtain ⟨q, hq, z⟩ := List.mem_map.mp hm
      obtain ⟨_, g', _⟩ := ((hO.ext e₁).tabs q hq).get
      rw [z, hy'] at g'; cases g'
    · rw [e₁.keep y ob hm hg] at hy'; cases hy'

theorem callWith_fn {M : Model} {A : Around} {E : Value → Shared → Prop} {f : Addr} {o : Obj} {fd : FuncData} {first : List Value} {pos : Pos} {e : Expr} {rest : List Expr} {Q : Value → Shared → Prop} (hdat : o.data = .func fd)
    (h : wpAny M A (spliced (backTo pos (starEach (e :: rest) env))) (fun vs s₁ => s₁.heap.get? f = some o ∧ wpAny M A (call (.ref f) (first ++ vs)) Q E s₁) E s)
    (he : starEach (e :: rest) env = (false, eval e env) :: starEach rest env) : wpAny M A (callWith pos (.ref f) first (backTo pos (starEach (e :: rest) env)) []) Q E s := by
  rw [he] at h ⊢
  exact callWith_function (o := o) (fd := fd) (evalArgs_plain (wpAny_mono h (fun vs s₁ h₁ => ⟨⟨h₁.1, hdat⟩, h₁.2⟩) fun _ _ x => x))

theorem method_names {r d : Addr} {mA : Str → Option Value} {pl : Sem Bool} {E : Value → Shared → Prop} {Q : Value × List Value → Shared → Prop} (hO : Ok (K1 W) off tb X s) (hoff : ∀ a ∈ [80, 84, 85, 92, 94, 95], a ∉ off) (I : InstD 95 s.heap r d mA) (hsh : mA "names" = none)
    (h : Q (.ref 92, [.ref r]) s) : wpAny (model prog w) A (getMethod (.ref r) "names" pl) Q E s := by
  obtain ⟨⟨nm, q, bs, sn, sub, ab, col, dd, k0, k1, k2, k3, k5, hC⟩, hns⟩ := cls95 (hO.top.sub (vis_below _ _ _)) (sub_off hoff (by decide))
  have h92 := hO.get (a := 92) rfl (hoff 92 (by decide))
  obtain ⟨hh, g, dr, t, os⟩ := s
  exact method_of hC hns rfl rfl rfl h92 rfl look_names I.inst hsh h

/-- _Ignore(e₁).names(f, e₂) -/
theorem pv_tmp {e₁ e₂ : Expr} {f y : Str} {nf : Nat} {p1 p2 pa pf pos : Pos} {mods : List Str} (G : Globs (K1 W) off (mg1 W) (mb1 W)) (hoff : ∀ a ∈ [1, 80, 84, 85, 91, 92, 94, 95], a ∉ off) (h1 : PV prog w (K1 W) off tb (k + 2) env ρ e₁ (.list (sts mods)))
    (h2 : PV prog w (K1 W) off tb (k + 2) env ρ e₂ (.str y)) (hn : mods.length < 4000) (hshort : ∀ z ∈ mods, z.length ≤ 1000) (hys : y ≠ "<string>")
    (hx : env.kindOf "_Ignore" = some .globalImplicit := by rfl) (hst : starEach [e₁] env = [(false, eval e₁ env)] := by rfl)
    (hs2 : starEach [.Constant (.str f) nf pf, e₂] env = (false, eval (.Constant (.str f) nf pf) env) :: starEach [e₂] env := by rfl) (hs3 : starEach [e₂] env = [(false, eval e₂ env)] := by rfl) (pl : Sem Bool)
    (he : eval (.Call (.Attribute (.Call (.Name "_Ignore" p1) [e₁] [] p2) "names" pa) [.Constant (.str f) nf pf, e₂] [] pos) env = (do
      let ov ← eval (.Call (.Name "_Ignore" p1) [e₁] [] p2) env
      standAt pa.atName
      let (f', first) ← holding [ov] (getMethod ov "names" pl)
      callWith pos f' first (backTo pos (starEach [.Constant (.str f) nf pf, e₂] env)) []) := by rfl) :
    PV prog w (K1 W) off tb (k + 2) env ρ (.Call (.Attribute (.Call (.Name "_Ignore" p1) [e₁] [] p2) "names" pa) [.Constant (.str f) nf pf, e₂] [] pos) (.int (said mods y)) := by
  intro A X s Q hR hO hE h
  have ho6 : ∀ a ∈ [80, 84, 85, 92, 94, 95], a ∉ off := sub_off hoff (by decide)
  refine MethodCall_ (pl := pl) (eval_ignore G ho6 h1 hn hR hO hE (fun r d m l c t s₁ e₁' fr q1 q2 R D => ?_) hx hst) he
  have O1 := hO.ext e₁'
  refine method_names O1 ho6 R.inst rfl ?_
  obtain ⟨o92, fd92, l92, d92⟩ : ∃ o fd, (K1 W).lookup 92 = some o ∧ o.data = .func fd := ⟨_, _, rfl, rfl⟩
  refine callWith_fn d92 ?_ hs2
  rw [hs2, hs3]
  refine spliced_cons (wpAny_Constant_str (k := nf) (pos := pf) (spliced_cons ?_))
  have e2' : Ext tb s { s₁ with toks := s₁.toks + 1 } := e₁'.trans (ext_tok _ _)
  refine h2 A X _ _ hR (hO.ext e2') (hE.ext hO e2') fun v s₂ e₂' r₂ => spliced_nil ?_
  have e3 : Ext tb s s₂ := e2'.trans e₂'
  have O3 := hO.ext e3
  refine ⟨O3.get l92 (hoff 92 (by decide)), ?_⟩
  obtain ⟨ty, rfl⟩ := r₂.str
  have fc := fr c (by simp)
  have D3 : s₂.heap.DictOf (strKind prog w) c [("<string>", .int 1 t)] := by
    obtain ⟨oc, gc, hdo⟩ := Heap.dictOf_iff.mp D
    exact Heap.dictOf_iff.mpr ⟨oc, ((ext_tok (tb := tb) s₁ (s₁.toks + 1)).trans e₂').keep c oc (notTab_new hO fc).1 gc, hdo⟩
  obtain ⟨O4, R4, C4⟩ := reader_rd (dom := [y]) hO e3 fr q1 q2 (R.ext hO fr ((ext_tok (tb := tb) s₁ (s₁.toks + 1)).trans e₂')) D3 (sub_off hoff (by decide)) (by simp)
  refine call_names (k := k + 1) hR (sub_off hoff (by decide)) G O4 R4 C4 (by simp) hn hshort hys fun t' s₃ e4 => ?_
  exact h _ s₃ (e3.cacheOut e4 fc) .mkInt
end
end Mine
end
section
open PySem PySem.W PySem.Calls PyProof.Rows
set_option maxRecDepth 100000
set_option linter.all false
namespace Mine
mutual
theorem reads_seqs {h h' : Heap} (hk : ∀ b o, ((∃ a n, o.data = .seq a n) ∨ (∃ a n, o.data = .dict a n)) → h.get? b = some o → h'.get? b = some o) : ∀ {v : Value} {d : PyData} {as : List Addr}, Reads h v d as → Reads h' v d as
  | _, _, _, .none => .none
  | _, _, _, .bool _ => .bool _
  | _, _, _, .int _ _ => .int _ _
  | _, _, _, .str _ _ => .str _ _
  | _, _, _, .list e c d r => .list (hk _ _ (.inl ⟨_, _, d⟩) e) c d (readsAll_seqs hk r)
  | _, _, _, .tuple e c d r => .tuple (hk _ _ (.inl ⟨_, _, d⟩) e) c d (readsAll_seqs hk r)
  | _, _, _, .dict e c d r q => .dict (hk _ _ (.inr ⟨_, _, d⟩) e) c d (readsAll_seqs hk r) (readsAll_seqs hk q)
theorem readsAll_seqs {h h' : Heap} (hk : ∀ b o, ((∃ a n, o.data = .seq a n) ∨ (∃ a n, o.data = .dict a n)) → h.get? b = some o → h'.get? b = some o) : ∀ {vs : List Value} {ds : List PyData} {as : List Addr}, ReadsAll h vs ds as → ReadsAll h' vs ds as
  | _, _, _, .nil => .nil
  | _, _, _, .cons r q => .cons (reads_seqs hk r) (readsAll_seqs hk q)
end
theorem Rp.seqs {h h' : Heap} {v : Value} {d : PyData} (x : Rp h v d) (hk : ∀ b o, ((∃ a n, o.data = .seq a n) ∨ (∃ a n, o.data = .dict a n)) → h.get? b = some o → h'.get? b = some o) : Rp h' v d := let ⟨as, r⟩ := x; ⟨as, reads_seqs hk r⟩

section
variable {prog : Program} {w : World} {W : Wd} {K L : Frag} {off : List Addr} {tb : Tb} {k : Nat} {env : Env} {ρ : Rho} {mg mb : Str → Option Value} {X : List Addr} {s s' s₀ s₁ : Shared}

theorem storedC {x : Str} {c : Addr} {v : Value} {v0 : Option Value} {h' : Heap} (O1 : Ok K off tb X s₁) (E1 : EnvOk tb X env ρ s₁) (cx : c ∈ X) (hc : env.cells.lookup x = some c) (hv0 : s₁.heap.IsCell c v0) (n' : h'.IsCell c (some v)) (sb : Heap.SameBut c s₁.heap h')
    (hn : ∀ p ∈ ρ, p.1 ≠ x) (hU : ∀ x y c, env.cells.lookup x = some c → env.cells.lookup y = some c → x = y) :
    ExtO tb [c] s₁ { s₁ with heap := h' } ∧ Ok K off tb X { s₁ with heap := h' } ∧ EnvOk tb X env ρ { s₁ with heap := h' } := by
  obtain ⟨oc, c1, c2⟩ := id hv0
  obtain ⟨oc', g', d'⟩ := id n'
  have inX : ∀ y ∈ [c], y ∈ X := fun y hy => by rw [List.mem_singleton] at hy; exact hy ▸ cx
  have x1 : ExtO tb [c] s₁ { s₁ with heap := h' } :=
    ⟨fun b o _ m e => sb.extBut b o (fun z => m (by simp [z])) e, fun q hq z => z.but sb.extBut c1 (noCode_cell c2) (ne_of_tab (O1.cellTab hv0) hq), rfl, rfl⟩
  refine ⟨x1, O1.extO x1 inX (fun y hy => by rw [List.mem_singleton] at hy; exact hy ▸ ⟨_, g'⟩), ⟨E1.kind, E1.globals, E1.builtins, E1.nloc, fun q hq => ?_⟩⟩
  obtain ⟨u, b, ru⟩ := E1.vars q hq
  refine ⟨u, ?_, ru.sub (x1.vis inX)⟩
  rcases b with ⟨kl, m', ⟨o1, es1, ep1, a1, a2, a3⟩, hm⟩ | ⟨kc, c', hc', hv⟩
  · exact .inl ⟨kl, m', ⟨o1, es1, ep1, sb.extBut _ _ (fun z => by rw [z, c1] at a1; cases a1; rw [c2] at a2; cases a2) a1, a2, a3⟩, hm⟩
  · obtain ⟨o', b1, b2⟩ := hv
    exact .inr ⟨kc, c', hc', o', sb.extBut c' o' (fun z => hn q hq (hU _ _ c (z ▸ hc') hc)) b1, b2⟩
end

section
variable {prog : Program} {w : World} {W : Wd} {L : Frag} {off : List Addr} {tb : Tb} {k : Nat} {env : Env} {ρ : Rho} {mg mb : Str → Option Value} {X : List Addr} {s s' s₀ s₁ : Shared}

/-- x.names(f, e₂), x a reader in a cell that is known -/
theorem pv_names {x f y : Str} {e₂ : Expr} {nf : Nat} {p1 pa pf pos : Pos} {mods dom : List Str} {cc r d m l c : Addr} (G : Globs (K1 W) off (mg1 W) (mb1 W)) (hoff : ∀ a ∈ [1, 80, 84, 85, 91, 92, 94, 95], a ∉ off)
    (hF : ∀ g, TopOk (K1 W ++ L) off g → Rd prog w g mods 95 94 r d m l c (nsOf (K1 W) 94) ∧ g.IsCell cc (some (.ref r))) (hx : CellKind env x) (hcc : env.cells.lookup x = some cc) (hC : CacheAt prog w tb c dom mods) (hy : y ∈ dom)
    (h2 : PV prog w (K1 W ++ L) off tb (k + 2) env ρ e₂ (.str y)) (hn : mods.length < 4000) (hshort : ∀ z ∈ mods, z.length ≤ 1000) (hys : y ≠ "<string>") (pl : Sem Bool)
    (hs2 : starEach [.Constant (.str f) nf pf, e₂] env = (false, eval (.Constant (.str f) nf pf) env) :: starEach [e₂] env := by rfl) (hs3 : starEach [e₂] env = [(false, eval e₂ env)] := by rfl)
    (he : eval (.Call (.Attribute (.Name x p1) "names" pa) [.Constant (.str f) nf pf, e₂] [] pos) env = (do
      let ov ← eval (.Name x p1) env
      standAt pa.atName
      let (f', first) ← holding [ov] (getMethod ov "names" pl)
      callWith pos f' first (backTo pos (starEach [.Constant (.str f) nf pf, e₂] env)) []) := by rfl)
    (hd : (x == ("__debug__" : Str)) = false := by decide) (hcd : (x == ("__classdict__" : Str)) = false := by decide) :
    PV prog w (K1 W ++ L) off tb (k + 2) env ρ (.Call (.Attribute (.Name x p1) "names" pa) [.Constant (.str f) nf pf, e₂] [] pos) (.int (said mods y)) := by
  intro A X s Q hR hO hE h
  have ho6 : ∀ a ∈ [80, 84, 85, 92, 94, 95], a ∉ off := sub_off hoff (by decide)
  obtain ⟨R, oc, gc, dc⟩ := hF _ hO.top
  refine MethodCall_ (pl := pl) (bound_load (v := .ref r) hE.kind (.inr ⟨hx, cc, hcc, oc, (vis_get gc).1, dc⟩) ?_ hd hcd) he
  refine method_names hO.shrink ho6 (R.sub (vis_below _ _ _)).inst rfl ?_
  obtain ⟨o92, fd92, l92, d92⟩ : ∃ o fd, (K1 W).lookup 92 = some o ∧ o.data = .func fd := ⟨_, _, rfl, rfl⟩
  refine callWith_fn d92 ?_ hs2
  rw [hs2, hs3]
  refine spliced_cons (wpAny_Constant_str (k := nf) (pos := pf) (spliced_cons ?_))
  have e2' : Ext tb s { s with toks := s.toks + 1 } := ext_tok _ _
  refine h2 A X _ _ hR (hO.ext e2') (hE.ext hO e2') fun v s₂ e₂' r₂ => spliced_nil ?_
  have e3 : Ext tb s s₂ := e2'.trans e₂'
  have O3 := hO.ext e3
  refine ⟨O3.shrink.get l92 (hoff 92 (by decide)), ?_⟩
  obtain ⟨ty, rfl⟩ := r₂.str
  refine call_names (k := k + 1) hR (sub_off hoff (by decide)) G O3.shrink (hF _ O3.top).1 hC hy hn hshort hys fun t' s₃ e4 => ?_
  exact h _ s₃ (e3.trans e4) .mkInt

/-- x = _Ignore(e); return e₂, x a cell -/
theorem pb_reader {x : Str} {e e₂ : Expr} {p1 p2 p3 p pos : Pos} {rest : List Stmt} {cc : Addr} {mods dom : List Str} {d₀ : PyData} (G : Globs (K1 W) off (mg1 W) (mb1 W)) (hoff : ∀ a ∈ [1, 80, 84, 85, 91, 92, 94, 95], a ∉ off) (hoffT : ∀ a ∈ off, a ∈ tb.map (·.1))
    (hk : env.kindOf x = some .cell) (hcc : env.cells.lookup x = some cc) (he : PV prog w (K1 W) off tb (k + 2) env ρ e (.list (sts mods))) (hn : mods.length < 4000) (hdom : dom.length ≤ 900) (hρ : ∀ p ∈ ρ, p.1 ≠ x)
    (h2 : ∀ (L : Frag) r d m l c tb', (∀ g, TopOk (K1 W ++ L) off g → Rd prog w g mods 95 94 r d m l c (nsOf (K1 W) 94) ∧ g.IsCell cc (some (.ref r))) → CacheAt prog w tb' c ("<string>" :: dom) mods → (∀ a ∈ off, a ∈ tb'.map (·.1)) →
      PV prog w (K1 W ++ L) off tb' (k + 2) env ρ e₂ d₀)
    (hs : swapsWith (.Call (.Name "_Ignore" p) [e] [] pos) (some (.Name x p1)) p2.line env = pure false := by rfl)
    (hx : env.kindOf "_Ignore" = some .globalImplicit := by rfl) (hst : starEach [e] env = [(false, eval e env)] := by rfl) :
    PB prog w (K1 W) off tb (k + 2) env ρ (.Assign [.Name x p1] (.Call (.Name "_Ignore" p) [e] [] pos) p2 :: .Return (some e₂) p3 :: rest) d₀ := by
  intro A X s Q hR hO hE hX hL hC hU hQ
  have ho6 : ∀ a ∈ [80, 84, 85, 92, 94, 95], a ∉ off := sub_off hoff (by decide)
  have ho3 : ∀ a ∈ [1, 94, 95], a ∉ off := sub_off hoff (by decide)
  refine wpAny_execs_cons (wpAny_Assign_Name (eval_ignore G ho6 he hn hR hO hE (fun r d m l c t s₁ e₁ fr q1 q2 R D => ?_) hx hst) hs)
  have fc := fr c (by simp)
  obtain ⟨O1, R1, C1⟩ := reader_rd (dom := dom) hO e₁ fr q1 q2 R D ho3 hdom
  generalize htb : ((c, TK.own (CacheP prog w ("<string>" :: dom) mods)) :: tb) = tb' at O1 R1 C1
  have hl : env.locals ≠ c := fun z => by obtain ⟨m, o, es, ep, g, _⟩ := hL; rw [z, fc] at g; cases g
  have E1 : EnvOk tb' X env ρ s₁ := htb ▸ hE.cacheIn hO e₁ fc hl
  obtain ⟨v0, oc, c1, c2⟩ := hC x cc hk hcc
  have c1' := e₁.keep _ _ (hO.cellTab ⟨oc, c1, c2⟩) c1
  have hkd : env.scope.kind = .function := hE.kind
  have cx : cc ∈ X := hX _ (own_cell hk hcc)
  refine wpAny_storeName_cell hkd hk hcc ⟨oc, c1', c2⟩ fun h' n' sb => ?_
  obtain ⟨x2, O2, E2⟩ := storedC O1 E1 cx hcc ⟨oc, c1', c2⟩ n' sb hρ hU
  obtain ⟨ob, gb, db⟩ := id n'
  have hf : ∀ y ∈ X.filter (fun z => z != cc), y ∈ X := fun y hy => (List.mem_filter.mp hy).1
  have hnf : cc ∉ X.filter (fun z => z != cc) := fun hy => by have := (List.mem_filter.mp hy).2; simp at this
  have O3 := O2.less hf
  have E3 := E2.less hf
  have inX : ∀ y ∈ [cc], y ∈ X := fun y hy => by rw [List.mem_singleton] at hy; exact hy ▸ cx
  have R3 : Rd prog w (vis tb' (X.filter fun z => z != cc) h') mods 95 94 r d m l c (nsOf (K1 W) 94) := (R1.sub (x2.vis inX)).sub (vis_more hf)
  obtain ⟨L₀, hL1, hL2⟩ := R3.frag
  have ct : cc ∉ tb'.map (·.1) := O2.cellTab (s := { s₁ with heap := h' }) n'
  have hLall : ∀ p ∈ (cc, ob) :: L₀, (vis tb' (X.filter fun z => z != cc) h').get? p.1 = some p.2 := fun p hp => by
    rcases List.mem_cons.mp hp with rfl | hp
    · exact vis_mk gb ct hnf
    · exact hL1 p hp
  have hT : ∀ a ∈ off, a ∈ tb'.map (·.1) := fun a ha => by rw [← htb]; exact List.mem_cons_of_mem _ (hoffT a ha)
  have O4 := O3.grow (L := (cc, ob) :: L₀) hLall
  have fz := frozen O3 hLall hT
  refine wpAny_execs_cons (wpAny_Return_some (h2 ((cc, ob) :: L₀) r d m l c tb' (fun g tg => ⟨?_, ?_⟩) C1 hT A _ _ _ hR O4 E3 fun v s₃ e₃ r₃ => ?_))
  · exact hL2 g (fun p hp => fz g tg p (List.mem_cons_of_mem _ hp)) (cls95 tg.shrink (sub_off hoff (by decide)))
  · exact ⟨ob, fz g tg (cc, ob) List.mem_cons_self, db⟩
  · refine hQ v s₃ ⟨fun b o n1 n2 g => ?_, fun q hq z => ?_, ?_, ?_⟩ ?_
    · have ne : b ≠ c := fun z => by rw [z, fc] at g; cases g
      have n1' : b ∉ tb'.map (·.1) := fun z => by
        rw [← htb] at z
        rcases List.mem_cons.mp z with z | z
        · exact ne z
        · exact n1 z
      refine e₃.keep b o n1' (x2.keep b o n1' (fun z => n2 ?_) (e₁.keep b o n1 g))
      rw [List.mem_singleton] at z; rw [z]; exact own_cell hk hcc
    · have hq' : q ∈ tb' := by rw [← htb]; exact List.mem_cons_of_mem _ hq
      exact e₃.tab q hq' (x2.tab q hq' (e₁.tab q hq z))
    · exact e₃.gens.trans (x2.gens.trans e₁.gens)
    · exact e₃.os.trans (x2.os.trans e₁.os)
    · refine r₃.seqs fun b o hd g => ?_
      obtain ⟨g0, n1, n2⟩ := vis_get g
      refine vis_mk g0 (fun z => n1 (by rw [← htb]; exact List.mem_cons_of_mem _ z)) fun z => ?_
      refine n2 (List.mem_filter.mpr ⟨z, ?_⟩)
      have : b ≠ cc := fun q => by
        have := e₃.keep cc ob ct gb
        rw [← q, g0] at this; cases this
        rcases hd with ⟨_, _, hd⟩ | ⟨_, _, hd⟩ <;> (rw [db] at hd; cases hd)
      simpa using this
end
end Mine
end
section
open PySem PySem.W PySem.Calls PyProof.Rows
set_option maxRecDepth 100000
namespace Mine

def fig (x : Int) (k : Nat) : Int := ((x.fdiv 3).fdiv (4 ^ k)).fmod 4
def figure (i : Int) : Str := if i = 0 then "a" else if i = 1 then "b" else if i = 2 then "ab" else ""
def lawParts (x : Int) : List Str := (List.range (1 + x.fmod 3).toNat).map fun k => figure (fig x k)
def lawName (x : Int) : Str := Txt.join dot (lawParts x)

theorem fmod_lt (x : Int) {n : Int} (h : 0 < n) : 0 ≤ x.fmod n ∧ x.fmod n < n := ⟨Int.fmod_nonneg_of_pos _ h, Int.fmod_lt_of_pos _ h⟩
theorem lawParts_len (x : Int) : (lawParts x).length ≤ 3 := by
  have := fmod_lt x (n := 3) (by decide)
  simp [lawParts]; omega
theorem figure_len (i : Int) : (figure i).length ≤ 2 := by
  unfold figure; split
  · decide
  · split
    · decide
    · split <;> decide
theorem lawParts_short {x : Int} : ∀ p ∈ lawParts x, p.length ≤ 2 := by
  intro p hp
  obtain ⟨k, _, rfl⟩ := List.mem_map.mp hp
  exact figure_len _
theorem lawParts_fit (x : Int) : JoinOk dot (lawParts x) = true := by
  have h := StrLaws.joinFits (sep := dot) (texts := lawParts x) (B := 2) lawParts_short (by
    have := lawParts_len x
    have e : dot.length = 1 := by decide
    rw [e]; omega)
  unfold JoinOk
  simpa using h

theorem filter_all (l : List PyData) : l.filter (fun _ => true) = l := List.filter_eq_self.mpr (by simp)
section
variable {prog : Program} {w : World} {W : Wd} {off : List Addr} {tb : Tb} {k : Nat}
theorem fn_name {x : Int} (h1 : (104 : Nat) ∉ off) (h2 : (103 : Nat) ∉ off) (G : Globs (K1 W) off (mg1 W) (mb1 W)) :
    Fn prog w (K1 W) off tb (k + 1) (.ref 104) [.int x] (.str (lawName x)) := by
  have hm := fmod_lt x (n := 3) (by decide)
  refine fn_enter (xs := ["x"]) G (ho := by exact rfl) h1 (hdat := by exact rfl) (hbody := by exact rfl) rfl rfl rfl (fun g t => ⟨103, _, _, _, rfl, t 103 _ rfl h2, rfl, rfl⟩) rfl ?_ (by decide) ?_ ?_ rfl rfl rfl fun L => ?_
  · intro vs hv
    match vs, hv with
    | [a], _ => rfl
  · exact List.forall_mem_cons.mpr ⟨.inr ⟨rfl, fun _ => rfl⟩, fun _ h => nomatch h⟩
  · intro L x y c h1 h2
    have hx := mem_of_lookup h1
    have hy := mem_of_lookup h2
    replace hx : (x, c) ∈ [((Str.ofString "x"), L)] := hx
    replace hy : (y, c) ∈ [((Str.ofString "x"), L)] := hy
    simp at hx hy
    rw [hx.1, hy.1]
  · refine pb_return (pv_join pv_str ?_ (lawParts_fit x))
    refine pv_comp_range (n := (1 + x.fmod 3).toNat) (ρ' := [("x", .int x)]) (fun _ => true) (fun d => match d with | .int i => .str (figure (fig x i.toNat)) | _ => .none) G rfl W.bRange rfl rfl (by decide) (by decide) rfl
      (fun C => List.forall_mem_cons.mpr ⟨⟨.inl rfl, .inl rfl, rfl⟩, fun _ h => nomatch h⟩) (fun q hq => by simpa using hq) (by omega) ?_ (fun j hj C => .inl ⟨rfl, rfl⟩) (fun j hj _ C => ?_) ?_
    · have e : (((1 + x.fmod 3).toNat : Nat) : Int) = 1 + x.fmod 3 := by omega
      rw [e]
      exact pv_binop pv_int (pv_binop (pv_var rfl) pv_int (op_mod_int (by decide))) op_add_int
    · have hj' : (j : Int) < 3 := by omega
      have hf := fmod_lt ((x.fdiv 3).fdiv (4 ^ j)) (n := 4) (by decide)
      have h4 : ((4 : Int) ^ j) ≠ 0 := by
        have : (4 : Int) ^ j > 0 := Int.pow_pos (by decide)
        omega
      have hs4 : ((4 : Int) ^ j).natAbs < 1073741824 := by
        have : j = 0 ∨ j = 1 ∨ j = 2 := by omega
        rcases this with rfl | rfl | rfl <;> decide
      refine pv_item (j := fig x j) (ds := [.str "a", .str "b", .str "ab", .str ""]) (pv_list (pvs_cons pv_str (pvs_cons pv_str (pvs_cons pv_str (pvs_cons pv_str pvs_nil))))) ?_ hf.1 (by unfold fig; omega) ?_
      · exact pv_binop (pv_binop (pv_binop (pv_var rfl) pv_int (op_floordiv_int (by decide) (by decide))) (pv_binop pv_int (pv_var rfl) (op_pow_int (by omega) (by omega) (by decide))) (op_floordiv_int (by simpa using h4) (by simpa using hs4))) pv_int (op_mod_int (by decide))
      · have : fig x j = 0 ∨ fig x j = 1 ∨ fig x j = 2 ∨ fig x j = 3 := by unfold fig; omega
        simp only [Int.toNat_natCast]
        rcases this with e | e | e | e <;> rw [e] <;> rfl
    · rw [filter_all]; simp [nts, sts, lawParts, Function.comp_def]
end
end Mine
end
section
open PySem PySem.W PySem.Calls PyProof.Rows
set_option maxRecDepth 100000
set_option linter.all false
namespace Mine
/-- names in use: not many, short, none of them the reader's own -/
structure Nms (xs : List Str) : Prop where
  few : xs.length ≤ 100
  nm : ∀ x ∈ xs, Nm x ∧ x ≠ "<string>"
theorem said_eq {mods : List Str} {y : Str} (h : y ≠ "<string>") : said mods y = tell mods y := if_neg h
section
variable {prog : Program} {w : World} {W : Wd} {off : List Addr} {tb : Tb} {k : Nat}

set_option maxHeartbeats 1000000 in
theorem fn_answers {mods asked : List Str} (hm : Nms mods) (ha : Nms asked) (G : Globs (K1 W) off (mg1 W) (mb1 W)) (hoff : ∀ a ∈ [1, 80, 84, 85, 91, 92, 94, 95, 120, 121], a ∉ off) (hoffT : ∀ a ∈ off, a ∈ tb.map (·.1)) :
    Fn prog w (K1 W) off tb (k + 3) (.ref 121) [.list (sts mods), .list (sts asked)] (.list (asked.map fun y => .int (tell mods y))) := by
  have ho8 : ∀ a ∈ [1, 80, 84, 85, 91, 92, 94, 95], a ∉ off := sub_off hoff (by decide)
  have hf1 := hm.few
  have hf2 := ha.few
  have hz : sizeLine = 2 ^ 24 := rfl
  refine fn_enter (xs := ["names", "asked"]) G (ho := by exact rfl) (hoff 121 (by decide)) (hdat := by exact rfl) (hbody := by exact rfl) rfl rfl rfl (fun g t => ⟨120, _, _, _, rfl, t 120 _ rfl (hoff 120 (by decide)), rfl, rfl⟩) rfl ?_ (by decide) ?_ ?_ rfl rfl rfl fun L => ?_
  · intro vs hv
    match vs, hv with
    | [a, b], _ => rfl
  · exact List.forall_mem_cons.mpr ⟨.inl rfl, List.forall_mem_cons.mpr ⟨.inl rfl, fun _ h => nomatch h⟩⟩
  · intro L x y c h1 h2
    have hx := PySem.mem_of_lookup h1
    have hy := PySem.mem_of_lookup h2
    replace hx : (x, c) ∈ [((Str.ofString "reader"), L)] := hx
    replace hy : (y, c) ∈ [((Str.ofString "reader"), L)] := hy
    simp at hx hy
    rw [hx.1, hy.1]
  · refine pb_reader (x := "reader") (mods := mods) (dom := asked) G ho8 hoffT rfl rfl (pv_var rfl) (by omega) (by omega) (nmem rfl) fun L' r d m l c tb' hF hC hT => ?_
    refine pv_comp (ds := sts asked) (ρ' := []) (fun _ => true) (fun d => match d with | .str y => .int (said mods y) | _ => .none) rfl rfl (by decide) (by decide) rfl (fun C => fun _ h => nomatch h) (fun _ h => nomatch h) (by simp [sts]; omega)
      (pv_var rfl) (fun d hd C => .inl ⟨rfl, rfl⟩) (fun d hd _ C => ?_) ?_
    · obtain ⟨y, hy, rfl⟩ := List.mem_map.mp hd
      exact pv_names G ho8 hF (.inl rfl) rfl hC (List.mem_cons_of_mem _ hy) (pv_var rfl) (by omega) (fun z hz => (hm.nm z hz).1.short) (ha.nm y hy).2 _
    · rw [filter_all, List.map_map]
      exact List.map_congr_left fun y hy => by show PyData.int (tell mods y) = PyData.int (said mods y); rw [said_eq (ha.nm y hy).2]

theorem eqv_int (a b : Int) : PyData.eqv (.int a) (.int b) = decide (a = b) := by
  show (a == b) = decide (a = b)
  rw [Bool.eq_iff_iff]; simp

set_option maxHeartbeats 1000000 in
theorem fn_keep {kept : List Str} {name : Str} (hk : Nms kept) (hn : Nm name ∧ name ≠ "<string>") (G : Globs (K1 W) off (mg1 W) (mb1 W)) (hoff : ∀ a ∈ [1, 80, 84, 85, 91, 92, 94, 95, 108, 109], a ∉ off) (hoffT : ∀ a ∈ off, a ∈ tb.map (·.1)) :
    Fn prog w (K1 W) off tb (k + 3) (.ref 109) [.list (sts kept), .str name] (.list (sts (if tell kept name = 1 then kept else (kept.filter fun one => tell [name] one == 0) ++ [name]))) := by
  have ho8 : ∀ a ∈ [1, 80, 84, 85, 91, 92, 94, 95], a ∉ off := sub_off hoff (by decide)
  have hf1 := hk.few
  have hz : sizeLine = 2 ^ 24 := rfl
  refine fn_enter (xs := ["kept", "name"]) G (ho := by exact rfl) (hoff 109 (by decide)) (hdat := by exact rfl) (hbody := by exact rfl) rfl rfl rfl (fun g t => ⟨108, _, _, _, rfl, t 108 _ rfl (hoff 108 (by decide)), rfl, rfl⟩) rfl ?_ (by decide) ?_ ?_ rfl rfl rfl fun L => ?_
  · intro vs hv
    match vs, hv with
    | [a, b], _ => rfl
  · exact List.forall_mem_cons.mpr ⟨.inl rfl, List.forall_mem_cons.mpr ⟨.inl rfl, fun _ h => nomatch h⟩⟩
  · intro L x y c h1 h2
    have hx := PySem.mem_of_lookup h1
    have hy := PySem.mem_of_lookup h2
    replace hx : (x, c) ∈ [((Str.ofString "reader"), L)] := hx
    replace hy : (y, c) ∈ [((Str.ofString "reader"), L)] := hy
    simp at hx hy
    rw [hx.1, hy.1]
  · have et : said kept name = tell kept name := said_eq hn.2
    refine pb_ifret (c := decide (tell kept name = 1)) ?_ (fun q => ?_) (fun q => ?_)
    · rw [← et, ← eqv_int]
      exact pt_cmp (pv_tmp G ho8 (pv_var rfl) (pv_var rfl) (by omega) (fun z hz => (hk.nm z hz).1.short) hn.2 (pl := _)) pv_int (op_eq rfl rfl (by simp [PyData.depth]))
    · rw [if_pos (by simpa using q)]; exact pv_var rfl
    · rw [if_neg (by simpa using q)]
      refine pb_reader (x := "reader") (mods := [name]) (dom := kept) G ho8 hoffT rfl rfl (pv_list (pvs_cons (pv_var rfl) pvs_nil)) (by simp) (by omega) (nmem rfl) fun L' r d m l c tb' hF hC hT => ?_
      have e1 : sts ((kept.filter fun one => tell [name] one == 0) ++ [name]) = sts (kept.filter fun one => tell [name] one == 0) ++ [.str name] := by simp [sts]
      rw [e1]
      refine pv_binop (b := .list [.str name]) ?_ (pv_list (pvs_cons (pv_var rfl) pvs_nil)) (op_add_list ?_)
      · refine pv_comp (ds := sts kept) (ρ' := []) (fun d => match d with | .str y => tell [name] y == 0 | _ => false) id rfl rfl (by decide) (by decide) rfl (fun C => fun _ h => nomatch h) (fun _ h => nomatch h) (by simp [sts]; omega)
          (pv_var rfl) (fun d hd C => .inr ⟨_, rfl, ?_⟩) (fun d hd _ C => ?_) ?_
        · obtain ⟨y, hy, rfl⟩ := List.mem_map.mp hd
          have e2 : (tell [name] y == 0) = PyData.eqv (.int (said [name] y)) (.int 0) := by
            rw [said_eq (hk.nm y hy).2, eqv_int]; rw [Bool.eq_iff_iff]; simp
          show PT _ _ _ _ _ _ _ _ _ (tell [name] y == 0)
          rw [e2]
          exact pt_cmp (pv_names G ho8 hF (.inl rfl) rfl hC (List.mem_cons_of_mem _ hy) (pv_var rfl) (by simp) (fun z hz => by rw [List.mem_singleton] at hz; subst hz; exact hn.1.short) (hk.nm y hy).2 _) pv_int (op_eq rfl rfl (by simp [PyData.depth]))
        · obtain ⟨y, hy, rfl⟩ := List.mem_map.mp hd
          exact pv_var rfl
        · simp [sts, List.filter_map, Function.comp_def]
      · have : (kept.filter fun one => tell [name] one == 0).length ≤ kept.length := List.length_filter_le _ _
        simp only [sts, List.length_map, List.length_singleton]
        omega
end
end Mine
end
section
open PySem PySem.W PySem.Calls PyProof.Rows
set_option maxRecDepth 100000
set_option linter.all false
namespace Mine
abbrev Raw := List (Str × Value)
section
variable {prog : Program} {w : World} {W : Wd} {K L : Frag} {off : List Addr} {tb : Tb} {k : Nat} {env : Env} {ρ ρ' : Rho} {β β' : Raw} {mg mb : Str → Option Value} {X : List Addr} {s s' s₀ s₁ : Shared} {A : Around}

/-- a state within a call: names with data, names with values -/
structure St (K : Frag) (off : List Addr) (tb : Tb) (X : List Addr) (env : Env) (ρ : Rho) (β : Raw) (s : Shared) : Prop where
  ok : Ok K off tb X s
  en : EnvOk tb X env ρ s
  raw : ∀ p ∈ β, Bound env s.heap p.1 p.2
  loc : ∃ m, s.heap.Ns env.locals m
theorem St.ext (x : St K off tb X env ρ β s) (e : Ext tb s s') : St K off tb X env ρ β s' :=
  ⟨x.ok.ext e, x.en.ext x.ok e, fun p hp => (x.raw p hp).ext x.ok x.en.nloc e, let ⟨mL, o, es, ep, g, q⟩ := x.loc; ⟨mL, o, es, ep, e.keep _ _ x.en.nloc g, q⟩⟩
theorem St.part (x : St K off tb X env ρ β s) (h : ∀ p ∈ ρ', p ∈ ρ) (h2 : ∀ p ∈ β', p ∈ β) : St K off tb X env ρ' β' s := ⟨x.ok, x.en.some h, fun p hp => x.raw p (h2 p hp), x.loc⟩
theorem St.less {Y : List Addr} (x : St K off tb Y env ρ β s) (h : ∀ z ∈ X, z ∈ Y) : St K off tb X env ρ β s := ⟨x.ok.less h, x.en.less h, x.raw, x.loc⟩
theorem St.hide {I : Addr} (x : St K off tb X env ρ β s) (e : Ext tb s s') (hI : s.heap.get? I = none) (hI' : ∃ ob, s'.heap.get? I = some ob) (nt : I ∉ tb.map (·.1)) : St K off tb (I :: X) env ρ β s' := by
  obtain ⟨o, sb⟩ := x.ok.hide e hI hI' nt
  have y := x.ext e
  exact ⟨o, ⟨y.en.kind, y.en.globals, y.en.builtins, y.en.nloc, fun p hp => let ⟨v, b, rv⟩ := x.en.vars p hp; ⟨v, b.ext x.ok x.en.nloc e, rv.sub sb⟩⟩, y.raw, y.loc⟩
theorem St.turn {Y : List Addr} (x : St K off tb X env ρ β s) (y : ExtO tb Y s s') (hY : ∀ z ∈ Y, z ∈ X) (hI : ∀ z ∈ Y, ∃ o, s'.heap.get? z = some o) (hl : env.locals ∉ Y) (hc : ∀ x c, env.cells.lookup x = some c → c ∉ Y) :
    St K off tb X env ρ β s' := by
  refine ⟨x.ok.extO y hY hI, x.en.extO x.ok y hY hl hc, fun p hp => (x.raw p hp).extO x.ok x.en.nloc y hl hc, ?_⟩
  obtain ⟨mL, o, es, ep, g, q⟩ := x.loc
  exact ⟨mL, o, es, ep, y.keep _ _ x.en.nloc hl g, q⟩
/-- a private object goes its way: the rest stands -/
theorem St.leave {I : Addr} (x : St K off tb (I :: X) env ρ β s) (y : ExtO tb [I] s s') (hI : I ∉ X) (hl : env.locals ≠ I) (hc : ∀ x c, env.cells.lookup x = some c → c ≠ I) : St K off tb X env ρ β s' := by
  have hl' : env.locals ∉ [I] := fun z => hl (List.mem_singleton.mp z)
  have hc' : ∀ x c, env.cells.lookup x = some c → c ∉ [I] := fun x c z q => hc x c z (List.mem_singleton.mp q)
  have sb : Sub (vis tb (I :: X) s.heap) (vis tb X s'.heap) := fun b o g => by
    obtain ⟨g0, n, m⟩ := vis_get g
    exact vis_mk (y.keep b o n (fun z => m (List.mem_singleton.mp z ▸ List.mem_cons_self)) g0) n fun z => m (List.mem_cons_of_mem _ z)
  refine ⟨⟨fun z hz => ?_, fun q hq => y.tab q hq (x.ok.tabs q hq), x.ok.top.sub sb⟩, ⟨x.en.kind, x.en.globals, x.en.builtins, x.en.nloc, fun p hp => ?_⟩, fun p hp => (x.raw p hp).extO x.ok x.en.nloc y hl' hc', ?_⟩
  · obtain ⟨n, o, g⟩ := x.ok.priv z (List.mem_cons_of_mem _ hz)
    exact ⟨n, o, y.keep z o n (fun q => hI (List.mem_singleton.mp q ▸ hz)) g⟩
  · obtain ⟨v, b, rv⟩ := x.en.vars p hp
    exact ⟨v, b.extO x.ok x.en.nloc y hl' hc', rv.sub sb⟩
  · obtain ⟨mL, o, es, ep, g, q⟩ := x.loc
    exact ⟨mL, o, es, ep, y.keep _ _ x.en.nloc hl' g, q⟩

/-- x := v for a local name -/
theorem St.store {x : Str} {v : Value} {Q : Unit → Shared → Prop} {E : Value → Shared → Prop} (S : St K off tb X env ρ β s) (hX : ∀ y ∈ own env, y ∈ X) (hk : env.kindOf x = some .local)
    (h : ∀ s', ExtO tb (own env) s s' → Ext tb { s with heap := s'.heap } s' → (∀ ρ' β', (∀ p ∈ ρ', (p.1 = x ∧ Rp (vis tb X s.heap) v p.2) ∨ (p ∈ ρ ∧ p.1 ≠ x)) → (∀ p ∈ β', p = (x, v) ∨ (p ∈ β ∧ p.1 ≠ x)) → St K off tb X env ρ' β' s') →
      (∀ b o, b ≠ env.locals → s.heap.get? b = some o → s'.heap.get? b = some o) → Q () s') :
    wpAny (model prog w) A (storeName env x v) Q E s := by
  obtain ⟨m, hLn⟩ := S.loc
  have hkd : env.scope.kind = .function := S.en.kind
  refine wpAny_storeName_local hk hLn (fun h' n' sb => ?_) (by rw [hkd]; rfl)
  obtain ⟨oL, esL, epL, gL, dL, _⟩ := id hLn
  obtain ⟨oL', esL', epL', gL', dL', _⟩ := id n'
  have lx : env.locals ∈ X := hX _ List.mem_cons_self
  have x1 : ExtO tb (own env) s { s with heap := h', toks := s.toks + 1 } :=
    ⟨fun b o _ m e => sb.extBut b o (fun z => m (z ▸ List.mem_cons_self)) e, fun q hq z => z.but sb.extBut gL (noCode_dict dL) (ne_of_tab S.en.nloc hq), rfl, rfl⟩
  refine h _ x1 (ext_tok _ _) (fun ρ' β' h1 h2 => ⟨?_, ⟨S.en.kind, S.en.globals, S.en.builtins, S.en.nloc, fun q hq => ?_⟩, fun q hq => ?_, ⟨_, n'⟩⟩) (fun b o ne g => sb.extBut b o ne g)
  · refine ⟨fun y hy => ⟨(S.ok.priv y hy).1, ?_⟩, fun q hq => x1.tab q hq (S.ok.tabs q hq), S.ok.top.sub (x1.vis hX)⟩
    by_cases z : y = env.locals
    · subst z; exact ⟨_, gL'⟩
    · obtain ⟨o, e⟩ := (S.ok.priv y hy).2; exact ⟨o, sb.extBut y o z e⟩
  · rcases h1 q hq with ⟨e, r⟩ | ⟨hq, ne⟩
    · exact ⟨v, by rw [e]; exact .inl ⟨hk, _, n', by simp⟩, r.sub (x1.vis hX)⟩
    · obtain ⟨u, b, ru⟩ := S.en.vars q hq
      exact ⟨u, stored_bound b hLn n' sb ne, ru.sub (x1.vis hX)⟩
  · rcases h2 q hq with rfl | ⟨hq, ne⟩
    · exact .inl ⟨hk, _, n', by simp⟩
    · exact stored_bound (S.raw q hq) hLn n' sb ne

theorem call_iter {v : Value} {Q : Value → Shared → Prop} {E : Value → Shared → Prop} (h : wpAny (model prog w) A.in1 (pyIter v) Q E s) : wpAny (model prog w) A (call (.builtin "iter") [v]) Q E s := by
  refine call_function_entry (by decide +kernel) (by decide +kernel) kdk_entry_iter (kdk_args_iter _) ?_
  unfold Builtin.«iter»
  refine wpAny_bind (m := someArgs "iter" 1 2 _) (wpAny_of_eq (a := [v]) (by first | rfl | kernel_rfl!) ?_)
  show wpAny _ _ (pyIter v >>= _) _ _ _
  refine wpAny_bind (wpAny_mono h (fun x s₁ q => ?_) fun _ _ q => q)
  exact wpAny_pure ⟨_, rfl, q⟩
end
end Mine
end
section
open PySem PySem.W PySem.Calls PyProof.Rows
set_option maxRecDepth 100000
set_option linter.all false
namespace Mine
/-- what reduce may begin with -/
def Begin : PyData → Prop
  | .int _ => True
  | .list _ => True
  | _ => False
section
variable {prog : Program} {w : World} {W : Wd} {K L : Frag} {off : List Addr} {tb : Tb} {k : Nat} {env : Env} {ρ ρ' : Rho} {β β' : Raw} {mg mb : Str → Option Value} {X : List Addr} {s s' s₀ s₁ : Shared} {A : Around}

theorem not_missing {v : Value} {d : PyData} {a : Addr} {oa : Obj} {Q : Value → Shared → Prop} {E : Value → Shared → Prop} (r : Rp s.heap v d) (hb : Begin d) (ha : s.heap.get? a = some oa) (hc : oa.cls ≠ .type "list") (h : Q (.bool false) s) : wpAny (model prog w) A (compareOp .Is v (.ref a)) Q E s := by
  cases d with
  | int i => obtain ⟨t, rfl⟩ := r.int; exact wpAny_is_other rfl (by first | exact .head _ | exact .tail _ (.head _) | exact .tail _ (.tail _ (.head _)) | exact .tail _ (.tail _ (.tail _ (.head _))) | exact .tail _ (.tail _ (.tail _ (.tail _ (.head _)))) | simp) h
  | list ds =>
    obtain ⟨l, vs, rfl, ⟨ol, gl, cl, _⟩, _⟩ := r.isList
    refine wpAny_is_ref_other (fun z => ?_) gl ha (by rw [cl]; simp) h
    rw [z, ha] at gl; cases gl; exact hc cl
  | _ => exact hb.elim

set_option maxHeartbeats 2000000 in
theorem reduce_body {f fm : Addr} {of om : Obj} {fd : FuncData} {seq : Value} {ds : List PyData} (acc : Nat → PyData) {p1 p2 p3 p4 p5 p6 p7 p8 p9 p10 p11 p12 p13 p14 p15 p16 p17 p18 p19 p20 p21 p22 p23 : Pos} {tr : List Stmt} {Q : Flow → Shared → Prop}
    (G : Globs K off mg mb) (hiter : mg "iter" = none) (hiterb : mb "iter" = some (.builtin "iter")) (hmiss : mg "_initial_missing" = some (.ref fm)) (hm : K.lookup fm = some om) (hmo : fm ∉ off) (hmc : om.cls ≠ .type "list")
    (hR : Room A (k + 1)) (S : St K off tb X env [("initial", acc 0)] [("function", .ref f), ("sequence", seq)] s) (hX : ∀ z ∈ own env, z ∈ X) (hcl : env.cells = [])
    (hf : K.lookup f = some of) (hfo : f ∉ off) (hfd : of.data = .func fd) (hb : Begin (acc 0))
    (hsrc : ∃ SO, Src prog w tb k X s seq ds SO) (hstep : ∀ i d, ds[i]? = some d → Fn prog w K off tb (k + 1) (.ref f) [acc i, d] (acc (i + 1)))
    (hQ : ∀ v s', ExtO tb (own env) s s' → Rp (vis tb X s'.heap) v (acc ds.length) → Q (.ret v) s')
    (k1 : env.kindOf "iter" = some .globalImplicit := by rfl) (k2 : env.kindOf "_initial_missing" = some .globalImplicit := by rfl) (k3 : env.kindOf "it" = some .local := by rfl) (k4 : env.kindOf "value" = some .local := by rfl) (k5 : env.kindOf "element" = some .local := by rfl)
    (sw1 : swapsWith (.Call (.Name "iter" p2) [.Name "sequence" p3] [] p4) (some (.Name "it" p1)) p5.line env = pure false := by rfl) (sw2 : swapsWith (.Name "initial" p10) (some (.Name "value" p9)) p11.line env = pure false := by rfl)
    (sw3 : swapsWith (.Call (.Name "function" p16) [.Name "value" p17, .Name "element" p18] [] p19) (some (.Name "value" p15)) p20.line env = pure false := by rfl) :
    wpAny (model prog w) A (execs [
      .Assign [.Name "it" p1] (.Call (.Name "iter" p2) [.Name "sequence" p3] [] p4) p5,
      .If (.Compare (.Name "initial" p6) [.Is] [.Name "_initial_missing" p7] p8) tr [.Assign [.Name "value" p9] (.Name "initial" p10) p11] p12,
      .For (.Name "element" p13) (.Name "it" p14) [.Assign [.Name "value" p15] (.Call (.Name "function" p16) [.Name "value" p17, .Name "element" p18] [] p19) p20] [] p21,
      .Return (some (.Name "value" p22)) p23] env) Q NoE s := by
  obtain ⟨SO, src⟩ := hsrc
  -- it
  refine wpAny_execs_cons (wpAny_Assign_Name (wpAny_Call_NameR (load_builtin G S.ok S.en hiter hiterb k1 (by decide) ?_)) sw1)
  refine callWith_builtin (args := backTo p4 (starEach [.Name "sequence" p3] env)) rfl (evalArgs_plain (spliced_cons (bound_load S.en.kind (S.raw ("sequence", seq) (by first | exact .head _ | exact .tail _ (.head _) | exact .tail _ (.tail _ (.head _)) | exact .tail _ (.tail _ (.tail _ (.head _))) | exact .tail _ (.tail _ (.tail _ (.tail _ (.head _)))) | simp)) (spliced_nil (call_iter ?_)) (by decide) (by decide))))
  refine src.lay _ _ hR.in1 fun oI hSO hIf => ?_
  generalize hI : s.heap.objs.size = I
  have gI0 : s.heap.get? I = none := at_none (Nat.le_of_eq hI)
  have gI : (s.heap.push oI).get? I = some oI := by rw [← hI]; exact Heap.get?_push_size _ hIf
  have nI := notTab_new S.ok gI0
  have e1 : Ext tb s { s with heap := s.heap.push oI } := ext_push _ _
  have S1 := S.hide e1 gI0 ⟨_, gI⟩ nI.1
  have seen : Sub (vis tb X s.heap) (vis tb (I :: X) (s.heap.push oI)) := (S.ok.hide e1 gI0 ⟨_, gI⟩ nI.1).2
  have hX1 : ∀ z ∈ own env, z ∈ I :: X := fun z hz => List.mem_cons_of_mem _ (hX z hz)
  have lI : env.locals ≠ I := fun z => by obtain ⟨m, o, es, ep, g, _⟩ := S.loc; rw [z, gI0] at g; cases g
  have old : ∀ b o, s.heap.get? b = some o → b ≠ I := fun b o g z => by rw [z, gI0] at g; cases g
  refine S1.store hX1 k3 fun s₂ y2 _ mk2 kp2 => ?_
  have S2 := mk2 [("initial", acc 0)] [("function", .ref f), ("it", .ref I)] (fun p hp => .inr ⟨hp, by rw [List.mem_singleton] at hp; subst hp; dsimp only; decide⟩) (all2 (.inr ⟨by first | exact .head _ | exact .tail _ (.head _) | exact .tail _ (.tail _ (.head _)) | exact .tail _ (.tail _ (.tail _ (.head _))), by dsimp only; decide⟩) (.inl rfl))
  have gI2 : s₂.heap.get? I = some oI := kp2 I oI (Ne.symm lI) gI
  have x2 : ExtO tb (own env) s s₂ := (ExtO.of e1).trans y2
  -- the beginning
  obtain ⟨v0, b0, r0⟩ := S2.en.vars ("initial", acc 0) (by first | exact .head _ | exact .tail _ (.head _) | exact .tail _ (.tail _ (.head _)) | exact .tail _ (.tail _ (.tail _ (.head _))) | exact .tail _ (.tail _ (.tail _ (.tail _ (.head _)))) | simp)
  refine wpAny_execs_cons (wpAny_If (wpAny_isTrue_Compare1 (bound_load S2.en.kind b0 (load_global G S2.ok S2.en hmiss k2 (by decide) (not_missing (r0.sub (vis_below _ _ _)) hb (S2.ok.get hm hmo) hmc (wpAny_truthy_bool ?_))) (by decide) (by decide)) (by with_unfolding_all rfl)))
  simp only [Bool.false_eq_true, if_false]
  refine wpAny_execs_cons (wpAny_Assign_Name (bound_load S2.en.kind b0 ?_ (by decide) (by decide)) sw2)
  refine S2.store hX1 k4 fun s₃ y3 _ mk3 kp3 => ?_
  have S3 := mk3 [("value", acc 0)] [("function", .ref f), ("it", .ref I)] (fun p hp => by rw [List.mem_singleton] at hp; subst hp; exact .inl ⟨rfl, r0⟩) (all2 (.inr ⟨by first | exact .head _ | exact .tail _ (.head _) | exact .tail _ (.tail _ (.head _)) | exact .tail _ (.tail _ (.tail _ (.head _))), by dsimp only; decide⟩) (.inr ⟨by first | exact .head _ | exact .tail _ (.head _) | exact .tail _ (.tail _ (.head _)) | exact .tail _ (.tail _ (.tail _ (.head _))), by dsimp only; decide⟩))
  have gI3 : s₃.heap.get? I = some oI := kp3 I oI (Ne.symm lI) gI2
  have x3 : ExtO tb (own env) s s₃ := x2.trans y3
  refine wpAny_execs_nil (wpAny_execs_cons ?_)
  -- the loop
  have visI : ∀ s', ExtO tb (own env) s s' → Sub (vis tb X s.heap) (vis tb (I :: X) s'.heap) := fun s' y b o g => by
    obtain ⟨g0, n, m⟩ := vis_get g
    refine vis_mk (y.keep b o n (fun z => m (hX b z)) g0) n fun z => ?_
    rcases List.mem_cons.mp z with z | z
    · exact old b o g0 z
    · exact m z
  refine wpAny_For (bound_load S3.en.kind (S3.raw ("it", .ref I) (by first | exact .head _ | exact .tail _ (.head _) | exact .tail _ (.tail _ (.head _)) | exact .tail _ (.tail _ (.tail _ (.head _))) | exact .tail _ (.tail _ (.tail _ (.tail _ (.head _)))) | simp)) (src.self _ _ 0 oI I _ _ gI3 hSO ?_) (by decide) (by decide)) (by intro _; rfl)
  refine codeAny_forLoop (fun n s' => ∃ i o, n + i = ds.length + 1 ∧ i ≤ ds.length ∧ ExtO tb (own env) s s' ∧ St K off tb (I :: X) env [("value", acc i)] [("function", .ref f), ("it", .ref I)] s' ∧ s'.heap.get? I = some o ∧ SO i o) (fun n s' hinv => ?_)
    (ds.length + 1) ⟨0, oI, rfl, Nat.zero_le _, x3, S3, gI3, hSO⟩
  obtain ⟨i, o, hnn, hil, y4, S4, gI4, so4⟩ := hinv
  have inX : ∀ z ∈ [I], z ∈ I :: X := fun z hz => by rw [List.mem_singleton] at hz; exact hz ▸ List.mem_cons_self
  have lI' : env.locals ∉ [I] := fun z => lI (List.mem_singleton.mp z)
  have noc : ∀ x c, env.cells.lookup x = some c → c ∉ [I] := fun x c z => by rw [hcl] at z; cases z
  have nte : ∀ h' : Heap, Heap.ExtBut I s'.heap h' → ∀ tt, ExtO tb [I] s' { s' with heap := h', toks := tt } := fun h' hx tt =>
    ⟨fun b o _ mm g => hx b o (fun z => mm (by simp [z])) g, fun q hq z => z.but hx gI4 (src.noCode _ _ so4) (ne_of_tab nI.1 hq), rfl, rfl⟩
  have nte2 : ∀ s'' : Shared, ExtO tb [I] s' s'' → ExtO tb (own env) s s'' := fun s'' y => ⟨fun b o n1 n2 g => y.keep b o n1 (fun z => old b o g (List.mem_singleton.mp z)) (y4.keep b o n1 n2 g), fun q hq z => y.tab q hq (y4.tab q hq z), y.gens.trans y4.gens, y.os.trans y4.os⟩
  refine src.next _ s' i o I _ _ (hR.less (Nat.le_succ _)) ((visI s' y4).trans (vis_below _ _ _)) gI4 so4 (fun d v h' tk o' hd hx1 gI5 so5 rv => ?_) fun h' hd hx1 => ?_
  · have y5 := nte h' hx1 tk
    have S5 := S4.turn (s' := { s' with heap := h', toks := tk }) y5 inX (fun z hz => by rw [List.mem_singleton] at hz; exact hz ▸ ⟨_, gI5⟩) lI' noc
    have z5 := nte2 _ y5
    refine wpAny_assign_Name (S5.store hX1 k5 fun s₆ y6 _ mk6 kp6 => ?_)
    have S6 := mk6 [("value", acc i), ("element", d)] [("function", .ref f), ("it", .ref I)] (all2 (.inr ⟨by first | exact .head _ | exact .tail _ (.head _) | exact .tail _ (.tail _ (.head _)) | exact .tail _ (.tail _ (.tail _ (.head _))), by dsimp only; decide⟩) (.inl ⟨rfl, rv.sub (visI _ z5)⟩)) (all2 (.inr ⟨by first | exact .head _ | exact .tail _ (.head _) | exact .tail _ (.tail _ (.head _)) | exact .tail _ (.tail _ (.tail _ (.head _))), by dsimp only; decide⟩) (.inr ⟨by first | exact .head _ | exact .tail _ (.head _) | exact .tail _ (.tail _ (.head _)) | exact .tail _ (.tail _ (.tail _ (.head _))), by dsimp only; decide⟩))
    have gI6 : s₆.heap.get? I = some o' := kp6 I o' (Ne.symm lI) gI5
    have z6 : ExtO tb (own env) s s₆ := z5.trans y6
    refine wpAny_mono (E := NoE) ?_ (fun _ _ q => q) fun _ _ q => q.elim
    refine wpAny_execs_cons (wpAny_Assign_Name (wpAny_Call_NameR (bound_load S6.en.kind (S6.raw ("function", .ref f) (by first | exact .head _ | exact .tail _ (.head _) | exact .tail _ (.tail _ (.head _)) | exact .tail _ (.tail _ (.tail _ (.head _))) | exact .tail _ (.tail _ (.tail _ (.tail _ (.head _)))) | simp)) (callWith_fn (s := s₆) hfd ?_ rfl) (by decide) (by decide))) sw3)
    obtain ⟨va, ba, ra⟩ := S6.en.vars ("value", acc i) (by first | exact .head _ | exact .tail _ (.head _) | exact .tail _ (.tail _ (.head _)) | exact .tail _ (.tail _ (.tail _ (.head _))) | exact .tail _ (.tail _ (.tail _ (.tail _ (.head _)))) | simp)
    obtain ⟨ve, be, re⟩ := S6.en.vars ("element", d) (by first | exact .head _ | exact .tail _ (.head _) | exact .tail _ (.tail _ (.head _)) | exact .tail _ (.tail _ (.tail _ (.head _))) | exact .tail _ (.tail _ (.tail _ (.tail _ (.head _)))) | simp)
    refine spliced_cons (bound_load S6.en.kind ba (spliced_cons (bound_load S6.en.kind be (spliced_nil ⟨S6.ok.get hf hfo, ?_⟩) (by decide) (by decide))) (by decide) (by decide))
    refine hstep i d hd A (I :: X) s₆ [va, ve] _ hR S6.ok (.cons ra (.cons re .nil)) fun v7 s₇ e7 r7 => ?_
    have S7 := S6.ext e7
    refine S7.store hX1 k4 fun s₈ y8 _ mk8 kp8 => ?_
    have S8 := mk8 [("value", acc (i + 1))] [("function", .ref f), ("it", .ref I)] (fun p hp => by rw [List.mem_singleton] at hp; subst hp; exact .inl ⟨rfl, r7⟩) (all2 (.inr ⟨by first | exact .head _ | exact .tail _ (.head _) | exact .tail _ (.tail _ (.head _)) | exact .tail _ (.tail _ (.tail _ (.head _))), by dsimp only; decide⟩) (.inr ⟨by first | exact .head _ | exact .tail _ (.head _) | exact .tail _ (.tail _ (.head _)) | exact .tail _ (.tail _ (.tail _ (.head _))), by dsimp only; decide⟩))
    exact wpAny_execs_nil ⟨n - 1, by omega, i + 1, o', by omega, (List.getElem?_eq_some_iff.mp hd).1, (z6.trans (.of e7)).trans y8, S8, kp8 I o' (Ne.symm lI) (e7.keep I o' nI.1 gI6), so5⟩
  · have y5 := nte h' hx1 s'.toks
    have S5 := S4.leave (s' := { s' with heap := h' }) y5 nI.2 lI (fun x c z => by rw [hcl] at z; cases z)
    have hi : i = ds.length := by have := List.getElem?_eq_none_iff.mp hd; omega
    subst hi
    obtain ⟨va, ba, ra⟩ := S5.en.vars ("value", acc ds.length) (by first | exact .head _ | exact .tail _ (.head _) | exact .tail _ (.tail _ (.head _)) | exact .tail _ (.tail _ (.tail _ (.head _))) | exact .tail _ (.tail _ (.tail _ (.tail _ (.head _)))) | simp)
    refine wpAny_execs_nil (wpAny_execs_cons (wpAny_Return_some (bound_load S5.en.kind ba (hQ va _ (nte2 _ y5) ra) (by decide) (by decide))))
end
end Mine
end
section
open PySem PySem.W PySem.Calls PyProof.Rows
set_option maxRecDepth 100000
set_option linter.all false
namespace Mine
section
variable {prog : Program} {w : World} {W : Wd} {L : Frag} {off : List Addr} {tb : Tb} {k : Nat} {X : List Addr} {s : Shared} {A : Around}
set_option maxHeartbeats 2000000 in
theorem call_reduce {f : Addr} {of : Obj} {fd : FuncData} {seq v0 : Value} {ds : List PyData} (acc : Nat → PyData) {Q : Value → Shared → Prop} (G : Globs (K1 W) off (mg1 W) (mb1 W)) (hoff : ∀ a ∈ [29, 30, 36, 37], a ∉ off)
    (hR : Room A (k + 2)) (hO : Ok (K1 W ++ L) off tb X s) (hf : (K1 W ++ L).lookup f = some of) (hfo : f ∉ off) (hfd : of.data = .func fd) (hb : Begin (acc 0)) (h0 : Rp (vis tb X s.heap) v0 (acc 0))
    (hsrc : ∀ X' s', Sub (vis tb X s.heap) (vis tb X' s'.heap) → ∃ SO, Src prog w tb k X' s' seq ds SO) (hstep : ∀ i d, ds[i]? = some d → Fn prog w (K1 W ++ L) off tb (k + 1) (.ref f) [acc i, d] (acc (i + 1)))
    (hQ : ∀ v s', Ext tb s s' → Rp (vis tb X s'.heap) v (acc ds.length) → Q v s') :
    wpAny (model prog w) A (call (.ref 37) [.ref f, seq, v0]) Q NoE s := by
  refine wpAny_call ?_
  refine codeAny_call_binds (binds := [("function", .ref f), ("sequence", seq), ("initial", v0)]) hR.lim (hO.shrink.get (a := 37) rfl (hoff 37 (by decide))) rfl (hO.shrink.globs G).2.2 ?_ rfl ?_ rfl ?_ (fun s₁ I₁ => ?_)
  · exact Heap.CodeRec.keeps (⟨36, _, _, _, rfl, hO.shrink.top 36 _ rfl (hoff 36 (by decide)), rfl, rfl⟩ : (vis tb X s.heap).CodeRec _ _) (vis_below _ _ _)
  · intro A' Q E' hq
    first
      | exact wpAny_pure hq
      | exact nd_load (a := 30) (hO.shrink.get (a := 30) rfl (hoff 30 (by decide))) (wpAny_pure hq)
  · exact List.forall_mem_cons.mpr ⟨.inl rfl, List.forall_mem_cons.mpr ⟨.inl rfl, List.forall_mem_cons.mpr ⟨.inl rfl, fun _ h => nomatch h⟩⟩⟩
  · have T := entered (ρ := [("initial", acc 0)]) rfl I₁ hO rfl rfl rfl (show (["function", "sequence", "initial"] : List Str).Nodup by decide)
      (List.forall_mem_cons.mpr ⟨.inl rfl, List.forall_mem_cons.mpr ⟨.inl rfl, List.forall_mem_cons.mpr ⟨.inl rfl, fun _ h => nomatch h⟩⟩⟩)
      (List.forall_mem_cons.mpr ⟨⟨v0, by simp, h0⟩, fun _ h => nomatch h⟩)
    refine wpAny_mono (E := NoE) ?_ (fun _ _ z => z) fun _ _ z => z.elim
    refine reduce_body acc (fm := 29) (mg := mg1 W) (mb := mb1 W) (k := k) G.grow rfl W.bIter rfl (by rw [lookup_app]; rfl) (hoff 29 (by decide)) (by simp) hR.deeper ⟨T.ok, T.en, fun p hp => T.bound p ?_, T.loc⟩ (fun z hz => List.mem_append_left _ hz) rfl hf hfo hfd hb (hsrc _ _ T.seen) hstep fun v s' x r => ?_
    · simp only [List.mem_cons, List.not_mem_nil, or_false] at hp ⊢
      rcases hp with rfl | rfl <;> simp
    · refine hQ v s' ⟨fun b o n e => x.keep b o n (fun z => ?_) (T.ext.keep b o n e), fun q hq z => x.tab q hq (T.ext.tab q hq z), x.gens.trans T.ext.gens, x.os.trans T.ext.os⟩ (r.sub (vis_more fun y hy => List.mem_append_right _ hy))
      rw [T.fresh b z] at e; cases e
end
end Mine
end
section
open PySem PySem.W PySem.Calls PyProof.Rows
set_option maxRecDepth 100000
set_option maxHeartbeats 2000000
set_option linter.all false
namespace Mine
theorem ns_get {M : Model} {A : Around} {E : Value → Shared → Prop} {s : Shared} {a : Addr} {x : Str} {m : Str → Option Value} {v : Option Value} {Q : Option Value → Shared → Prop} (hn : s.heap.Ns a m) (hv : m x = v) (h : Q v s) : wpAny M A (nsGet a x) Q E s :=
  wpAny_nsGet hn (by rw [hv]; exact h)
section
variable {α β : Type} {M : Model} {A : Around} {E : Value → Shared → Prop} {s : Shared} {Q : β → Shared → Prop}
theorem wp_for_nil {b : β} {f : α → β → Sem (ForInStep β)} (h : Q b s) : wpAny M A (forIn ([] : List α) b f) Q E s := by rw [List.forIn_nil]; exact wpAny_pure h
theorem wp_for_cons {b : β} {x : α} {xs : List α} {f : α → β → Sem (ForInStep β)} (h : wpAny M A (f x b) (fun r s₁ => match r with | .done b' => Q b' s₁ | .yield b' => wpAny M A (forIn xs b' f) Q E s₁) E s) : wpAny M A (forIn (x :: xs) b f) Q E s := by
  rw [List.forIn_cons]
  refine wpAny_bind (wpAny_mono h (fun r s₁ h₁ => ?_) fun _ _ e => e)
  cases r with
  | done b' => exact wpAny_pure h₁
  | yield b' => exact h₁
theorem be {m : Sem α} {f : α → Sem β} {a : α} (e : m = pure a) (h : wpAny M A (f a) Q E s) : wpAny M A (m >>= f) Q E s := wpAny_bind (wpAny_of_eq e h)
end
theorem forIn_arr1 {α β : Type} {x : α} {b : β} {f : α → β → Sem (ForInStep β)} : forIn (#[x] : Array α) b f = (do let r ← f x b; match r with | .done b => pure b | .yield b => pure b) := by
  simp; rfl
theorem nsFind_some {es : Array DictEntry} {x : Str} {v : Value} (h : nsFind es x = some v) : ∃ e, es.find? (fun e => e.key.isStr x) = some e ∧ e.val = v := by
  unfold nsFind findBy at h
  obtain ⟨e, h1, h2⟩ := Option.map_eq_some_iff.mp h
  exact ⟨e, h1, h2⟩
theorem nsFind_none {es : Array DictEntry} {x : Str} (h : nsFind es x = none) : es.any (fun e => e.key.isStr x) = false := by
  unfold nsFind findBy at h
  rw [Option.map_eq_none_iff, Array.find?_eq_none] at h
  rw [Array.any_eq_false']
  intro e he
  simpa using h e he
theorem slots_read {prog : Program} {w : World} {A : Around} {E : Value → Shared → Prop} {Q : Builtin.Slots.Plan → Shared → Prop} {s : Shared} {sl : Addr} {tk : Tok} {n : Nat} {o : Obj} {es : Array DictEntry}
   (hsl : s.heap.get? sl = some o) (hc : o.cls = .type "list") (hd : o.data = .seq #[.str "obj" tk] n) (h1 : nsFind es "__slots__" = some (.ref sl)) (h2 : nsFind es "obj" = none)
   (h : ∀ h', (∀ b o', s.heap.get? b = some o' → h'.get? b = some o') → Q { names := ["obj"], dict := false, weak := false, inherited := [] } { s with heap := h' }) :
   wpAny (model prog w) A (Builtin.Slots.read "K" [.type "object"] es) Q E s := by
  obtain ⟨e, he1, he2⟩ := nsFind_some h1
  have hany := nsFind_none h2
  unfold Builtin.Slots.read
  refine be (a := .type "object") (by kernel_rfl) ?_
  refine be (a := []) (by kernel_rfl) ?_
  refine be (a := false) (by kernel_rfl) ?_
  refine be (a := false) (by kernel_rfl) ?_
  refine be (a := false) (by kernel_rfl) ?_
  rw [he1]
  wp_delta
  refine wpAny_bind (wpAny_rule ?_)
  rw [he2]
  have hT : s.TypeIs (.ref sl) "list" := ⟨_, hsl, hc⟩
  have ea : ∀ (Q' : Option Str → Shared → Prop), Q' none s → wpAny (model prog w) A (asStr? (.ref sl)) Q' E s := by
    intro Q' hq
    unfold asStr?
    wp_delta
    refine wpAny_bind (wpAny_load hsl ?_)
    rw [hd]
    exact wpAny_pure hq
  refine wpAny_bind (ea _ ?_)
  wp_delta
  refine wpAny_ite_false (by rfl) ?_
  refine wpAny_bind (wpAny_collect_seq sl (.inl rfl) hsl hc hd (fun h' hk => ?_) (by simp; decide))
  wp_delta
  refine wpAny_ite_true (by rfl) ?_
  refine be (a := false) (by kernel_rfl) ?_
  refine wpAny_ite_false (by rfl) ?_
  wp_delta
  refine be (a := (false, false, #["obj"], [])) (by kernel_rfl) ?_
  wp_delta
  have hm : Builtin.Slots.mangle "K" "obj" = "obj" := by kernel_rfl
  rw [forIn_arr1, hm]
  refine wpAny_bind (wpAny_bind ?_)
  wp_delta
  refine wpAny_ite_false (by kernel_rfl) ?_
  wp_delta
  refine wpAny_ite_false (by rw [hany]; rfl) ?_
  wp_delta
  refine wpAny_ite_false (by kernel_rfl) ?_
  wp_delta
  refine wpAny_pure ?_
  refine wpAny_pure ?_
  wp_delta
  refine be (a := (false, false)) (by kernel_rfl) ?_
  exact wpAny_pure (h h' hk)
section
variable {prog : Program} {w : World} {W : Wd} {A : Around} {E : Value → Shared → Prop} {s : Shared}
theorem put_slot {a : Addr} {i : Nat} {v : Option Value} {o : Obj} {Q : Unit → Shared → Prop} (ho : s.heap.get? a = some o) (hi : i < 1000)
    (h : ∀ h', h'.get? a = some { o with slots := (o.slots ++ Array.replicate (i + 1 - o.slots.size) none).setIfInBounds i v } → Heap.SameBut a s.heap h' → Q () { s with heap := h' }) : wpAny (model prog w) A (setSlotAt a i v) Q E s := by
  unfold setSlotAt
  have hz : sizeLine = 2 ^ 24 := rfl
  wp_delta
  refine wpAny_ite_false (by simp; omega) ?_
  refine wpAny_updatePart ho (h _ (Heap.get?_update_self _ ho ?_) (Heap.SameBut.update ..))
  have := (Heap.get?_some_iff.mp ho).2
  obtain ⟨c, d, dt, sl⟩ := o
  cases dt <;> first | rfl | exact this
theorem upd_cls {a : Addr} {c : Value} {d : Option Addr} {cd : ClassData} {sl : Array (Option Value)} {f : ClassData → ClassData} {Q : Unit → Shared → Prop} (ho : s.heap.get? a = some ⟨c, d, .cls cd, sl⟩) (hl : (Data.cls (f cd)).pastItsLine = none)
    (h : ∀ h', h'.get? a = some ⟨c, d, .cls (f cd), sl⟩ → Heap.SameBut a s.heap h' → Q () { s with heap := h' }) : wpAny (model prog w) A (updateCls a f) Q E s := by
  unfold updateCls
  refine wpAny_bind (wpAny_load ho ?_)
  refine wpAny_bind (wpAny_update ho ?_)
  have g := Heap.get?_update_self (Obj.mapCls f) ho rfl
  refine wpAny_lookBehind (s := { s with heap := s.heap.update a (Obj.mapCls f) }) g hl (h _ g (Heap.SameBut.update ..))
theorem look_cls {a : Addr} {c : Value} {d : Option Addr} {cd : ClassData} {sl : Array (Option Value)} {name : Str} {mN : Str → Option Value} {y : Option Value} {Q : Option Value → Shared → Prop} (hC : s.heap.get? a = some ⟨c, d, .cls cd, sl⟩) (hm : cd.mro = [.ref a, .type "object"])
    (hn : s.heap.Ns cd.ns mN) (hB : typeLookup (.type "object") name = pure y) (hq : Q (match mN name with | some v => some v | none => y) s) : wpAny (model prog w) A (typeLookup (.ref a) name) Q E s := by
  have hrest : lookupAlong [.type "object"] name = pure y := by rw [typeLookup_eq, PySem.F.mro_object] at hB; exact hB
  rw [typeLookup_eq]
  have h1 : ∀ (Q' : ClassData → Shared → Prop), Q' cd s → wpAny (model prog w) A (classData a) Q' E s := by
    intro Q' hq'
    unfold classData
    refine wpAny_bind (wpAny_load hC ?_)
    exact wpAny_pure hq'
  refine wpAny_bind (m := mroOf (.ref a)) ?_
  unfold mroOf
  refine wpAny_bind (h1 _ (wpAny_pure ?_))
  rw [hm, lookupAlong_cons]
  refine wpAny_bind ?_
  show wpAny _ _ (classData a >>= fun x => nsGet x.ns name) _ _ _
  refine wpAny_bind (h1 _ (wpAny_nsGet hn ?_))
  cases hv : mN name with
  | some v => rw [hv] at hq; exact wpAny_pure hq
  | none => rw [hv] at hq; dsimp only; rw [hrest]; exact wpAny_pure hq
end
theorem wp_forL {α β : Type} {M : Model} {A : Around} {E : Value → Shared → Prop} (I : Shared → Prop) {b : β} {f : α → β → Sem (ForInStep β)} {Q : β → Shared → Prop} (hQ : ∀ s, I s → Q b s) :
    ∀ (l : List α) (s : Shared), I s → (∀ e ∈ l, ∀ s, I s → wpAny M A (f e b) (fun r s' => r = .yield b ∧ I s') E s) → wpAny M A (forIn l b f) Q E s
  | [], s, hI, _ => wp_for_nil (hQ s hI)
  | x :: xs, s, hI, h => by
    refine wp_for_cons (wpAny_mono (h x List.mem_cons_self s hI) (fun r s' hr => ?_) fun _ _ e => e)
    obtain ⟨rfl, hI'⟩ := hr
    exact wp_forL I hQ xs s' hI' fun e he => h e (List.mem_cons_of_mem _ he)
theorem wp_forA {α β : Type} {M : Model} {A : Around} {E : Value → Shared → Prop} {s : Shared} (I : Shared → Prop) {b : β} {f : α → β → Sem (ForInStep β)} {Q : β → Shared → Prop} {l : Array α} (hI : I s)
    (h : ∀ e ∈ l, ∀ s, I s → wpAny M A (f e b) (fun r s' => r = .yield b ∧ I s') E s) (hQ : ∀ s, I s → Q b s) : wpAny M A (forIn l b f) Q E s := by
  rw [← Array.forIn_toList]
  exact wp_forL I hQ l.toList s hI fun e he => h e (Array.mem_toList_iff.mp he)
section
variable {prog : Program} {w : World} {W : Wd} {A : Around} {E : Value → Shared → Prop} {s : Shared}
theorem set_byval {a : Addr} {m : Str → Option Value} {nms : List Str} {name : Str} {v : Value} {Q : Unit → Shared → Prop} (hn : s.heap.Ns1 a m) (W : Within m nms) (hz : nms.length ≤ 100)
    (hQ : ∀ h', h'.Ns1 a (fun x => if x = name then some v else m x) → Heap.SameBut a s.heap h' → Q () { s with heap := h', toks := s.toks + 1 }) : wpAny (model prog w) A (nsSetByValue a name v) Q E s := by
  obtain ⟨o, es, ep, g, d, hc⟩ := hn.count W
  unfold nsSetByValue
  refine wpAny_bind (wpAny_loadPart g ?_)
  rw [d]
  have hzl : sizeLine = 2 ^ 24 := rfl
  wp_delta
  refine wpAny_ite_false (by have : ¬ es.size > sizeLine := by omega
                             simp [this]) ?_
  wp_delta
  exact wpAny_nsSet1 hn hQ

theorem slots_install {a ns : Addr} {c : Value} {d : Option Addr} {cd : ClassData} {sl : Array (Option Value)} {m : Str → Option Value} {nms : List Str} {Q : Unit → Shared → Prop} (hA : s.heap.get? a = some ⟨c, d, .cls cd, sl⟩) (hn : s.heap.Ns1 ns m) (W : Within m nms) (hz : nms.length ≤ 100)
    (ho : m "obj" = none) (hna : ns ≠ a) (hpl : (Data.cls { cd with hasDict := false, slotNames := ["obj"] }).pastItsLine = none)
    (h : ∀ p t t' h', s.heap.get? p = none → p ≠ ns → h'.get? p = some { cls := .type "member_descriptor", data := .fields #[.str "obj" t, .ref a, .builtin "proto.slot", .builtin "proto.slot#set", rawInt 0] } → h'.Ns1 ns (fun x => if x = "obj" then some (.ref p) else m x) →
      h'.get? a = some ⟨c, d, .cls { cd with hasDict := false, slotNames := ["obj"] }, sl⟩ → (∀ b o, b ≠ a → b ≠ ns → s.heap.get? b = some o → h'.get? b = some o) → Q () { s with heap := h', toks := t' }) :
    wpAny (model prog w) A (Builtin.Slots.install (.ref a) ns [.type "object"] { names := ["obj"], dict := false, weak := false, inherited := [] }) Q E s := by
  unfold Builtin.Slots.install
  wp_delta
  refine wpAny_bind (wp_for_cons ?_)
  wp_delta
  refine wpAny_bind (ns_get hn.ns (ho) ?_)
  refine wpAny_ite_true (by rfl) ?_
  refine wpAny_bind (wpAny_mkStr ?_ (by decide))
  refine wpAny_bind ?_
  unfold newFields
  refine wpAny_newObj_type ?_ (by simp [sizeOk]; decide)
  generalize hp : s.heap.objs.size = p
  generalize ho : ({ cls := .type "member_descriptor", dict := none, data := .fields _ } : Obj) = om
  have g1 : (s.heap.push om).get? p = some om := by rw [← hp]; exact Heap.get?_push_size _ (by rw [← ho]; rfl)
  have n1 : (s.heap.push om).Ns1 ns m := hn.at fun o g => Heap.get?_push_of_some _ g
  have gp : s.heap.get? p = none := at_none (Nat.le_of_eq hp)
  have hpn : p ≠ ns := fun z => by obtain ⟨o, _, _, g, _⟩ := hn; rw [← z, gp] at g; cases g
  have hpa : p ≠ a := fun z => by rw [← z, gp] at hA; cases hA
  refine wpAny_bind (set_byval (s := { s with toks := s.toks + 1, heap := s.heap.push om }) n1 W hz fun h2 n2 sb2 => ?_)
  refine wpAny_pure ?_
  refine wp_for_nil ?_
  wp_delta
  refine be (a := false) (by kernel_rfl) ?_
  wp_delta
  refine wpAny_ite_false (by kernel_rfl) ?_
  have gA2 : h2.get? a = some ⟨c, d, .cls cd, sl⟩ := (sb2.2 a (Ne.symm hna)).trans (Heap.get?_push_of_some _ hA)
  refine upd_cls gA2 hpl fun h3 gA3 sb3 => ?_
  refine h p s.toks _ h3 gp hpn ?_ (n2.sameBut sb3 hna) gA3 (fun b o hb1 hb2 g => (sb3.2 b hb1).trans ((sb2.2 b hb2).trans (Heap.get?_push_of_some _ g)))
  rw [sb3.2 p hpa, sb2.2 p hpn]
  show (s.heap.push om).get? p = _
  rw [g1, ← ho]; rfl
end
end Mine
end
section
open PySem PySem.W PySem.Calls PyProof.Rows
set_option maxRecDepth 100000
set_option maxHeartbeats 2000000
set_option linter.all false
namespace Mine
theorem slot_cmg : Slot "classmethod_descriptor" "__get__" "classmethod_descriptor.__get__" := .of (owner := "classmethod_descriptor") (n := "__get__") (by rw [typeLookup_type, builtinLookup_eq_fast]; kernel_rfl) (by decide +kernel) (by decide +kernel) (by decide +kernel)
    (by first | exact .inl (by decide +kernel) | exact .inr (by decide +kernel)) (by rw [isSubtype_type]; kernel_rfl)
theorem entry_cmg : entryFor table "classmethod_descriptor.__get__" = some Builtin.«classmethod_descriptor.__get__» := entryFor_of_tree (by kernel_rfl)
theorem args_cmg (a b c : Value) : argsOk "classmethod_descriptor.__get__" ⟨[a, b, c], []⟩ := by unfold argsOk; kernel_rfl
theorem entry_ois : entryFor table "object.__init_subclass__" = some Builtin.«object.__init_subclass__» := entryFor_of_tree (by kernel_rfl)
section
variable {prog : Program} {w : World} {W : Wd} {A : Around} {E : Value → Shared → Prop} {h : Heap} {g : Array GenState} {d : Drawn} {t : Nat} {os : OsState}
theorem sub_self {a : Addr} {oc : Value} {od : Option Addr} {cd : ClassData} {sl : Array (Option Value)} (hC : h.get? a = some ⟨oc, od, .cls cd, sl⟩) (hm : cd.mro = [.ref a, .type "object"]) : Looks (model prog w) h (isSubtype (.ref a) (.ref a)) true := by
  intro A Q E s k hq
  unfold isSubtype
  refine wpAny_bind ?_
  unfold mroOf classData
  refine wpAny_bind (wpAny_bind (wpAny_load (k _ _ hC) (wpAny_pure ?_)))
  refine wpAny_pure ?_
  rw [hm]
  wp_delta
  refine wpAny_ite_false (by rfl) ?_
  wp_delta
  refine wpAny_pure ?_
  have : [Value.ref a, .type "object"].contains (Value.ref a) = true := by simp
  rw [this]; exact hq
theorem sub_obj {a : Addr} {oc : Value} {od : Option Addr} {cd : ClassData} {sl : Array (Option Value)} (hC : h.get? a = some ⟨oc, od, .cls cd, sl⟩) (hm : cd.mro = [.ref a, .type "object"]) : Looks (model prog w) h (isSubtype (.ref a) (.type "object")) true := by
  intro A Q E s k hq
  unfold isSubtype
  refine wpAny_bind ?_
  unfold mroOf classData
  refine wpAny_bind (wpAny_bind (wpAny_load (k _ _ hC) (wpAny_pure ?_)))
  refine wpAny_pure ?_
  rw [hm]
  wp_delta
  refine wpAny_ite_false (by rfl) ?_
  wp_delta
  refine wpAny_pure ?_
  have : [Value.ref a, .type "object"].contains (Value.type "object") = true := by simp
  rw [this]; exact hq
theorem call_super_cls {D : Addr} {oD : Obj} {cdD : ClassData} {Q : Value → Shared → Prop}
    (hD : h.get? D = some oD) (hDt : oD.data = .cls cdD)
    (hsub : Looks (model prog w) h (isSubtype (.ref D) (.ref D)) true)
    (hq : ∀ h', h'.get? h.objs.size = some { cls := .type "super", dict := none, data := .fields #[.ref D, .ref D, .ref D], slots := #[] } → (∀ y o, h.get? y = some o → h'.get? y = some o) → Q (.ref h.objs.size) ⟨h', g, d, t, os⟩) :
    wpAny (model prog w) A (call (.type "super") [.ref D, .ref D]) Q E ⟨h, g, d, t, os⟩ := by
  refine ks_callType_codesW (Q₁ := fun obj s₁ => obj = .ref h.objs.size ∧ s₁ = ⟨h.push { cls := .type "super", data := .fields #[.none, .none, .none] }, g, d, t, os⟩) F.ks_called_super (ks_wpAny_checkTypeCall_super hD hDt) F.ks_entry_super_init
    (ks_code_super_new _ _ ⟨rfl, rfl⟩) fun obj s₁ h₁ => ?_
  obtain ⟨rfl, rfl⟩ := h₁
  have up : ∀ y o, h.get? y = some o → (h.push { cls := .type "super", data := .fields #[.none, .none, .none] }).get? y = some o := fun y o e => Heap.get?_push_of_some _ e
  have hso : (h.push { cls := .type "super", data := .fields #[.none, .none, .none] }).get? h.objs.size = some { cls := .type "super", dict := none, data := .fields #[.none, .none, .none], slots := #[] } := Heap.get?_push_at rfl rfl
  have hD' := up _ _ hD
  have hsub' := hsub.keeps up
  refine ⟨⟨_, hso, rfl⟩, F.ks_initArgs_super _ _ _, ?_⟩
  unfold Builtin.«super.__init__» noKeywords
  repeat (first | (with_reducible refine ks_wpAny_isType_cls hD' hDt ?_) | (with_reducible refine Looks.at hsub' ?_) | (with_reducible refine ks_wpAny_super_set3 hso ?_) | wp_step)
  all_goals first
    | (intro h' e k; exact ⟨rfl, hq h' e fun y o ey => k y o (Nat.ne_of_lt (Heap.lt_size ey)) (up y o ey)⟩)
    | (refine ks_wpAny_super_set3 hso ?_; intro h' e k; exact ⟨rfl, hq h' e fun y o ey => k y o (Nat.ne_of_lt (Heap.lt_size ey)) (up y o ey)⟩)

theorem super_ga {so D : Addr} {cd : ClassData} {oc : Value} {od : Option Addr} {sl : Array (Option Value)} {tk : Tok} {Q : Fin → Shared → Prop}
    (hso : h.get? so = some { cls := .type "super", dict := none, data := .fields #[.ref D, .ref D, .ref D], slots := #[] }) (hno : Looks (model prog w) h (opaqueClassAbove (.ref D)) none)
    (hC : h.get? D = some ⟨oc, od, .cls cd, sl⟩) (hm : cd.mro = [.ref D, .type "object"])
    (hq : Q (.done (.ret (.ref h.objs.size))) ⟨h.push { cls := .type "builtin_function_or_method", data := .fields #[.builtin "object.__init_subclass__", .ref D] }, g, d, t, os⟩) :
    wpAny (model prog w) A (Builtin.«super.__getattribute__» ⟨[.ref so, .str "__init_subclass__" tk], []⟩) Q E ⟨h, g, d, t, os⟩ := by
  have hdt : ({ cls := .type "super", dict := none, data := .fields #[.ref D, .ref D, .ref D], slots := #[] } : Obj).data = .fields #[.ref D, .ref D, .ref D] := rfl
  have f0 : (#[.ref D, .ref D, .ref D] : Array Value)[0]? = some (.ref D) := rfl
  have f1 : (#[.ref D, .ref D, .ref D] : Array Value)[1]? = some (.ref D) := rfl
  have f2 : (#[.ref D, .ref D, .ref D] : Array Value)[2]? = some (.ref D) := rfl
  have hmr : Looks (model prog w) h (mroOf (.ref D)) [.ref D, .type "object"] := by
    intro A Q E s k hq
    unfold mroOf classData
    refine wpAny_bind (wpAny_bind (wpAny_load (k _ _ hC) (wpAny_pure ?_)))
    refine wpAny_pure ?_
    rw [hm]; exact hq
  unfold Builtin.«super.__getattribute__»
  try wp_delta
  refine be (a := some "__init_subclass__") (by rfl) ?_
  try wp_delta
  refine wpAny_ite_false (by rfl) ?_
  try wp_delta
  refine be (a := some "__init_subclass__") (by rfl) ?_
  try wp_delta
  refine wpAny_bind (wpAny_field hso hdt f0 ?_)
  refine wpAny_bind (wpAny_field hso hdt f1 ?_)
  refine wpAny_bind (wpAny_field hso hdt f2 ?_)
  try wp_delta
  refine wpAny_ite_false (by simp; decide) ?_
  try wp_delta
  refine wpAny_bind (ks_wpAny_notOpaque hno ?_)
  try wp_delta
  refine wpAny_ite_false (by simp) ?_
  try wp_delta
  refine wpAny_bind (Looks.at hmr ?_)
  try wp_delta
  have hl : (List.dropWhile (fun x => x != Value.ref D) [Value.ref D, .type "object"]).drop 1 = [.type "object"] := by simp
  rw [hl]
  refine wpAny_bind (wp_for_cons ?_)
  refine be (a := some (.builtin "object.__init_subclass__")) (by kernel_rfl) ?_
  refine be (a := .type "classmethod_descriptor") (by kernel_rfl) ?_
  refine be (a := some (.builtin "classmethod_descriptor.__get__")) (by kernel_rfl) ?_
  refine wpAny_bind (wpAny_holding ?_)
  rw [if_pos (by simp)]
  have hTd : (⟨h, g, d, t, os⟩ : Shared).TypeIs (.builtin "object.__init_subclass__") "classmethod_descriptor" := (by kernel_rfl : typeOf (.builtin "object.__init_subclass__") = pure (.type "classmethod_descriptor"))
  refine wpAny_call_entry slot_cmg hTd entry_cmg ?_ (args_cmg _ _ _)
  unfold Builtin.«classmethod_descriptor.__get__»
  refine be (a := (.builtin "object.__init_subclass__", none, some (.ref D))) (by kernel_rfl) ?_
  try wp_delta
  refine wpAny_bind (wpAny_pure ?_)
  refine wpAny_bind (ks_wpAny_isType_cls hC rfl ?_)
  try wp_delta
  refine wpAny_ite_false (by rfl) ?_
  try wp_delta
  have hown : ".".intercalate ("object.__init_subclass__".cutAt '.').dropLast = "object" := by kernel_rfl
  rw [hown]
  refine wpAny_bind (Looks.at (sub_obj hC hm) ?_)
  try wp_delta
  refine wpAny_ite_false (by rfl) ?_
  try wp_delta
  refine wpAny_bind ?_
  unfold newFields
  refine wpAny_newObj_type ?_ (by simp [sizeOk])
  refine wpAny_pure ⟨_, rfl, ?_⟩
  refine wpAny_bind (wpAny_pure ?_)
  refine wpAny_pure ?_
  exact wpAny_pure hq

theorem super_attr {so D : Addr} {cd : ClassData} {oc : Value} {od : Option Addr} {sl : Array (Option Value)} {Q : Value → Shared → Prop}
    (hso : h.get? so = some { cls := .type "super", dict := none, data := .fields #[.ref D, .ref D, .ref D], slots := #[] }) (hno : Looks (model prog w) h (opaqueClassAbove (.ref D)) none)
    (hC : h.get? D = some ⟨oc, od, .cls cd, sl⟩) (hm : cd.mro = [.ref D, .type "object"])
    (hq : Q (.ref h.objs.size) ⟨h.push { cls := .type "builtin_function_or_method", data := .fields #[.builtin "object.__init_subclass__", .ref D] }, g, d, t + 1, os⟩) :
    wpAny (model prog w) A (getAttr (.ref so) "__init_subclass__") Q E ⟨h, g, d, t, os⟩ := by
  have hlk := F.ks_slot_super_ga.lookup
  have hT : ∀ t', (⟨h, g, d, t', os⟩ : Shared).TypeIs (.ref so) "super" := fun _ => ⟨_, hso, rfl⟩
  unfold getAttr getAttrBy
  refine wpAny_bind (wpAny_mkText (wpAny_holding (wpAny_bind (wpAny_typeOf (hT _) (wpAny_bind (wpAny_of_eq hlk ?_))))))
  show wpAny _ _ (getAttrByItsOwn (.ref so) (.str "__init_subclass__" t) (.type "super") (.builtin "super.__getattribute__") true false) _ _ _
  unfold getAttrByItsOwn hookBefore callGetattribute boundAndCalled
  refine wpAny_bind (wpAny_of_eq (show (if onTheHeap (.type "super") then typeLookup (.type "super") "__getattr__" else pure none) = pure none from rfl) ?_)
  refine wpAny_bind (wpAny_attempt (wpAny_holding ?_))
  show wpAny _ _ (bindSpecial (.builtin "super.__getattribute__") (.ref so) >>= _) _ _ _
  refine wpAny_bind (wpAny_of_eq (F.ks_slot_super_ga.bind _) ?_)
  refine wpAny_mono (Q := fun v s' => v = .ref h.objs.size ∧ s' = ⟨h.push { cls := .type "builtin_function_or_method", data := .fields #[.builtin "object.__init_subclass__", .ref D] }, g, d, t + 1, os⟩) (E := fun _ _ => False)
    (wpAny_call_entry F.ks_slot_super_ga (hT _) F.ks_entry_super_ga (super_ga hso hno hC hm ⟨_, rfl, rfl, rfl⟩) (F.ks_gaArgs_super _ _)) (fun v s' hv => ?_) fun _ _ z => z.elim
  obtain ⟨rfl, rfl⟩ := hv
  exact wpAny_pure hq

theorem sig_some : (Manifest.signature? "object.__init_subclass__").isSome = true := by kernel_rfl
theorem check_bm {D : Addr} {cd : ClassData} {od : Option Addr} {sl : Array (Option Value)} {Q : Unit → Shared → Prop} (hC : h.get? D = some ⟨.type "type", od, .cls cd, sl⟩) (hqn : cd.qualname = "cmp_to_key.<locals>.K") (hq : Q () ⟨h, g, d, t, os⟩) :
    wpAny (model prog w) A (checkBoundCall "object.__init_subclass__" ⟨[.ref D], []⟩) Q E ⟨h, g, d, t, os⟩ := by
  have hs : Manifest.signature? "object.__init_subclass__" = some ((Manifest.signature? "object.__init_subclass__").get sig_some) := (Option.some_get sig_some).symm
  have hk : builtinKind "object.__init_subclass__" = some .classMethod := by kernel_rfl
  have hT : (⟨h, g, d, t, os⟩ : Shared).TypeIs (.ref D) "type" := ⟨_, hC, rfl⟩
  have hv : Manifest.varargsMethods.contains "object.__init_subclass__" = false := by kernel_rfl
  unfold checkBoundCall
  rw [hs, hk]
  try wp_delta
  refine wpAny_ite_false (by kernel_rfl) ?_
  try wp_delta
  refine wpAny_bind (wpAny_isInstance hT (by kernel_rfl : isSubtype (.type "type") (.type "module") = pure false) ?_)
  try wp_delta
  refine wpAny_ite_false (by rw [hv]; rfl) ?_
  try wp_delta
  refine wpAny_bind (ks_wpAny_isType_cls hC rfl ?_)
  try wp_delta
  refine wpAny_ite_true (by rfl) ?_
  refine wpAny_bind (wpAny_pure ?_)
  try wp_delta
  refine wpAny_bind ?_
  unfold classData
  refine wpAny_bind (wpAny_load hC (wpAny_pure ?_))
  try wp_delta
  refine wpAny_bind (wpAny_typeOf hT ?_)
  try wp_delta
  refine wpAny_ite_true (by rfl) ?_
  rw [hqn]
  exact wpAny_of_eq (by kernel_rfl) hq
theorem call_bm {b D : Addr} {cd : ClassData} {od : Option Addr} {sl : Array (Option Value)} {Q : Value → Shared → Prop} (hb : h.get? b = some { cls := .type "builtin_function_or_method", data := .fields #[.builtin "object.__init_subclass__", .ref D] })
    (hC : h.get? D = some ⟨.type "type", od, .cls cd, sl⟩) (hqn : cd.qualname = "cmp_to_key.<locals>.K") (hq : Q .none ⟨h, g, d, t, os⟩) : wpAny (model prog w) A (call (.ref b) []) Q E ⟨h, g, d, t, os⟩ := by
  refine wpAny_call (codeAny_of_tree ?_)
  show wpAny _ _ (callAny (.ref b) _) _ _ _
  unfold callAny
  refine wpAny_bind (wpAny_load hb ?_)
  dsimp only
  refine wpAny_ite_true (by rfl) ?_
  try wp_delta
  refine wpAny_ite_true (by rfl) ?_
  refine wpAny_bind (check_bm hC hqn ?_)
  refine wpAny_pure ⟨Code.quiet_builtin _ (by decide +kernel), codeAny_builtin entry_ois ?_⟩
  unfold Builtin.«object.__init_subclass__»
  try wp_delta
  refine wpAny_ite_true (by rfl) ?_
  exact wpAny_pure hq
end
end Mine
end
section
open PySem PySem.W PySem.Calls PyProof.Rows
set_option maxRecDepth 100000
set_option maxHeartbeats 2000000
set_option linter.all false
namespace Mine
/-- what stands in the block of the class, ahead of the making -/
structure Blk (m : Str → Option Value) (q : Str) (tq : Tok) (sl : Addr) : Prop where
  module : ∃ v, m "__module__" = some v
  qual : m "__qualname__" = some (.str q tq)
  slots : m "__slots__" = some (.ref sl)
  eq : ∃ v, m "__eq__" = some v
  hash : ∃ v, m "__hash__" = some v
  no : ∀ x ∈ (["__doc__", "__new__", "__init_subclass__", "__class_getitem__", "__classcell__", "__classdictcell__", "obj", "__del__"] : List Str), m x = none

theorem any_some {es : Array DictEntry} {x : Str} {v : Value} (h : nsFind es x = some v) : es.any (fun e => e.key.isStr x) = true := by
  obtain ⟨e, h1, _⟩ := nsFind_some h
  rw [Array.any_eq_true']
  exact ⟨e, Array.mem_of_find?_eq_some h1, by simpa using Array.find?_some h1⟩

theorem uniq_find {es : Array DictEntry} {e : DictEntry} {x : Str} {t : Tok} (hu : UniqKeys es) (he : e ∈ es) (hk : e.key = .str x t) : nsFind es x = some e.val := by
  have hx : e.key.isStr x = true := by rw [hk]; simp [Value.isStr]
  unfold nsFind findBy
  cases hf : es.find? (fun e => e.key.isStr x) with
  | none =>
    have := Array.find?_eq_none.mp hf e he
    exact absurd hx this
  | some e' =>
    have h1 := Array.find?_some hf
    have h2 := Array.mem_of_find?_eq_some hf
    have : e' = e := by
      obtain ⟨i, hi, rfl⟩ := Array.mem_iff_getElem.mp he
      obtain ⟨j, hj, rfl⟩ := Array.mem_iff_getElem.mp h2
      have hp := List.pairwise_iff_getElem.mp hu
      rcases Nat.lt_trichotomy i j with hij | hij | hij
      · exact (hp i j (by simpa using hi) (by simpa using hj) hij x (by simpa using hx) (by simpa using h1)).elim
      · subst hij; rfl
      · exact (hp j i (by simpa using hj) (by simpa using hi) hij x (by simpa using h1) (by simpa using hx)).elim
    rw [this]; rfl

/-- a value that takes no note of its name -/
def Pl (s : Shared) (v : Value) : Prop := (∀ id, v ≠ .builtin id) ∧ ∃ T, s.TypeIs v T ∧ typeLookup (.type T) "__set_name__" = pure none
theorem Pl.keeps {s s' : Shared} {v : Value} (x : Pl s v) (k : ∀ b o, s.heap.get? b = some o → s'.heap.get? b = some o) : Pl s' v := by
  obtain ⟨a, T, hT, hl⟩ := x
  refine ⟨a, T, ?_, hl⟩
  cases v with
  | ref b => obtain ⟨o, g, c⟩ := hT; exact ⟨o, k _ _ g, c⟩
  | _ => exact hT

abbrev clsObj (a ns bT : Addr) (tk tq : Tok) : Obj := ⟨.type "type", none, .cls { name := "K", bases := [.type "object"], mro := [.ref a, .type "object"], ns := ns, qualname := "cmp_to_key.<locals>.K", hasDict := false, slotNames := ["obj"] },
  #[some (.ref bT), none, some (.str "K" tk), some (.str "cmp_to_key.<locals>.K" tq), some (.builtin "object.__new__"), some (.bool false)]⟩
abbrev memObj (a : Addr) (t : Tok) : Obj := { cls := .type "member_descriptor", data := .fields #[.str "obj" t, .ref a, .builtin "proto.slot", .builtin "proto.slot#set", rawInt 0] }
/-- the class, made -/
structure Made (h h' : Heap) (a ns p bT : Addr) (m : Str → Option Value) : Prop where
  cls : ∃ tk tq, h'.get? a = some (clsObj a ns bT tk tq)
  names : h'.Ns1 ns (fun x => if x = "__doc__" then some .none else if x = "obj" then some (.ref p) else if x = "__qualname__" then none else m x)
  mem : ∃ t, h'.get? p = some (memObj a t)
  keep : ∀ b o, h.get? b = some o → h'.get? b = some o
  new : h.get? a = none ∧ h.get? ns = none ∧ h.get? p = none

theorem type_new {prog : Program} {w : World} {A : Around} {Q : Fin → Shared → Prop} {s : Shared} {bT nsA sl : Addr} {tk tq ts : Tok} {m : Str → Option Value} {osl : Obj} {n : Nat}
   (hb : s.heap.get? bT = some { cls := .type "tuple", data := .seq #[.type "object"] }) (hn : s.heap.Ns1 nsA m) (hT : s.TypeIs (.ref nsA) "dict") (hs : (nsA == sysModules) = false) (B : Blk m "cmp_to_key.<locals>.K" tq sl)
   (hsl : s.heap.get? sl = some osl) (hc : osl.cls = .type "list") (hd : osl.data = .seq #[.str "obj" ts] n) {nms : List Str} (W : Within m nms) (hz : nms.length ≤ 50) (hV : ∀ x v, m x = some v → Pl s v) (hno : ∀ h' a, (∀ b o, s.heap.get? b = some o → h'.get? b = some o) → Looks (model prog w) h' (opaqueClassAbove (.ref a)) none)
   (hQ : ∀ a ns p h' t', Made s.heap h' a ns p bT m → Q (.done (.ret (.ref a))) { s with heap := h', toks := t' }) :
   wpAny (model prog w) A (Builtin.«type.__new__» ⟨[.type "type", .str "K" tk, .ref bT, .ref nsA], []⟩) Q NoE s := by
  have hTb : s.TypeIs (.ref bT) "tuple" := ⟨_, hb, rfl⟩
  have e1 : isSubtype (.type "tuple") (.type "tuple") = pure true := by kernel_rfl
  have e2 : isSubtype (.type "dict") (.type "dict") = pure true := by kernel_rfl
  obtain ⟨oN, es, ep, hoN, hdN, hkN, huN, hfN⟩ := id hn
  have hesz : es.size ≤ nms.length := by
    obtain ⟨o', es', ep', g', d', c'⟩ := hn.count W
    rw [hoN] at g'; cases g'; rw [hdN] at d'; cases d'; exact c'
  unfold Builtin.«type.__new__»
  wp_delta
  refine be (a := some "K") (by kernel_rfl) ?_
  wp_delta
  refine wpAny_bind (wpAny_isInstance hTb e1 ?_)
  wp_delta
  refine wpAny_ite_false (by rfl) ?_
  refine wpAny_bind (wpAny_isInstance hT e2 ?_)
  wp_delta
  refine wpAny_ite_false (by rfl) ?_
  wp_delta
  refine wpAny_bind (wpAny_seqItems hb rfl ?_)
  wp_delta
  refine wpAny_ite_false (by simp) ?_
  wp_delta
  refine be (a := PUnit.unit) (by kernel_rfl) ?_
  wp_delta
  refine be (a := .type "type") (by kernel_rfl) ?_
  wp_delta
  refine wpAny_ite_false (by simp) ?_
  wp_delta
  refine be (a := PUnit.unit) (by kernel_rfl) ?_
  refine be (a := .type "object") (by kernel_rfl) ?_
  wp_delta
  refine wpAny_ite_false (by simp [hs]) ?_
  wp_delta
  refine wpAny_bind (wpAny_dictEntries hoN hdN ?_)
  refine wpAny_bind (wpAny_specialOf hT (r := some (.builtin "dict.__iter__")) (by kernel_rfl) ?_)
  wp_delta
  refine wpAny_ite_true (by simp) ?_
  refine wpAny_bind (wpAny_pure ?_)
  wp_delta
  refine wpAny_bind (wpAny_holding ?_)
  refine slots_read hsl hc hd ((hfN _).trans B.slots) ((hfN _).trans (B.no _ (by simp))) fun h1 k1 => ?_
  refine wpAny_bind (wpAny_newObj_type ?_ (by have hz : sizeLine = 2 ^ 24 := rfl; simp [sizeOk]; omega))
  wp_delta
  refine wpAny_ite_false (by show decide ((!(es.any fun x => x.key.isStr "__module__")) = true) = false; rw [any_some ((hfN _).trans B.module.choose_spec)]; rfl) ?_
  wp_delta
  refine be (a := ()) (by kernel_rfl) ?_
  wp_delta
  refine wpAny_ite_false (by kernel_rfl) ?_
  wp_delta
  generalize hns : h1.objs.size = ns
  generalize hh2 : h1.push { cls := .type "dict", data := .dict es } = h2
  have N2 : h2.Ns1 ns m := by rw [← hh2, ← hns]; exact ⟨_, es, _, Heap.get?_push_size _ rfl, rfl, hkN, huN, hfN⟩
  refine wpAny_bind (ns_get N2.ns (B.qual) ?_)
  wp_delta
  refine wpAny_bind (ns_get N2.ns (B.qual) ?_)
  wp_delta
  refine be (a := some "cmp_to_key.<locals>.K") (by rfl) ?_
  wp_delta
  refine wpAny_bind (wpAny_pure ?_)
  wp_delta
  refine wpAny_bind (ns_get N2.ns (B.no _ (by simp)) ?_)
  wp_delta
  refine wpAny_bind (wpAny_alloc ?_)
  wp_delta
  generalize ha : h2.objs.size = a
  generalize hoc : (⟨.type "type", none, .cls _, #[]⟩ : Obj) = oc0
  generalize hh3 : h2.push oc0 = h3
  have gA3 : h3.get? a = some oc0 := by rw [← hh3, ← ha]; exact Heap.get?_push_size _ (by rw [← hoc]; rfl)
  have hna : ns ≠ a := fun z => by
    obtain ⟨o, _, _, g, _⟩ := N2
    have := Heap.lt_size g
    rw [z, ha] at this; exact Nat.lt_irrefl _ this
  have N3 : h3.Ns1 ns m := by rw [← hh3]; exact N2.at fun o g => Heap.get?_push_of_some _ g
  refine wpAny_ite_true (by rfl) ?_
  refine wpAny_bind (put_slot gA3 (by decide) fun h4 gA4 sb4 => ?_)
  wp_delta
  refine wpAny_bind (put_slot gA4 (by decide) fun h5 gA5 sb5 => ?_)
  wp_delta
  refine wpAny_bind (put_slot gA5 (by decide) fun h6 gA6 sb6 => ?_)
  wp_delta
  have N6 : h6.Ns1 ns m := ((N3.sameBut sb4 hna).sameBut sb5 hna).sameBut sb6 hna
  refine wpAny_bind (wpAny_nsDel1 N6 fun h7 N7 sb7 => ?_)
  have gA7 := (sb7.2 a (Ne.symm hna)).trans gA6
  generalize hm7 : (fun x => if x = Str.ofString "__qualname__" then none else m x) = m7 at N7
  have no7 : ∀ x ∈ (["__doc__", "__new__", "__init_subclass__", "__class_getitem__", "__classcell__", "__classdictcell__", "obj", "__del__"] : List Str), m7 x = none := fun x hx => by
    rw [← hm7]; dsimp only; split
    · rfl
    · exact B.no x hx
  refine wpAny_bind (ns_get N7.ns (no7 _ (by simp)) ?_)
  wp_delta
  refine wpAny_bind (wp_for_cons ?_)
  refine wpAny_bind (ns_get N7.ns (no7 _ (by simp)) ?_)
  refine wpAny_pure ?_
  refine wp_for_cons ?_
  refine wpAny_bind (ns_get N7.ns (no7 _ (by simp)) ?_)
  refine wpAny_pure ?_
  refine wp_for_nil ?_
  refine wpAny_bind (ns_get N7.ns (no7 _ (by simp)) ?_)
  wp_delta
  refine wpAny_bind (ns_get N7.ns (no7 _ (by simp)) ?_)
  wp_delta
  refine be (a := none) (by kernel_rfl) ?_
  try wp_delta
  refine be (a := [.type "object"]) (by kernel_rfl) ?_
  refine wpAny_bind (wpAny_pure ?_)
  try wp_delta
  have hfil : List.filter (fun x => x != Value.ref a) [Value.ref a, .type "object"] = [.type "object"] := by simp
  rw [hfil]
  refine be (a := false) (by kernel_rfl) ?_
  subst hoc
  refine wpAny_bind (upd_cls gA7 (by rfl) fun h8 gA8 sb8 => ?_)
  try wp_delta
  refine be (a := some "object.__new__") (by kernel_rfl) ?_
  refine wpAny_bind (put_slot gA8 (by decide) fun h9 gA9 sb9 => ?_)
  have N9 := (N7.sameBut sb8 hna).sameBut sb9 hna
  have hdel : (es.any fun x => x.key.isStr "__del__") = false := nsFind_none ((hfN _).trans (B.no _ (by simp)))
  have gA9' : h9.get? a = some ⟨.type "type", none, .cls { name := "K", bases := [.type "object"], mro := [.ref a, .type "object"], ns := ns, qualname := "cmp_to_key.<locals>.K", hasDel := (es.any fun x => x.key.isStr "__del__") || false }, #[some (.ref bT), none, some (.str "K" tk), some (.str "cmp_to_key.<locals>.K" tq), some (.builtin "object.__new__")]⟩ := gA9.trans (by kernel_rfl)
  rw [hdel] at gA9'
  have eN : typeLookup (.type "object") "__new__" = pure (some (.builtin "object.__new__")) := by rw [typeLookup_type, builtinLookup_eq_fast]; kernel_rfl
  refine wpAny_bind ?_
  unfold Bind.refreshMaker
  refine wpAny_bind (wpAny_bind (wpAny_loadPart gA9' (wpAny_pure ?_)))
  refine wpAny_ite_false (by rfl) ?_
  refine wpAny_bind (look_cls gA9' rfl N9.ns eN ?_)
  rw [no7 _ (by simp)]
  dsimp only
  refine wpAny_ite_false (by kernel_rfl) ?_
  refine wpAny_pure ?_
  have W7 : Within m7 nms := fun y hy => W y (by
    rw [← hm7] at hy; dsimp only at hy
    split at hy
    · exact absurd rfl hy
    · exact hy)
  refine wpAny_bind (slots_install gA9' N9 W7 (by omega) (no7 _ (by simp)) hna (by rfl) fun p tp t10 h10 gp hpn gP10 N10 gA10 k10 => ?_)
  refine be (a := false) (by kernel_rfl) ?_
  refine wpAny_bind (put_slot gA10 (by decide) fun h11 gA11 sb11 => ?_)
  try wp_delta
  refine wpAny_ite_false (by rfl) ?_
  try wp_delta
  refine wpAny_ite_false (by rfl) ?_
  try wp_delta
  have N11 := N10.sameBut sb11 hna
  generalize hm10 : (fun x => if x = Str.ofString "obj" then some (Value.ref p) else m7 x) = m10 at N10 N11
  have d10 : m10 (Str.ofString "__doc__") = none := by rw [← hm10]; exact (if_neg (by decide)).trans (no7 _ (by simp))
  refine wpAny_bind (ns_get N11.ns (d10) ?_)
  refine wpAny_ite_true (by rfl) ?_
  refine wpAny_bind (wpAny_nsSet1 N11 fun h12 N12 sb12 => ?_)
  generalize hm12 : (fun x => if x = Str.ofString "__doc__" then some Value.none else m10 x) = m12 at N12
  have q12 : ∀ x, x ≠ Str.ofString "__doc__" → x ≠ Str.ofString "obj" → x ≠ Str.ofString "__qualname__" → m12 x = m x := fun x h1 h2 h3 => by
    rw [← hm12, ← hm10, ← hm7]; dsimp only; rw [if_neg h1, if_neg h2, if_neg h3]
  refine wpAny_bind (ns_get N12.ns (by rw [q12 _ (by decide) (by decide) (by decide), B.eq.choose_spec]) ?_)
  refine wpAny_ite_true (by rfl) ?_
  refine wpAny_bind (ns_get N12.ns (by rw [q12 _ (by decide) (by decide) (by decide), B.hash.choose_spec]) ?_)
  refine wpAny_ite_false (by rfl) ?_
  refine wpAny_bind (wp_for_cons ?_)
  refine be (a := ()) (by kernel_rfl) ?_
  refine wpAny_pure ?_
  refine wp_for_nil ?_
  refine wpAny_bind (wpAny_tryCatch (wpAny_holding ?_))
  obtain ⟨o12, es12, ep12, g12, d12, k12, u12, f12⟩ := id N12
  refine wpAny_bind (wpAny_dictEntries g12 d12 ?_)
  refine wpAny_bind (wp_forA (fun s' => s' = _) rfl (fun e he s' hs' => ?_) fun s' hs' => ?_)
  · obtain ⟨x, tx, hx⟩ := k12 e he
    rw [hx]
    refine be (a := some x) (by rfl) ?_
    refine wpAny_ite_false (by rfl) ?_
    exact wpAny_pure ⟨rfl, hs'⟩
  subst hs'
  try wp_delta
  refine wpAny_ite_false (by rfl) ?_
  try wp_delta
  refine wpAny_bind (wpAny_dictEntries g12 d12 ?_)
  have ltns : ∀ b o, s.heap.get? b = some o → b ≠ ns := fun b o g z => by
    have := Heap.lt_size (k1 b o g)
    rw [z, hns] at this; exact Nat.lt_irrefl _ this
  have k2 : ∀ b o, s.heap.get? b = some o → h2.get? b = some o := fun b o g => by rw [← hh2]; exact Heap.get?_push_of_some _ (k1 b o g)
  have lta : ∀ b o, s.heap.get? b = some o → b ≠ a := fun b o g z => by
    have := Heap.lt_size (k2 b o g)
    rw [z, ha] at this; exact Nat.lt_irrefl _ this
  have k3 : ∀ b o, s.heap.get? b = some o → h3.get? b = some o := fun b o g => by rw [← hh3]; exact Heap.get?_push_of_some _ (k2 b o g)
  have k12' : ∀ b o, s.heap.get? b = some o → h12.get? b = some o := fun b o g => by
    have na := lta b o g
    have nn := ltns b o g
    have g9 : h9.get? b = some o := (sb9.2 b na).trans ((sb8.2 b na).trans ((sb7.2 b nn).trans ((sb6.2 b na).trans ((sb5.2 b na).trans ((sb4.2 b na).trans (k3 b o g))))))
    exact (sb12.2 b nn).trans ((sb11.2 b na).trans (k10 b o na nn g9))
  have hpa : p ≠ a := fun z => by rw [z] at gp; rw [gA9'] at gp; cases gp
  have gP12 : h12.get? p = some (memObj a tp) := (sb12.2 p hpn).trans ((sb11.2 p hpa).trans gP10)
  have gA12 : h12.get? a = some (clsObj a ns bT tk tq) := (sb12.2 a (Ne.symm hna)).trans (gA11.trans (by kernel_rfl))
  refine wpAny_bind (wp_forA (fun s' => s' = _) rfl (fun e he s' hs' => ?_) fun s' hs' => ?_)
  · obtain ⟨x, tx, hx⟩ := k12 e he
    have hval : m12 x = some e.val := (f12 x).symm.trans (uniq_find u12 he hx)
    have hpl : Pl s' e.val := by
      subst hs'
      by_cases c1 : x = Str.ofString "__doc__"
      · rw [← hm12, c1] at hval; simp at hval
        rw [← hval]
        exact ⟨(fun _ z => by cases z), "NoneType", (by kernel_rfl : typeOf .none = pure (.type "NoneType")), by kernel_rfl⟩
      · by_cases c2 : x = Str.ofString "obj"
        · rw [← hm12, ← hm10, c2] at hval
          dsimp only at hval
          rw [if_neg (by decide), if_pos rfl] at hval
          rw [← Option.some.inj hval]
          exact ⟨(fun _ z => by cases z), "member_descriptor", ⟨_, gP12, rfl⟩, by kernel_rfl⟩
        · by_cases c3 : x = Str.ofString "__qualname__"
          · rw [← hm12, ← hm10, ← hm7, c3] at hval
            dsimp only at hval
            rw [if_neg (by decide), if_neg (by decide), if_pos rfl] at hval
            cases hval
          · rw [q12 x c1 c2 c3] at hval
            exact (hV x _ hval).keeps k12'
    have hlaid : Builtin.laidUnderItsOwnName e.key e.val = false := by
      rw [hx]
      cases hev : e.val with
      | builtin id => exact absurd hev (hpl.1 id)
      | _ => rfl
    refine wpAny_ite_false (by simp [hlaid]) ?_
    obtain ⟨T, hT', hl'⟩ := hpl.2
    refine wpAny_bind (wpAny_specialOf hT' hl' ?_)
    exact wpAny_pure ⟨rfl, hs'⟩
  subst hs'
  refine wpAny_bind (call_super_cls gA12 rfl (sub_self gA12 rfl) fun h13 gS k13 => ?_)
  generalize hso : h12.objs.size = so at gS
  refine wpAny_bind (wpAny_holding ?_)
  have gA13 := k13 _ _ gA12
  refine super_attr gS (hno _ _ fun b o g => k13 b o (k12' b o g)) gA13 rfl ?_
  have gB : (h13.push { cls := .type "builtin_function_or_method", data := .fields #[.builtin "object.__init_subclass__", .ref a] }).get? h13.objs.size = some { cls := .type "builtin_function_or_method", data := .fields #[.builtin "object.__init_subclass__", .ref a] } := Heap.get?_push_size _ rfl
  refine wpAny_bind (call_bm gB (Heap.get?_push_of_some _ gA13) rfl ?_)
  refine wpAny_pure ?_
  refine wpAny_pure ?_
  have up : ∀ b o, h12.get? b = some o → (h13.push { cls := .type "builtin_function_or_method", data := .fields #[.builtin "object.__init_subclass__", .ref a] }).get? b = some o := fun b o g => Heap.get?_push_of_some _ (k13 b o g)
  refine hQ a ns p _ _ ⟨⟨tk, tq, up _ _ gA12⟩, ?_, ⟨tp, up _ _ gP12⟩, fun b o g => up b o (k12' b o g), ?_, ?_, ?_⟩
  · have := N12.at (h' := h13.push { cls := .type "builtin_function_or_method", data := .fields #[.builtin "object.__init_subclass__", .ref a] }) fun o g => up _ _ g
    rw [← hm12, ← hm10, ← hm7] at this
    exact this
  · cases hg : s.heap.get? a with
    | none => rfl
    | some o => exact absurd rfl (lta a o hg)
  · cases hg : s.heap.get? ns with
    | none => rfl
    | some o => exact absurd rfl (ltns ns o hg)
  · cases hg : s.heap.get? p with
    | none => rfl
    | some o =>
      have g9 : h9.get? p = some o := (sb9.2 p hpa).trans ((sb8.2 p hpa).trans ((sb7.2 p hpn).trans ((sb6.2 p hpa).trans ((sb5.2 p hpa).trans ((sb4.2 p hpa).trans (k3 p o hg))))))
      rw [gp] at g9; cases g9
end Mine
end
section
open PySem PySem.W PySem.Calls PyProof.Rows
set_option maxRecDepth 100000
set_option maxHeartbeats 2000000
set_option linter.all false
namespace Mine
theorem entry_tn : entryFor table "type.__new__" = some Builtin.«type.__new__» := entryFor_of_tree (by kernel_rfl)
theorem slot_ti : Slot "type" "__init__" "type.__init__" := .of (owner := "type") (n := "__init__") (by rw [typeLookup_type, builtinLookup_eq_fast]; kernel_rfl) (by decide +kernel) (by decide +kernel) (by decide +kernel)
    (by first | exact .inl (by decide +kernel) | exact .inr (by decide +kernel)) (by rw [isSubtype_type]; kernel_rfl)
theorem entry_ti : entryFor table "type.__init__" = some Builtin.«type.__init__» := entryFor_of_tree (by kernel_rfl)
theorem args_ti (a b c d : Value) : argsOk "type.__init__" ⟨[a, b, c, d], []⟩ := by unfold argsOk; kernel_rfl
theorem call_type3 {prog : Program} {w : World} {A : Around} {Q : Value → Shared → Prop} {s : Shared} {bT nsA sl : Addr} {tk tq ts : Tok} {m : Str → Option Value} {osl : Obj} {n : Nat}
   (hb : s.heap.get? bT = some { cls := .type "tuple", data := .seq #[.type "object"] }) (hn : s.heap.Ns1 nsA m) (hT : s.TypeIs (.ref nsA) "dict") (hs : (nsA == sysModules) = false) (B : Blk m "cmp_to_key.<locals>.K" tq sl)
   (hsl : s.heap.get? sl = some osl) (hc : osl.cls = .type "list") (hd : osl.data = .seq #[.str "obj" ts] n) {nms : List Str} (W : Within m nms) (hz : nms.length ≤ 50) (hV : ∀ x v, m x = some v → Pl s v) (hno : ∀ h' a, (∀ b o, s.heap.get? b = some o → h'.get? b = some o) → Looks (model prog w) h' (opaqueClassAbove (.ref a)) none)
   (hQ : ∀ a ns p h' t', Made s.heap h' a ns p bT m → Q (.ref a) { s with heap := h', toks := t' }) :
   wpAny (model prog w) A (call (.type "type") [.str "K" tk, .ref bT, .ref nsA]) Q NoE s := by
  refine wpAny_call (codeAny_of_tree ?_)
  show wpAny _ _ (callAny (.type "type") _) _ _ _
  refine wpAny_pure ⟨Code.quiet_builtin _ (by decide +kernel), codeAny_builtin F.entry_type_call ?_⟩
  unfold Builtin.«type.__call__»
  try wp_delta
  refine wpAny_ite_true (by rfl) ?_
  try wp_delta
  refine wpAny_ite_false (by rfl) ?_
  try wp_delta
  refine wpAny_ite_false (by rfl) ?_
  try wp_delta
  refine wpAny_ite_false (by kernel_rfl) ?_
  try wp_delta
  refine be (a := ()) (by kernel_rfl) ?_
  try wp_delta
  refine be (a := [.type "type", .type "object"]) (by kernel_rfl) ?_
  try wp_delta
  refine wpAny_ite_false (by rfl) ?_
  try wp_delta
  refine be (a := some "type.__new__") (by kernel_rfl) ?_
  try wp_delta
  refine wpAny_bind (wpAny_pure ?_)
  try wp_delta
  refine wpAny_bind (wpAny_holding (wpAny_call (codeAny_of_tree ?_)))
  show wpAny _ _ (callAny (.builtin "type.__new__") _) _ _ _
  unfold callAny
  refine be (a := ()) (by kernel_rfl) ?_
  refine wpAny_pure ⟨Code.quiet_builtin _ (by decide +kernel), codeAny_builtin entry_tn ?_⟩
  refine wpAny_mono (type_new hb hn hT hs B hsl hc hd W hz hV hno (Q := fun fin s' => ∃ a ns p h' t', fin = .done (.ret (.ref a)) ∧ s' = { s with heap := h', toks := t' } ∧ Made s.heap h' a ns p bT m) (fun a ns p h' t' M => ⟨a, ns, p, h', t', rfl, rfl, M⟩)) (fun fin s' hf => ?_) (fun _ _ z => z.elim)
  obtain ⟨a, ns, p, h', t', rfl, rfl, M⟩ := hf
  obtain ⟨tk', tq', gA⟩ := M.cls
  have hTa : ({ s with heap := h', toks := t' } : Shared).TypeIs (.ref a) "type" := ⟨_, gA, rfl⟩
  show wpAny _ _ _ _ _ _
  refine wpAny_bind (wpAny_isInstance hTa (by kernel_rfl : isSubtype (.type "type") (.type "type") = pure true) ?_)
  try wp_delta
  refine wpAny_ite_false (by rfl) ?_
  try wp_delta
  refine wpAny_bind (wpAny_holding (wpAny_callSpecial?_slot (name := Str.ofString "__init__") hTa slot_ti (wpAny_call_entry slot_ti hTa entry_ti ?_ (args_ti _ _ _ _))))
  unfold Builtin.«type.__init__»
  try wp_delta
  refine wpAny_ite_false (by rfl) ?_
  try wp_delta
  refine wpAny_ite_false (by rfl) ?_
  refine wpAny_pure ⟨_, rfl, ?_⟩
  try wp_delta
  refine wpAny_ite_false (by rfl) ?_
  try wp_delta
  exact wpAny_pure (hQ a ns p h' t' M)
end Mine
end
section
open PySem PySem.W PySem.Calls PyProof.Rows
set_option maxRecDepth 100000
set_option maxHeartbeats 2000000
set_option linter.all false
namespace Mine
section
variable {prog : Program} {w : World} {W : Wd} {A : Around} {E : Value → Shared → Prop} {s : Shared}
/-- the code of a class block that is met for the first time -/
theorem class_code {env : Env} {c P : Addr} {pos : Pos} {firstLine : Nat} {name qual : Str} {scope : Scope} {Q : Value → Shared → Prop} (hc : env.code = .ref c) (C : CodeHd s.heap c P) (hP : s.heap.get? P = some (tabObj #[]))
    (hQ : ∀ c' P' h' tk, Heap.ExtBut P s.heap h' → s.heap.get? c' = none → s.heap.get? P' = none → CodeHd h' c' P' → h'.get? P' = some (tabObj #[]) → (∃ ps, h'.get? P = some (tabObj ps) ∧ TriplesOk ps.toList) → h'.CodeRec (.ref c') qual → Q (.ref c') { s with heap := h', toks := tk }) :
    wpAny (model prog w) A (classCode env pos firstLine name qual scope) Q E s := by
  obtain ⟨o, vs, file, tf, flags, tg, inF, text, tt, ho, hcl, hd, h11, h11', h18, h7, h9, h10, hne⟩ := id C
  unfold classCode codeAt
  rw [hc]
  refine wpAny_ite_false (by rfl) ?_
  refine wpAny_bind (wpAny_fieldsOf ho hd ?_)
  rw [h11']
  refine wpAny_bind (wpAny_fieldsOf hP rfl ?_)
  rw [show codeAmong pos (#[] : Array Value).toList = none from rfl, h18, h7, h9, h10]
  refine wpAny_bind (wpAny_newCodeX fun c' P' h' tk hk hc' hP' hcode' htab' hrec' => ?_)
  have gP := hk _ _ hP
  refine wpAny_bind (wpAny_updateFieldsOfTheText gP rfl ?_)
  have hget := Heap.get?_update_self (h := h') (fun o => Obj.mapFields (fun vs => if (codeAmong pos vs.toList).isSome = true then vs else vs ++ #[rawInt pos.line, rawInt pos.col, .ref c']) o) gP rfl
  refine wpAny_bind (wpAny_fieldsOf hget rfl ?_)
  have hf : codeAmong pos [rawInt pos.line, rawInt pos.col, .ref c'] = some (.ref c') := by simp [codeAmong, rawInt]
  show wpAny _ _ (match codeAmong pos [rawInt pos.line, rawInt pos.col, .ref c'] with | some c => pure c | none => unsupported "internal:code-record") _ _ _
  rw [hf]
  have ltP := Heap.lt_size hP
  have hcP : c' ≠ P := Nat.ne_of_gt (Nat.lt_of_lt_of_le ltP hc')
  have hP'P : P' ≠ P := Nat.ne_of_gt (Nat.lt_of_lt_of_le ltP hP')
  have sb : Heap.SameBut P h' (h'.update P (fun o => Obj.mapFields (fun vs => if (codeAmong pos vs.toList).isSome = true then vs else vs ++ #[rawInt pos.line, rawInt pos.col, .ref c']) o)) := Heap.SameBut.update ..
  refine wpAny_pure (hQ c' P' _ _ (fun b o' hb e => sb.extBut b o' hb (hk b o' e)) (at_none hc') (at_none hP') ?_ ?_ ⟨_, hget, trivial⟩ ?_)
  · exact CodeHd.of (hcode'.extBut sb.extBut hcP hP'P) (htab'.extBut sb.extBut hcP hP'P)
  · exact (sb.2 P' hP'P).trans htab'.2
  · obtain ⟨c₂, o₂, vs₂, t₂, e₂, g₂, r₂⟩ := hrec'
    cases e₂
    exact ⟨_, o₂, vs₂, t₂, rfl, sb.extBut _ _ hcP g₂, r₂⟩
end
end Mine
end
section
open PySem PySem.W PySem.Calls PyProof.Rows
set_option maxRecDepth 100000
set_option maxHeartbeats 2000000
set_option linter.all false
namespace Mine
/-- a plain dict that is a block's names -/
def Bd (h : Heap) (a : Addr) (m : Str → Option Value) : Prop := ∃ o es ep, h.get? a = some o ∧ o.cls = .type "dict" ∧ o.data = .dict es ep ∧ StrKeys es ∧ UniqKeys es ∧ ∀ name, nsFind es name = m name
theorem Bd.ns1 {h : Heap} {a : Addr} {m : Str → Option Value} (x : Bd h a m) : h.Ns1 a m := let ⟨o, es, ep, g, _, r⟩ := x; ⟨o, es, ep, g, r⟩
theorem Bd.at {h h' : Heap} {a : Addr} {m : Str → Option Value} (x : Bd h a m) (k : ∀ o, h.get? a = some o → h'.get? a = some o) : Bd h' a m := let ⟨o, es, ep, g, r⟩ := x; ⟨o, es, ep, k o g, r⟩
theorem Bd.typeIs {s : Shared} {a : Addr} {m : Str → Option Value} (x : Bd s.heap a m) : s.TypeIs (.ref a) "dict" := let ⟨o, _, _, g, c, _⟩ := x; ⟨o, g, c⟩
section
variable {prog : Program} {w : World} {W : Wd} {A : Around} {E : Value → Shared → Prop} {s : Shared}
theorem set_bd {a : Addr} {m : Str → Option Value} {name : Str} {v : Value} {Q : Unit → Shared → Prop} (hn : Bd s.heap a m)
    (hQ : ∀ h', Bd h' a (fun x => if x = name then some v else m x) → Heap.SameBut a s.heap h' → Q () { s with heap := h', toks := s.toks + 1 }) : wpAny (model prog w) A (nsSet a name v) Q E s := by
  obtain ⟨o, es, ep, ho, hc, hd, hk, hu, hm⟩ := hn
  have hany : es.any (·.refKey) = false := by
    rw [Array.any_eq_false']; intro e he; obtain ⟨n, t, h⟩ := hk e he; simp [DictEntry.refKey, h]
  unfold nsSet strHash
  refine wpAny_bind (wpAny_bind (wpAny_askSetting (wpAny_pure ?_)))
  refine wpAny_bind (wpAny_mkText ?_)
  refine wpAny_bind (wpAny_loadPart ho ?_)
  rw [hd]
  dsimp only
  refine wpAny_ite_false (by simp only [aRefKeyMayBeTheName_eq, aRefKeyMayBeTheNameByArray, hany, Bool.and_false]; rfl) ?_
  refine wpAny_updatePart ho (hQ _ ?_ (Heap.SameBut.update ..))
  obtain ⟨c, d, dt, sl⟩ := o
  subst hd
  cases hi : es.findIdx? (·.key.isStr name) with
  | some i =>
    refine ⟨_, _, ep, Heap.get?_update_self _ ho (by simp only [Obj.putName_eq, Obj.putNameByArray, hi]; rfl), by simp only [Obj.putName_eq, Obj.putNameByArray, hi]; exact hc, by simp only [Obj.putName_eq, Obj.putNameByArray, hi]; rfl, hk.modify _ _, hu.modify _ _, fun x => ?_⟩
    show _ = if x = name then some v else m x
    rw [← hm]; exact findBy_modify (fun n v => v.isStr n) Value.isStr_inj es name x v i hi
  | none =>
    refine ⟨_, _, ep + 1, Heap.get?_update_self _ ho (by simp only [Obj.putName_eq, Obj.putNameByArray, hi]; rfl), by simp only [Obj.putName_eq, Obj.putNameByArray, hi]; exact hc, by simp only [Obj.putName_eq, Obj.putNameByArray, hi]; rfl, hk.push _ _ _ _, hu.push _ _ _ _ hi, fun x => ?_⟩
    show _ = if x = name then some v else m x
    rw [← hm]
    refine findBy_push (fun n v => v.isStr n) es name x _ _ v (fun y => ?_) hi
    show (name == y) = decide (y = name)
    by_cases h : y = name
    · subst h; simp
    · have : ¬ name = y := fun e => h e.symm
      simp [h, this]

theorem store_cls {env : Env} {nsA : Addr} {m : Str → Option Value} {name : Str} {v : Value} {Q : Unit → Shared → Prop} (hl : env.locals = nsA) (hn : Bd s.heap nsA m) (hs : storeName env name v = localSet env name v)
    (hQ : ∀ h', Bd h' nsA (fun x => if x = name then some v else m x) → Heap.SameBut nsA s.heap h' → Q () { s with heap := h', toks := s.toks + 1 }) : wpAny (model prog w) A (storeName env name v) Q E s := by
  rw [hs]
  unfold localSet
  rw [hl]
  obtain ⟨o, es, ep, ho, hc, _⟩ := id hn
  refine wpAny_bind (wpAny_load ho ?_)
  refine wpAny_ite_true (by rw [hc]; rfl) ?_
  exact set_bd hn hQ
end
end Mine
end
section
open PySem PySem.W PySem.Calls PyProof.Rows
set_option maxRecDepth 100000
set_option maxHeartbeats 2000000
set_option linter.all false
namespace Mine
/-- what stands while the block of a class runs -/
structure Bks (h : Heap) (nsA c P : Addr) (m : Str → Option Value) (ps : Array Value) (mg : Str → Option Value) : Prop where
  bd : Bd h nsA m
  code : CodeHd h c P
  tab : h.get? P = some (tabObj ps)
  tri : TriplesOk ps.toList
  glob : h.Ns mainGlobals mg
  blt : h.BuiltinsAt mg P
  gP : mainGlobals ≠ P
  nP : nsA ≠ P
  nc : nsA ≠ c
  ng : nsA ≠ mainGlobals
  nb : ∀ bm, mg "__builtins__" = some (.ref bm) → nsA ≠ bm
section
variable {prog : Program} {w : World} {W : Wd} {A : Around} {E : Value → Shared → Prop} {s : Shared}
theorem Bks.set {h h' : Heap} {nsA c P : Addr} {m m' : Str → Option Value} {ps : Array Value} {mg : Str → Option Value} (x : Bks h nsA c P m ps mg) (sb : Heap.SameBut nsA h h') (hb : Bd h' nsA m') : Bks h' nsA c P m' ps mg := by
  refine ⟨hb, ?_, (sb.2 P (Ne.symm x.nP)).trans x.tab, x.tri, x.glob.sameBut sb (Ne.symm x.ng), ?_, x.gP, x.nP, x.nc, x.ng, x.nb⟩
  · obtain ⟨o, vs, file, tf, flags, tg, inF, text, tt, ho, r⟩ := x.code
    exact ⟨o, vs, file, tf, flags, tg, inF, text, tt, (sb.2 c (Ne.symm x.nc)).trans ho, r⟩
  · obtain ⟨bm, o, h1, h2, h3, h4, g, r⟩ := x.blt
    exact ⟨bm, o, h1, h2, h3, h4, (sb.2 bm (Ne.symm (x.nb bm h1))).trans g, r⟩
theorem Bks.grow {h h' : Heap} {nsA c P : Addr} {m : Str → Option Value} {ps ps' : Array Value} {mg : Str → Option Value} (x : Bks h nsA c P m ps mg) (e : Heap.ExtBut P h h') (ht : h'.get? P = some (tabObj ps')) (tr : TriplesOk ps'.toList) : Bks h' nsA c P m ps' mg := by
  refine ⟨x.bd.at fun o g => e _ _ x.nP g, ?_, ht, tr, x.glob.extBut e x.gP, ?_, x.gP, x.nP, x.nc, x.ng, x.nb⟩
  · obtain ⟨o, vs, file, tf, flags, tg, inF, text, tt, ho, h1, h2, h3, h4, h5, h6, h7, h8, ne⟩ := x.code
    exact ⟨o, vs, file, tf, flags, tg, inF, text, tt, e _ _ ne ho, h1, h2, h3, h4, h5, h6, h7, h8, ne⟩
  · obtain ⟨bm, o, h1, h2, h3, h4, g, r⟩ := x.blt
    exact ⟨bm, o, h1, h2, h3, h4, e _ _ h4 g, r⟩

theorem def_cls {env : Env} {nsA c P : Addr} {m mg : Str → Option Value} {ps : Array Value} {clos : List (Str × Addr)} {name : Str} {args : Arguments} {body : List Stmt} {scope : Scope} {pos : Pos} {Q : Flow → Shared → Prop}
    (x : Bks s.heap nsA c P m ps mg) (hcode : env.code = .ref c) (hge : env.globals = mainGlobals) (hl : env.locals = nsA) (hnf : codeAmong pos ps.toList = none) (hcl : closureFor scope env = pure clos)
    (hdef : defaultsOf args env = ([], [])) (hann : annTrees args none env = []) (hs : ∀ v, storeName env name v = localSet env name v)
    (h : ∀ f c' ctv doc h' tk, (∀ b o, b ≠ nsA → b ≠ P → s.heap.get? b = some o → h'.get? b = some o) → s.heap.get? f = none → s.heap.get? c' = none → h'.get? f = some (kdv_obj name (qualnameIn env name name) args (.stmts body) scope clos .none doc ((mg "__name__").getD .none) c' ctv) →
      h'.CodeRec (.ref c') (qualnameIn env name name) → Bks h' nsA c P (fun y => if y = name then some (.ref f) else m y) (ps ++ #[rawInt pos.line, rawInt pos.col, .ref c']) mg → Q .next { s with heap := h', toks := tk }) :
    wpAny (model prog w) A (exec (.FunctionDef name args body [] none [] scope none name pos) env) Q E s := by
  rw [exec_def, hdef, hann]
  refine wpAny_bind (wpAny_standAt ?_)
  refine wpAny_bind (wpAny_holding ?_)
  refine be (a := []) (by rfl) ?_
  refine wpAny_bind (wpAny_holding ?_)
  refine wpAny_of_eq (a := []) (by rfl) ?_
  refine wpAny_holding ?_
  refine be (a := []) (by rfl) ?_
  rw [makeFunction_eq]
  simp only [List.zip_nil_right, List.filterMap_nil, List.isEmpty_nil, if_true, pure_bind]
  refine kdv_makeTail hcl hge x.glob hcode x.code x.tab x.tri hnf x.gP x.blt fun c' ctv doc h1 tk hx hge' hlt hrec ht => ?_
  refine wpAny_bind (wpAny_standAt ?_)
  generalize hf : h1.objs.size = f
  generalize hof : kdv_obj name (qualnameIn env name name) args (.stmts body) scope clos .none doc ((mg "__name__").getD .none) c' ctv = of
  have tr : TriplesOk (ps ++ #[rawInt pos.line, rawInt pos.col, .ref c']).toList := by
    rw [show (ps ++ #[rawInt pos.line, rawInt pos.col, Value.ref c']).toList = ps.toList ++ [rawInt pos.line, rawInt pos.col, .ref c'] by simp]
    exact TriplesOk_snoc _ _ _ _ x.tri
  have x1 := x.grow (ps' := ps ++ #[rawInt pos.line, rawInt pos.col, .ref c']) hx ht tr
  have gf : (h1.push of).get? f = some of := by rw [← hf]; exact Heap.get?_push_size _ (by rw [← hof]; rfl)
  have x2 : Bks (h1.push of) nsA c P m (ps ++ #[rawInt pos.line, rawInt pos.col, .ref c']) mg := x1.grow (fun b o _ g => Heap.get?_push_of_some _ g) (Heap.get?_push_of_some _ x1.tab) tr
  refine wpAny_bind (wpAny_bindName (store_cls (s := { s with heap := h1.push of, toks := tk }) hl x2.bd (hs _) fun h3 b3 sb3 => ?_))
  refine wpAny_pure ?_
  have fn : s.heap.get? f = none := by
    cases hg : s.heap.get? f with
    | none => rfl
    | some o =>
      have h0 := Heap.lt_size hg
      by_cases hfP : f = P
      · have := Heap.lt_size ht
        rw [← hfP, hf] at this; exact absurd this (Nat.lt_irrefl _)
      · have := Heap.lt_size (hx f o hfP hg)
        rw [hf] at this; exact absurd this (Nat.lt_irrefl _)
  have hfn : f ≠ nsA := fun z => by obtain ⟨o, _, _, g, _⟩ := x.bd; rw [← z, fn] at g; cases g
  refine h f c' ctv doc h3 _ (fun b o hb1 hb2 g => (sb3.2 b hb1).trans (Heap.get?_push_of_some _ (hx b o hb2 g))) fn (at_none hge') ((sb3.2 f hfn).trans (by rw [hof]; exact gf)) ?_ (x2.set sb3 b3)
  obtain ⟨c₂, o₂, vs₂, t₂, e₂, g₂, r₂⟩ := hrec
  have hcn : c₂ ≠ nsA := fun z => by
    obtain ⟨o, es, ep, g, cc, dd, _⟩ := x1.bd
    rw [z, g] at g₂; cases g₂; rw [dd] at r₂; cases r₂.1
  exact ⟨c₂, o₂, vs₂, t₂, e₂, (sb3.2 c₂ hcn).trans (Heap.get?_push_of_some _ g₂), r₂⟩
end
end Mine
end
section
open PySem PySem.W PySem.Calls PyProof.Rows
set_option maxRecDepth 100000
set_option maxHeartbeats 4000000
set_option linter.all false
namespace Mine
theorem slot_tga : Slot "type" "__getattribute__" "type.__getattribute__" := .of (owner := "type") (n := "__getattribute__") (by rw [typeLookup_type, builtinLookup_eq_fast]; kernel_rfl) (by decide +kernel) (by decide +kernel) (by decide +kernel)
    (by first | exact .inl (by decide +kernel) | exact .inr (by decide +kernel)) (by rw [isSubtype_type]; kernel_rfl)
theorem entry_tga : entryFor table "type.__getattribute__" = some Builtin.«type.__getattribute__» := entryFor_of_tree (by kernel_rfl)
theorem args_tga (a b : Value) : argsOk "type.__getattribute__" ⟨[a, b], []⟩ := by unfold argsOk; kernel_rfl
theorem entry_tp : entryFor table "type.__prepare__" = some Builtin.«type.__prepare__» := entryFor_of_tree (by kernel_rfl)
section
variable {prog : Program} {w : World} {W : Wd} {A : Around} {E : Value → Shared → Prop} {s : Shared}
theorem ga_prep {t : Tok} {Q : Fin → Shared → Prop} (hq : Q (.done (.ret (.ref s.heap.objs.size))) { s with heap := s.heap.push { cls := .type "builtin_function_or_method", data := .fields #[.builtin "type.__prepare__", .type "type"] } }) :
    wpAny (model prog w) A (Builtin.«type.__getattribute__» ⟨[.type "type", .str "__prepare__" t], []⟩) Q E s := by
  unfold Builtin.«type.__getattribute__»
  try wp_delta
  refine be (a := some "__prepare__") (by rfl) ?_
  try wp_delta
  refine be (a := none) (by kernel_rfl) ?_
  try wp_delta
  refine be (a := .type "type") (by kernel_rfl) ?_
  refine be (a := some (.builtin "type.__prepare__")) (by kernel_rfl) ?_
  try wp_delta
  refine be (a := some (.builtin "classmethod_descriptor.__get__")) (by kernel_rfl) ?_
  try wp_delta
  refine be (a := none) (by kernel_rfl) ?_
  try wp_delta
  refine wpAny_ite_false (by rfl) ?_
  refine be (a := none) (by kernel_rfl) ?_
  refine wpAny_bind (wpAny_pure ?_)
  try wp_delta
  refine wpAny_ite_false (by rfl) ?_
  try wp_delta
  refine be (a := some (.builtin "type.__prepare__")) (by kernel_rfl) ?_
  try wp_delta
  refine wpAny_ite_false (by kernel_rfl) ?_
  try wp_delta
  refine be (a := .type "classmethod_descriptor") (by kernel_rfl) ?_
  try wp_delta
  refine wpAny_ite_false (by rfl) ?_
  try wp_delta
  refine be (a := some (.builtin "classmethod_descriptor.__get__")) (by kernel_rfl) ?_
  try wp_delta
  refine wpAny_bind (wpAny_holding ?_)
  have hTd : s.TypeIs (.builtin "type.__prepare__") "classmethod_descriptor" := (by kernel_rfl : typeOf (.builtin "type.__prepare__") = pure (.type "classmethod_descriptor"))
  refine wpAny_call_entry slot_cmg hTd entry_cmg ?_ (args_cmg _ _ _)
  unfold Builtin.«classmethod_descriptor.__get__»
  refine be (a := (.builtin "type.__prepare__", none, some (.type "type"))) (by kernel_rfl) ?_
  try wp_delta
  refine wpAny_bind (wpAny_pure ?_)
  refine be (a := true) (by kernel_rfl) ?_
  try wp_delta
  refine wpAny_ite_false (by rfl) ?_
  try wp_delta
  refine be (a := true) (by kernel_rfl) ?_
  try wp_delta
  refine wpAny_ite_false (by rfl) ?_
  try wp_delta
  refine wpAny_bind ?_
  unfold newFields
  refine wpAny_newObj_type ?_ (by simp [sizeOk])
  refine wpAny_pure ⟨_, rfl, ?_⟩
  exact wpAny_pure hq

theorem attr_prep {Q : Option Value → Shared → Prop} (hq : Q (some (.ref s.heap.objs.size)) { s with heap := s.heap.push { cls := .type "builtin_function_or_method", data := .fields #[.builtin "type.__prepare__", .type "type"] }, toks := s.toks + 1 }) :
    wpAny (model prog w) A (getAttr? (.type "type") "__prepare__") Q E s := by
  unfold getAttr? getAttrBy?
  refine wpAny_bind (wpAny_mkText ?_)
  refine wpAny_bind (wpAny_attempt ?_)
  have hT : ({ s with toks := s.toks + 1 } : Shared).TypeIs (.type "type") "type" := (by kernel_rfl : typeOf (.type "type") = pure (.type "type"))
  unfold getAttrBy
  refine wpAny_holding ?_
  refine be (a := .type "type") (by kernel_rfl) ?_
  refine be (a := some (.builtin "type.__getattribute__")) (by kernel_rfl) ?_
  show wpAny _ _ (getAttrByItsOwn (.type "type") (.str "__prepare__" s.toks) (.type "type") (.builtin "type.__getattribute__") false false) _ _ _
  unfold getAttrByItsOwn hookBefore callGetattribute boundAndCalled
  refine be (a := none) (by rfl) ?_
  refine wpAny_bind (wpAny_attempt (wpAny_holding ?_))
  refine wpAny_ite_false (by rfl) ?_
  refine be (a := (.builtin "type.__getattribute__", [.type "type"])) (by kernel_rfl) ?_
  refine wpAny_mono (Q := fun v s' => v = .ref s.heap.objs.size ∧ s' = { s with heap := s.heap.push { cls := .type "builtin_function_or_method", data := .fields #[.builtin "type.__prepare__", .type "type"] }, toks := s.toks + 1 }) (E := fun _ _ => False)
    (wpAny_call_entry slot_tga hT entry_tga (ga_prep (s := { s with toks := s.toks + 1 }) ⟨_, rfl, rfl, rfl⟩) (args_tga _ _)) (fun v s' hv => ?_) fun _ _ z => z.elim
  obtain ⟨rfl, rfl⟩ := hv
  exact wpAny_pure (wpAny_pure hq)
theorem call_prep {b bT : Addr} {tk : Tok} {Q : Value → Shared → Prop} (hb : s.heap.get? b = some { cls := .type "builtin_function_or_method", data := .fields #[.builtin "type.__prepare__", .type "type"] })
    (hq : Q (.ref s.heap.objs.size) { s with heap := s.heap.push { cls := .type "dict", data := .dict #[] } }) : wpAny (model prog w) A (call (.ref b) [.str "K" tk, .ref bT]) Q E s := by
  refine wpAny_call (codeAny_of_tree ?_)
  show wpAny _ _ (callAny (.ref b) _) _ _ _
  unfold callAny
  refine wpAny_bind (wpAny_load hb ?_)
  dsimp only
  refine wpAny_ite_true (by rfl) ?_
  try wp_delta
  refine wpAny_ite_true (by rfl) ?_
  refine be (a := ()) (by kernel_rfl) ?_
  refine wpAny_pure ⟨Code.quiet_builtin _ (by decide +kernel), codeAny_builtin entry_tp ?_⟩
  unfold Builtin.«type.__prepare__»
  refine wpAny_bind ?_
  unfold newDict
  refine wpAny_newObj_type ?_ (by simp [sizeOk])
  exact wpAny_pure hq
end
end Mine
end
section
open PySem PySem.W PySem.Calls PyProof.Rows
set_option maxRecDepth 100000
set_option maxHeartbeats 4000000
set_option linter.all false
namespace Mine
theorem among_snoc {pos : Pos} {a : Int} {b : Int} {c : Value} (hne : a ≠ pos.line) (l : List Value) (h : TriplesOk l) (hn : codeAmong pos l = none) : codeAmong pos (l ++ [rawInt a, rawInt b, c]) = none := by
  fun_induction TriplesOk l with
  | case1 =>
    show (if (a == (pos.line : Int) && b == (pos.col : Int)) = true then some c else codeAmong pos []) = none
    rw [if_neg (by simp [hne])]; rfl
  | case2 x t y u z rest ih =>
    simp only [List.cons_append, codeAmong] at hn ⊢
    split at hn
    · cases hn
    · rename_i hc; rw [if_neg hc]; exact ih h hn
  | case3 l h1 h2 => exact h.elim
/-- codes of earlier rows -/
def Rows (ps : Array Value) (n : Nat) : Prop := TriplesOk ps.toList ∧ ∀ pos : Pos, n ≤ pos.line → codeAmong pos ps.toList = none
theorem Rows.nil (n : Nat) : Rows #[] n := ⟨trivial, fun _ _ => rfl⟩
theorem Rows.snoc {ps : Array Value} {n n' : Nat} {pos : Pos} {c : Value} (x : Rows ps n) (h : pos.line < n') (h0 : n ≤ n') : Rows (ps ++ #[rawInt pos.line, rawInt pos.col, c]) n' := by
  have e : (ps ++ #[rawInt pos.line, rawInt pos.col, c]).toList = ps.toList ++ [rawInt pos.line, rawInt pos.col, c] := by simp
  refine ⟨by rw [e]; exact TriplesOk_snoc _ _ _ _ x.1, fun q hq => ?_⟩
  rw [e]
  exact among_snoc (by omega) _ x.1 (x.2 q (by omega))

section
variable {prog : Program} {w : World} {W : Wd} {A : Around} {s : Shared}
abbrev up (m : Str → Option Value) (name : Str) (v : Value) : Str → Option Value := fun y => if y = name then some v else m y
/-- a function of the block -/
structure FnAt (h₀ h : Heap) (f : Addr) (mg : Str → Option Value) (name qual : Str) (args : Arguments) (body : List Stmt) (scope : Scope) (cl : List (Str × Addr)) : Prop where
  ex : ∃ c' ctv doc, h.get? f = some (kdv_obj name qual args (.stmts body) scope cl .none doc ((mg "__name__").getD .none) c' ctv) ∧ h.CodeRec (.ref c') qual ∧ h₀.get? f = none ∧ h₀.get? c' = none
theorem FnAt.keeps {h₀ h h' : Heap} {f : Addr} {mg : Str → Option Value} {name qual : Str} {args : Arguments} {body : List Stmt} {scope : Scope} {cl : List (Str × Addr)} (x : FnAt h₀ h f mg name qual args body scope cl) {nsA P : Addr}
    (hP : ∃ ps, h.get? P = some (tabObj ps) ∧ TriplesOk ps.toList) (hN : ∃ o es ep, h.get? nsA = some o ∧ o.data = .dict es ep) (k : ∀ b o, b ≠ nsA → b ≠ P → h.get? b = some o → h'.get? b = some o) : FnAt h₀ h' f mg name qual args body scope cl := by
  obtain ⟨c', ctv, doc, g, ⟨c₂, o₂, vs₂, t₂, e₂, g₂, r₂, r₃⟩, nf, nc⟩ := x
  obtain ⟨ps, gP, tr⟩ := hP
  obtain ⟨oN, es, ep, gN, dN⟩ := hN
  refine ⟨c', ctv, doc, k _ _ (fun z => ?_) (fun z => ?_) g, ⟨c₂, o₂, vs₂, t₂, e₂, k _ _ (fun z => ?_) (fun z => ?_) g₂, r₂, r₃⟩, nf, nc⟩
  · rw [z, gN] at g; cases g; cases dN
  · rw [z, gP] at g; cases g
  · rw [z, gN] at g₂; cases g₂; rw [dN] at r₂; cases r₂
  · rw [z, gP] at g₂; cases g₂
    have e := Data.fields.inj r₂
    rw [← e] at r₃
    rw [← Array.getElem?_toList] at r₃
    cases hl : ps.toList with
    | nil => rw [hl] at r₃; cases r₃
    | cons a l =>
      cases hl2 : l with
      | nil => rw [hl, hl2] at r₃; cases r₃
      | cons b l' =>
        rw [hl, hl2] at r₃ tr
        have r₃ : some b = some (Value.str qual t₂) := r₃
        cases r₃
        unfold TriplesOk at tr
        split at tr
        · rename_i e; cases e
        · rename_i e; cases e
        · exact tr

theorem block_def {h₀ : Heap} {env : Env} {nsA c P : Addr} {m mg : Str → Option Value} {ps : Array Value} {clos : List (Str × Addr)} {name : Str} {args : Arguments} {body : List Stmt} {scope : Scope} {pos : Pos} {rest : List Stmt} {n n' : Nat} {Q : Flow → Shared → Prop}
    (hbase : ∀ b o, h₀.get? b = some o → ∃ o', s.heap.get? b = some o') (x : Bks s.heap nsA c P m ps mg) (r : Rows ps n) (hn : n ≤ pos.line) (hn' : pos.line < n') (hcode : env.code = .ref c) (hge : env.globals = mainGlobals) (hl : env.locals = nsA) (hcl : closureFor scope env = pure clos)
    (hdef : defaultsOf args env = ([], [])) (hann : annTrees args none env = []) (hs : ∀ v, storeName env name v = localSet env name v)
    (h : ∀ f ps' h' tk, (∀ b o, b ≠ nsA → b ≠ P → s.heap.get? b = some o → h'.get? b = some o) → (∀ b o, h₀.get? b = some o → ∃ o', h'.get? b = some o') → s.heap.get? f = none → FnAt h₀ h' f mg name (qualnameIn env name name) args body scope clos →
      Bks h' nsA c P (up m name (.ref f)) ps' mg → Rows ps' n' → wpAny (model prog w) A (execs rest env) Q NoE { s with heap := h', toks := tk }) :
    wpAny (model prog w) A (execs (.FunctionDef name args body [] none [] scope none name pos :: rest) env) Q NoE s := by
  refine wpAny_execs_cons (def_cls x hcode hge hl (r.2 pos hn) hcl hdef hann hs fun f c' ctv doc h' tk k fn fc gf rec b => ?_)
  have back : ∀ a, s.heap.get? a = none → h₀.get? a = none := fun a ha => by
    cases hg : h₀.get? a with
    | none => rfl
    | some o => obtain ⟨o', g'⟩ := hbase a o hg; rw [ha] at g'; cases g'
  refine h f _ h' tk k (fun a o hg => ?_) fn ⟨c', ctv, doc, gf, rec, back _ fn, back _ fc⟩ b (r.snoc hn' (by omega))
  obtain ⟨o', g'⟩ := hbase a o hg
  by_cases h1 : a = nsA
  · obtain ⟨ob, _, _, gb, _⟩ := b.bd; exact ⟨ob, h1 ▸ gb⟩
  · by_cases h2 : a = P
    · exact ⟨_, h2 ▸ b.tab⟩
    · exact ⟨o', k a o' h1 h2 g'⟩
theorem Bks.tabs {h : Heap} {nsA c P : Addr} {m mg : Str → Option Value} {ps : Array Value} (x : Bks h nsA c P m ps mg) : ∃ ps, h.get? P = some (tabObj ps) ∧ TriplesOk ps.toList := ⟨ps, x.tab, x.tri⟩
theorem Bks.dct {h : Heap} {nsA c P : Addr} {m mg : Str → Option Value} {ps : Array Value} (x : Bks h nsA c P m ps mg) : ∃ o es ep, h.get? nsA = some o ∧ o.data = .dict es ep := let ⟨o, es, ep, g, _, d, _⟩ := x.bd; ⟨o, es, ep, g, d⟩
theorem Bks.tok {h : Heap} {nsA c P : Addr} {m mg : Str → Option Value} {ps : Array Value} (x : Bks h nsA c P m ps mg) {h' : Heap} (k : ∀ b o, h.get? b = some o → h'.get? b = some o) : Bks h' nsA c P m ps mg := x.grow (fun b o _ g => k b o g) (k _ _ x.tab) x.tri

/-- the block of the class: what it leaves -/
structure Left (h h' : Heap) (nsA P sl f1 f2 f3 f4 f5 f6 : Addr) : Prop where
  keep : ∀ b o, b ≠ nsA → b ≠ P → h.get? b = some o → h'.get? b = some o
  list : ∃ t, h'.get? sl = some { cls := .type "list", data := .seq #[.str "obj" t] }
  fns : ∀ f ∈ [f1, f2, f3, f4, f5, f6], ∃ o, h'.get? f = some o ∧ o.cls = .type "function"
  fresh : ∀ a ∈ [sl, f1, f2], h.get? a = none

set_option maxHeartbeats 8000000 in
theorem block_run {h₀ : Heap} {env : Env} {nsA c P : Addr} {m mg : Str → Option Value} {md : Str} {a1 a2 a3 a4 a5 a6 : Arguments} {b1 b2 b3 b4 b5 b6 : List Stmt} {s1 s2 s3 s4 s5 s6 : Scope} {p1 p2 p3 p4 p5 p6 q1 q2 q3 q4 q5 q6 q7 q8 q9 q10 : Pos} {n1 n2 n3 : Nat}
    {l1 l2 l3 l4 l5 l6 : List (Str × Addr)} {Q : Flow → Shared → Prop} (hbase : ∀ b o, h₀.get? b = some o → ∃ o', s.heap.get? b = some o') (x : Bks s.heap nsA c P m #[] mg) (hcode : env.code = .ref c) (hge : env.globals = mainGlobals) (hl : env.locals = nsA)
    (hst : ∀ n ∈ (["__module__", "__slots__", "__init__", "__lt__", "__gt__", "__eq__", "__le__", "__ge__", "__hash__"] : List Str), ∀ v, storeName env n v = localSet env n v)
    (hcl : closureFor s1 env = pure l1 ∧ closureFor s2 env = pure l2 ∧ closureFor s3 env = pure l3 ∧ closureFor s4 env = pure l4 ∧ closureFor s5 env = pure l5 ∧ closureFor s6 env = pure l6)
    (hdf : ∀ a ∈ [a1, a2, a3, a4, a5, a6], defaultsOf a env = ([], []) ∧ annTrees a none env = [])
    (hp : p1.line < p2.line ∧ p2.line < p3.line ∧ p3.line < p4.line ∧ p4.line < p5.line ∧ p5.line < p6.line)
    (h : ∀ sl f1 f2 f3 f4 f5 f6 tm ps h' tk, Left s.heap h' nsA P sl f1 f2 f3 f4 f5 f6 → FnAt h₀ h' f1 mg "__init__" (qualnameIn env "__init__" "__init__") a1 b1 s1 l1 → FnAt h₀ h' f2 mg "__lt__" (qualnameIn env "__lt__" "__lt__") a2 b2 s2 l2 →
      Bks h' nsA c P (up (up (up (up (up (up (up (up (up m "__module__" (.str md tm)) "__slots__" (.ref sl)) "__init__" (.ref f1)) "__lt__" (.ref f2)) "__gt__" (.ref f3)) "__eq__" (.ref f4)) "__le__" (.ref f5)) "__ge__" (.ref f6)) "__hash__" .none) ps mg → Q .next { s with heap := h', toks := tk })
    (sw1 : swapsWith (.Constant (.str md) n1 q2) (some (.Name "__module__" q1)) q3.line env = pure false := by rfl) (sw2 : swapsWith (.List [.Constant (.str "obj") n2 q5] q6) (some (.Name "__slots__" q4)) q7.line env = pure false := by rfl)
    (sw3 : swapsWith (.Constant .none n3 q9) (some (.Name "__hash__" q8)) q10.line env = pure false := by rfl) :
    wpAny (model prog w) A (execs [.Assign [.Name "__module__" q1] (.Constant (.str md) n1 q2) q3, .Assign [.Name "__slots__" q4] (.List [.Constant (.str "obj") n2 q5] q6) q7,
      .FunctionDef "__init__" a1 b1 [] none [] s1 none "__init__" p1, .FunctionDef "__lt__" a2 b2 [] none [] s2 none "__lt__" p2, .FunctionDef "__gt__" a3 b3 [] none [] s3 none "__gt__" p3,
      .FunctionDef "__eq__" a4 b4 [] none [] s4 none "__eq__" p4, .FunctionDef "__le__" a5 b5 [] none [] s5 none "__le__" p5, .FunctionDef "__ge__" a6 b6 [] none [] s6 none "__ge__" p6,
      .Assign [.Name "__hash__" q8] (.Constant .none n3 q9) q10] env) Q NoE s := by
  refine wpAny_execs_cons (wpAny_Assign_Name (wpAny_Constant_str ?_) sw1)
  refine store_cls (s := { s with toks := s.toks + 1 }) hl x.bd (hst _ (by simp) _) fun h1 bd1 sb1 => ?_
  have x1 := x.set sb1 bd1
  refine wpAny_execs_cons (wpAny_Assign_Name (wpAny_List (wpAny_items_cons (wpAny_Constant_str (wpAny_items_nil ⟨by simp; decide, ?_⟩)))) sw2)
  generalize hsl : h1.objs.size = sl
  generalize hol : ({ cls := .type "list", dict := none, data := .seq _ } : Obj) = ol
  have gsl : (h1.push ol).get? sl = some ol := by rw [← hsl]; exact Heap.get?_push_size _ (by rw [← hol]; rfl)
  have x1' : Bks (h1.push ol) nsA c P (up m "__module__" (.str md s.toks)) #[] mg := x1.tok fun b o g => Heap.get?_push_of_some _ g
  refine store_cls (s := { s with heap := h1.push ol, toks := s.toks + 1 + 1 + 1 }) hl x1'.bd (hst _ (by simp) _) fun h2 bd2 sb2 => ?_
  have x2 := x1'.set sb2 bd2
  have kp1 : ∀ b o, b ≠ nsA → s.heap.get? b = some o → (h1.push ol).get? b = some o := fun b o hb g => Heap.get?_push_of_some _ ((sb1.2 b hb).trans g)
  have fsl : s.heap.get? sl = none := by
    cases hg : s.heap.get? sl with
    | none => rfl
    | some o =>
      by_cases hn : sl = nsA
      · obtain ⟨o', _, _, g', _⟩ := bd1
        have := Heap.lt_size g'
        rw [← hn, hsl] at this; exact absurd this (Nat.lt_irrefl _)
      · have := Heap.lt_size ((sb1.2 sl hn).trans hg)
        rw [hsl] at this; exact absurd this (Nat.lt_irrefl _)
  have nsl : sl ≠ nsA := fun z => by obtain ⟨o', _, _, g', _⟩ := x.bd; rw [← z, fsl] at g'; cases g'
  have nslP : sl ≠ P := fun z => by have := x.tab; rw [← z, fsl] at this; cases this
  have gsl2 : h2.get? sl = some ol := (sb2.2 sl nsl).trans gsl
  have kp2 : ∀ b o, b ≠ nsA → b ≠ P → s.heap.get? b = some o → h2.get? b = some o := fun b o hb _ g => (sb2.2 b hb).trans (kp1 b o hb g)
  obtain ⟨c1, c2, c3, c4, c5, c6⟩ := hcl
  obtain ⟨o1, o2, o3, o4, o5⟩ := hp
  have D := fun a ha => hdf a ha
  have B2 : ∀ b o, h₀.get? b = some o → ∃ o', h2.get? b = some o' := fun a o hg => by
    obtain ⟨o', g'⟩ := hbase a o hg
    by_cases h1 : a = nsA
    · obtain ⟨ob, _, _, gb, _⟩ := bd2; exact ⟨ob, h1 ▸ gb⟩
    · by_cases h2 : a = P
      · exact ⟨_, h2 ▸ x2.tab⟩
      · exact ⟨o', kp2 a o' h1 h2 g'⟩
  refine block_def (s := { s with heap := h2, toks := s.toks + 1 + 1 + 1 + 1 }) (n := p1.line) (n' := p2.line) B2 x2 (Rows.nil _) (Nat.le_refl _) o1 hcode hge hl c1 (D a1 (by simp)).1 (D a1 (by simp)).2 (hst _ (by simp)) fun f1 ps1 h3 t3 k3 B3 n3' F1 x3 r3 => ?_
  refine block_def (s := { s with heap := h3, toks := t3 }) (n := p2.line) (n' := p3.line) B3 x3 r3 (Nat.le_refl _) o2 hcode hge hl c2 (D a2 (by simp)).1 (D a2 (by simp)).2 (hst _ (by simp)) fun f2 ps2 h4 t4 k4 B4 n4 F2 x4 r4 => ?_
  refine block_def (s := { s with heap := h4, toks := t4 }) (n := p3.line) (n' := p4.line) B4 x4 r4 (Nat.le_refl _) o3 hcode hge hl c3 (D a3 (by simp)).1 (D a3 (by simp)).2 (hst _ (by simp)) fun f3 ps3 h5 t5 k5 B5 n5 F3 x5 r5 => ?_
  refine block_def (s := { s with heap := h5, toks := t5 }) (n := p4.line) (n' := p5.line) B5 x5 r5 (Nat.le_refl _) o4 hcode hge hl c4 (D a4 (by simp)).1 (D a4 (by simp)).2 (hst _ (by simp)) fun f4 ps4 h6 t6 k6 B6 n6 F4 x6 r6 => ?_
  refine block_def (s := { s with heap := h6, toks := t6 }) (n := p5.line) (n' := p6.line) B6 x6 r6 (Nat.le_refl _) o5 hcode hge hl c5 (D a5 (by simp)).1 (D a5 (by simp)).2 (hst _ (by simp)) fun f5 ps5 h7 t7 k7 B7 n7 F5 x7 r7 => ?_
  refine block_def (s := { s with heap := h7, toks := t7 }) (n := p6.line) (n' := p6.line + 1) B7 x7 r7 (Nat.le_refl _) (Nat.lt_succ_self _) hcode hge hl c6 (D a6 (by simp)).1 (D a6 (by simp)).2 (hst _ (by simp)) fun f6 ps6 h8 t8 k8 B8 n8 F6 x8 r8 => ?_
  refine wpAny_execs_cons (wpAny_Assign_Name (wpAny_Constant_none ?_) sw3)
  refine store_cls (s := { s with heap := h8, toks := t8 }) hl x8.bd (hst _ (by simp) _) fun h9 bd9 sb9 => ?_
  have x9 := x8.set sb9 bd9
  refine wpAny_execs_nil ?_
  have k3 : ∀ b o, b ≠ nsA → b ≠ P → h2.get? b = some o → h3.get? b = some o := k3
  have k4 : ∀ b o, b ≠ nsA → b ≠ P → h3.get? b = some o → h4.get? b = some o := k4
  have k5 : ∀ b o, b ≠ nsA → b ≠ P → h4.get? b = some o → h5.get? b = some o := k5
  have k6 : ∀ b o, b ≠ nsA → b ≠ P → h5.get? b = some o → h6.get? b = some o := k6
  have k7 : ∀ b o, b ≠ nsA → b ≠ P → h6.get? b = some o → h7.get? b = some o := k7
  have k8 : ∀ b o, b ≠ nsA → b ≠ P → h7.get? b = some o → h8.get? b = some o := k8
  have k9 : ∀ b o, b ≠ nsA → b ≠ P → h8.get? b = some o → h9.get? b = some o := fun b o hb _ g => (sb9.2 b hb).trans g
  have k38 : ∀ b o, b ≠ nsA → b ≠ P → h3.get? b = some o → h9.get? b = some o := fun b o u v g => k9 b o u v (k8 b o u v (k7 b o u v (k6 b o u v (k5 b o u v (k4 b o u v g)))))
  have F1' := F1.keeps x3.tabs x3.dct k38
  have F2' := F2.keeps x4.tabs x4.dct fun b o u v g => k9 b o u v (k8 b o u v (k7 b o u v (k6 b o u v (k5 b o u v g))))
  have F3' := F3.keeps x5.tabs x5.dct fun b o u v g => k9 b o u v (k8 b o u v (k7 b o u v (k6 b o u v g)))
  have F4' := F4.keeps x6.tabs x6.dct fun b o u v g => k9 b o u v (k8 b o u v (k7 b o u v g))
  have F5' := F5.keeps x7.tabs x7.dct fun b o u v g => k9 b o u v (k8 b o u v g)
  have F6' := F6.keeps x8.tabs x8.dct k9
  have isf : ∀ {f : Addr} {nm ql : Str} {a : Arguments} {b : List Stmt} {sc : Scope} {cl : List (Str × Addr)}, FnAt h₀ h9 f mg nm ql a b sc cl → ∃ o, h9.get? f = some o ∧ o.cls = .type "function" := fun x => let ⟨_, _, _, g, _⟩ := x.ex; ⟨_, g, rfl⟩
  refine h sl f1 f2 f3 f4 f5 f6 s.toks ps6 h9 _ ⟨fun b o u v g => k38 b o u v (k3 b o u v (kp2 b o u v g)), ⟨s.toks + 1 + 1, ?_⟩, ?_, ?_⟩ F1' F2' x9
  · rw [k38 sl ol nsl nslP (k3 sl ol nsl nslP gsl2), ← hol]
  · intro f hf
    simp only [List.mem_cons, List.not_mem_nil, or_false] at hf
    rcases hf with rfl | rfl | rfl | rfl | rfl | rfl
    · exact isf F1'
    · exact isf F2'
    · exact isf F3'
    · exact isf F4'
    · exact isf F5'
    · exact isf F6'
  · intro a ha
    simp only [List.mem_cons, List.not_mem_nil, or_false] at ha
    have back : ∀ (a : Addr), h2.get? a = none → s.heap.get? a = none := fun a ha => by
      cases hg : s.heap.get? a with
      | none => rfl
      | some o =>
        by_cases hn : a = nsA
        · obtain ⟨o', _, _, g', _⟩ := bd2; rw [hn, g'] at ha; cases ha
        · by_cases hP : a = P
          · have := x2.tab; rw [hP, this] at ha; cases ha
          · rw [kp2 a o hn hP hg] at ha; cases ha
    rcases ha with rfl | rfl | rfl
    · exact fsl
    · exact back _ n3'
    · refine back _ ?_
      cases hg : h2.get? a with
      | none => rfl
      | some o =>
        have n4 : h3.get? a = none := n4
        by_cases hn : a = nsA
        · obtain ⟨o', _, _, g', _⟩ := x3.bd; rw [hn, g'] at n4; cases n4
        · by_cases hP : a = P
          · have := x3.tab; rw [hP, this] at n4; cases n4
          · rw [k3 a o hn hP hg] at n4; cases n4
end
end Mine
end
section
open PySem PySem.W PySem.Calls PyProof.Rows
set_option maxRecDepth 100000
set_option maxHeartbeats 4000000
set_option linter.all false
namespace Mine
section
variable {prog : Program} {w : World} {W : Wd} {A : Around} {E : Value → Shared → Prop} {s : Shared}
theorem load_cls_name {env : Env} {nsA : Addr} {m mg : Str → Option Value} {v : Value} {Q : Value → Shared → Prop} (hk : env.scope.kind = .class) (hn : env.kindOf "__name__" = none) (hl : env.locals = nsA) (hbd : Bd s.heap nsA m) (hm : m "__name__" = none)
    (hge : env.globals = mainGlobals) (hg : s.heap.Ns mainGlobals mg) (hv : mg "__name__" = some v) (h : Q v s) : wpAny (model prog w) A (loadName env "__name__") Q E s := by
  have hb : env.blockKind = .class := by unfold Env.blockKind; rw [hk]; rfl
  unfold loadName
  rw [hk, hb, hn]
  try wp_delta
  refine wpAny_ite_false (by rfl) ?_
  try wp_delta
  refine wpAny_ite_false (by kernel_rfl) ?_
  try wp_delta
  refine wpAny_bind ?_
  unfold localGet
  rw [hl]
  obtain ⟨o, es, ep, ho, hc, _⟩ := id hbd
  refine wpAny_bind (wpAny_load ho ?_)
  refine wpAny_ite_true (by rw [hc]; rfl) ?_
  refine wpAny_nsGet hbd.ns1.ns ?_
  rw [hm]
  try wp_delta
  unfold loadGlobal
  rw [hge]
  refine wpAny_bind (ns_get hg (hv) ?_)
  exact wpAny_pure h
/-- the run of a block of a class -/
theorem run_body {env : Env} {body : List Stmt} {Q : Flow → Shared → Prop} (hb : blockStart body env = pure ()) (h : wpAny (model prog w) (A.under (.body body env)) (execs body env) Q NoE s) : wpAny (model prog w) A (run (.body body env)) Q NoE s := by
  refine wpAny_run (codeAny_of_tree ?_)
  show wpAny _ _ (do blockStart body env; return Fin.done (← (execs body env).onRaise (leaving env))) _ _ _
  refine be hb ?_
  refine wpAny_bind (wpAny_onRaise (wpAny_mono h (fun f s' hf => ?_) fun _ _ z => z.elim))
  exact wpAny_pure hf
end
end Mine
end
section
open PySem PySem.W PySem.Calls PyProof.Rows
set_option maxRecDepth 100000
set_option maxHeartbeats 4000000
set_option linter.all false
namespace Mine
section
variable {prog : Program} {w : World} {W : Wd} {off : List Addr} {tb : Tb} {k : Nat}
abbrev keyNames : List Str := ["__doc__", "obj", "__module__", "__firstlineno__", "__slots__", "__init__", "__lt__", "__gt__", "__eq__", "__le__", "__ge__", "__hash__", "__static_attributes__"]
/-- the class of keys, as it stands when it is made -/
structure KeyMade (h h' : Heap) (P C N p f1 f2 : Addr) (mg : Str → Option Value) (q1 q2 : Str) (a1 a2 : Arguments) (b1 b2 : List Stmt) (s1 s2 : Scope) (l1 l2 : List (Str × Addr)) : Prop where
  cls : ∃ bT tk tq, h'.get? C = some (clsObj C N bT tk tq)
  names : ∃ m, h'.Ns1 N m ∧ m "__init__" = some (.ref f1) ∧ m "__lt__" = some (.ref f2) ∧ m "obj" = some (.ref p) ∧ ∀ x, x ∉ keyNames → m x = none
  mem : ∃ t, h'.get? p = some (memObj C t)
  fi : FnAt h h' f1 mg "__init__" q1 a1 b1 s1 l1
  fl : FnAt h h' f2 mg "__lt__" q2 a2 b2 s2 l2
  keep : ∀ b o, b ≠ P → h.get? b = some o → h'.get? b = some o
  tab : ∃ ps, h'.get? P = some (tabObj ps) ∧ TriplesOk ps.toList
  new : h.get? C = none ∧ h.get? N = none ∧ h.get? p = none
theorem opaque_none {prog : Program} {w : World} {h : Heap} {a : Addr} {mS : Str → Option Value} (hc : h.Ns cStatics mS) (hm : mS "thirdparty.any" = none) : Looks (model prog w) h (opaqueClassAbove (.ref a)) none := by
  intro A Q E s k hq
  unfold opaqueClassAbove
  try wp_delta
  refine wpAny_bind ?_
  unfold anyOpaqueLoaded
  refine wpAny_bind (ns_get (hc.keeps k) (hm) ?_)
  refine wpAny_pure ?_
  refine wpAny_ite_true (by rfl) ?_
  exact wpAny_pure hq
theorem ite_some {x n : Str} {v u : Value} {z : Option Value} (h : (if x = n then some v else z) = some u) : u = v ∨ z = some u := by
  split at h
  · exact .inl (Option.some.inj h).symm
  · exact .inr h
theorem up_some {m : Str → Option Value} {n x : Str} {v u : Value} (h : up m n v x = some u) : u = v ∨ m x = some u := by
  unfold up at h
  split at h
  · exact .inl (Option.some.inj h).symm
  · exact .inr h
theorem pl_val {s : Shared} {v : Value} {T : String} (h0 : ∀ id, v ≠ .builtin id) (h1 : s.TypeIs v T) (h2 : typeLookup (.type T) "__set_name__" = pure none) : Pl s v := ⟨h0, T, h1, h2⟩
set_option maxHeartbeats 16000000 in
theorem build_class {A : Around} {X : List Addr} {s : Shared} {env : Env} {c P : Addr} {pos : Pos} {body : List Stmt} {scope : Scope} {statics : List Str} {qual : Str} {fl : Nat} {Q : Value → Shared → Prop} {cl : List (Str × Addr)}
    (hO : Ok (K1 W) off tb X s) (G : Globs (K1 W) off (mg1 W) (mb1 W)) (hg : env.globals = mainGlobals) (hbl : env.builtins = builtinsNs) (hcode : env.code = .ref c) (C : CodeHd s.heap c P) (hP : s.heap.get? P = some (tabObj #[]))
    (hsc1 : scope.names.lookup ("__class__" : Str) = none) (hsc2 : scope.names.lookup ("__classdict__" : Str) = none) (hcl : closureFor scope env = pure cl) (hd : A.depth < recursionLimit) (hsys : s.heap.get? sysModules ≠ none) (hB : s.heap.BuiltinsAt (mg1 W) P) (hPt : P ≠ mainGlobals) (hPc : P ≠ cStatics) (hck : scope.kind = .class) (hkn : scope.names.lookup ("__name__" : Str) = none)
    (hst : ∀ (cenv : Env), cenv.scope = scope → ∀ n ∈ (["__module__", "__qualname__", "__firstlineno__", "__static_attributes__"] : List Str), ∀ v, storeName cenv n v = localSet cenv n v)
    {a1 a2 : Arguments} {b1 b2 : List Stmt} {s1 s2 : Scope} {l1 l2 : List (Str × Addr)} {q1 q2 md : Str}
    (hbs : ∀ cenv : Env, cenv.scope = scope → blockStart body cenv = pure ())
    (hbody : ∀ (cenv : Env) (nsA c' P' : Addr) (A' : Around) (s' : Shared) (m : Str → Option Value) (Q' : Flow → Shared → Prop), cenv.scope = scope → cenv.locals = nsA → cenv.globals = mainGlobals → cenv.cells = cl → cenv.qual = qual ++ Str.ofString "." → cenv.code = .ref c' → (∀ b o, s.heap.get? b = some o → ∃ o', s'.heap.get? b = some o') → Bks s'.heap nsA c' P' m #[] (mg1 W) →
      (∀ sl f1 f2 f3 f4 f5 f6 tm ps h' tk, Left s'.heap h' nsA P' sl f1 f2 f3 f4 f5 f6 → FnAt s.heap h' f1 (mg1 W) "__init__" q1 a1 b1 s1 l1 → FnAt s.heap h' f2 (mg1 W) "__lt__" q2 a2 b2 s2 l2 →
        Bks h' nsA c' P' (up (up (up (up (up (up (up (up (up m "__module__" (.str md tm)) "__slots__" (.ref sl)) "__init__" (.ref f1)) "__lt__" (.ref f2)) "__gt__" (.ref f3)) "__eq__" (.ref f4)) "__le__" (.ref f5)) "__ge__" (.ref f6)) "__hash__" .none) ps (mg1 W) → Q' .next { s' with heap := h', toks := tk }) →
      wpAny (model prog w) A' (execs body cenv) Q' NoE s')
    (hqual : qual = "cmp_to_key.<locals>.K") {mS : Str → Option Value} (hcs : s.heap.Ns cStatics mS) (hcm : mS "thirdparty.any" = none) (hnt : ∃ tt x, mg1 W "__name__" = some (.str x tt))
    (hQ : ∀ C N p f1 f2 h' t', KeyMade s.heap h' P C N p f1 f2 (mg1 W) q1 q2 a1 a2 b1 b2 s1 s2 l1 l2 → Q (.ref C) { s with heap := h', toks := t' }) :
    wpAny (model prog w) A (buildClass "K" qual [.type "object"] [] body scope statics fl env pos none) Q NoE s := by
  obtain ⟨gg, _, nol⟩ := hO.globs G
  obtain ⟨bm, ob, hbm, hne0, hneG, hneP, hbo, hcls, hdict, hdata⟩ := id hB
  obtain ⟨mainO, _, _, mainG, _⟩ := id gg
  obtain ⟨tt, nx, hnv⟩ := hnt
  unfold buildClass
  refine wpAny_bind ?_
  unfold newTuple
  refine wpAny_newObj_type ?_ (by simp [sizeOk]; decide)
  generalize hbT : s.heap.objs.size = bT
  generalize hobT : ({ cls := .type "tuple", dict := none, data := .seq _ } : Obj) = obT
  try wp_delta
  refine be (a := ([.type "object"], false)) (by kernel_rfl) ?_
  try wp_delta
  refine be (a := .type "type") (by kernel_rfl) ?_
  try wp_delta
  refine be (a := true) (by kernel_rfl) ?_
  try wp_delta
  refine wpAny_ite_true (by rfl) ?_
  try wp_delta
  refine be (a := .type "type") (by kernel_rfl) ?_
  try wp_delta
  refine wpAny_bind (wpAny_mkText ?_)
  try wp_delta
  refine wpAny_ite_false (by rfl) ?_
  refine wpAny_bind (wpAny_pure ?_)
  try wp_delta
  refine wpAny_holding ?_
  refine wpAny_bind (attr_prep ?_)
  try wp_delta
  have gB : ((s.heap.push obT).push { cls := .type "builtin_function_or_method", data := .fields #[.builtin "type.__prepare__", .type "type"] }).get? (s.heap.push obT).objs.size = some { cls := .type "builtin_function_or_method", data := .fields #[.builtin "type.__prepare__", .type "type"] } := Heap.get?_push_size _ rfl
  refine wpAny_bind (call_prep gB ?_)
  generalize hh2 : (s.heap.push obT).push { cls := .type "builtin_function_or_method", data := .fields #[.builtin "type.__prepare__", .type "type"] } = h2
  generalize hns : h2.objs.size = nsA
  generalize hh3 : h2.push { cls := .type "dict", data := .dict #[] } = h3
  have k3 : ∀ b o, s.heap.get? b = some o → h3.get? b = some o := fun b o g => by
    rw [← hh3, ← hh2]; exact Heap.get?_push_of_some _ (Heap.get?_push_of_some _ (Heap.get?_push_of_some _ g))
  have gN3 : h3.get? nsA = some { cls := .type "dict", data := .dict #[] } := by rw [← hh3, ← hns]; exact Heap.get?_push_size _ rfl
  have bd3 : Bd h3 nsA (fun _ => none) := ⟨_, #[], 0, gN3, rfl, rfl, fun e he => by simp at he, .nil, fun _ => rfl⟩
  have gT3 : h3.get? bT = some obT := by
    rw [← hh3, ← hh2, ← hbT]; exact Heap.get?_push_of_some _ (Heap.get?_push_of_some _ (Heap.get?_push_size _ (by rw [← hobT]; rfl)))
  have fN : s.heap.get? nsA = none := by
    cases hg' : s.heap.get? nsA with
    | none => rfl
    | some o =>
      have : h2.get? nsA = some o := by rw [← hh2]; exact Heap.get?_push_of_some _ (Heap.get?_push_of_some _ hg')
      have := Heap.lt_size this
      rw [hns] at this; exact absurd this (Nat.lt_irrefl _)
  try wp_delta
  have hsy : (nsA == sysModules) = false := by
    have : nsA ≠ sysModules := fun z => hsys (z ▸ fN)
    simpa using this
  refine wpAny_bind ?_
  unfold notTheModulesDict
  refine wpAny_ite_false (by simp [hsy]) ?_
  refine wpAny_pure ?_
  refine wpAny_bind (wpAny_specialOf (Bd.typeIs (s := { s with heap := h3, toks := s.toks + 1 + 1 }) bd3) (r := some (.builtin "dict.__getitem__")) (by kernel_rfl) ?_)
  try wp_delta
  refine wpAny_ite_false (by rfl) ?_
  try wp_delta
  refine wpAny_holding ?_
  try wp_delta
  refine wpAny_ite_false (by rw [hsc1]; rfl) ?_
  refine wpAny_bind (wpAny_pure ?_)
  try wp_delta
  refine wpAny_ite_false (by rw [hsc2]; rfl) ?_
  refine wpAny_bind (wpAny_pure ?_)
  try wp_delta
  have C3 : CodeHd h3 c P := C.keeps k3
  have gP3 := k3 _ _ hP
  refine wpAny_bind (class_code (s := { s with heap := h3, toks := s.toks + 1 + 1 }) hcode C3 gP3 fun c' P' h4 tk4 x4 fc' fP' C4 gP4' gP4 rec4 => ?_)
  have fc' : h3.get? c' = none := fc'
  have fP' : h3.get? P' = none := fP'
  have x4 : Heap.ExtBut P h3 h4 := x4
  have gg4 : h4.Ns mainGlobals (mg1 W) := (gg.keeps k3).extBut x4 (Ne.symm hPt)
  refine wpAny_bind (wpAny_builtinsFor (s := { s with heap := h4, toks := tk4 }) (by rw [hg]; exact gg4) hbm hne0 (x4 _ _ hneP (k3 _ _ hbo)) hcls hdict hdata ?_)
  refine wpAny_bind ?_
  unfold newBodyFrame
  refine wpAny_bind (wpAny_nsGet (s := { s with heap := h4, toks := tk4 }) (by rw [hg]; exact gg4) ?_)
  refine wpAny_alloc ?_
  refine be hcl ?_
  generalize hof : ({ cls := .type "frame", slots := _ } : Obj) = ofr
  generalize hh5 : h4.push ofr = h5
  have k5 : ∀ b o, h4.get? b = some o → h5.get? b = some o := fun b o g => by rw [← hh5]; exact Heap.get?_push_of_some _ g
  try wp_delta
  refine wpAny_holding ?_
  refine wpAny_bind (wpAny_enterFrame ?_ hd ?_)
  · obtain ⟨mc, hns', hnone⟩ := nol
    exact ⟨mc, (((hns'.keeps k3).extBut x4 (Ne.symm hPc)).keeps k5), hnone⟩
  generalize hce : ({ scope := scope, locals := nsA, globals := env.globals, cells := _, qual := qual ++ Str.ofString ".", code := Value.ref c', frame := _, builtins := builtinsNs } : Env) = cenv
  have ce1 : cenv.scope = scope := by rw [← hce]
  have ce2 : cenv.locals = nsA := by rw [← hce]
  have ce3 : cenv.globals = mainGlobals := by rw [← hce]; exact hg
  have ce4 : cenv.cells = cl := by rw [← hce]; simp
  have ce5 : cenv.qual = qual ++ Str.ofString "." := by rw [← hce]
  have ce6 : cenv.code = .ref c' := by rw [← hce]
  have ce7 : cenv.builtins = builtinsNs := by rw [← hce]
  clear hce
  have nN : ∀ b o, s.heap.get? b = some o → nsA ≠ b := fun b o g z => by rw [← z, fN] at g; cases g
  have fcN : c' ≠ nsA := fun z => by rw [z, gN3] at fc'; cases fc'
  have fPN : P' ≠ nsA := fun z => by rw [z, gN3] at fP'; cases fP'
  have hPN : P ≠ nsA := Ne.symm (nN _ _ hP)
  have bd5 : Bd h5 nsA (fun _ => none) := (bd3.at fun o g => x4 _ _ (Ne.symm hPN) g).at fun o g => k5 _ _ g
  have hneP' : bm ≠ P' := fun z => by rw [← z, k3 _ _ hbo] at fP'; cases fP'
  have hgP' : mainGlobals ≠ P' := fun z => by rw [← z, k3 _ _ mainG] at fP'; cases fP'
  have x5 : Bks h5 nsA c' P' (fun _ => none) #[] (mg1 W) := by
    refine ⟨bd5, C4.keeps k5, k5 _ _ gP4', trivial, gg4.keeps k5, ⟨bm, ob, hbm, hne0, hneG, hneP', k5 _ _ (x4 _ _ hneP (k3 _ _ hbo)), hcls, hdict, hdata⟩, hgP', Ne.symm fPN, Ne.symm fcN, nN _ _ mainG, fun b hb' => ?_⟩
    rw [hbm] at hb'; cases hb'; exact nN _ _ hbo
  refine wpAny_bind (wpAny_onRaise ?_)
  refine wpAny_bind (load_cls_name (by rw [ce1]; exact hck) (by show cenv.scope.names.lookup _ = none; rw [ce1]; exact hkn) ce2 bd5 rfl ce3 x5.glob hnv ?_)
  refine wpAny_bind (store_cls ce2 bd5 (hst cenv ce1 _ (by simp) _) fun h6 bd6 sb6 => ?_)
  have x6 := x5.set sb6 bd6
  refine wpAny_bind (wpAny_mkText ?_)
  refine wpAny_bind (store_cls ce2 bd6 (hst cenv ce1 _ (by simp) _) fun h7 bd7 sb7 => ?_)
  have x7 := x6.set sb7 bd7
  refine wpAny_bind (wpAny_mkInt ?_)
  refine wpAny_bind (store_cls ce2 bd7 (hst cenv ce1 _ (by simp) _) fun h8 bd8 sb8 => ?_)
  have x8 := x7.set sb8 bd8
  refine wpAny_pure ?_
  try wp_delta
  have hbase8 : ∀ b o, s.heap.get? b = some o → ∃ o', h8.get? b = some o' := fun b o g => by
    have u : b ≠ nsA := Ne.symm (nN b o g)
    by_cases z : b = P
    · obtain ⟨psP, gP, _⟩ := gP4
      exact ⟨_, (sb8.2 b u).trans ((sb7.2 b u).trans ((sb6.2 b u).trans (k5 b _ (z ▸ gP))))⟩
    · exact ⟨o, (sb8.2 b u).trans ((sb7.2 b u).trans ((sb6.2 b u).trans (k5 b _ (x4 b o z (k3 b o g)))))⟩
  refine wpAny_bind (run_body (hbs _ ce1) (hbody cenv nsA c' P' _ _ _ _ ce1 ce2 ce3 ce4 ce5 ce6 hbase8 x8 fun sl f1 f2 f3 f4 f5 f6 tm ps h9 t9 L9 F1 F2 x9 => ?_))
  refine wpAny_bind (wpAny_onRaise ?_)
  refine wpAny_bind (wpAny_mkStrs fun vs => ?_)
  refine wpAny_bind (wpAny_newTextTuple ?_)
  generalize hst' : h9.objs.size = sT
  generalize hoT : ({ cls := .type "tuple", dict := none, data := .seq vs.toArray } : Obj) = oT
  have x10 : Bks (h9.push oT) nsA c' P' _ ps (mg1 W) := x9.tok fun b o g => Heap.get?_push_of_some _ g
  refine wpAny_bind (store_cls ce2 x10.bd (hst cenv ce1 _ (by simp) _) fun h11 bd11 sb11 => ?_)
  try wp_delta
  refine wpAny_pure ?_
  try wp_delta
  have chain : ∀ b o, b ≠ nsA → b ≠ P' → h5.get? b = some o → h11.get? b = some o := fun b o u v g =>
    (sb11.2 b u).trans (Heap.get?_push_of_some _ (L9.keep b o u v ((sb8.2 b u).trans ((sb7.2 b u).trans ((sb6.2 b u).trans g)))))
  have chain3 : ∀ b o, b ≠ nsA → b ≠ P' → b ≠ P → h3.get? b = some o → h11.get? b = some o := fun b o u v z g => chain b o u v (k5 b o (x4 b o z g))
  have nP' : ∀ b o, s.heap.get? b = some o → b ≠ P' := fun b o g z => by rw [← z, k3 _ _ g] at fP'; cases fP'
  have chainS : ∀ b o, b ≠ P → s.heap.get? b = some o → h11.get? b = some o := fun b o z g => chain3 b o (Ne.symm (nN b o g)) (nP' b o g) z (k3 b o g)
  have gT11 : h11.get? bT = some obT := chain3 bT obT (fun z => by rw [z, gN3] at gT3; rw [← hobT] at gT3; simp at gT3) (fun z => by rw [z] at gT3; rw [fP'] at gT3; cases gT3) (fun z => by
    have := Heap.lt_size hP; rw [← z, hbT] at this; exact Nat.lt_irrefl _ this) gT3
  refine wpAny_ite_false (by rfl) ?_
  try wp_delta
  obtain ⟨tsl, gsl⟩ := L9.list
  have nsl : sl ≠ nsA := fun z => by obtain ⟨o', _, _, g', c', _⟩ := x9.bd; rw [z, g'] at gsl; cases gsl; simp at c'
  have gsl11 := (sb11.2 sl nsl).trans (Heap.get?_push_of_some _ gsl)
  have gsT : (h9.push oT).get? sT = some oT := by rw [← hst']; exact Heap.get?_push_size _ (by rw [← hoT]; rfl)
  have nsT : sT ≠ nsA := fun z => by
    obtain ⟨o', _, _, g', _⟩ := x9.bd
    have := Heap.lt_size g'
    rw [← z, hst'] at this; exact Nat.lt_irrefl _ this
  have gsT11 := (sb11.2 sT nsT).trans gsT
  have fnT : ∀ f ∈ [f1, f2, f3, f4, f5, f6], ∃ o, h11.get? f = some o ∧ o.cls = .type "function" := fun f hf => by
    obtain ⟨o, g, c⟩ := L9.fns f hf
    refine ⟨o, (sb11.2 f fun z => ?_).trans (Heap.get?_push_of_some _ g), c⟩
    obtain ⟨o', _, _, g', c', _⟩ := x9.bd
    rw [z, g'] at g; cases g; rw [c] at c'; simp at c'
  subst hqual
  have x11 := x10.set sb11 bd11
  refine wpAny_bind (call_type3 (s := { s with heap := h11, toks := _ }) (tq := _) (gT11.trans (by rw [← hobT])) bd11.ns1 (Bd.typeIs (s := { s with heap := h11, toks := _ }) bd11) hsy ⟨⟨_, rfl⟩, rfl, rfl, ⟨_, rfl⟩, ⟨_, rfl⟩, ?_⟩ gsl11 rfl rfl (by within_ways) (by decide) ?_ ?_ fun a ns p h12 t12 M => ?_)
  · exact List.forall_mem_cons.mpr ⟨rfl, List.forall_mem_cons.mpr ⟨rfl, List.forall_mem_cons.mpr ⟨rfl, List.forall_mem_cons.mpr ⟨rfl, List.forall_mem_cons.mpr ⟨rfl, List.forall_mem_cons.mpr ⟨rfl, List.forall_mem_cons.mpr ⟨rfl, List.forall_mem_cons.mpr ⟨rfl, fun _ h => nomatch h⟩⟩⟩⟩⟩⟩⟩⟩
  · intro x v hv
    have pf : ∀ (tk : Nat) (f : Addr), f ∈ [f1, f2, f3, f4, f5, f6] → Pl { s with heap := h11, toks := tk } (.ref f) := fun tk f hf => let ⟨o, g, c⟩ := fnT f hf; pl_val (fun _ z => by cases z) (T := "function") ⟨o, g, c⟩ (by kernel_rfl)
    have ps' : ∀ (tk : Nat) z tz, Pl { s with heap := h11, toks := tk } (.str z tz) := fun tk z tz => pl_val (fun _ z => by cases z) (T := "str") (typeIs_str _ _ _) (by kernel_rfl)
    rcases ite_some hv with rfl | hv
    · exact pl_val (fun _ z => by cases z) (T := "tuple") ⟨_, gsT11, by rw [← hoT]⟩ (by kernel_rfl)
    rcases ite_some hv with rfl | hv
    · exact pl_val (fun _ z => by cases z) (T := "NoneType") (by kernel_rfl : typeOf .none = pure (.type "NoneType")) (by kernel_rfl)
    rcases ite_some hv with rfl | hv
    · exact pf _ _ (by simp)
    rcases ite_some hv with rfl | hv
    · exact pf _ _ (by simp)
    rcases ite_some hv with rfl | hv
    · exact pf _ _ (by simp)
    rcases ite_some hv with rfl | hv
    · exact pf _ _ (by simp)
    rcases ite_some hv with rfl | hv
    · exact pf _ _ (by simp)
    rcases ite_some hv with rfl | hv
    · exact pf _ _ (by simp)
    rcases ite_some hv with rfl | hv
    · exact pl_val (fun _ z => by cases z) (T := "list") ⟨_, gsl11, rfl⟩ (by kernel_rfl)
    rcases ite_some hv with rfl | hv
    · exact ps' _ _ _
    rcases ite_some hv with rfl | hv
    · exact pl_val (fun _ z => by cases z) (T := "int") (typeIs_int _ _ _) (by kernel_rfl)
    rcases ite_some hv with rfl | hv
    · exact ps' _ _ _
    rcases ite_some hv with rfl | hv
    · exact ps' _ _ _
    · cases hv
  · intro h' a k
    obtain ⟨oS, esS, epS, gS, rS⟩ := id hcs
    exact opaque_none (mS := mS) ⟨oS, esS, epS, k _ _ (chainS _ _ (Ne.symm hPc) gS), rS⟩ hcm
  · try wp_delta
    obtain ⟨psP, gP4, tP4⟩ := gP4
    have alive : ∀ b o, s.heap.get? b = some o → ∃ o', h11.get? b = some o' := fun b o g => by
      by_cases z : b = P
      · exact ⟨_, z ▸ chain P _ hPN (nP' _ _ hP) (k5 _ _ gP4)⟩
      · exact ⟨o, chainS b o z g⟩
    have back : ∀ b, h11.get? b = none → s.heap.get? b = none := fun b hb => by
      cases hg : s.heap.get? b with
      | none => rfl
      | some o => obtain ⟨o', g'⟩ := alive b o hg; rw [hb] at g'; cases g'
    refine wpAny_pure (hQ a ns p f1 f2 h12 t12 ⟨⟨bT, M.cls⟩, ⟨_, M.names, rfl, rfl, rfl, fun x hx => ?_⟩, M.mem, F1.keeps x9.tabs x9.dct fun b o u _ g => M.keep b o ((sb11.2 b u).trans (Heap.get?_push_of_some _ g)),
      F2.keeps x9.tabs x9.dct fun b o u _ g => M.keep b o ((sb11.2 b u).trans (Heap.get?_push_of_some _ g)), fun b o z g => M.keep b o (chainS b o z g), ⟨psP, M.keep _ _ (chain P _ hPN (nP' _ _ hP) (k5 _ _ gP4)), tP4⟩, ⟨back _ M.new.1, back _ M.new.2.1, back _ M.new.2.2⟩⟩)
    simp only [keyNames, List.mem_cons, List.not_mem_nil, or_false, not_or] at hx
    obtain ⟨e1, e2, e3, e4, e5, e6, e7, e8, e9, e10, e11, e12, e13⟩ := hx
    dsimp only [up]
    rw [if_neg e1, if_neg e2]
    by_cases e14 : x = Str.ofString "__qualname__"
    · rw [if_pos e14]
    · rw [if_neg e14, if_neg e13, if_neg e12, if_neg e11, if_neg e10, if_neg e9, if_neg e8, if_neg e7, if_neg e6, if_neg e5, if_neg e3, if_neg e4, if_neg e14, if_neg e3]
end
end Mine
end
section
open PySem PySem.W PySem.Calls PyProof.Rows
set_option maxRecDepth 100000
set_option maxHeartbeats 16000000
set_option linter.all false
namespace Mine
section
variable {prog : Program} {w : World} {W : Wd} {off : List Addr} {tb : Tb} {k : Nat}
/-- class K(object): .. in the block of a def -/
theorem class_stmt {A : Around} {X : List Addr} {s : Shared} {env : Env} {ρ : Rho} {bp pos : Pos} {body : List Stmt} {scope : Scope} {x1 : Option Scope} {statics : List Str} {Q : Flow → Shared → Prop}
    (hO : Ok (K1 W) off tb X s) (hE : EnvOk tb X env ρ s) (G : Globs (K1 W) off (mg1 W) (mb1 W)) (hkx : env.kindOf "object" = some .globalImplicit)
    (h : ∀ (Q' : Value → Shared → Prop), (∀ C s', wpAny (model prog w) A (storeName env "K" (.ref C)) (fun _ s'' => Q .next s'') NoE s' → Q' (.ref C) s') → wpAny (model prog w) A (buildClass "K" (qualnameIn env "K" "K") [.type "object"] [] body scope statics (firstLineOf [] pos) env pos none) Q' NoE s) :
    wpAny (model prog w) A (exec (.ClassDef "K" [.Name "object" bp] [] body [] [] scope x1 "K" statics pos) env) Q NoE s := by
  rw [arm_exec_ClassDef]
  refine be (a := []) (by rfl) ?_
  refine wpAny_bind (wpAny_standAt ?_)
  refine wpAny_bind ?_
  unfold buildClassGuard
  refine wpAny_bind (ns_get (by rw [hE.builtins]; exact (hO.globs G).2.1) (show mb1 W "__build_class__" = some (.builtin "__build_class__") from W.bBuild) ?_)
  refine wpAny_pure ?_
  refine wpAny_bind (wpAny_holding ?_)
  refine wpAny_bind ?_
  unfold evalArgs
  show wpAny _ _ (spliced [(false, eval (.Name "object" bp) env)] >>= _) _ _ _
  refine wpAny_bind (spliced_cons (load_builtin (v := .type "object") G hO hE rfl W.bObject hkx (by decide) (spliced_nil ?_)))
  refine wpAny_bind (wpAny_pure ?_)
  try wp_delta
  refine wpAny_holding ?_
  try wp_delta
  refine wpAny_ite_true (by rfl) ?_
  refine be (a := []) (by rfl) ?_
  refine wpAny_bind (wpAny_pure ?_)
  refine wpAny_pure ?_
  refine wpAny_bind (wpAny_standAt (wpAny_holding ?_))
  refine h _ fun C s' hs => ?_
  refine wpAny_bind (wpAny_pure ?_)
  refine wpAny_bind (wpAny_standAt ?_)
  exact wpAny_bind (wpAny_bindName (wpAny_mono hs (fun _ _ q => wpAny_pure q) fun _ _ z => z))
end
end Mine
end
section
open PySem PySem.W PySem.Calls PyProof.Rows
set_option maxRecDepth 100000
set_option maxHeartbeats 16000000
set_option linter.all false
namespace Mine
def bodyOf : Option Obj → List Stmt
  | some ⟨_, _, .func fd, _⟩ => (match fd.body with | .stmts b => b | .expr _ => [])
  | _ => []
def blockOf : List Stmt → List Stmt
  | .ClassDef _ _ _ b _ _ _ _ _ _ _ :: _ => b
  | _ => []
def defArgs : Option Stmt → Arguments
  | some (.FunctionDef _ a _ _ _ _ _ _ _ _) => a
  | _ => ⟨[], [], none, [], [], none, []⟩
def defBody : Option Stmt → List Stmt
  | some (.FunctionDef _ _ b _ _ _ _ _ _ _) => b
  | _ => []
def defScope : Option Stmt → Scope
  | some (.FunctionDef _ _ _ _ _ _ s _ _ _) => s
  | _ => ⟨.function, [], false, false, []⟩
noncomputable abbrev kInit (W : Wd) : Option Stmt := (blockOf (bodyOf ((K1 W).lookup 28)))[2]?
noncomputable abbrev kLt (W : Wd) : Option Stmt := (blockOf (bodyOf ((K1 W).lookup 28)))[3]?
section
variable {prog : Program} {w : World} {W : Wd} {off : List Addr} {tb : Tb} {k : Nat}
example : mg1 W "__builtins__" = some (.ref 4) := rfl
theorem blt1 {g : Heap} (t : TopOk (K1 W) off g) (h : (4 : Nat) ∉ off) : g.BuiltinsAt (mg1 W) 23 := ⟨4, _, rfl, by decide, by decide, by decide, t 4 W.o4 rfl h, W.d4.1, W.d4.2.1, W.d4.2.2⟩
theorem code27 {g : Heap} (t : TopOk (K1 W) off g) (h : (27 : Nat) ∉ off) : CodeHd g 27 23 := ⟨_, _, _, _, _, _, _, _, _, t 27 _ rfl h, rfl, rfl, rfl, rfl, rfl, rfl, rfl, rfl, by decide⟩
theorem FnAt.after {h₀ h₁ h h' : Heap} {f : Addr} {mg : Str → Option Value} {name qual : Str} {args : Arguments} {body : List Stmt} {scope : Scope} {cl : List (Str × Addr)} (x : FnAt h₁ h f mg name qual args body scope cl) {L : Addr} (hL : ∃ o, h₁.get? L = some o)
    (sb : Sub h₀ h₁) (kp : ∀ b o, b ≠ L → h.get? b = some o → h'.get? b = some o) : FnAt h₀ h' f mg name qual args body scope cl := by
  obtain ⟨c', ctv, doc, g, ⟨c₂, o₂, vs₂, t₂, e₂, g₂, r₂, r₃⟩, nf, nc⟩ := x
  obtain ⟨oL, gL⟩ := hL
  have back : ∀ a, h₁.get? a = none → h₀.get? a = none := fun a ha => by
    cases hg : h₀.get? a with
    | none => rfl
    | some o => rw [sb a o hg] at ha; cases ha
  cases e₂
  refine ⟨c', ctv, doc, kp _ _ (fun z => ?_) g, ⟨c', o₂, vs₂, t₂, rfl, kp _ _ (fun z => ?_) g₂, r₂, r₃⟩, back _ nf, back _ nc⟩
  · rw [z, gL] at nf; cases nf
  · rw [z, gL] at nc; cases nc
theorem KeyMade.after {h₀ h₁ h h' : Heap} {P C N p f1 f2 : Addr} {mg : Str → Option Value} {q1 q2 : Str} {a1 a2 : Arguments} {b1 b2 : List Stmt} {s1 s2 : Scope} {l1 l2 : List (Str × Addr)} (x : KeyMade h₁ h P C N p f1 f2 mg q1 q2 a1 a2 b1 b2 s1 s2 l1 l2) {L : Addr} (hL : ∃ o, h₁.get? L = some o)
    (sb : Sub h₀ h₁) (nL : h₀.get? L = none) (nP : P ≠ L) (kp : ∀ b o, b ≠ L → h.get? b = some o → h'.get? b = some o) : KeyMade h₀ h' P C N p f1 f2 mg q1 q2 a1 a2 b1 b2 s1 s2 l1 l2 := by
  obtain ⟨oL, gL⟩ := id hL
  have back : ∀ a, h₁.get? a = none → h₀.get? a = none := fun a ha => by
    cases hg : h₀.get? a with
    | none => rfl
    | some o => rw [sb a o hg] at ha; cases ha
  have ne : ∀ a, h₁.get? a = none → a ≠ L := fun a ha z => by rw [z, gL] at ha; cases ha
  obtain ⟨n1, n2, n3⟩ := x.new
  obtain ⟨bT, tk, tq, gc⟩ := x.cls
  obtain ⟨m, ⟨o, es, ep, gn, rest⟩, hm⟩ := x.names
  obtain ⟨t, gm⟩ := x.mem
  obtain ⟨ps, gt, tt⟩ := x.tab
  exact ⟨⟨bT, tk, tq, kp _ _ (ne _ n1) gc⟩, ⟨m, ⟨o, es, ep, kp _ _ (ne _ n2) gn, rest⟩, hm⟩, ⟨t, kp _ _ (ne _ n3) gm⟩, x.fi.after hL sb kp, x.fl.after hL sb kp,
    fun b o z g => kp b o (fun y => by rw [y, nL] at g; cases g) (x.keep b o z (sb b o g)), ⟨ps, kp _ _ nP gt, tt⟩, ⟨back _ n1, back _ n2, back _ n3⟩⟩
theorem noCode_tab0 : NoCode (tabObj #[]) := fun vs q t z => (by cases z; intro y; cases y)
/-- what cmp_to_key(v) leaves: the class, its two functions, the cell of the comparer -/
structure CmpMade (W : Wd) (tb : Tb) (s s' : Shared) (v : Value) (cc C N p f1 f2 : Addr) : Prop where
  ext : ExtO tb [23] s s'
  key : KeyMade s.heap s'.heap 23 C N p f1 f2 (mg1 W) "cmp_to_key.<locals>.K.__init__" "cmp_to_key.<locals>.K.__lt__" (defArgs (kInit W)) (defArgs (kLt W)) (defBody (kInit W)) (defBody (kLt W)) (defScope (kInit W)) (defScope (kLt W)) [] [("mycmp", cc)]
  cell : s'.heap.IsCell cc (some v)
  newc : s.heap.get? cc = none
theorem call_cmp {A : Around} {X : List Addr} {s : Shared} {v : Value} {Q : Value → Shared → Prop} (hR : Room A (k + 1)) (hO : Ok (K1 W) off tb X s) (G : Globs (K1 W) off (mg1 W) (mb1 W)) (hoff : ∀ a ∈ [1, 2, 4, 27, 28], a ∉ off)
    (h23 : s.heap.get? 23 = some (tabObj #[])) (nt23 : 23 ∉ tb.map (·.1))
    (hQ : ∀ s' cc C N p f1 f2, CmpMade W tb s s' v cc C N p f1 f2 → Q (.ref C) s') :
    wpAny (model prog w) A (call (.ref 28) [v]) Q NoE s := by
  refine wpAny_call ?_
  refine codeAny_call_binds (binds := [("mycmp", v)]) hR.lim (hO.get (a := 28) rfl (hoff 28 (by decide))) rfl (hO.globs G).2.2 ?_ rfl ?_ rfl ?_ (fun s₁ I₁ => ?_)
  · exact Heap.CodeRec.keeps (⟨27, _, _, _, rfl, hO.top 27 _ rfl (hoff 27 (by decide)), rfl, rfl⟩ : (vis tb X s.heap).CodeRec _ _) (vis_below _ _ _)
  · intro A' Q E' hq
    exact wpAny_pure hq
  · exact List.forall_mem_cons.mpr ⟨.inr ⟨rfl, rfl⟩, fun _ h => nomatch h⟩
  · have T := entered (ρ := []) rfl I₁ hO rfl rfl rfl (show (["mycmp"] : List Str).Nodup by decide)
      (List.forall_mem_cons.mpr ⟨.inr ⟨rfl, rfl⟩, fun _ h => nomatch h⟩)
      (fun _ h => nomatch h)
    refine wpAny_mono (E := NoE) ?_ (fun _ _ z => z) fun _ _ z => z.elim
    refine wpAny_execs_cons (class_stmt T.ok T.en G rfl fun Q' hQ' => ?_)
    have tp := T.ok.top.sub (vis_below _ _ _)
    refine build_class (md := "cpy313.functools") (q1 := "cmp_to_key.<locals>.K.__init__") (q2 := "cmp_to_key.<locals>.K.__lt__") (a1 := defArgs (kInit W)) (a2 := defArgs (kLt W)) (b1 := defBody (kInit W)) (b2 := defBody (kLt W)) (s1 := defScope (kInit W)) (s2 := defScope (kLt W))
      (l1 := []) (l2 := [("mycmp", s.heap.objs.size + 1)]) (mS := nsOf (K1 W) 2)
      T.ok G rfl rfl rfl (code27 tp (hoff 27 (by decide))) (T.ext.keep 23 _ nt23 h23) rfl rfl rfl hR.deeper.lim ?_ (blt1 tp (hoff 4 (by decide))) (by decide) (by decide) rfl rfl ?_ ?_ ?_ rfl (ns_of tp rfl rfl rfl (hoff 2 (by decide))) rfl ⟨_, _, rfl⟩ ?_
    · rw [show sysModules = (1 : Nat) from rfl, tp 1 _ rfl (hoff 1 (by decide))]; simp
    · intro cenv hc n hn v
      obtain ⟨⟩ := cenv
      subst hc
      simp only [List.mem_cons, List.not_mem_nil, or_false] at hn
      rcases hn with rfl | rfl | rfl | rfl <;> rfl
    · intro cenv hc
      obtain ⟨⟩ := cenv
      subst hc
      rfl
    · intro cenv nsA c' P' A' s' m Q' h1 h2 h3 h4 h5 h6 hba x h
      obtain ⟨⟩ := cenv
      simp only at h1 h2 h3 h4 h5 h6
      subst h1 h2 h3 h4 h5 h6
      refine block_run hba x rfl rfl rfl ?_ ⟨rfl, rfl, rfl, rfl, rfl, rfl⟩ ?_ ⟨by decide, by decide, by decide, by decide, by decide⟩ fun sl f1 f2 f3 f4 f5 f6 tm ps h' tk L F1 F2 B => h sl f1 f2 f3 f4 f5 f6 tm ps h' tk L F1 F2 B
      · intro n hn v
        simp only [List.mem_cons, List.not_mem_nil, or_false] at hn
        rcases hn with rfl | rfl | rfl | rfl | rfl | rfl | rfl | rfl | rfl <;> rfl
      · exact List.forall_mem_cons.mpr ⟨⟨rfl, rfl⟩, List.forall_mem_cons.mpr ⟨⟨rfl, rfl⟩, List.forall_mem_cons.mpr ⟨⟨rfl, rfl⟩, List.forall_mem_cons.mpr ⟨⟨rfl, rfl⟩, List.forall_mem_cons.mpr ⟨⟨rfl, rfl⟩, List.forall_mem_cons.mpr ⟨⟨rfl, rfl⟩, fun _ h => nomatch h⟩⟩⟩⟩⟩⟩
    · intro C N p f1 f2 h' t' M
      refine hQ' C _ ?_
      obtain ⟨mL, hLn⟩ := T.loc
      obtain ⟨oL, esL, epL, gL, rL⟩ := id hLn
      have nl23 : (23 : Nat) ≠ s.heap.objs.size := fun z => by
        have := Heap.lt_size h23
        rw [← z] at this; exact Nat.lt_irrefl _ this
      have nL : s.heap.get? s.heap.objs.size = none := by
        cases hg : s.heap.get? s.heap.objs.size with
        | none => rfl
        | some o => exact absurd (Heap.lt_size hg) (Nat.lt_irrefl _)
      have gL' := M.keep _ _ (Ne.symm nl23) gL
      refine wpAny_storeName_local (m := mL) rfl ⟨oL, esL, epL, gL', rL⟩ (fun h2 n2 sb2 => ?_) rfl
      refine wpAny_execs_cons (wpAny_Return_some (bound_load (v := .ref C) T.en.kind (.inl ⟨rfl, _, n2, if_pos rfl⟩) ?_ (by decide) (by decide)))
      show Q (.ref C) _
      have kS : Sub s.heap s₁.heap := I₁.toInCall.keep
      have x2 : Heap.ExtBut s.heap.objs.size h' h2 := sb2.extBut
      have g23 := h23
      have ke : ∀ b o, b ≠ (23 : Nat) → s.heap.get? b = some o → h2.get? b = some o := fun b o z g => x2 b o (fun y => by rw [y, nL] at g; cases g) (M.keep b o z (kS b o g))
      have cell : s₁.heap.IsCell (s.heap.objs.size + 1) (some v) := by
        rcases T.bound ("mycmp", v) (by simp) with ⟨k1, _⟩ | ⟨_, c, hc, cell⟩
        · cases k1
        · cases hc; exact cell
      obtain ⟨oc, gc, dc⟩ := cell
      have ncc : s.heap.get? (s.heap.objs.size + 1) = none := by
        cases hg : s.heap.get? (s.heap.objs.size + 1) with
        | none => rfl
        | some o => have := Heap.lt_size hg; exact absurd this (by show ¬ (_ : Nat) < _; omega)
      refine hQ _ (s.heap.objs.size + 1) C N p f1 f2 ⟨⟨fun b o _ m g => ke b o (fun z => m (by simp [z])) g, fun q hq z => ?_, T.ext.gens, T.ext.os⟩, M.after ⟨_, gL⟩ kS nL nl23 x2, ⟨oc, x2 _ _ (by show (_ : Nat) ≠ _; omega) (M.keep _ _ (fun z => ?_) gc), dc⟩, ncc⟩
      · have e1 := T.ext.tab q hq z
        have e2 := e1.but (y := 23) (fun b o z g => M.keep b o z g) (kS _ _ g23) noCode_tab0 (ne_of_tab nt23 hq)
        exact e2.but x2 gL' (noCode_dict rL.1) (ne_of_tab T.en.nloc hq)
      · rw [z] at ncc; rw [g23] at ncc; cases ncc
end
end Mine
end
section
open PySem PySem.W PySem.Calls PyProof.Rows
set_option maxRecDepth 100000
set_option maxHeartbeats 16000000
set_option linter.all false
namespace Mine
section
variable {prog : Program} {w : World} {W : Wd} {off : List Addr} {tb : Tb} {k : Nat}
theorem look_self {C : Addr} {o : Obj} : List.lookup C [(C, o)] = some o := by simp [List.lookup]
theorem in_one {h : Heap} {C : Addr} {o : Obj} (g : h.get? C = some o) : Frag.In [(C, o)] h := fun b o' e => by
  have e : List.lookup b [(C, o)] = some o' := e
  by_cases z : b = C
  · subst z; rw [look_self] at e; cases e; exact g
  · have y : (b == C) = false := by simpa using z
    simp only [List.lookup, y] at e
    cases e
theorem makes_K {h : Heap} {C N bT : Addr} {tk tq : Tok} (g : h.get? C = some (clsObj C N bT tk tq)) : Makes (model prog w) h C := by
  refine makes_of (K := [(C, clsObj C N bT tk tq)]) (in_one g) ?_
  have t : typeIn [(C, clsObj C N bT tk tq)] (.ref C) = some (.type "type") := by unfold typeIn; simp only [look_self]; rfl
  have a : specialIn [(C, clsObj C N bT tk tq)] (.ref C) "__call__" = some (some (.builtin "type.__call__")) := by
    unfold specialIn; rw [t]; kernel_rfl
  have b : instIn [(C, clsObj C N bT tk tq)] (.ref C) (.type "type") = some true := by
    unfold instIn; rw [t]; kernel_rfl
  unfold makesIn
  rw [look_self, a, b]
  simp
/-- the class of keys with its names and its member, as a fragment -/
structure KeyFrag (K : Frag) (C N p f1 f2 : Addr) : Prop where
  cls : ∃ bT tk tq, K.lookup C = some (clsObj C N bT tk tq)
  mem : ∃ t, K.lookup p = some (memObj C t)
  names : ∃ m : Str → Option Value, (∀ x, nsIn K N x = some (m x)) ∧ m "__init__" = some (.ref f1) ∧ m "__lt__" = some (.ref f2) ∧ m "obj" = some (.ref p) ∧ ∀ x, x ∉ keyNames → m x = none
theorem KeyFrag.find {K : Frag} {C N p f1 f2 : Addr} (x : KeyFrag K C N p f1 f2) : findIn K (.ref C) "obj" = some (some (.ref p)) ∧ findIn K (.ref C) "__init__" = some (some (.ref f1)) ∧ findIn K (.ref C) "__lt__" = some (some (.ref f2)) ∧
    findIn K (.ref C) "__setattr__" = some (some (.builtin "object.__setattr__")) ∧ findIn K (.ref C) "__getattribute__" = some (some (.builtin "object.__getattribute__")) ∧ findIn K (.ref C) "__getattr__" = some none := by
  obtain ⟨bT, tk, tq, hc⟩ := x.cls
  obtain ⟨m, hm, m1, m2, m3, m4⟩ := x.names
  have go : ∀ n, findIn K (.ref C) n = (match m n with | some v => some (some v) | none => alongIn K n [.type "object"]) := fun n => by
    unfold findIn
    simp only [hc]
    unfold alongIn ownIn
    simp only [hc, hm]
    cases m n <;> rfl
  have no : ∀ n, n ∉ keyNames → findIn K (.ref C) n = alongIn K n [.type "object"] := fun n hn => by rw [go, m4 n hn]
  refine ⟨by rw [go, m3], by rw [go, m1], by rw [go, m2], ?_, ?_, ?_⟩
  · rw [no _ (by decide)]; kernel_rfl
  · rw [no _ (by decide)]; kernel_rfl
  · rw [no _ (by decide)]; kernel_rfl
theorem KeyFrag.slots {K : Frag} {C N p f1 f2 : Addr} (x : KeyFrag K C N p f1 f2) : slotIn K p C = some 0 ∧ typeIn K (.ref p) = some (.type "member_descriptor") ∧ takesIn K (.ref p) = some true ∧ specialIn K (.ref p) "__get__" = some (some (.builtin "member_descriptor.__get__")) ∧
    plainOver K C = true ∧ isClsIn K C = true ∧ makesIn K C = true := by
  obtain ⟨bT, tk, tq, hc⟩ := x.cls
  obtain ⟨t, hp⟩ := x.mem
  have cl : clsIn K C = some { name := "K", bases := [.type "object"], mro := [.ref C, .type "object"], ns := N, qualname := "cmp_to_key.<locals>.K", hasDict := false, slotNames := ["obj"] } := by unfold clsIn; rw [hc]
  have tp : typeIn K (.ref p) = some (.type "member_descriptor") := by show (K.lookup p).map (·.cls) = _; rw [hp]; rfl
  have tc : typeIn K (.ref C) = some (.type "type") := by show (K.lookup C).map (·.cls) = _; rw [hc]; rfl
  have rp : recIn K p "member_descriptor" = some [.str "obj" t, .ref C, .builtin "proto.slot", .builtin "proto.slot#set", rawInt 0] := by unfold recIn; rw [hp]; rfl
  refine ⟨?_, tp, ?_, ?_, ?_, ?_, ?_⟩
  · unfold slotIn; rw [rp, cl]; simp [rawInt]
  · unfold takesIn specialIn; rw [tp]; kernel_rfl
  · unfold specialIn; rw [tp]; kernel_rfl
  · unfold plainOver; rw [cl]; rfl
  · unfold isClsIn; rw [cl]; rfl
  · have a : specialIn K (.ref C) "__call__" = some (some (.builtin "type.__call__")) := by unfold specialIn; rw [tc]; kernel_rfl
    have b : instIn K (.ref C) (.type "type") = some true := by unfold instIn; rw [tc]; kernel_rfl
    unfold makesIn
    rw [hc, a, b]
    simp
theorem look_three {a b c : Addr} {x y z : Obj} (ab : b ≠ a) (ac : c ≠ a) (bc : c ≠ b) : List.lookup a [(a, x), (b, y), (c, z)] = some x ∧ List.lookup b [(a, x), (b, y), (c, z)] = some y ∧ List.lookup c [(a, x), (b, y), (c, z)] = some z := by
  have e1 : (b == a) = false := by simpa using ab
  have e2 : (c == a) = false := by simpa using ac
  have e3 : (c == b) = false := by simpa using bc
  refine ⟨by simp [List.lookup], by simp [List.lookup, e1], by simp [List.lookup, e2, e3]⟩
theorem KeyMade.frag {h h' : Heap} {P C N p f1 f2 : Addr} {mg : Str → Option Value} {q1 q2 : Str} {a1 a2 : Arguments} {b1 b2 : List Stmt} {s1 s2 : Scope} {l1 l2 : List (Str × Addr)} (M : KeyMade h h' P C N p f1 f2 mg q1 q2 a1 a2 b1 b2 s1 s2 l1 l2) :
    ∃ K : Frag, KeyFrag K C N p f1 f2 ∧ K.In h' ∧ K.map (·.1) = [C, N, p] := by
  obtain ⟨bT, tk, tq, gc⟩ := M.cls
  obtain ⟨m, ⟨oN, es, ep, gn, dn, sk, uk, fm⟩, m1, m2, m3, m4⟩ := M.names
  obtain ⟨t, gp⟩ := M.mem
  have ab : N ≠ C := fun z => by rw [z, gc] at gn; cases gn; cases dn
  have ac : p ≠ C := fun z => by rw [z, gc] at gp; have := congrArg Obj.data (Option.some.inj gp); cases this
  have bc : p ≠ N := fun z => by rw [z, gn] at gp; cases gp; cases dn
  obtain ⟨l1, l2, l3⟩ := look_three (x := clsObj C N bT tk tq) (y := oN) (z := memObj C t) ab ac bc
  refine ⟨[(C, clsObj C N bT tk tq), (N, oN), (p, memObj C t)], ⟨⟨bT, tk, tq, l1⟩, ⟨t, l3⟩, m, fun x => ?_, m1, m2, m3, m4⟩, fun a o e => ?_, rfl⟩
  · obtain ⟨c', d', da, sl⟩ := oN
    cases dn
    unfold nsIn
    rw [l2]
    dsimp only
    have hf := fm x
    have nr : es.toList.any (·.refKey) = false := by
      rw [List.any_eq_false]
      intro e he
      obtain ⟨n, tn, hk⟩ := sk e (by simpa using he)
      unfold DictEntry.refKey
      simp [hk]
    rw [nr]
    obtain ⟨l⟩ := es
    simp only [nsFind, findBy, List.find?_toArray] at hf
    rw [← hf]
    dsimp only
    cases l.find? fun e => e.key.isStr x <;> rfl
  · have e : List.lookup a [(C, clsObj C N bT tk tq), (N, oN), (p, memObj C t)] = some o := e
    by_cases z1 : a = C
    · subst z1; rw [l1] at e; cases e; exact gc
    · by_cases z2 : a = N
      · subst z2; rw [l2] at e; cases e; exact gn
      · by_cases z3 : a = p
        · subst z3; rw [l3] at e; cases e; exact gp
        · have y1 : (a == C) = false := by simpa using z1
          have y2 : (a == N) = false := by simpa using z2
          have y3 : (a == p) = false := by simpa using z3
          simp only [List.lookup, y1, y2, y3] at e
          cases e
end
end Mine
end
section
open PySem PySem.W PySem.Calls PyProof.Rows
set_option maxRecDepth 100000
set_option maxHeartbeats 16000000
set_option linter.all false
namespace Mine
section
variable {prog : Program} {w : World} {W : Wd} {off : List Addr} {tb : Tb} {k : Nat}
/-- an instance of the class of keys -/
abbrev keyObj (C dx : Addr) (v : Value) : Obj := { cls := .ref C, dict := some dx, data := .plain, slots := #[some v] }
theorem type_one {f : Addr} {o : Obj} : typeIn [(f, o)] (.ref f) = some o.cls := by show (List.lookup f [(f, o)]).map (fun z : Obj => z.cls) = _; rw [look_self]; rfl
theorem call_key {A : Around} {s : Shared} {K : Frag} {C N p f1 f2 : Addr} {h₀ : Heap} {v : Value} {Q : Value → Shared → Prop} (hd : A.depth + 1 < recursionLimit) (kf : KeyFrag K C N p f1 f2) (X : K.In s.heap)
    (F1 : FnAt h₀ s.heap f1 (mg1 W) "__init__" "cmp_to_key.<locals>.K.__init__" (defArgs (kInit W)) (defBody (kInit W)) (defScope (kInit W)) []) (hl : s.heap.NoLimit)
    (hQ : ∀ x dx h' t', (∀ b o, s.heap.get? b = some o → h'.get? b = some o) → s.heap.get? x = none → s.heap.get? dx = none → h'.get? x = some (keyObj C dx v) → h'.get? dx = some emptyDict → Q (.ref x) { s with heap := h', toks := t' }) :
    wpAny (model prog w) A (call (.ref C) [v]) Q NoE s := by
  obtain ⟨c', ctv, doc, gf, rec, _, _⟩ := F1
  obtain ⟨n1, n2, n3, n4, n5, n6⟩ := kf.find
  obtain ⟨e1, e2, e3, e4, e5, e6, e7⟩ := kf.slots
  refine wpAny_call ?_
  obtain ⟨hh, gg, dr, t, os⟩ := s
  have gf : hh.get? f1 = some _ := gf
  refine make_core (makes_of X e7) (looks_findIn X n2) (fun self => bind_fn (in_one gf) self type_one) (.inl rfl) ?_
  have kp : ∀ b o, hh.get? b = some o → ((hh.push emptyDict).push (instObj C hh.objs.size)).get? b = some o := fun b o e => Heap.get?_push_of_some _ (Heap.get?_push_of_some _ e)
  have gx : ((hh.push emptyDict).push (instObj C hh.objs.size)).get? (hh.objs.size + 1) = some (instObj C hh.objs.size) := by heap_get
  have gd : ((hh.push emptyDict).push (instObj C hh.objs.size)).get? hh.objs.size = some emptyDict := Heap.get?_push_of_some _ (Heap.get?_push_size _ rfl)
  have sz : hh.objs.size + 2 ≤ ((hh.push emptyDict).push (instObj C hh.objs.size)).objs.size := by simp only [Heap.size_push]; exact Nat.le_refl _
  generalize ((hh.push emptyDict).push (instObj C hh.objs.size)) = h1 at kp gx gd sz ⊢
  refine codeAny_call_binds (s := ⟨h1, gg, dr, t, os⟩) (binds := [("self", .ref (hh.objs.size + 1)), ("obj", v)]) hd (kp _ _ gf) rfl (hl.keeps kp) ?_ rfl ?_ rfl ?_ (fun s₁ I₁ => ?_)
  · exact rec.keeps kp
  · intro A' Q E' hq
    exact wpAny_pure hq
  · exact List.forall_mem_cons.mpr ⟨.inl rfl, List.forall_mem_cons.mpr ⟨.inl rfl, fun _ h => nomatch h⟩⟩
  · obtain ⟨h2, t2, hs2⟩ := I₁.toInCall.same
    have kp2 := I₁.toInCall.keep
    have ns2 := I₁.toInCall.ns
    refine wpAny_mono (E := NoE) ?_ (fun _ _ z => z) fun _ _ z => z.elim
    refine wpAny_execs_cons (plainObj_wpAny_Assign_Attribute (bound_load rfl (.inl ⟨rfl, _, ns2, rfl⟩) (bound_load rfl (.inl ⟨rfl, _, ns2, rfl⟩) ?_ (by decide) (by decide)) (by decide) (by decide)))
    subst hs2
    have nx : hh.get? (hh.objs.size + 1) = none := Heap.get?_none_of_le (Nat.le_succ _)
    have nd : hh.get? hh.objs.size = none := Heap.get?_none_of_le (Nat.le_refl _)
    have F : Fr hh h1.objs.size h2 _ := ⟨ns2, fun b o g => kp2 b o (kp b o g), by show (_ : Nat) ≤ _; omega⟩
    have NN : News hh h1.objs.size h2 [(hh.objs.size + 1, instObj C hh.objs.size), (hh.objs.size, emptyDict)] :=
      List.forall_mem_cons.mpr ⟨⟨kp2 _ _ gx, by show (_ : Nat) ≠ _; omega, nx⟩, List.forall_mem_cons.mpr ⟨⟨kp2 _ _ gd, by show (_ : Nat) ≠ _; omega, nd⟩, fun _ h => nomatch h⟩⟩
    have II : InstAt h2 (hh.objs.size + 1) (instObj C hh.objs.size) C (some emptyDict) := ⟨kp2 _ _ gx, rfl, rfl, kp2 _ _ gd⟩
    refine set_slot (ox' := keyObj C hh.objs.size v) (news' := [(hh.objs.size + 1, keyObj C hh.objs.size v), (hh.objs.size, emptyDict)]) F X NN II n4 e5 ?_ e2 e1 (by decide) rfl rfl ?_ fun h3 F3 N3 => ?_
    · unfold takerIn; rw [n1, Option.bind_some]; simp only [e3]; rfl
    · exact .head (List.forall_mem_cons.mpr ⟨by show (_ : Nat) ≠ _; omega, fun _ h => nomatch h⟩)
    · refine wpAny_execs_nil ⟨rfl, ?_⟩
      exact hQ _ _ h3 _ F3.keep nx nd (N3 _ (List.mem_cons_self)).1 (N3 _ (List.mem_cons_of_mem _ List.mem_cons_self)).1
end
end Mine
end
section
open PySem PySem.W PySem.Calls PyProof.Rows
set_option maxRecDepth 100000
set_option maxHeartbeats 16000000
set_option linter.all false
namespace Mine
section
variable {prog : Program} {w : World} {W : Wd} {off : List Addr} {tb : Tb} {k : Nat}
/-- self.obj of a key -/
theorem get_key {A : Around} {s : Shared} {K : Frag} {C N p f1 f2 x dx L : Addr} {v : Value} {h₀ : Heap} {m : Str → Option Value} {expr : Bool} {Q : Value → Shared → Prop} {E : Value → Shared → Prop} (kf : KeyFrag K C N p f1 f2) (F : Fr h₀ L s.heap m) (X : K.In h₀)
    (gx : s.heap.get? x = some { cls := .ref C, dict := some dx, data := .plain, slots := #[some v] }) (gd : s.heap.get? dx = some emptyDict) (hh : handedIn v = true) (h : Q v { s with toks := s.toks + 1 }) : wpAny (model prog w) A (getAttr (.ref x) "obj" expr) Q E s := by
  obtain ⟨n1, n2, n3, n4, n5, n6⟩ := kf.find
  obtain ⟨e1, e2, e3, e4, e5, e6, e7⟩ := kf.slots
  refine get_slot (od := emptyDict) F X ⟨gx, rfl, rfl, gd⟩ ?_ e6 n1 e4 e3 e1 rfl hh h
  unfold plainGet
  rw [n5, n6]
  rfl
end
end Mine
end
section
open PySem PySem.W PySem.Calls PyProof.Rows
set_option maxRecDepth 100000
set_option maxHeartbeats 16000000
set_option linter.all false
namespace Mine
section
variable {prog : Program} {w : World} {W : Wd}
/-- the block of a def that has free names and no cells of its own -/
theorem code_closed {A : Around} {s : Shared} {R : Result → Shared → Prop} {a : Addr} {o : Obj} {fd : FuncData} {body : List Stmt} {args : Args} {binds : List (Str × Value)} {env : Env}
    (henv : env = newEnv fd.scope s.heap.objs.size fd.globals fd.closure (fd.qualname ++ ".<locals>.") (some a) fd.code none fd.builtins)
    (hroom : A.depth < recursionLimit) (ho : s.heap.get? a = some o) (hdata : o.data = .func fd) (hlim : s.heap.NoLimit) (hcd : s.heap.CodeRec fd.code fd.qualname) (hbody : fd.body = .stmts body)
    (hbind : ∀ (A' : Around) (Q : List (Str × Value) → Shared → Prop) (E' : Value → Shared → Prop), Q binds s → wpAny (model prog w) A' (bindArgs fd args) Q E' s)
    (hc : ∀ x ∈ fd.scope.names, x.2 ≠ .cell) (hl : ∀ x ∈ binds, fd.scope.names.lookup x.1 = some .local)
    (h : ∀ h' t', h'.Ns s.heap.objs.size (fun x => binds.reverse.lookup x) → (∀ b o, s.heap.get? b = some o → h'.get? b = some o) →
      wpAny (model prog w) (A.deeper env) (execs body env) (fun f s' => R (.ok (.ret (match f with | .ret v => v | _ => .none))) s')
        (fun e s' => wpAny (model prog w) (A.deeper env) (leaving env e) (fun _ s'' => R (.error e) s'') (fun e' s'' => R (.error e') s'') s') { s with heap := h', toks := t' })
    (hco : fd.scope.isCoroutine = false := by rfl) (hgen : fd.scope.isGenerator = false := by rfl) (hk : fd.scope.kind = .function := by rfl) :
    codeAny (model prog w) A (.call (.ref a) args) R s := by
  refine codeAny_call_function hroom ho hdata hco hgen hbody hcd ?_
  refine hbind _ _ _ (wpAny_newFunctionEnv hc hl (fun h' n sb => ?_) hk)
  rw [← henv]
  have kp : ∀ b o, s.heap.get? b = some o → h'.get? b = some o := fun b o g => (sb.2 b (Nat.ne_of_lt (Heap.lt_size g))).trans (Heap.get?_push_of_some _ g)
  exact ⟨hlim.keeps kp, codeAny_func (h h' _ n kp)⟩
end
end Mine
end
section
open PySem PySem.W PySem.Calls PyProof.Rows
set_option maxRecDepth 100000
set_option linter.all false
namespace Mine
theorem lookup_of_mem {α β : Type} [BEq α] [LawfulBEq α] : ∀ {l : List (α × β)}, (l.map (·.1)).Nodup → ∀ p ∈ l, l.lookup p.1 = some p.2
  | [], _, p, hp => nomatch hp
  | (a, b) :: r, h, p, hp => by
    rw [List.map_cons, List.nodup_cons] at h
    rcases List.mem_cons.mp hp with rfl | hp
    · simp
    · have ne : (p.1 == a) = false := by
        have : p.1 ≠ a := fun z => h.1 (List.mem_map.mpr ⟨p, hp, z⟩)
        simpa using this
      simp only [List.lookup, ne]
      exact lookup_of_mem h.2 p hp

section
variable {prog : Program} {w : World} {W : Wd} {K L : Frag} {off : List Addr} {tb : Tb} {k : Nat} {env : Env} {ρ : Rho} {mg mb : Str → Option Value} {X : List Addr} {s s' s₀ : Shared}

theorem frag_all (g : Heap) : ∃ L : Frag, (∀ p ∈ L, g.get? p.1 = some p.2) ∧ ∀ a o, g.get? a = some o → (a, o) ∈ L := by
  refine ⟨(List.range g.objs.size).filterMap fun a => (g.get? a).map fun o => (a, o), fun p hp => ?_, fun a o e => ?_⟩
  · obtain ⟨a, _, z⟩ := List.mem_filterMap.mp hp
    cases hg : g.get? a with
    | none => rw [hg] at z; cases z
    | some o => rw [hg] at z; cases z; exact hg
  · exact List.mem_filterMap.mpr ⟨a, List.mem_range.mpr (Heap.lt_size e), by rw [e]; rfl⟩
/-- all that is seen now is held fast from now on -/
theorem freeze (o : Ok K off tb X s) (hoff : ∀ a ∈ off, a ∈ tb.map (·.1)) : ∃ L : Frag, Ok (K ++ L) off tb X s ∧ ∀ g, TopOk (K ++ L) off g → Sub (vis tb X s.heap) g := by
  obtain ⟨L, h1, h2⟩ := frag_all (vis tb X s.heap)
  exact ⟨L, o.grow h1, fun g t b ob e => frozen o h1 hoff g t (b, ob) (h2 b ob e)⟩

abbrev lamEnv (fd : FuncData) (L f : Addr) : Env := newEnv fd.scope L fd.globals fd.closure (fd.qualname ++ ".<locals>.") (some f) fd.code none fd.builtins

/-- a lambda: its block is an expression, its free names lie in cells that are held fast -/
theorem fn_lambda {f : Addr} {o : Obj} {fd : FuncData} {body : Expr} {xs : List Str} {ds : List PyData} {d : PyData} {ρF : Rho} (G : Globs K off mg mb) (ho : K.lookup f = some o) (hf : f ∉ off) (hdat : o.data = .func fd)
    (hbody : fd.body = .expr body) (hglob : fd.globals = mainGlobals) (hbuilt : fd.builtins = builtinsNs) (hcd : ∀ X s, Ok K off tb X s → s.heap.CodeRec fd.code fd.qualname)
    (hlen : xs.length = ds.length) (hbind : ∀ vs : List Value, vs.length = xs.length → bindArgs fd ⟨vs, []⟩ = pure (xs.zip vs)) (hnd : xs.Nodup)
    (hkind : ∀ x ∈ xs, fd.scope.names.lookup x = some .local) (hcell : ∀ x ∈ fd.scope.names, x.2 ≠ .cell)
    (hfree : ∀ g, TopOk K off g → ∀ p ∈ ρF, ∃ c v, fd.closure.lookup p.1 = some c ∧ fd.scope.names.lookup p.1 = some .free ∧ g.IsCell c (some v) ∧ Rp g v p.2)
    (hco : fd.scope.isCoroutine = false) (hgen : fd.scope.isGenerator = false) (hk : fd.scope.kind = .function)
    (h : ∀ L, PV prog w K off tb k (lamEnv fd L f) (xs.zip ds ++ ρF) body d) : Fn prog w K off tb (k + 1) (.ref f) ds d := by
  intro A X s vs Q hR hO r hQ
  have hvl : vs.length = xs.length := by rw [r.length, hlen]
  have hmem : ∀ p ∈ xs.zip vs, p.1 ∈ xs := fun p hp => (List.of_mem_zip hp).1
  have hnd' : ((xs.zip vs).map (·.1)).Nodup := by
    rw [List.map_fst_zip (by omega)]; exact hnd
  refine wpAny_call (kla_callFunE hR.lim (hO.get ho hf) hdat hco hgen hbody (hcd _ _ hO) ?_)
  rw [hbind vs hvl]
  refine wpAny_pure (wpAny_newFunctionEnv hcell (fun p hp => hkind p.1 (hmem p hp)) (fun h₁ hns hsb => ⟨((hO.globs G).2.2).fresh _ hsb, ?_⟩) hk)
  refine kla_codeExpr (wpAny_mono (E := NoE) ?_ (fun _ _ z => z) fun _ _ z => z.elim)
  generalize hL : s.heap.objs.size = L at hns hsb ⊢
  have old : ∀ (b : Nat) o, s.heap.get? b = some o → b < L := fun b o e => hL ▸ Heap.lt_size e
  have kp : ∀ b o, s.heap.get? b = some o → h₁.get? b = some o := fun b o e => hsb.extBut b o (Nat.ne_of_lt (old b o e)) (Heap.get?_push_of_some _ e)
  have gL0 : s.heap.get? L = none := at_none (Nat.le_of_eq hL)
  have nL := notTab_new hO gL0
  obtain ⟨oL, esL, epL, gL, rL⟩ := id hns
  have e₁ : Ext tb s { s with heap := h₁, toks := s.toks + (xs.zip vs).length } := .of_sub kp rfl rfl
  obtain ⟨O1, visS⟩ := hO.hide e₁ gL0 ⟨_, gL⟩ nL.1
  have E1 : EnvOk tb (L :: X) (lamEnv fd L f) (xs.zip ds ++ ρF) { s with heap := h₁, toks := s.toks + (xs.zip vs).length } := by
    refine ⟨hk, hglob, hbuilt, nL.1, fun p hp => ?_⟩
    rcases List.mem_append.mp hp with hp | hp
    · obtain ⟨v, hv, rv⟩ := zip_rp r p hp
      refine ⟨v, .inl ⟨hkind p.1 (hmem (p.1, v) hv), _, hns, ?_⟩, rv.sub visS⟩
      refine lookup_of_mem (l := (xs.zip vs).reverse) ?_ (p.1, v) (List.mem_reverse.mpr hv)
      rw [List.map_reverse]
      exact List.pairwise_reverse.mpr (hnd'.imp fun h => Ne.symm h)
    · obtain ⟨c, v, h1, h2, ⟨oc, h3, h3'⟩, h4⟩ := hfree _ hO.top p hp
      exact ⟨v, .inr ⟨.inr h2, c, h1, oc, kp _ _ (vis_get h3).1, h3'⟩, h4.sub visS⟩
  refine wpAny_mono (h L (A.deeper _) (L :: X) _ (fun v s' => Q v s') hR.deeper O1 E1 fun v s' e r => ?_) (fun v s' z => z) fun _ _ z => z.elim
  exact hQ v s' (e₁.trans e) (r.sub (vis_more fun x hx => List.mem_cons_of_mem _ hx))
end
end Mine
end
section
open PySem PySem.W PySem.Calls PyProof.Rows
set_option maxRecDepth 100000
set_option linter.all false
namespace Mine
theorem among_app {pos : Pos} {i j : Int} {c cv : Value} : ∀ (l : List Value), TriplesOk l → codeAmong pos (l ++ [rawInt i, rawInt j, c]) = some cv → codeAmong pos l = some cv ∨ cv = c
  | [], _, h => by
    right
    simp only [List.nil_append, rawInt, codeAmong] at h
    split at h
    · exact (Option.some.inj h).symm
    · cases h
  | .int a _ :: .int b _ :: x :: r, t, h => by
    simp only [List.cons_append, codeAmong] at h ⊢
    split at h
    · rename_i q; rw [if_pos q]; exact .inl h
    · rename_i q; rw [if_neg q]; exact among_app r t h
theorem noCode_tab {ps : Array Value} (t : TriplesOk ps.toList) : NoCode (tabObj ps) := fun vs q tt z => by
  cases z
  have := triples_no_str t q tt
  simpa using this

section
variable {prog : Program} {w : World} {W : Wd} {K L : Frag} {off : List Addr} {tb : Tb} {k : Nat} {env : Env} {ρ : Rho} {mg mb : Str → Option Value} {X : List Addr} {s s' s₀ : Shared} {A : Around} {E : Value → Shared → Prop}

theorem Ok.recTab (o : Ok K off tb X s) {c : Addr} {q : Str} (r : s.heap.CodeRec (.ref c) q) : c ∉ tb.map (·.1) := fun m => by
  obtain ⟨p, hp, e⟩ := List.mem_map.mp m
  obtain ⟨c₂, oc, vs, t, e₂, g, d, v⟩ := r
  cases e₂
  have T := o.tabs p hp
  rw [e] at T
  cases hq : p.2 with
  | code q2 =>
    rw [hq] at T
    obtain ⟨ps, g', tr, _⟩ := T
    rw [g] at g'; cases g'
    exact noCode_tab tr _ _ _ d v
  | own G =>
    rw [hq] at T
    obtain ⟨o', es, n, g', d', _⟩ := T
    rw [g] at g'; cases g'
    rw [d] at d'; cases d'
  | any =>
    rw [hq] at T
    obtain ⟨ps, g', tr⟩ := T
    rw [g] at g'; cases g'
    exact noCode_tab tr _ _ _ d v

/-- a table of codes, marked -/
structure TabAt (K : Frag) (off : List Addr) (tb : Tb) (mg : Str → Option Value) (env : Env) (c P : Addr) (q : Str) : Prop where
  code : env.code = .ref c
  hd : ∀ g, TopOk K off g → CodeHd g c P
  mem : (P, TK.code q) ∈ tb
  only : ∀ p ∈ tb, p.1 = P → p.2 = .code q
  main : mainGlobals ≠ P
  blt : ∀ g, TopOk K off g → g.BuiltinsAt mg P

/-- a lambda without defaults -/
theorem eval_lambda {params : Arguments} {body : Expr} {scope : Scope} {pos : Pos} {c P : Addr} {q : Str} {clos : List (Str × Addr)} {Q : Value → Shared → Prop} (G : Globs K off mg mb) (T : TabAt K off tb mg env c P q) (hO : Ok K off tb X s) (hE : EnvOk tb X env ρ s)
    (hcl : closureFor scope env = pure clos) (hq : env.qual ++ "<lambda>" = q) (hdef : defaultsOf params env = ([], []))
    (h : ∀ f c' ctv s', Ext tb s s' → s.heap.get? f = none → s'.heap.get? f = some (kla_obj "<lambda>" q params body scope clos ((mg "__name__").getD .none) c' ctv) → s'.heap.CodeRec (.ref c') q → Q (.ref f) s') :
    wpAny (model prog w) A (eval (.Lambda params body scope pos) env) Q E s := by
  have tp := hO.top.sub (vis_below _ _ _)
  have T0 := hO.tabs _ T.mem
  obtain ⟨ps, gP, tr, rc⟩ := T0
  refine kla_eval hdef ?_
  rw [hq]
  cases hf : codeAmong pos ps.toList with
  | none =>
    refine kla_makeFunction (c := c) (P := P) (ps := ps) (mg := mg) hcl hE.globals (hO.globs G).1 T.code (T.hd _ tp) gP tr hf T.main (T.blt _ tp) fun c' ctv h' tk hx hge hlt hrec htb => ?_
    have kp : ∀ b o, b ≠ P → s.heap.get? b = some o → (h'.push (kla_obj "<lambda>" q params body scope clos ((mg "__name__").getD .none) c' ctv)).get? b = some o := fun b o n g => Heap.get?_push_of_some _ (hx b o n g)
    refine h h'.objs.size c' ctv { s with heap := h'.push (kla_obj "<lambda>" q params body scope clos ((mg "__name__").getD .none) c' ctv), toks := tk } ⟨fun b o n g => kp b o (fun z => n (z ▸ List.mem_map_of_mem T.mem)) g, fun p hp z => ?_, rfl, rfl⟩ (at_none (Nat.le_trans hge (Nat.le_of_lt hlt))) (Heap.get?_push_size _ rfl) (hrec.push _)
    by_cases e : p.1 = P
    · rw [T.only p hp e, e]
      refine ⟨ps ++ #[rawInt pos.line, rawInt pos.col, .ref c'], Heap.get?_push_of_some _ htb, by simpa using TriplesOk_snoc _ _ _ _ tr, fun pos' cv hcv => ?_⟩
      rcases among_app ps.toList tr (by simpa using hcv) with hcv | rfl
      · obtain ⟨c₂, o₂, vs₂, t₂, e₂, g₂, r₂, r₃⟩ := rc pos' cv hcv
        refine ⟨c₂, o₂, vs₂, t₂, e₂, kp _ _ (fun z => ?_) g₂, r₂, r₃⟩
        rw [z, gP] at g₂; cases g₂
        exact noCode_tab tr _ _ _ r₂ r₃
      · exact hrec.push _
    · exact z.but (fun b o n g => kp b o n g) gP (noCode_tab tr) (Ne.symm e)
  | some cv =>
    refine kla_makeFunctionHit (c := c) (P := P) (ps := ps) (mg := mg) hcl hE.globals (hO.globs G).1 T.code (T.hd _ tp) gP tr hf (T.blt _ tp) fun ctv h' tk hk hsz => ?_
    have hr := rc pos cv hf
    obtain ⟨c₂, o₂, vs₂, t₂, e₂, g₂, r₂⟩ := id hr
    subst e₂
    refine h h'.objs.size c₂ ctv { s with heap := h'.push (kla_obj "<lambda>" q params body scope clos ((mg "__name__").getD .none) c₂ ctv), toks := tk } (.of_sub (fun b o g => Heap.get?_push_of_some _ (hk b o g)) rfl rfl) (at_none hsz) (Heap.get?_push_size _ rfl) (hr.keeps fun b o g => Heap.get?_push_of_some _ (hk b o g))
end
end Mine
end
section
open PySem PySem.W PySem.Calls PyProof.Rows
set_option maxRecDepth 100000
set_option maxHeartbeats 4000000
set_option linter.all false
namespace Mine
/-- the class of keys and what it needs, as it stands in a heap -/
structure KeyEnv (W : Wd) (g : Heap) (KF : Frag) (C N p f1 f2 cc : Addr) (v : Value) : Prop where
  kf : KeyFrag KF C N p f1 f2
  inn : KF.In g
  fi : ∃ h₀, FnAt h₀ g f1 (mg1 W) "__init__" "cmp_to_key.<locals>.K.__init__" (defArgs (kInit W)) (defBody (kInit W)) (defScope (kInit W)) []
  fl : ∃ h₀, FnAt h₀ g f2 (mg1 W) "__lt__" "cmp_to_key.<locals>.K.__lt__" (defArgs (kLt W)) (defBody (kLt W)) (defScope (kLt W)) [("mycmp", cc)]
  cell : g.IsCell cc (some v)
theorem FnAt.sub {h₀ h h' : Heap} {f : Addr} {mg : Str → Option Value} {name qual : Str} {args : Arguments} {body : List Stmt} {scope : Scope} {cl : List (Str × Addr)} (x : FnAt h₀ h f mg name qual args body scope cl) (kp : Sub h h') : FnAt h₀ h' f mg name qual args body scope cl := by
  obtain ⟨c', ctv, doc, g, r, nf, nc⟩ := x
  exact ⟨c', ctv, doc, kp _ _ g, r.keeps kp, nf, nc⟩
theorem KeyEnv.sub {W : Wd} {g g' : Heap} {KF : Frag} {C N p f1 f2 cc : Addr} {v : Value} (x : KeyEnv W g KF C N p f1 f2 cc v) (k : Sub g g') : KeyEnv W g' KF C N p f1 f2 cc v :=
  ⟨x.kf, fun a o e => k _ _ (x.inn a o e), let ⟨h, z⟩ := x.fi; ⟨h, z.sub k⟩, let ⟨h, z⟩ := x.fl; ⟨h, z.sub k⟩, x.cell.keeps k⟩

section
variable {prog : Program} {w : World} {W : Wd} {K : Frag} {off : List Addr} {tb : Tb} {k : Nat} {env : Env} {ρ : Rho} {mg mb : Str → Option Value} {X : List Addr} {s s' s₀ : Shared} {A : Around}
  {KF : Frag} {C N p f1 f2 cc x y dx dy : Addr} {u v : Value}

theorem key_inst {h : Heap} (gx : h.get? x = some (keyObj C dx u)) (gd : h.get? dx = some emptyDict) : InstAt h x (keyObj C dx u) C (some emptyDict) := ⟨gx, rfl, rfl, gd⟩

theorem lt_bound {M : Model} {E : Value → Shared → Prop} {b : Value} {o2 : Obj} {Q : Option Value → Shared → Prop} (kf : KeyFrag KF C N p f1 f2) (X : KF.In s.heap) (gx : s.heap.get? x = some (keyObj C dx u)) (gd : s.heap.get? dx = some emptyDict)
    (gf : s.heap.get? f2 = some o2) (hc : o2.cls = .type "function") (h : wpAny M A (call (.ref f2) [.ref x, b]) (fun v => Q (some v)) E s) : wpAny M A (callSpecialIfBound? (.ref x) "__lt__" [b]) Q E s := by
  obtain ⟨n1, n2, n3, n4, n5, n6⟩ := kf.find
  have tf : typeIn [(f2, o2)] (.ref f2) = some (.type "function") := by rw [type_one, hc]
  simp only [callSpecialIfBound?, bindSpecialIfBound?]
  refine wpAny_holding (wpAny_bind (wpAny_bind (wpAny_bind ((key_inst gx gd).type.here ((looks_findIn X n3).here ?_)))))
  refine wpAny_bind (wpAny_askSetting (wpAny_ite ?_))
  have fin : wpAny M A (call (.ref f2) ([.ref x] ++ [b]) >>= fun v => pure (some v)) Q E s := wpAny_bind (wpAny_mono h (fun v s' h' => wpAny_pure h') fun _ _ h' => h')
  split
  · exact wpAny_bind ((bind_fn (in_one gf) _ tf).here (wpAny_pure (by exact fin)))
  · exact wpAny_tryCatch (wpAny_bind ((bind_fn (in_one gf) _ tf).here (wpAny_pure (by exact fin))))

theorem cmp_keys {E : Value → Shared → Prop} {o2 : Obj} {Q : Value → Shared → Prop} (hu : A.units < cLine) (kf : KeyFrag KF C N p f1 f2) (X : KF.In s.heap) (gx : s.heap.get? x = some (keyObj C dx u)) (gd : s.heap.get? dx = some emptyDict)
    (gy : s.heap.get? y = some (keyObj C dy v)) (gdy : s.heap.get? dy = some emptyDict)
    (gf : s.heap.get? f2 = some o2) (hc : o2.cls = .type "function") (h : wpAny (model prog w) A (call (.ref f2) [.ref x, .ref y]) (fun v s' => ∃ b, v = .bool b ∧ Q (.bool b) s') E s) : wpAny (model prog w) A (compareOp .Lt (.ref x) (.ref y)) Q E s := by
  show wpAny (model prog w) A (richCompare .Lt (.ref x) (.ref y)) Q E s
  unfold richCompare
  simp only [oneThing_ref]
  refine wpAny_holding (wpAny_bind (wpAny_cRoomFor hu ?_))
  refine wpAny_bind ((key_inst gx gd).type.here (wpAny_bind ((key_inst gy gdy).type.here ?_)))
  refine wpAny_ite_false (by simp) ?_
  refine wpAny_bind (wpAny_pure ?_)
  simp only [Bool.false_eq_true, if_false]
  unfold tryCompare
  refine wpAny_bind (wpAny_bind (lt_bound kf X gx gd gf hc (wpAny_mono h (fun v' s' z => ?_) fun _ _ e => e)))
  obtain ⟨b, rfl, q⟩ := z
  exact wpAny_pure (wpAny_pure q)

theorem call_lt {a b c : Int} {tu tv : Tok} {f0 : Addr} {of0 : Obj} {fd0 : FuncData} {Q : Value → Shared → Prop} (hR : Room A (k + 1)) (G : Globs K off mg mb) (hO : Ok K off tb X s) (KE : KeyEnv W s.heap KF C N p f1 f2 cc (.ref f0))
    (gx : s.heap.get? x = some (keyObj C dx (.int a tu))) (gdx : s.heap.get? dx = some emptyDict) (gy : s.heap.get? y = some (keyObj C dy (.int b tv))) (gdy : s.heap.get? dy = some emptyDict)
    (hf0 : K.lookup f0 = some of0) (hfo : f0 ∉ off) (hfd : of0.data = .func fd0) (hfn : Fn prog w K off tb k (.ref f0) [.int a, .int b] (.int c)) (hQ : ∀ s', Ext tb s s' → Q (.bool (decide (c < 0))) s') :
    wpAny (model prog w) A (call (.ref f2) [.ref x, .ref y]) Q NoE s := by
  obtain ⟨h₀, c', ctv, doc, gf, rec, _, _⟩ := KE.fl
  refine wpAny_call ?_
  refine code_closed (binds := [("self", .ref x), ("other", .ref y)]) rfl hR.lim gf rfl (hO.globs G).2.2 rec rfl ?_ ?_ ?_ (fun h1 t1 ns1 kp => ?_)
  · intro A' Q E' hq
    exact wpAny_pure hq
  · exact List.forall_mem_cons.mpr ⟨by decide, List.forall_mem_cons.mpr ⟨by decide, List.forall_mem_cons.mpr ⟨by decide, fun _ h => nomatch h⟩⟩⟩
  · exact List.forall_mem_cons.mpr ⟨rfl, List.forall_mem_cons.mpr ⟨rfl, fun _ h => nomatch h⟩⟩
  · have gL0 : s.heap.get? s.heap.objs.size = none := at_none (Nat.le_refl _)
    have nL := notTab_new hO gL0
    obtain ⟨oL, esL, epL, gL, rL⟩ := id ns1
    have FF : Fr s.heap s.heap.objs.size h1 _ := ⟨ns1, kp, Nat.le_refl _⟩
    refine wpAny_mono (E := NoE) ?_ (fun _ _ z => z) fun _ _ z => z.elim
    refine wpAny_execs_cons (wpAny_Return_some (wpAny_Compare1 (wpAny_Call_NameR (bound_load (v := .ref f0) rfl (.inr ⟨.inr rfl, cc, rfl, KE.cell.keeps kp⟩) (callWith_fn hfd ?_ rfl) (by decide) (by decide))) (by with_unfolding_all rfl)))
    refine spliced_cons (Attribute_name (bound_load (v := .ref x) rfl (.inl ⟨rfl, _, ns1, rfl⟩) (get_key KE.kf FF KE.inn (kp _ _ gx) (kp _ _ gdx) rfl ?_) (by decide) (by decide)))
    refine spliced_cons (Attribute_name (bound_load (s := { s with heap := h1, toks := t1 + 1 }) (v := .ref y) rfl (.inl ⟨rfl, _, ns1, rfl⟩) (get_key KE.kf FF KE.inn (kp _ _ gy) (kp _ _ gdy) rfl ?_) (by decide) (by decide)))
    have e₁ : Ext tb s { s with heap := h1, toks := t1 + 1 + 1 } := .of_sub kp rfl rfl
    obtain ⟨O1, visS⟩ := hO.hide e₁ gL0 ⟨_, gL⟩ nL.1
    refine spliced_nil ⟨O1.get hf0 hfo, ?_⟩
    refine hfn _ _ _ _ _ hR.deeper O1 (.cons .mkInt (.cons .mkInt .nil)) fun v' s₂ e₂ r₂ => ?_
    obtain ⟨t', rfl⟩ := r₂.int
    refine wpAny_Constant_int (lt_int ?_)
    exact hQ _ ((e₁.trans e₂).trans (ext_tok _ _))

theorem keep_C (kf : KeyFrag KF C N p f1 f2) : keepIn KF (.ref C) = true := by
  obtain ⟨bT, tk, tq, hc⟩ := kf.cls
  have tc : typeIn KF (.ref C) = some (.type "type") := by show (KF.lookup C).map (·.cls) = _; rw [hc]; rfl
  have a : specialIn KF (.ref C) "__call__" = some (some (.builtin "type.__call__")) := by unfold specialIn; rw [tc]; kernel_rfl
  unfold keepIn
  simp only [hc, a]
  simp

/-- key(a) < key(b) -/
theorem pt_keys {xk xa xb : Str} {p1 p2 p3 p4 p5 p6 p7 : Pos} {a b c : Int} {ck f0 : Addr} {of0 : Obj} {fd0 : FuncData} (G : Globs K off mg mb) (HK : ∀ g, TopOk K off g → KeyEnv W g KF C N p f1 f2 cc (.ref f0)) (hC : ∀ g, TopOk K off g → g.IsCell ck (some (.ref C)))
    (hk : CellKind env xk) (hck : env.cells.lookup xk = some ck) (ha : ρ.lookup xa = some (.int a)) (hb : ρ.lookup xb = some (.int b))
    (hf0 : K.lookup f0 = some of0) (hfo : f0 ∉ off) (hfd : of0.data = .func fd0) (hfn : Fn prog w K off tb k (.ref f0) [.int a, .int b] (.int c))
    (h1 : starEach [.Name xa p2] env = [(false, eval (.Name xa p2) env)] := by rfl) (h2 : starEach [.Name xb p5] env = [(false, eval (.Name xb p5) env)] := by rfl)
    (hd : (xk == ("__debug__" : Str)) = false := by decide) (hn : (xk == ("__classdict__" : Str)) = false := by decide) (hda : (xa == ("__debug__" : Str)) = false := by decide) (hna : (xa == ("__classdict__" : Str)) = false := by decide)
    (hdb : (xb == ("__debug__" : Str)) = false := by decide) (hnb : (xb == ("__classdict__" : Str)) = false := by decide) :
    PT prog w K off tb (k + 2) env ρ (.Compare (.Call (.Name xk p1) [.Name xa p2] [] p3) [.Lt] [.Call (.Name xk p4) [.Name xb p5] [] p6] p7) (decide (c < 0)) := by
  intro A X s Q hR hO hE h
  have mk : ∀ {xa : Str} {pa p1 p3 : Pos} {a : Int} {s : Shared} {Q : Value → Shared → Prop}, Ok K off tb X s → EnvOk tb X env ρ s → ρ.lookup xa = some (.int a) → starEach [.Name xa pa] env = [(false, eval (.Name xa pa) env)] → (xa == ("__debug__" : Str)) = false → (xa == ("__classdict__" : Str)) = false →
      (∀ x dx t s', Ext tb s s' → Sub s.heap s'.heap → s.heap.get? x = none → s'.heap.get? x = some (keyObj C dx (.int a t)) → s'.heap.get? dx = some emptyDict → Q (.ref x) s') → wpAny (model prog w) A (eval (.Call (.Name xk p1) [.Name xa pa] [] p3) env) Q NoE s := by
    intro xa pa p1 p3 a s Q hO hE ha hst hda hna hq
    have kc := hC _ hO.top
    obtain ⟨oc, gc, dc⟩ := kc
    refine wpAny_Call_NameR (bound_load (v := .ref C) hE.kind (.inr ⟨hk, ck, hck, oc, (vis_get gc).1, dc⟩) ?_ hd hn)
    have KE := (HK _ hO.top).sub (vis_below _ _ _)
    refine callWith_of (P := fun h => KF.In h) (by rw [hst]; rfl) (keeps_K (keep_C KE.kf)) ?_
    rw [hst]
    obtain ⟨va, ba, ra⟩ := hE.vars _ (PySem.mem_of_lookup ha)
    obtain ⟨ta, rfl⟩ := ra.int
    refine evalArgs_plain (spliced_cons (bound_load hE.kind ba (spliced_nil ⟨KE.inn, ?_⟩) hda hna))
    obtain ⟨h₀, F1⟩ := KE.fi
    refine call_key (by have := hR.lim; have := hR.depth; show A.depth + 1 < 1000; omega) KE.kf KE.inn F1 (hO.globs G).2.2 fun x dx h' t' kp nx nd gx gd => ?_
    exact hq x dx ta _ (.of_sub kp rfl rfl) kp nx gx gd
  refine wpAny_isTrue_Compare1 (mk hO hE ha h1 hda hna fun x dx tx s₁ e₁ sb₁ nx gx gdx => mk (hO.ext e₁) (hE.ext hO e₁) hb h2 hdb hnb fun y dy ty s₂ e₂ sb₂ ny gy gdy => ?_) (by with_unfolding_all rfl)
  have O2 := (hO.ext e₁).ext e₂
  have KE := (HK _ O2.top).sub (vis_below _ _ _)
  obtain ⟨h₀, c', ctv, doc, gf, _⟩ := KE.fl
  refine cmp_keys (Nat.lt_of_lt_of_le (Nat.lt_of_lt_of_le (Nat.lt_succ_self _) (by omega : A.units + 1 ≤ A.units + 900)) hR.c) KE.kf KE.inn (sb₂ _ _ gx) (sb₂ _ _ gdx) gy gdy gf rfl ?_
  refine call_lt (k := k) (hR.less (by omega)) G O2 KE (sb₂ _ _ gx) (sb₂ _ _ gdx) gy gdy hf0 hfo hfd hfn fun s₃ e₃ => ⟨_, rfl, wpAny_truthy_bool (h _ ((e₁.trans e₂).trans e₃))⟩
end
end Mine
end
section
open PySem PySem.W PySem.Calls PyProof.Rows
set_option maxRecDepth 100000
set_option linter.all false
namespace Mine
section
variable {prog : Program} {w : World} {W : Wd} {K L : Frag} {off : List Addr} {tb : Tb} {k : Nat} {env : Env} {ρ ρ' : Rho} {β β' : Raw} {mg mb : Str → Option Value} {X : List Addr} {s s' s₀ s₁ : Shared} {A : Around}

/-- x := v for a name that lies in a cell -/
theorem St.storeC {x : Str} {c : Addr} {v : Value} {Q : Unit → Shared → Prop} {E : Value → Shared → Prop} (S : St K off tb X env ρ β s) (hX : c ∈ X) (hk : env.kindOf x = some .cell) (hc : env.cells.lookup x = some c) (hv0 : ∃ v0, s.heap.IsCell c v0)
    (hU : ∀ x y c, env.cells.lookup x = some c → env.cells.lookup y = some c → x = y)
    (h : ∀ s', ExtO tb [c] s s' → s'.heap.IsCell c (some v) → (∀ ρ' β', (∀ p ∈ ρ', (p.1 = x ∧ Rp (vis tb X s.heap) v p.2) ∨ (p ∈ ρ ∧ p.1 ≠ x)) → (∀ p ∈ β', p = (x, v) ∨ (p ∈ β ∧ p.1 ≠ x)) → St K off tb X env ρ' β' s') →
      (∀ b o, b ≠ c → s.heap.get? b = some o → s'.heap.get? b = some o) → Q () s') :
    wpAny (model prog w) A (storeName env x v) Q E s := by
  obtain ⟨m, hLn⟩ := S.loc
  obtain ⟨v0, hv0⟩ := hv0
  refine wpAny_storeName_cell S.en.kind hk hc hv0 fun h' n' sb => ?_
  obtain ⟨oc, c1, c2⟩ := id hv0
  obtain ⟨oc', g', d'⟩ := id n'
  have inX : ∀ y ∈ [c], y ∈ X := fun y hy => by rw [List.mem_singleton] at hy; exact hy ▸ hX
  have x1 : ExtO tb [c] s { s with heap := h' } :=
    ⟨fun b o _ m e => sb.extBut b o (fun z => m (by simp [z])) e, fun q hq z => z.but sb.extBut c1 (noCode_cell c2) (ne_of_tab (S.ok.cellTab hv0) hq), rfl, rfl⟩
  have O' : Ok K off tb X { s with heap := h' } := S.ok.extO x1 inX (fun y hy => by rw [List.mem_singleton] at hy; exact hy ▸ ⟨_, g'⟩)
  have bnd : ∀ y u, y ≠ x → Bound env s.heap y u → Bound env h' y u := fun y u hn b => by
    rcases b with ⟨kl, m', ⟨o1, es1, ep1, a1, a2, a3⟩, hm⟩ | ⟨kc, c', hc', hv⟩
    · exact .inl ⟨kl, m', ⟨o1, es1, ep1, sb.extBut _ _ (fun z => by rw [z, c1] at a1; cases a1; rw [c2] at a2; cases a2) a1, a2, a3⟩, hm⟩
    · obtain ⟨o', b1, b2⟩ := hv
      exact .inr ⟨kc, c', hc', o', sb.extBut c' o' (fun z => hn (hU _ _ c (z ▸ hc') hc)) b1, b2⟩
  have hL' : ∃ m, h'.Ns env.locals m := by
    obtain ⟨o1, es1, ep1, a1, a2, a3⟩ := hLn
    exact ⟨m, o1, es1, ep1, sb.extBut _ _ (fun z => by rw [z, c1] at a1; cases a1; rw [c2] at a2; cases a2) a1, a2, a3⟩
  refine h _ x1 n' (fun ρ' β' h1 h2 => ⟨O', ⟨S.en.kind, S.en.globals, S.en.builtins, S.en.nloc, fun q hq => ?_⟩, fun q hq => ?_, hL'⟩) (fun b o ne g => sb.extBut b o ne g)
  · rcases h1 q hq with ⟨e, r⟩ | ⟨hq, ne⟩
    · exact ⟨v, by rw [e]; exact .inr ⟨.inl hk, c, hc, n'⟩, r.sub (x1.vis inX)⟩
    · obtain ⟨u, b, ru⟩ := S.en.vars q hq
      exact ⟨u, bnd _ _ ne b, ru.sub (x1.vis inX)⟩
  · rcases h2 q hq with rfl | ⟨hq, ne⟩
    · exact .inr ⟨.inl hk, c, hc, n'⟩
    · exact bnd _ _ ne (S.raw q hq)

/-- a table that has changed is marked and put aside -/
theorem Ok.mark {P : Addr} {ps : Array Value} (O : Ok K off tb X s) (x : ExtO tb [P] s s') (hP0 : (vis tb X s.heap).get? P = some (tabObj ps)) (hP1 : TabOk s'.heap P .any) : Ok K (P :: off) ((P, .any) :: tb) X s' ∧
    (∀ b o, b ≠ P → (vis tb X s.heap).get? b = some o → (vis ((P, .any) :: tb) X s'.heap).get? b = some o) := by
  obtain ⟨gP, nt, nx⟩ := vis_get hP0
  have sb : ∀ b o, b ≠ P → (vis tb X s.heap).get? b = some o → (vis ((P, .any) :: tb) X s'.heap).get? b = some o := fun b o ne g => by
    obtain ⟨g0, n, m⟩ := vis_get g
    refine vis_mk (x.keep b o n (fun z => ne (List.mem_singleton.mp z)) g0) (fun z => ?_) m
    rcases List.mem_cons.mp z with z | z
    · exact ne z
    · exact n z
  refine ⟨⟨fun y hy => ?_, fun q hq => ?_, fun a o e n => ?_⟩, sb⟩
  · obtain ⟨n, o, g⟩ := O.priv y hy
    have ne : y ≠ P := fun z => nx (z ▸ hy)
    refine ⟨fun z => ?_, o, x.keep y o n (fun z => ne (List.mem_singleton.mp z)) g⟩
    rcases List.mem_cons.mp z with z | z
    · exact ne z
    · exact n z
  · rcases List.mem_cons.mp hq with rfl | hq
    · exact hP1
    · exact x.tab q hq (O.tabs q hq)
  · exact sb a o (fun z => n (z ▸ List.mem_cons_self)) (O.top a o e fun z => n (List.mem_cons_of_mem _ z))
theorem Rp.mark {P : Addr} {ps : Array Value} {g g' : Heap} {v : Value} {d : PyData} (hP0 : g.get? P = some (tabObj ps)) (sb : ∀ b o, b ≠ P → g.get? b = some o → g'.get? b = some o) (r : Rp g v d) : Rp g' v d :=
  r.seqs fun b o hd e => sb b o (fun z => by
    rw [z, hP0] at e; cases e
    rcases hd with ⟨_, _, hd⟩ | ⟨_, _, hd⟩ <;> cases hd) e
theorem St.mark {P : Addr} {ps : Array Value} (S : St K off tb X env ρ β s) (x : ExtO tb [P] s s') (hP0 : (vis tb X s.heap).get? P = some (tabObj ps)) (hP1 : TabOk s'.heap P .any) : St K (P :: off) ((P, .any) :: tb) X env ρ β s' := by
  obtain ⟨O', sb⟩ := S.ok.mark x hP0 hP1
  obtain ⟨gP, nt, nx⟩ := vis_get hP0
  have nl : env.locals ≠ P := fun z => by
    obtain ⟨m, o, es, ep, g, d, _⟩ := S.loc
    rw [z, gP] at g; cases g; cases d
  have nl' : env.locals ∉ [P] := fun z => nl (List.mem_singleton.mp z)
  have bnd : ∀ y u, Bound env s.heap y u → Bound env s'.heap y u := fun y u b => by
    rcases b with ⟨k, m, ⟨ob, es, ep, h1, h2, h3⟩, hm⟩ | ⟨k, c, hcc, ob, h1, h2⟩
    · exact .inl ⟨k, m, ⟨ob, es, ep, x.keep _ _ S.en.nloc nl' h1, h2, h3⟩, hm⟩
    · exact .inr ⟨k, c, hcc, ob, x.keep _ _ (S.ok.cellTab ⟨ob, h1, h2⟩) (fun z => by
        rw [List.mem_singleton.mp z, gP] at h1; cases h1; cases h2) h1, h2⟩
  refine ⟨O', ⟨S.en.kind, S.en.globals, S.en.builtins, fun z => ?_, fun q hq => ?_⟩, fun q hq => bnd _ _ (S.raw q hq), ?_⟩
  · rcases List.mem_cons.mp z with z | z
    · exact nl z
    · exact S.en.nloc z
  · obtain ⟨u, b, ru⟩ := S.en.vars q hq
    exact ⟨u, bnd _ _ b, ru.mark hP0 sb⟩
  · obtain ⟨m, o, es, ep, g, r⟩ := S.loc
    exact ⟨m, o, es, ep, x.keep _ _ S.en.nloc nl' g, r⟩
/-- behind the mark: what was kept is kept -/
theorem ExtO.unmark {P : Addr} {Y : List Addr} {s'' : Shared} (x : ExtO tb [P] s s') (y : ExtO ((P, .any) :: tb) Y s' s'') (hY : ∀ z ∈ Y, s.heap.get? z = none) : ExtO tb [P] s s'' := by
  refine ⟨fun b o n m g => ?_, fun q hq z => y.tab q (List.mem_cons_of_mem _ hq) (x.tab q hq z), y.gens.trans x.gens, y.os.trans x.os⟩
  refine y.keep b o (fun z => ?_) (fun z => by rw [hY b z] at g; cases g) (x.keep b o n m g)
  rcases List.mem_cons.mp z with z | z
  · exact m (List.mem_singleton.mpr z)
  · exact n z
end

section
variable {prog : Program} {w : World} {W : Wd} {K L : Frag} {off : List Addr} {tb : Tb} {k : Nat} {env : Env} {ρ ρ' : Rho} {β β' : Raw} {mg mb : Str → Option Value} {X : List Addr} {s s' s₀ s₁ : Shared} {A : Around}
/-- all that is seen now is held fast from now on, by name -/
theorem freeze' (o : Ok K off tb X s) (hoff : ∀ a ∈ off, a ∈ tb.map (·.1)) : ∃ L : Frag, Ok (K ++ L) off tb X s ∧ (∀ g, TopOk (K ++ L) off g → Sub (vis tb X s.heap) g) ∧ ∀ a ob, (vis tb X s.heap).get? a = some ob → (K ++ L).lookup a = some ob ∧ a ∉ off := by
  obtain ⟨L, h1, h2⟩ := frag_all (vis tb X s.heap)
  have og := o.grow h1
  refine ⟨L, og, fun g t b ob e => frozen o h1 hoff g t (b, ob) (h2 b ob e), fun a ob e => ?_⟩
  have hn : a ∉ off := fun z => (vis_get e).2.1 (hoff _ z)
  refine ⟨?_, hn⟩
  cases hl : (K ++ L).lookup a with
  | none =>
    have := List.lookup_eq_none_iff.mp hl (a, ob) (List.mem_append_right _ (h2 a ob e))
    simp at this
  | some ob' =>
    have h3 := og.top _ _ hl hn
    rw [e] at h3; exact h3.symm
end
end Mine
end
section
open PySem
namespace Mine
/-- the plain law: an order in which what stands above one thing is a chain -/
structure Hier (α : Type) (A : α → α → Bool) (len : α → Nat) : Prop where
  refl : ∀ x, A x x = true
  trans : ∀ x y z, A x y = true → A y z = true → A x z = true
  lin : ∀ x y z, A x z = true → A y z = true → A x y = true ∨ A y x = true
  short : ∀ x y, A x y = true → x = y ∨ len x < len y
section
variable {α : Type} [DecidableEq α] {A : α → α → Bool} {len : α → Nat} (H : Hier α A len)
include H
theorem Hier.anti {x y : α} (a : A x y = true) (b : A y x = true) : x = y := by
  rcases H.short x y a with h | h
  · exact h
  · rcases H.short y x b with h' | h'
    · exact h'.symm
    · omega
omit H [DecidableEq α] in
theorem covers_iff {ms : List α} {y : α} : ms.any (fun m => A m y) = true ↔ ∃ m ∈ ms, A m y = true := List.any_eq_true
/-- the first of the shortest -/
def shortest (len : α → Nat) : α → List α → α
  | b, [] => b
  | b, x :: r => if len x < len b then shortest len x r else shortest len b r
omit H [DecidableEq α] in
theorem shortest_spec (b : α) (l : List α) : shortest len b l ∈ b :: l ∧ ∀ z ∈ b :: l, len (shortest len b l) ≤ len z := by
  induction l generalizing b with
  | nil => exact ⟨List.mem_cons_self, fun z hz => by rw [List.mem_singleton] at hz; subst hz; exact Nat.le_refl _⟩
  | cons x r ih =>
    unfold shortest
    split
    · rename_i h
      obtain ⟨a, c⟩ := ih x
      refine ⟨List.mem_cons_of_mem _ a, fun z hz => ?_⟩
      rcases List.mem_cons.mp hz with rfl | hz
      · have := c x List.mem_cons_self; omega
      · exact c z hz
    · rename_i h
      obtain ⟨a, c⟩ := ih b
      refine ⟨?_, fun z hz => ?_⟩
      · rcases List.mem_cons.mp a with e | e
        · rw [e]; exact List.mem_cons_self
        · exact List.mem_cons_of_mem _ (List.mem_cons_of_mem _ e)
      · have hb := c b List.mem_cons_self
        rcases List.mem_cons.mp hz with rfl | hz
        · exact hb
        · rcases List.mem_cons.mp hz with rfl | hz
          · omega
          · exact c z (List.mem_cons_of_mem _ hz)
def topIn (A : α → α → Bool) (len : α → Nat) (ns : List α) (y : α) : α :=
  match ns.filter (fun one => A one y) with
  | [] => y
  | b :: r => shortest len b r
omit [DecidableEq α] in
theorem top_spec {ns : List α} {y : α} (hy : ∃ z ∈ ns, A z y = true) : topIn A len ns y ∈ ns ∧ A (topIn A len ns y) y = true ∧ ∀ z ∈ ns, A z y = true → A (topIn A len ns y) z = true := by
  have hne : ns.filter (fun one => A one y) ≠ [] := fun e => by
    obtain ⟨z, hz, ha⟩ := hy
    have : z ∈ ns.filter (fun one => A one y) := List.mem_filter.mpr ⟨hz, ha⟩
    rw [e] at this; cases this
  have mem : ∀ z, z ∈ ns.filter (fun one => A one y) ↔ z ∈ ns ∧ A z y = true := fun z => List.mem_filter
  unfold topIn
  cases hf : ns.filter (fun one => A one y) with
  | nil => exact absurd hf hne
  | cons b r =>
    rw [hf] at mem
    obtain ⟨m, le⟩ := shortest_spec (len := len) b r
    obtain ⟨m1, m2⟩ := (mem _).mp m
    refine ⟨m1, m2, fun z hz ha => ?_⟩
    rcases H.lin _ _ _ m2 ha with h | h
    · exact h
    · rcases H.short _ _ h with e | e
      · rw [e]; exact H.refl _
      · have := le z ((mem z).mpr ⟨hz, ha⟩)
        omega
def IsMin (A : α → α → Bool) (ns : List α) (x : α) : Prop := ∀ z ∈ ns, A z x = true → z = x
theorem top_min {ns : List α} {y : α} (hy : ∃ z ∈ ns, A z y = true) : IsMin A ns (topIn A len ns y) := by
  obtain ⟨t1, t2, t3⟩ := top_spec H hy
  intro z hz ha
  exact H.anti ha (t3 z hz (H.trans _ _ _ ha t2))
theorem top_eq {ns : List α} {y : α} (hy : y ∈ ns) : topIn A len ns y = y ↔ IsMin A ns y := by
  have he : ∃ z ∈ ns, A z y = true := ⟨y, hy, H.refl y⟩
  refine ⟨fun e => e ▸ top_min H he, fun h => ?_⟩
  obtain ⟨t1, t2, _⟩ := top_spec H he
  exact h _ t1 t2
omit H [DecidableEq α] in
theorem snoc_ind {P : List α → Prop} (h0 : P []) (h1 : ∀ l a, P l → P (l ++ [a])) (l : List α) : P l := by
  rw [← List.reverse_reverse l]
  generalize l.reverse = r
  induction r with
  | nil => exact h0
  | cons a r ih => rw [List.reverse_cons]; exact h1 _ _ ih
omit H [DecidableEq α] in
theorem getD_app {ns ms : List α} {k : Nat} {d : α} (hk : k < ns.length) : (ns ++ ms).getD k d = ns.getD k d := by
  rw [List.getD_eq_getElem?_getD, List.getD_eq_getElem?_getD, List.getElem?_append_left hk]
/-- what stands first, in order -/
def firsts (d : α) (ns : List α) : List α := ((List.range ns.length).filter fun k => !decide (ns.getD k d ∈ ns.take k)).map fun k => ns.getD k d
omit H in
theorem firsts_snoc (d : α) (ns : List α) (x : α) : firsts d (ns ++ [x]) = if x ∈ ns then firsts d ns else firsts d ns ++ [x] := by
  unfold firsts
  have e1 : (List.range ns.length).filter (fun k => !decide ((ns ++ [x]).getD k d ∈ (ns ++ [x]).take k)) = (List.range ns.length).filter (fun k => !decide (ns.getD k d ∈ ns.take k)) := by
    refine List.filter_congr fun k hk => ?_
    have hk := List.mem_range.mp hk
    rw [getD_app hk, List.take_append_of_le_length (Nat.le_of_lt hk)]
  have e2 : ∀ l : List Nat, (∀ k ∈ l, k < ns.length) → l.map (fun k => (ns ++ [x]).getD k d) = l.map (fun k => ns.getD k d) := fun l hl => List.map_congr_left fun k hk => getD_app (hl k hk)
  have e3 : (ns ++ [x]).getD ns.length d = x := by simp [List.getD_eq_getElem?_getD]
  have e4 : (ns ++ [x]).take ns.length = ns := by simp
  rw [List.length_append, List.length_singleton, List.range_succ, List.filter_append, List.map_append, e1, e2 _ fun k hk => List.mem_range.mp (List.mem_filter.mp hk).1]
  by_cases h : x ∈ ns
  · simp [e4, h]
  · simp [e4, h]
omit H in
theorem firsts_mem (d : α) (ns : List α) (x : α) : x ∈ firsts d ns ↔ x ∈ ns := by
  induction ns using snoc_ind with
  | h0 => simp [firsts]
  | h1 l a ih =>
    rw [firsts_snoc]
    split
    · rename_i h
      rw [ih]
      simp only [List.mem_append, List.mem_singleton]
      exact ⟨.inl, fun z => z.elim id fun e => e ▸ h⟩
    · simp [ih]
omit H in
theorem firsts_nodup (d : α) (ns : List α) : (firsts d ns).Nodup := by
  induction ns using snoc_ind with
  | h0 => simp [firsts]
  | h1 l a ih =>
    rw [firsts_snoc]
    split
    · exact ih
    · rename_i h
      rw [List.nodup_append]
      refine ⟨ih, by simp, fun x hx y hy => ?_⟩
      rw [List.mem_singleton] at hy
      rintro rfl
      exact h (hy ▸ (firsts_mem d l x).mp hx)
def minB (A : α → α → Bool) (ns : List α) (x : α) : Bool := ns.all fun z => !A z x || decide (z = x)
omit H in
theorem minB_iff {ns : List α} {x : α} : minB A ns x = true ↔ IsMin A ns x := by
  unfold minB IsMin
  rw [List.all_eq_true]
  refine forall_congr' fun z => forall_congr' fun _ => ?_
  cases A z x <;> simp
/-- the tops of a list, each once, in order -/
def tops (A : α → α → Bool) (d : α) (ns : List α) : List α := (firsts d ns).filter (minB A ns)
omit H in
theorem tops_mem {d : α} {ns : List α} {x : α} : x ∈ tops A d ns ↔ x ∈ ns ∧ IsMin A ns x := by
  unfold tops
  rw [List.mem_filter, firsts_mem, minB_iff]
def keepStep (A : α → α → Bool) (kept : List α) (x : α) : List α := if kept.any (fun m => A m x) then kept else (kept.filter fun one => !A x one) ++ [x]
theorem covers_tops (d : α) (ns : List α) (y : α) : (tops A d ns).any (fun m => A m y) = ns.any (fun m => A m y) := by
  rw [Bool.eq_iff_iff, covers_iff, covers_iff]
  refine ⟨fun ⟨m, hm, ha⟩ => ⟨m, (tops_mem.mp hm).1, ha⟩, fun h => ?_⟩
  obtain ⟨t1, t2, _⟩ := top_spec H h
  exact ⟨_, tops_mem.mpr ⟨t1, top_min H h⟩, t2⟩
theorem keep_tops (d : α) (ns : List α) (x : α) : keepStep A (tops A d ns) x = tops A d (ns ++ [x]) := by
  unfold keepStep
  rw [covers_tops H]
  have hmin : ∀ z, IsMin A (ns ++ [x]) z ↔ IsMin A ns z ∧ (A x z = true → x = z) := fun z => by
    unfold IsMin
    simp only [List.mem_append, List.mem_singleton]
    exact ⟨fun h => ⟨fun y hy => h y (.inl hy), fun ha => h x (.inr rfl) ha⟩, fun h y hy ha => hy.elim (fun q => h.1 y q ha) fun q => by subst q; exact h.2 ha⟩
  split
  · rename_i hc
    obtain ⟨m, hm, ha⟩ := covers_iff.mp hc
    have hmin' : ∀ z ∈ ns, minB A (ns ++ [x]) z = minB A ns z := fun z hz => by
      rw [Bool.eq_iff_iff, minB_iff, minB_iff, hmin]
      refine ⟨fun h => h.1, fun h => ⟨h, fun hxz => ?_⟩⟩
      have e := h m hm (H.trans _ _ _ ha hxz)
      subst e
      exact H.anti hxz ha
    unfold tops
    rw [firsts_snoc]
    split
    · exact List.filter_congr fun z hz => (hmin' z ((firsts_mem d ns z).mp hz)).symm
    · rename_i hx
      rw [List.filter_append]
      have : minB A (ns ++ [x]) x = false := by
        rw [Bool.eq_false_iff]
        intro q
        have e := (minB_iff.mp q) m (List.mem_append_left _ hm) ha
        exact hx (e ▸ hm)
      simp only [List.filter_cons, this, Bool.false_eq_true, if_false, List.filter_nil, List.append_nil]
      exact List.filter_congr fun z hz => (hmin' z ((firsts_mem d ns z).mp hz)).symm
  · rename_i hc
    have hx : x ∉ ns := fun q => hc (covers_iff.mpr ⟨x, q, H.refl x⟩)
    have hself : minB A (ns ++ [x]) x = true := minB_iff.mpr ((hmin x).mpr ⟨fun z hz ha => absurd (covers_iff.mpr ⟨z, hz, ha⟩) hc, fun _ => rfl⟩)
    unfold tops
    rw [firsts_snoc, if_neg hx, List.filter_append, List.filter_filter]
    simp only [List.filter_cons, hself, if_true, List.filter_nil]
    congr 1
    refine List.filter_congr fun z hz => ?_
    have hz := (firsts_mem d ns z).mp hz
    rw [Bool.eq_iff_iff, Bool.and_eq_true, minB_iff, minB_iff, hmin]
    have hne : x ≠ z := fun e => hx (e ▸ hz)
    cases hxz : A x z
    · simp
    · simp [hne]
theorem kept_tops (d : α) (ns : List α) : ns.foldl (keepStep A) [] = tops A d ns := by
  induction ns using snoc_ind with
  | h0 => simp [tops, firsts]
  | h1 l a ih => rw [List.foldl_append, ih]; exact keep_tops H d l a
omit H in
theorem tops_alone (d : α) (ns : List α) (k : Nat) (x : α) (hk : (tops A d ns)[k]? = some x) : ((tops A d ns).take k ++ (tops A d ns).drop (k + 1)).any (fun m => A m x) = false := by
  rw [Bool.eq_false_iff]
  intro q
  obtain ⟨m, hm, ha⟩ := covers_iff.mp q
  have hx := (tops_mem.mp (List.mem_of_getElem? hk)).2
  have hmm : m ∈ tops A d ns := (List.mem_append.mp hm).elim (fun z => List.mem_of_mem_take z) fun z => List.mem_of_mem_drop z
  have e := hx m (tops_mem.mp hmm).1 ha
  subst e
  have nd : (tops A d ns).Nodup := (firsts_nodup d ns).filter _
  obtain ⟨hlt, hg⟩ := List.getElem?_eq_some_iff.mp hk
  have split : tops A d ns = (tops A d ns).take k ++ m :: (tops A d ns).drop (k + 1) := by
    conv => lhs; rw [← List.take_append_drop k (tops A d ns), List.drop_eq_getElem_cons hlt, hg]
  rw [split] at nd
  rcases List.mem_append.mp hm with z | z
  · exact (List.nodup_append.mp nd).2.2 m z m List.mem_cons_self rfl
  · exact (List.nodup_cons.mp (List.nodup_append.mp nd).2.1).1 z
/-- the walk over all places: from one thing to its top -/
def rootStep (A : α → α → Bool) (d : α) (ns : List α) (low k : Nat) : Nat := if A (ns.getD k d) (ns.getD low d) && !A (ns.getD low d) (ns.getD k d) then k else low
theorem root_inv (d : α) (ns : List α) (j : Nat) (hj : j < ns.length) : ∀ n ≤ ns.length, let low := (List.range n).foldl (rootStep A d ns) j
    low < ns.length ∧ A (ns.getD low d) (ns.getD j d) = true ∧ ∀ k < n, A (ns.getD k d) (ns.getD low d) = true → ns.getD k d = ns.getD low d := by
  intro n
  induction n with
  | zero => exact fun _ => ⟨hj, H.refl _, fun k hk => absurd hk (Nat.not_lt_zero k)⟩
  | succ n ih =>
    intro hn
    obtain ⟨l1, l2, l3⟩ := ih (by omega)
    rw [List.range_succ, List.foldl_append]
    generalize (List.range n).foldl (rootStep A d ns) j = low at l1 l2 l3
    simp only [List.foldl_cons, List.foldl_nil]
    unfold rootStep
    split
    · rename_i h
      simp only [Bool.and_eq_true, Bool.not_eq_true'] at h
      refine ⟨by omega, H.trans _ _ _ h.1 l2, fun k hk ha => ?_⟩
      rcases Nat.lt_or_ge k n with q | q
      · have e := l3 k q (H.trans _ _ _ ha h.1)
        rw [e] at ha ⊢
        exact H.anti ha h.1
      · have : k = n := by omega
        rw [this]
    · rename_i h
      refine ⟨l1, l2, fun k hk ha => ?_⟩
      rcases Nat.lt_or_ge k n with q | q
      · exact l3 k q ha
      · have : k = n := by omega
        subst this
        cases hb : A (ns.getD low d) (ns.getD k d)
        · exact absurd (by rw [ha, hb]; rfl) h
        · exact H.anti ha hb
theorem root_top (d : α) (ns : List α) (j : Nat) (hj : j < ns.length) : ns.getD ((List.range ns.length).foldl (rootStep A d ns) j) d = topIn A len ns (ns.getD j d) := by
  obtain ⟨l1, l2, l3⟩ := root_inv H d ns j hj ns.length (Nat.le_refl _)
  generalize (List.range ns.length).foldl (rootStep A d ns) j = low at l1 l2 l3
  have gm : ∀ k, k < ns.length → ns.getD k d ∈ ns := fun k hk => by
    rw [List.getD_eq_getElem?_getD, List.getElem?_eq_getElem hk]; exact List.getElem_mem hk
  obtain ⟨t1, t2, t3⟩ := top_spec H (ns := ns) (y := ns.getD j d) ⟨_, gm j hj, H.refl _⟩
  obtain ⟨k, hk, e⟩ := List.getElem_of_mem t1
  have e' : ns.getD k d = topIn A len ns (ns.getD j d) := by rw [List.getD_eq_getElem?_getD, List.getElem?_eq_getElem hk]; exact e
  have := l3 k hk (by rw [e']; exact t3 _ (gm low l1) l2)
  rw [← this, e']
end

theorem hier_names : Hier Str isAbove (·.length) := by
  refine ⟨fun x => (isAbove_iff _ _).mpr (List.prefix_refl _), fun x y z a b => (isAbove_iff _ _).mpr (((isAbove_iff _ _).mp a).trans ((isAbove_iff _ _).mp b)), fun x y z a b => ?_, fun x y a => ?_⟩
  · exact (List.prefix_or_prefix_of_prefix ((isAbove_iff _ _).mp a) ((isAbove_iff _ _).mp b)).imp (isAbove_iff _ _).mpr (isAbove_iff _ _).mpr
  · rw [isAbove_eq, Bool.or_eq_true] at a
    rcases a with a | a
    · exact .inl (by have a : y = x := by simpa using a
                     exact a.symm)
    · have := ((startswith_iff _ _).mp a).length_le
      right
      have e1 : (tl (x ++ dot)).length = x.length + 1 := by
        have : tl (x ++ dot) = tl x ++ tl dot := Array.toList_append
        rw [this, dot_eq, List.length_append]
        rfl
      have e2 : (tl y).length = y.length := rfl
      omega
end Mine
end
section
open PySem PySem.W PySem.Calls PyProof.Rows
set_option maxRecDepth 100000
set_option linter.all false
namespace Mine
abbrev rowOf (names : List Str) (one : Str) : PyData := .list (names.map fun y => .int (tell [one] y))
abbrev toldOf (names : List Str) : PyData := .list (names.map (rowOf names))
theorem tell_one (a y : Str) : tell [a] y = if isAbove a y = true then 1 else 0 := by simp [tell]
theorem step_if (x y : Str) : decide (tell [y] x - tell [x] y < 0) = (isAbove x y && !isAbove y x) := by
  rw [tell_one, tell_one]
  cases isAbove x y <;> cases isAbove y x <;> rfl
theorem getD_get {α : Type} {ns : List α} {k : Nat} {d : α} (h : k < ns.length) : ns[k]? = some (ns.getD k d) := by
  rw [List.getD_eq_getElem?_getD, List.getElem?_eq_getElem h]; rfl
abbrev scTold : Scope := { kind := .function, names := [("j", .local), ("k", .local), ("told", .free)], isGenerator := false, isCoroutine := false, more := [] }
abbrev scStep : Scope := { kind := .function, names := [("low", .local), ("k", .local), ("key", .free)], isGenerator := false, isCoroutine := false, more := [] }
section
variable {prog : Program} {w : World} {W : Wd} {K : Frag} {off : List Addr} {tb : Tb} {k : Nat} {mg mb : Str → Option Value}
  {p1 p2 p3 p4 p5 p6 p7 p8 p9 p10 p11 : Pos} {q : Str} {params : Arguments} {pm ctv : Value} {c' : Addr}
/-- lambda j, k: told[k][j] - told[j][k] -/
theorem fn_told {f ct : Addr} {names : List Str} {vt : Value} {a b : Nat} (G : Globs K off mg mb)
    (hf : K.lookup f = some (kla_obj "<lambda>" q params (.BinOp (.Subscript (.Subscript (.Name "told" p1) (.Name "k" p2) p3) (.Name "j" p4) p5) .Sub (.Subscript (.Subscript (.Name "told" p6) (.Name "j" p7) p8) (.Name "k" p9) p10) p11) scTold [("told", ct)] pm c' ctv)) (hfo : f ∉ off)
    (hbind : ∀ (bd : Expr) (x y : Value), bindArgs (kla_fn "<lambda>" q params bd scTold [("told", ct)] pm (.ref c') ctv) ⟨[x, y], []⟩ = (pure [(("j" : Str), x), (("k" : Str), y)] : Sem (List (Str × Value))))
    (hcd : ∀ X s, Ok K off tb X s → s.heap.CodeRec (.ref c') q) (hct : ∀ g, TopOk K off g → g.IsCell ct (some vt) ∧ Rp g vt (toldOf names)) (ha : a < names.length) (hb : b < names.length) (hlen : names.length ≤ 100) :
    Fn prog w K off tb (k + 1) (.ref f) [.int a, .int b] (.int (tell [names.getD b ""] (names.getD a "") - tell [names.getD a ""] (names.getD b ""))) := by
  refine fn_lambda (xs := ["j", "k"]) (ρF := [("told", toldOf names)]) G hf hfo rfl rfl rfl rfl hcd rfl ?_ (by decide) ?_ ?_ ?_ rfl rfl rfl fun L => ?_
  · intro vs hv
    match vs, hv with
    | [x, y], _ => exact hbind _ x y
  · exact List.forall_mem_cons.mpr ⟨rfl, List.forall_mem_cons.mpr ⟨rfl, fun _ h => nomatch h⟩⟩
  · exact List.forall_mem_cons.mpr ⟨by decide, List.forall_mem_cons.mpr ⟨by decide, List.forall_mem_cons.mpr ⟨by decide, fun _ h => nomatch h⟩⟩⟩
  · exact fun g t => List.forall_mem_cons.mpr ⟨⟨ct, vt, rfl, rfl, (hct g t).1, (hct g t).2⟩, fun _ h => nomatch h⟩
  · have row : ∀ i, i < names.length → (names.map (rowOf names))[i]? = some (rowOf names (names.getD i "")) := fun i hi => by rw [List.getElem?_map, getD_get hi]; rfl
    have it : ∀ i j, i < names.length → (names.map fun y => PyData.int (tell [names.getD j ""] y))[i]? = some (.int (tell [names.getD j ""] (names.getD i ""))) := fun i j hi => by rw [List.getElem?_map, getD_get hi]; rfl
    refine pv_binop (pv_item (j := (a : Nat)) (pv_item (j := (b : Nat)) (ds := names.map (rowOf names)) (pv_var rfl) (pv_var rfl) (by omega) (by omega) (row b hb)) (pv_var rfl) (by omega) (by omega) (it a b ha))
      (pv_item (j := (b : Nat)) (pv_item (j := (a : Nat)) (ds := names.map (rowOf names)) (pv_var rfl) (pv_var rfl) (by omega) (by omega) (row a ha)) (pv_var rfl) (by omega) (by omega) (it b a hb)) op_sub_int

/-- lambda low, k: k if key(k) < key(low) else low -/
theorem fn_step {f f0 ck cc C N p f1 f2 : Addr} {KF : Frag} {names : List Str} {of0 : Obj} {fd0 : FuncData} {low kk : Nat} (G : Globs K off mg mb)
    (hf : K.lookup f = some (kla_obj "<lambda>" q params (.IfExp (.Compare (.Call (.Name "key" p1) [.Name "k" p2] [] p3) [.Lt] [.Call (.Name "key" p4) [.Name "low" p5] [] p6] p7) (.Name "k" p8) (.Name "low" p9) p10) scStep [("key", ck)] pm c' ctv)) (hfo : f ∉ off)
    (hbind : ∀ (bd : Expr) (x y : Value), bindArgs (kla_fn "<lambda>" q params bd scStep [("key", ck)] pm (.ref c') ctv) ⟨[x, y], []⟩ = (pure [(("low" : Str), x), (("k" : Str), y)] : Sem (List (Str × Value))))
    (hcd : ∀ X s, Ok K off tb X s → s.heap.CodeRec (.ref c') q) (HK : ∀ g, TopOk K off g → KeyEnv W g KF C N p f1 f2 cc (.ref f0)) (hC : ∀ g, TopOk K off g → g.IsCell ck (some (.ref C)))
    (hf0 : K.lookup f0 = some of0) (hfo0 : f0 ∉ off) (hfd0 : of0.data = .func fd0)
    (htold : ∀ a b, a < names.length → b < names.length → Fn prog w K off tb k (.ref f0) [.int (a : Nat), .int (b : Nat)] (.int (tell [names.getD b ""] (names.getD a "") - tell [names.getD a ""] (names.getD b ""))))
    (hl : low < names.length) (hk : kk < names.length) :
    Fn prog w K off tb (k + 3) (.ref f) [.int low, .int kk] (.int (rootStep isAbove "" names low kk : Nat)) := by
  refine fn_lambda (xs := ["low", "k"]) (ρF := []) G hf hfo rfl rfl rfl rfl hcd rfl ?_ (by decide) ?_ ?_ (fun _ _ _ h => nomatch h) rfl rfl rfl fun L => ?_
  · intro vs hv
    match vs, hv with
    | [x, y], _ => exact hbind _ x y
  · exact List.forall_mem_cons.mpr ⟨rfl, List.forall_mem_cons.mpr ⟨rfl, fun _ h => nomatch h⟩⟩
  · exact List.forall_mem_cons.mpr ⟨by decide, List.forall_mem_cons.mpr ⟨by decide, List.forall_mem_cons.mpr ⟨by decide, fun _ h => nomatch h⟩⟩⟩
  · refine pv_ifexp (pt_keys (xk := "key") (xa := "k") (xb := "low") (a := kk) (b := low) G HK hC (.inr rfl) rfl rfl rfl hf0 hfo0 hfd0 (htold kk low hk hl)) (fun z => ?_) (fun z => ?_)
    · rw [step_if] at z
      have e : rootStep isAbove "" names low kk = kk := if_pos z
      rw [e]; exact pv_var rfl
    · rw [step_if] at z
      have e : rootStep isAbove "" names low kk = low := if_neg (by rw [z]; decide)
      rw [e]; exact pv_var rfl
end
end Mine
end
section
open PySem PySem.W PySem.Calls PyProof.Rows
set_option maxRecDepth 100000
set_option linter.all false
namespace Mine
abbrev rootFold (names : List Str) (j i : Nat) : Nat := (List.range i).foldl (rootStep isAbove "" names) j
theorem rootFold_lt {names : List Str} {j i : Nat} (hj : j < names.length) (hi : i ≤ names.length) : rootFold names j i < names.length := (root_inv hier_names "" names j hj i hi).1
theorem rootFold_succ {names : List Str} {j i : Nat} : rootFold names j (i + 1) = rootStep isAbove "" names (rootFold names j i) i := by
  unfold rootFold
  rw [List.range_succ, List.foldl_append]; rfl
section
variable {prog : Program} {w : World} {W : Wd} {L : Frag} {off : List Addr} {tb : Tb} {k : Nat} {env : Env} {ρ : Rho}
  {p1 p2 p3 p4 p5 p6 p7 p8 p9 p10 p11 r1 r2 r3 rpos lpos : Pos} {q : Str} {params : Arguments}
/-- reduce(lambda low, k: .., places, j) -/
theorem pv_root {f0 ck cp cc C N p f1 f2 : Addr} {KF : Frag} {names : List Str} {vp : Value} {of0 : Obj} {fd0 : FuncData} {j : Nat} (G : Globs (K1 W) off (mg1 W) (mb1 W)) (hoff : ∀ a ∈ [29, 30, 36, 37], a ∉ off) (hoffT : ∀ a ∈ off, a ∈ tb.map (·.1))
    (T : TabAt (K1 W ++ L) off tb (mg1 W) env 125 123 q) (HK : ∀ g, TopOk (K1 W ++ L) off g → KeyEnv W g KF C N p f1 f2 cc (.ref f0)) (hC : ∀ g, TopOk (K1 W ++ L) off g → g.IsCell ck (some (.ref C)))
    (hP : ∀ g, TopOk (K1 W ++ L) off g → g.IsCell cp (some vp) ∧ RgAt g vp names.length) (hf0 : (K1 W ++ L).lookup f0 = some of0) (hfo0 : f0 ∉ off) (hfd0 : of0.data = .func fd0)
    (htold : ∀ a b, a < names.length → b < names.length → Fn prog w (K1 W ++ L) off tb k (.ref f0) [.int (a : Nat), .int (b : Nat)] (.int (tell [names.getD b ""] (names.getD a "") - tell [names.getD a ""] (names.getD b ""))))
    (hj : ρ.lookup ("j" : Str) = some (.int (j : Nat))) (hjl : j < names.length) (hlen : names.length ≤ 100) (hkr : env.kindOf "reduce" = some .globalImplicit) (hkp : CellKind env "places") (hcp : env.cells.lookup ("places" : Str) = some cp)
    (hcl : closureFor scStep env = pure [(("key" : Str), ck)]) (hq : env.qual ++ "<lambda>" = q) (hdef : defaultsOf params env = ([], []))
    (hbind : ∀ (bd : Expr) (pm ctv : Value) (c' : Addr) (x y : Value), bindArgs (kla_fn "<lambda>" q params bd scStep [("key", ck)] pm (.ref c') ctv) ⟨[x, y], []⟩ = (pure [(("low" : Str), x), (("k" : Str), y)] : Sem (List (Str × Value)))) :
    PV prog w (K1 W ++ L) off tb (k + 4) env ρ (.Call (.Name "reduce" r1) [.Lambda params (.IfExp (.Compare (.Call (.Name "key" p1) [.Name "k" p2] [] p3) [.Lt] [.Call (.Name "key" p4) [.Name "low" p5] [] p6] p7) (.Name "k" p8) (.Name "low" p9) p10) scStep lpos,
      .Name "places" r2, .Name "j" r3] [] rpos) (.int (rootFold names j names.length : Nat)) := by
  intro A X s Q hR hO hE h
  obtain ⟨o37, fd37, l37, d37⟩ : ∃ o fd, (K1 W).lookup 37 = some o ∧ o.data = .func fd := ⟨_, _, rfl, rfl⟩
  refine wpAny_Call_NameR (load_global G.grow hO hE (by exact rfl) hkr (by decide) (callWith_fn d37 ?_ rfl))
  refine spliced_cons (eval_lambda G.grow T hO hE hcl hq hdef fun f c' ctv s₁ e₁ fr gf rec => ?_)
  have O1 := hO.ext e₁
  have E1 := hE.ext hO e₁
  obtain ⟨⟨ocp, gcp, dcp⟩, rgp⟩ := hP _ O1.top
  refine spliced_cons (bound_load hE.kind (.inr ⟨hkp, cp, hcp, ocp, (vis_get gcp).1, dcp⟩) (spliced_cons ?_) (by decide) (by decide))
  obtain ⟨vj, bj, rj⟩ := E1.vars _ (PySem.mem_of_lookup hj)
  refine bound_load E1.kind bj (spliced_nil ⟨O1.shrink.get l37 (hoff 37 (by decide)), ?_⟩) (by decide) (by decide)
  have hc' := O1.recTab rec
  have hX2 : ∀ z ∈ X.filter (fun z => z != c'), z ∈ X := fun z hz => (List.mem_filter.mp hz).1
  obtain ⟨L2, O3, fz, lk⟩ := freeze' (O1.less hX2) hoffT
  obtain ⟨nf1, nf2⟩ := notTab_new hO fr
  obtain ⟨lf, lfo⟩ := lk f _ (vis_mk gf nf1 fun z => nf2 (hX2 f z))
  have rec' : (vis tb (X.filter (fun z => z != c')) s₁.heap).CodeRec (.ref c') q := by
    obtain ⟨c₂, o₂, vs₂, t₂, e₂, g₂, r₂⟩ := rec
    cases e₂
    exact ⟨_, o₂, vs₂, t₂, rfl, vis_mk g₂ hc' (fun z => by have := (List.mem_filter.mp z).2; simp at this), r₂⟩
  have rg2 : RgAt (vis tb (X.filter (fun z => z != c')) s₁.heap) vp names.length := rgp.sub (vis_more hX2)
  rw [List.append_assoc] at O3 lf
  have fz' : ∀ g, TopOk (K1 W ++ (L ++ L2)) off g → Sub (vis tb (X.filter (fun z => z != c')) s₁.heap) g ∧ TopOk (K1 W ++ L) off g := fun g t => by
    rw [← List.append_assoc] at t
    exact ⟨fz g t, t.shrink⟩
  refine call_reduce (k := k + 2) (L := L ++ L2) (fun i => .int (rootFold names j i : Nat)) (ds := nts names.length) G hoff hR O3 lf lfo rfl (by show True; trivial) (rj.sub (vis_more hX2)) (fun X' s' sb => src_range (by omega) (rg2.sub sb)) (fun i d hd => ?_) fun v s' e r => ?_
  · have hi : i < names.length := by
      have := (List.getElem?_eq_some_iff.mp hd).1
      simpa [nts] using this
    have hd' : d = .int (i : Nat) := by
      simp [nts, hi] at hd
      exact hd.symm
    subst hd'
    show Fn prog w (K1 W ++ (L ++ L2)) off tb (k + 2 + 1) (.ref f) [.int (rootFold names j i : Nat), .int (i : Nat)] (.int (rootFold names j (i + 1) : Nat))
    rw [rootFold_succ]
    refine fn_step (G.grow) lf lfo (fun bd x y => hbind bd _ _ _ x y) (fun X' s' o => ?_) (fun g t => HK g (fz' g t).2) (fun g t => hC g (fz' g t).2) (of0 := of0) ?_ hfo0 hfd0 (fun a b ha hb => ?_) (rootFold_lt hjl (Nat.le_of_lt hi)) hi
    · exact (rec'.keeps ((fz' _ o.top).1)).keeps (vis_below _ _ _)
    · rw [← List.append_assoc, lookup_app, hf0]; rfl
    · have := (htold a b ha hb).grow (L := L2)
      rw [List.append_assoc] at this
      exact this
  · obtain ⟨t, rfl⟩ := r.int
    have hn : (nts names.length).length = names.length := by simp [nts]
    rw [hn]
    exact h _ s' (e₁.trans e) .mkInt
end
end Mine
end
section
open PySem PySem.W PySem.Calls PyProof.Rows
set_option maxRecDepth 100000
set_option linter.all false
namespace Mine
abbrev scRoots (more : List (Str × Const)) : Scope := { kind := .function, names := [("names", .cell), ("places", .cell), ("key", .cell), ("told", .cell), ("cmp_to_key", .globalImplicit), ("range", .globalImplicit), ("len", .globalImplicit)], isGenerator := false, isCoroutine := false, more }
abbrev scOne : Scope := { kind := .function, names := [(".0", .local), ("one", .local), ("_law_answers", .globalImplicit), ("names", .free)], isGenerator := false, isCoroutine := false, more := [] }
abbrev scJ : Scope := { kind := .function, names := [(".0", .local), ("j", .local), ("reduce", .globalImplicit), ("key", .free), ("names", .free), ("places", .free)], isGenerator := false, isCoroutine := false, more := [] }
abbrev envR (more : List (Str × Const)) (L g ct ck cp cn : Addr) (qual : Str) (func : Option Addr) (frame : Option Addr) (bu : Addr) : Env :=
  { scope := scRoots more, locals := L, globals := g, cells := [("told", ct), ("key", ck), ("places", cp), ("names", cn)], qual, func, code := .ref 125, frame, builtins := bu }
abbrev clJ (cp cn ck : Addr) : List (Str × Addr) := [("places", cp), ("names", cn), ("key", ck)]
def rootsOf (names : List Str) : List Str := (List.range names.length).map fun j => names.getD (rootFold names j names.length) ""
section
variable {prog : Program} {w : World} {W : Wd} {K L : Frag} {off : List Addr} {tb : Tb} {k : Nat} {env : Env} {ρ ρ' : Rho} {β β' : Raw} {mg mb : Str → Option Value} {X : List Addr} {s s' s₀ s₁ : Shared} {A : Around}
theorem ExtO.mono {Y Y' : List Addr} (x : ExtO tb Y s s') (h : ∀ y ∈ Y, y ∈ Y') : ExtO tb Y' s s' := ⟨fun b o n m g => x.keep b o n (fun z => m (h b z)) g, x.tab, x.gens, x.os⟩
theorem ExtO.back {P : Addr} {Y : List Addr} (x : ExtO ((P, .any) :: tb) Y s s') : ExtO tb (P :: Y) s s' := ⟨fun b o n m g => x.keep b o (fun z => by
    rcases List.mem_cons.mp z with z | z
    · exact m (z ▸ List.mem_cons_self)
    · exact n z) (fun z => m (List.mem_cons_of_mem _ z)) g, fun q hq => x.tab q (List.mem_cons_of_mem _ hq), x.gens, x.os⟩
theorem Ok.cellExt {c : Addr} {v : Option Value} (O : Ok K off tb X s) (h : s.heap.IsCell c v) (e : Ext tb s s') : s'.heap.IsCell c v := let ⟨o, g, d⟩ := h; ⟨o, e.keep _ _ (O.cellTab h) g, d⟩
theorem Ok.cellExtO {c : Addr} {v : Option Value} {Y : List Addr} (O : Ok K off tb X s) (h : s.heap.IsCell c v) (e : ExtO tb Y s s') (n : c ∉ Y) : s'.heap.IsCell c v := let ⟨o, g, d⟩ := h; ⟨o, e.keep _ _ (O.cellTab h) n g, d⟩
theorem Bound.cell {x : Str} {c : Addr} {v : Value} {h : Heap} (b : Bound env h x v) (hk : env.kindOf x = some .cell) (hc : env.cells.lookup x = some c) : h.IsCell c (some v) := by
  rcases b with ⟨k, _⟩ | ⟨_, c', hc', hv⟩
  · rw [hk] at k; cases k
  · rw [hc] at hc'; cases hc'; exact hv
end

section
variable {prog : Program} {w : World} {W : Wd} {off : List Addr} {tb : Tb} {k : Nat} {X : List Addr} {s : Shared} {A : Around}
  {a1 a2 a3 a4 a5 a6 a7 a8 a9 b1 b2 b3 b4 b5 b6 b7 b8 b9 b10 b11 b12 b13 b14 b15 b16 b17 c1 c2 c3 c4 c5 c6 c7 c8 d1 d2 d3 d4 d5 d6 d7 d8 d9 d10 d11 d12 d13 d14 d15 d16 d17 d18 d19 d20 d21 d22 : Pos}
theorem roots_body {u0 u1 u2 u3 : Stmt} {names : List Str} {cn cp ck ct eL eg ebu : Addr} {efunc eframe : Option Addr} {equal : Str} {more : List (Str × Const)} {q : Str} {pa1 pa2 : Arguments} {Q : Flow → Shared → Prop} (hq : equal ++ "<lambda>" = q)
    (hnd : ct ≠ ck ∧ ct ≠ cp ∧ ct ≠ cn ∧ ck ≠ cp ∧ ck ≠ cn ∧ cp ≠ cn) (hC0 : ∀ c ∈ [ct, ck, cp], ∃ v, s.heap.IsCell c v)
    (hoff : ∀ a ∈ [0, 1, 2, 3, 4, 23, 27, 28, 29, 30, 36, 37, 80, 84, 85, 91, 92, 94, 95, 120, 121, 125], a ∉ off) (hoffT : ∀ a ∈ off, a ∈ tb.map (·.1))
    (hT : ∀ K, (∀ g, TopOk K off g → TopOk (K1 W) off g) → TabAt K off tb (mg1 W) (envR more eL eg ct ck cp cn equal efunc eframe ebu) 125 123 q) (hT23 : ∀ K, (∀ g, TopOk K (23 :: off) g → TopOk (K1 W) (23 :: off) g) → ∀ C, TabAt K (23 :: off) ((23, .any) :: tb) (mg1 W) (compEnvC scJ (clJ cp cn ck) C (envR more eL eg ct ck cp cn equal efunc eframe ebu)) 125 123 q)
    (hn : Nms names) (hR : Room A (k + 6)) (S : St (K1 W) off tb X (envR more eL eg ct ck cp cn equal efunc eframe ebu) [("names", .list (sts names))] [] s) (hX : ∀ y ∈ own (envR more eL eg ct ck cp cn equal efunc eframe ebu), y ∈ X)
    (hd1 : defaultsOf pa1 (envR more eL eg ct ck cp cn equal efunc eframe ebu) = ([], [])) (hd2 : ∀ C, defaultsOf pa2 (compEnvC scJ (clJ cp cn ck) C (envR more eL eg ct ck cp cn equal efunc eframe ebu)) = ([], []))
    (hb1 : ∀ (bd : Expr) (pm ctv : Value) (c' : Addr) (x y : Value), bindArgs (kla_fn "<lambda>" q pa1 bd scTold [("told", ct)] pm (.ref c') ctv) ⟨[x, y], []⟩ = (pure [(("j" : Str), x), (("k" : Str), y)] : Sem (List (Str × Value))))
    (hb2 : ∀ (bd : Expr) (pm ctv : Value) (c' : Addr) (x y : Value), bindArgs (kla_fn "<lambda>" q pa2 bd scStep [("key", ck)] pm (.ref c') ctv) ⟨[x, y], []⟩ = (pure [(("low" : Str), x), (("k" : Str), y)] : Sem (List (Str × Value))))
    (q0 : u0 = .Assign [.Name "told" a1] (.ListComp (.Call (.Name "_law_answers" a2) [.List [.Name "one" a3] a4, .Name "names" a5] [] a6) [⟨.Name "one" a7, .Name "names" a8, [], 0⟩] scOne a9) b1)
    (q1 : u1 = .Assign [.Name "key" b2] (.Call (.Name "cmp_to_key" b3) [.Lambda pa1 (.BinOp (.Subscript (.Subscript (.Name "told" b4) (.Name "k" b5) b6) (.Name "j" b7) b8) .Sub (.Subscript (.Subscript (.Name "told" b9) (.Name "j" b10) b11) (.Name "k" b12) b13) b14) scTold b15] [] b16) b17)
    (q2 : u2 = .Assign [.Name "places" c1] (.Call (.Name "range" c2) [.Call (.Name "len" c3) [.Name "names" c4] [] c5] [] c6) c7)
    (q3 : u3 = .Return (some (.ListComp (.Subscript (.Name "names" d1) (.Call (.Name "reduce" d2) [.Lambda pa2 (.IfExp (.Compare (.Call (.Name "key" d3) [.Name "k" d4] [] d5) [.Lt] [.Call (.Name "key" d6) [.Name "low" d7] [] d8] d9) (.Name "k" d10) (.Name "low" d11) d12) scStep d13,
        .Name "places" d14, .Name "j" d15] [] d16) d17) [⟨.Name "j" d18, .Name "places" d19, [], 0⟩] scJ d20)) d21)
    (hQ : ∀ v s', ExtO tb (23 :: own (envR more eL eg ct ck cp cn equal efunc eframe ebu)) s s' → TabOk s'.heap 23 .any → (∃ ps, (vis tb X s.heap).get? 23 = some (tabObj ps)) → Rp (vis ((23, .any) :: tb) X s'.heap) v (.list (sts (rootsOf names))) → Q (.ret v) s') :
    wpAny (model prog w) A (execs [u0, u1, u2, u3] (envR more eL eg ct ck cp cn equal efunc eframe ebu)) Q NoE s := by
  have G : Globs (K1 W) off (mg1 W) (mb1 W) := globs1 (hoff 0 (by decide)) (hoff 2 (by decide)) (hoff 3 (by decide))
  have sub : ∀ a ∈ ([0, 1, 2, 3, 4, 27, 28, 29, 30, 36, 37, 80, 84, 85, 91, 92, 94, 95, 120, 121, 125] : List Nat), a ∈ ([0, 1, 2, 3, 4, 23, 27, 28, 29, 30, 36, 37, 80, 84, 85, 91, 92, 94, 95, 120, 121, 125] : List Nat) := by decide
  have subA : ∀ a ∈ ([1, 80, 84, 85, 91, 92, 94, 95, 120, 121] : List Nat), a ∈ ([0, 1, 2, 3, 4, 23, 27, 28, 29, 30, 36, 37, 80, 84, 85, 91, 92, 94, 95, 120, 121, 125] : List Nat) := by decide
  have hoff' : ∀ a ∈ [0, 1, 2, 3, 4, 27, 28, 29, 30, 36, 37, 80, 84, 85, 91, 92, 94, 95, 120, 121, 125], a ∉ (23 :: off) := fun a ha z => by
    rcases List.mem_cons.mp z with z | z
    · subst z; revert ha; decide
    · exact hoff a (sub a ha) z
  have G' : Globs (K1 W) (23 :: off) (mg1 W) (mb1 W) := globs1 (hoff' 0 (by decide)) (hoff' 2 (by decide)) (hoff' 3 (by decide))
  have T0 := hT (K1 W) (fun _ t => t)
  obtain ⟨n1, n2, n3, n4, n5, n6⟩ := hnd
  have hlen := hn.few
  have hz : sizeLine = 2 ^ 24 := rfl
  have hU : ∀ (x y : Str) (c : Addr), List.lookup x [(("told" : Str), ct), ("key", ck), ("places", cp), ("names", cn)] = some c → List.lookup y [(("told" : Str), ct), ("key", ck), ("places", cp), ("names", cn)] = some c → x = y := fun x y c hx hy => by
    have hx := PySem.mem_of_lookup hx
    have hy := PySem.mem_of_lookup hy
    simp only [List.mem_cons, List.not_mem_nil, or_false, Prod.mk.injEq] at hx hy
    rcases hx with ⟨rfl, rfl⟩ | ⟨rfl, rfl⟩ | ⟨rfl, rfl⟩ | ⟨rfl, rfl⟩ <;> rcases hy with ⟨rfl, e⟩ | ⟨rfl, e⟩ | ⟨rfl, e⟩ | ⟨rfl, e⟩ <;> first | rfl | (exfalso; first | exact n1 e | exact n1 e.symm | exact n2 e | exact n2 e.symm | exact n3 e | exact n3 e.symm | exact n4 e | exact n4 e.symm | exact n5 e | exact n5 e.symm | exact n6 e | exact n6 e.symm)
  have oT : ct ∈ own (envR more eL eg ct ck cp cn equal efunc eframe ebu) := own_cell (x := "told") rfl rfl
  have oK : ck ∈ own (envR more eL eg ct ck cp cn equal efunc eframe ebu) := own_cell (x := "key") rfl rfl
  have oP : cp ∈ own (envR more eL eg ct ck cp cn equal efunc eframe ebu) := own_cell (x := "places") rfl rfl
  -- told
  have pvTold : PV prog w (K1 W) off tb (k + 3) (envR more eL eg ct ck cp cn equal efunc eframe ebu) [("names", .list (sts names))]
      (.ListComp (.Call (.Name "_law_answers" a2) [.List [.Name "one" a3] a4, .Name "names" a5] [] a6) [⟨.Name "one" a7, .Name "names" a8, [], 0⟩] scOne a9) (toldOf names) := by
    refine pv_comp (ds := sts names) (ρ' := [("names", .list (sts names))]) (fun _ => true) (fun d => match d with | .str y => rowOf names y | _ => .none) rfl rfl (by decide) (by decide) rfl
      (fun C => List.forall_mem_cons.mpr ⟨⟨.inl rfl, .inl rfl, rfl⟩, fun _ h => nomatch h⟩) (fun q hq => hq) (by simp [sts]; omega) (pv_var rfl) (fun d hd C => .inl ⟨rfl, rfl⟩) (fun d hd _ C => ?_) ?_
    · obtain ⟨y, hy, rfl⟩ := List.mem_map.mp hd
      refine pv_call (f := 121) G rfl (ho := by exact rfl) (hoff 121 (by decide)) (hdat := by exact rfl) (pvs_cons (pv_list (pvs_cons (pv_var rfl) pvs_nil)) (pvs_cons (pv_var rfl) pvs_nil)) ?_
      exact fn_answers (mods := [y]) ⟨by simp, fun x hx => by rw [List.mem_singleton] at hx; subst hx; exact hn.nm _ hy⟩ hn G (fun a ha => hoff a (subA a ha)) hoffT
    · rw [filter_all, List.map_map]; rfl
  rw [q0]
  refine wpAny_execs_cons (wpAny_Assign_Name (pvTold A X s _ (hR.less (by omega)) S.ok S.en fun v₁ s₁ e₁ r₁ => ?_) rfl)
  have S1 := S.ext e₁
  have cell1 : ∀ c ∈ [ct, ck, cp], ∃ v, s₁.heap.IsCell c v := fun c hc => let ⟨v, h⟩ := hC0 c hc; ⟨v, S.ok.cellExt h e₁⟩
  refine S1.storeC (c := ct) (hX _ oT) rfl rfl (cell1 ct (by first | exact .head _ | exact .tail _ (.head _) | exact .tail _ (.tail _ (.head _)) | exact .tail _ (.tail _ (.tail _ (.head _))) | exact .tail _ (.tail _ (.tail _ (.tail _ (.head _)))) | simp)) hU fun s₂ y₂ nc₂ mk₂ kp₂ => ?_
  have S2 := mk₂ [("told", toldOf names), ("names", .list (sts names))] [] (all2 (.inl ⟨rfl, r₁⟩) (.inr ⟨by first | exact .head _ | exact .tail _ (.head _) | exact .tail _ (.tail _ (.head _)) | exact .tail _ (.tail _ (.tail _ (.head _))), by dsimp only; decide⟩)) (fun _ h => nomatch h)
  have cell2 : ∀ c ∈ [ck, cp], ∃ v, s₂.heap.IsCell c v := fun c hc => by
    obtain ⟨v, h⟩ := cell1 c (List.mem_cons_of_mem _ hc)
    refine ⟨v, S1.ok.cellExtO h y₂ fun z => ?_⟩
    rw [List.mem_singleton] at z; subst z
    simp only [List.mem_cons, List.not_mem_nil, or_false] at hc
    exact hc.elim n1 n2
  -- key
  obtain ⟨o28, fd28, l28, d28⟩ : ∃ o fd, (K1 W).lookup 28 = some o ∧ o.data = .func fd := ⟨_, _, rfl, rfl⟩
  rw [q1]
  refine wpAny_execs_cons (wpAny_Assign_Name (wpAny_Call_NameR (load_global G S2.ok S2.en (by exact rfl) rfl (by decide) (callWith_fn d28 ?_ rfl))) rfl)
  refine spliced_cons (eval_lambda G T0 S2.ok S2.en (clos := [("told", ct)]) rfl hq hd1 fun f0 c0 ctv0 s₃ e₃ fr0 gf0 rec0 => spliced_nil ?_)
  have S3 := S2.ext e₃
  refine ⟨S3.ok.get l28 (hoff 28 (by decide)), ?_⟩
  have hv23 : (vis tb X s₃.heap).get? 23 = some (tabObj #[]) := S3.ok.top 23 _ (by exact rfl) (hoff 23 (by decide))
  obtain ⟨h23, nt23, nx23⟩ := vis_get hv23
  have subC : ∀ a ∈ ([1, 2, 4, 27, 28] : List Nat), a ∈ ([0, 1, 2, 3, 4, 23, 27, 28, 29, 30, 36, 37, 80, 84, 85, 91, 92, 94, 95, 120, 121, 125] : List Nat) := by decide
  refine call_cmp (k := k + 5) hR S3.ok G (fun a ha => hoff a (subC a ha)) h23 nt23 fun s₄ cc C N p f1 f2 M => ?_
  have S4 := S3.mark M.ext hv23 M.key.tab
  have cell4 : ∀ c ∈ [ck, cp], ∃ v, s₄.heap.IsCell c v := fun c hc => by
    obtain ⟨v, h⟩ := cell2 c hc
    have h3 := S2.ok.cellExt h e₃
    refine ⟨v, S3.ok.cellExtO h3 M.ext fun z => ?_⟩
    rw [List.mem_singleton] at z; subst z
    obtain ⟨o, g, d⟩ := h3
    rw [h23] at g; cases g; cases d
  refine S4.storeC (c := ck) (hX _ oK) rfl rfl (cell4 ck (by first | exact .head _ | exact .tail _ (.head _) | exact .tail _ (.tail _ (.head _)) | exact .tail _ (.tail _ (.tail _ (.head _))) | exact .tail _ (.tail _ (.tail _ (.tail _ (.head _)))) | simp)) hU fun s₅ y₅ nc₅ mk₅ kp₅ => ?_
  have S5 := mk₅ [("told", toldOf names), ("names", .list (sts names))] [("key", .ref C)] (all2 (.inr ⟨by first | exact .head _ | exact .tail _ (.head _) | exact .tail _ (.tail _ (.head _)) | exact .tail _ (.tail _ (.tail _ (.head _))), by dsimp only; decide⟩) (.inr ⟨by first | exact .head _ | exact .tail _ (.head _) | exact .tail _ (.tail _ (.head _)) | exact .tail _ (.tail _ (.tail _ (.head _))), by dsimp only; decide⟩)) (fun p hp => by rw [List.mem_singleton] at hp; exact .inl hp)
  -- places
  have pvLen : PV prog w (K1 W) (23 :: off) ((23, .any) :: tb) (k + 3) (envR more eL eg ct ck cp cn equal efunc eframe ebu) [("told", toldOf names), ("names", .list (sts names))] (.Call (.Name "len" c3) [.Name "names" c4] [] c5) (.int (names.length : Nat)) := by
    have := fn_len (prog := prog) (w := w) (K := K1 W) (off := 23 :: off) (tb := (23, .any) :: tb) (k := k + 3) (ds := sts names) (by simp [sts]; omega)
    simp only [sts, List.length_map] at this
    exact pv_builtin G' rfl W.bLen (pvs_cons (pv_var rfl) pvs_nil) this
  rw [q2]
  refine wpAny_execs_cons (wpAny_Assign_Name (eval_range G' rfl W.bRange pvLen (hR.less (by omega)) S5.ok S5.en (fun vp s₆ e₆ rg => ?_) rfl rfl) rfl)
  have S6 := S5.ext e₆
  have cell6 : ∃ v, s₆.heap.IsCell cp v := by
    obtain ⟨v, h⟩ := cell4 cp (by first | exact .head _ | exact .tail _ (.head _) | exact .tail _ (.tail _ (.head _)) | exact .tail _ (.tail _ (.tail _ (.head _))) | exact .tail _ (.tail _ (.tail _ (.tail _ (.head _)))) | simp)
    exact ⟨v, S5.ok.cellExt (S4.ok.cellExtO h y₅ fun z => n4 (List.mem_singleton.mp z).symm) e₆⟩
  refine S6.storeC (c := cp) (hX _ oP) rfl rfl cell6 hU fun s₇ y₇ nc₇ mk₇ kp₇ => ?_
  have S7 := mk₇ [("told", toldOf names), ("names", .list (sts names))] [("key", .ref C), ("places", vp)] (all2 (.inr ⟨by first | exact .head _ | exact .tail _ (.head _) | exact .tail _ (.tail _ (.head _)) | exact .tail _ (.tail _ (.tail _ (.head _))), by dsimp only; decide⟩) (.inr ⟨by first | exact .head _ | exact .tail _ (.head _) | exact .tail _ (.tail _ (.head _)) | exact .tail _ (.tail _ (.tail _ (.head _))), by dsimp only; decide⟩)) (all2 (.inr ⟨by first | exact .head _ | exact .tail _ (.head _) | exact .tail _ (.tail _ (.head _)) | exact .tail _ (.tail _ (.tail _ (.head _))), by dsimp only; decide⟩) (.inl rfl))
  have rg7 : RgAt (vis ((23, .any) :: tb) X s₇.heap) vp names.length := rg.sub (vis_sub fun b o n m g => kp₇ b o (fun z => m (z ▸ hX _ oP)) g)
  -- what is held fast
  generalize hX8d : X.filter (fun z => !([cn, cp, ck, ct, c0].contains z)) = X8
  have hX8 : ∀ z ∈ X8, z ∈ X ∧ z ∉ [cn, cp, ck, ct, c0] := fun z hz => by
    rw [← hX8d] at hz
    obtain ⟨a, b⟩ := List.mem_filter.mp hz
    exact ⟨a, by simpa using b⟩
  have toX8 : ∀ z ∈ X, z ∉ [cn, cp, ck, ct, c0] → z ∈ X8 := fun z hz hn => by
    rw [← hX8d]
    exact List.mem_filter.mpr ⟨hz, by simpa using hn⟩
  have S8 := S7.less fun z hz => (hX8 z hz).1
  have hoffT' : ∀ a ∈ (23 :: off), a ∈ (((23 : Addr), TK.any) :: tb).map (·.1) := fun a ha => by
    rcases List.mem_cons.mp ha with z | z
    · exact z ▸ List.mem_cons_self
    · exact List.mem_cons_of_mem _ (hoffT a z)
  have tb' : ∀ b, b ≠ 23 → b ∉ tb.map (·.1) → b ∉ (((23 : Addr), TK.any) :: tb).map (·.1) := fun b h1 h2 z => by
    rcases List.mem_cons.mp z with z | z
    · exact h1 z
    · exact h2 z
  have cell3 : ∀ c ∈ [ck, cp], ∃ v, s₃.heap.IsCell c v := fun c hc => let ⟨v, h⟩ := cell2 c hc; ⟨v, S2.ok.cellExt h e₃⟩
  have on : ∀ b o, b ≠ 23 → b ≠ ck → b ≠ cp → b ∉ tb.map (·.1) → s₄.heap.get? b = some o → s₇.heap.get? b = some o := fun b o h1 h2 h3 h4 g =>
    y₇.keep b o (tb' b h1 h4) (fun z => h3 (List.mem_singleton.mp z)) (e₆.keep b o (tb' b h1 h4) (y₅.keep b o (tb' b h1 h4) (fun z => h2 (List.mem_singleton.mp z)) g))
  have keep47 : ∀ b o, s₃.heap.get? b = none → s₄.heap.get? b = some o → (vis ((23, .any) :: tb) X8 s₇.heap).get? b = some o := fun b o hb g => by
    obtain ⟨m1, m2⟩ := notTab_new S3.ok hb
    have h1 : b ≠ 23 := fun z => by rw [z, h23] at hb; cases hb
    have h2 : b ≠ ck := fun z => by obtain ⟨v, o, g, _⟩ := cell3 ck (by first | exact .head _ | exact .tail _ (.head _) | exact .tail _ (.tail _ (.head _)) | exact .tail _ (.tail _ (.tail _ (.head _))) | exact .tail _ (.tail _ (.tail _ (.tail _ (.head _)))) | simp); rw [z, g] at hb; cases hb
    have h3 : b ≠ cp := fun z => by obtain ⟨v, o, g, _⟩ := cell3 cp (by first | exact .head _ | exact .tail _ (.head _) | exact .tail _ (.tail _ (.head _)) | exact .tail _ (.tail _ (.tail _ (.head _))) | exact .tail _ (.tail _ (.tail _ (.tail _ (.head _)))) | simp); rw [z, g] at hb; cases hb
    exact vis_mk (on b o h1 h2 h3 m1 g) (tb' b h1 m1) fun z => m2 (hX8 b z).1
  obtain ⟨KF, kf, kin, kmap⟩ := M.key.frag
  have fnAt : ∀ {h₀ : Heap} {f : Addr} {name qual : Str} {args : Arguments} {body : List Stmt} {scope : Scope} {cl : List (Str × Addr)}, FnAt s₃.heap s₄.heap f (mg1 W) name qual args body scope cl → FnAt s₃.heap (vis ((23, .any) :: tb) X8 s₇.heap) f (mg1 W) name qual args body scope cl := by
    intro _ f name qual args body scope cl x
    obtain ⟨c', ctv, doc, g, ⟨c₂, o₂, vs₂, t₂, e₂, g₂, r₂⟩, nf, nc⟩ := x
    cases e₂
    exact ⟨c', ctv, doc, keep47 _ _ nf g, ⟨c', o₂, vs₂, t₂, rfl, keep47 _ _ nc g₂, r₂⟩, nf, nc⟩
  have KE : KeyEnv W (vis ((23, .any) :: tb) X8 s₇.heap) KF C N p f1 f2 cc (.ref f0) := by
    refine ⟨kf, fun a o e => keep47 a o ?_ (kin a o e), ⟨_, fnAt (h₀ := s₃.heap) M.key.fi⟩, ⟨_, fnAt (h₀ := s₃.heap) M.key.fl⟩, ?_⟩
    · have hm : a ∈ KF.map (·.1) := List.mem_map_of_mem (f := (·.1)) (lookup_mem e)
      rw [kmap] at hm
      obtain ⟨m1, m2, m3⟩ := M.key.new
      simp only [List.mem_cons, List.not_mem_nil, or_false] at hm
      rcases hm with rfl | rfl | rfl
      · exact m1
      · exact m2
      · exact m3
    · obtain ⟨oc, gc, dc⟩ := M.cell
      exact ⟨oc, keep47 _ _ M.newc gc, dc⟩
  have vf0 : ∀ o, s₃.heap.get? f0 = some o → (vis ((23, .any) :: tb) X8 s₇.heap).get? f0 = some o := fun o gf0 => by
    obtain ⟨m1, m2⟩ := notTab_new S2.ok fr0
    have h1 : f0 ≠ 23 := fun z => by rw [z, S2.ok.get (a := 23) (by exact rfl) (hoff 23 (by decide))] at fr0; cases fr0
    have h2 : f0 ≠ ck := fun z => by obtain ⟨v, o, g, _⟩ := cell2 ck (by first | exact .head _ | exact .tail _ (.head _) | exact .tail _ (.tail _ (.head _)) | exact .tail _ (.tail _ (.tail _ (.head _))) | exact .tail _ (.tail _ (.tail _ (.tail _ (.head _)))) | simp); rw [z, g] at fr0; cases fr0
    have h3 : f0 ≠ cp := fun z => by obtain ⟨v, o, g, _⟩ := cell2 cp (by first | exact .head _ | exact .tail _ (.head _) | exact .tail _ (.tail _ (.head _)) | exact .tail _ (.tail _ (.tail _ (.head _))) | exact .tail _ (.tail _ (.tail _ (.tail _ (.head _)))) | simp); rw [z, g] at fr0; cases fr0
    exact vis_mk (on f0 _ h1 h2 h3 m1 (M.ext.keep f0 _ m1 (fun z => h1 (List.mem_singleton.mp z)) gf0)) (tb' f0 h1 m1) fun z => m2 (hX8 f0 z).1
  have rec7 : ∃ o₀ vs t, s₇.heap.get? c0 = some o₀ ∧ o₀.data = .fields vs ∧ vs[1]? = some (.str q t) ∧ c0 ∉ (((23 : Addr), TK.any) :: tb).map (·.1) := by
    have m1 := S3.ok.recTab rec0
    obtain ⟨c₂, o₂, vs₂, t₂, e₂, g₂, r₂, r₃⟩ := rec0
    cases e₂
    have h1 : c0 ≠ 23 := fun z => by rw [z, h23] at g₂; cases g₂; cases r₂; simp at r₃
    have h2 : c0 ≠ ck := fun z => by obtain ⟨v, o, g, d⟩ := cell3 ck (by first | exact .head _ | exact .tail _ (.head _) | exact .tail _ (.tail _ (.head _)) | exact .tail _ (.tail _ (.tail _ (.head _))) | exact .tail _ (.tail _ (.tail _ (.tail _ (.head _)))) | simp); rw [z, g] at g₂; cases g₂; rw [d] at r₂; cases r₂
    have h3 : c0 ≠ cp := fun z => by obtain ⟨v, o, g, d⟩ := cell3 cp (by first | exact .head _ | exact .tail _ (.head _) | exact .tail _ (.tail _ (.head _)) | exact .tail _ (.tail _ (.tail _ (.head _))) | exact .tail _ (.tail _ (.tail _ (.tail _ (.head _)))) | simp); rw [z, g] at g₂; cases g₂; rw [d] at r₂; cases r₂
    exact ⟨o₂, vs₂, t₂, on c0 _ h1 h2 h3 m1 (M.ext.keep c0 _ m1 (fun z => h1 (List.mem_singleton.mp z)) g₂), r₂, r₃, tb' c0 h1 m1⟩
  obtain ⟨o₀, vs₀, t₀, gc0, dc0, vc0, ntc0⟩ := rec7
  have rec8 : (vis ((23, .any) :: tb) X8 s₇.heap).CodeRec (.ref c0) q := ⟨c0, o₀, vs₀, t₀, rfl, vis_mk gc0 ntc0 (fun z => (hX8 _ z).2 (by first | exact .head _ | exact .tail _ (.head _) | exact .tail _ (.tail _ (.head _)) | exact .tail _ (.tail _ (.tail _ (.head _))) | exact .tail _ (.tail _ (.tail _ (.tail _ (.head _)))) | simp)), dc0, vc0⟩
  have visCell : ∀ c v, c ∈ [cn, cp, ck, ct, c0] → s₇.heap.IsCell c v → (vis ((23, .any) :: tb) X8 s₇.heap).IsCell c v := fun c v hc h => by
    have nt := S7.ok.cellTab h
    obtain ⟨o, g, d⟩ := h
    exact ⟨o, vis_mk g nt (fun z => (hX8 _ z).2 hc), d⟩
  obtain ⟨vt, bt, rt⟩ := S8.en.vars ("told", toldOf names) (by first | exact .head _ | exact .tail _ (.head _) | exact .tail _ (.tail _ (.head _)) | exact .tail _ (.tail _ (.tail _ (.head _))) | exact .tail _ (.tail _ (.tail _ (.tail _ (.head _)))) | simp)
  obtain ⟨vn, bn, rn⟩ := S8.en.vars ("names", .list (sts names)) (by first | exact .head _ | exact .tail _ (.head _) | exact .tail _ (.tail _ (.head _)) | exact .tail _ (.tail _ (.tail _ (.head _))) | exact .tail _ (.tail _ (.tail _ (.tail _ (.head _)))) | simp)
  have ct7 := bt.cell rfl (c := ct) rfl
  have cn7 := bn.cell rfl (c := cn) rfl
  have ck7 := (S7.raw ("key", .ref C) (by first | exact .head _ | exact .tail _ (.head _) | exact .tail _ (.tail _ (.head _)) | exact .tail _ (.tail _ (.tail _ (.head _))) | exact .tail _ (.tail _ (.tail _ (.tail _ (.head _)))) | simp)).cell rfl (c := ck) rfl
  have cp7 := (S7.raw ("places", vp) (by first | exact .head _ | exact .tail _ (.head _) | exact .tail _ (.tail _ (.head _)) | exact .tail _ (.tail _ (.tail _ (.head _))) | exact .tail _ (.tail _ (.tail _ (.tail _ (.head _)))) | simp)).cell rfl (c := cp) rfl
  have rg8 : RgAt (vis ((23, .any) :: tb) X8 s₇.heap) vp names.length := rg7.sub (vis_more fun z hz => (hX8 z hz).1)
  obtain ⟨L, O8, fz, lk⟩ := freeze' S8.ok hoffT'
  have pvR : PV prog w (K1 W ++ L) (23 :: off) ((23, .any) :: tb) (k + 5) (envR more eL eg ct ck cp cn equal efunc eframe ebu) [("names", .list (sts names))] (.ListComp (.Subscript (.Name "names" d1) (.Call (.Name "reduce" d2) [.Lambda pa2 (.IfExp (.Compare (.Call (.Name "key" d3) [.Name "k" d4] [] d5) [.Lt] [.Call (.Name "key" d6) [.Name "low" d7] [] d8] d9) (.Name "k" d10) (.Name "low" d11) d12) scStep d13,
        .Name "places" d14, .Name "j" d15] [] d16) d17) [⟨.Name "j" d18, .Name "places" d19, [], 0⟩] scJ d20) (.list (sts (rootsOf names))) := by
    have es : sts (rootsOf names) = ((nts names.length).filter (fun _ => true)).map (fun d => match d with | .int i => .str (names.getD (rootFold names i.toNat names.length) "") | _ => .none) := by
      rw [filter_all]; simp [rootsOf, sts, nts, Function.comp_def]
    rw [es]
    refine comp_core (cl := clJ cp cn ck) (ρ' := [("names", .list (sts names))]) (fun _ => true) _ rfl rfl (by decide) (by decide) rfl (fun C => List.forall_mem_cons.mpr ⟨⟨.inl rfl, .inl rfl, rfl⟩, fun _ h => nomatch h⟩) (fun q hq => hq) (by simp [nts]; omega)
      (fun d hd C => .inl ⟨rfl, rfl⟩) (fun d hd _ C' => ?_) (fun _ => rfl) fun A X s Q hR hO hE h => ?_
    · obtain ⟨j, hj, rfl⟩ := List.mem_map.mp hd
      have hj := List.mem_range.mp hj
      have hlt := rootFold_lt (i := names.length) hj (Nat.le_refl _)
      refine pv_item (ds := sts names) (j := (rootFold names j names.length : Nat)) (pv_var rfl) (pv_root (k := k + 1) (cp := cp) (vp := vp) (q := q) G' (fun a ha => hoff' a ?_) hoffT' (hT23 _ (fun g t => t.shrink) C') (fun g t => KE.sub (fz g t)) (fun g t => (visCell ck _ (by first | exact .head _ | exact .tail _ (.head _) | exact .tail _ (.tail _ (.head _)) | exact .tail _ (.tail _ (.tail _ (.head _))) | exact .tail _ (.tail _ (.tail _ (.tail _ (.head _)))) | simp) ck7).keeps (fz g t))
        (fun g t => ⟨(visCell cp _ (by first | exact .head _ | exact .tail _ (.head _) | exact .tail _ (.tail _ (.head _)) | exact .tail _ (.tail _ (.tail _ (.head _))) | exact .tail _ (.tail _ (.tail _ (.tail _ (.head _)))) | simp) cp7).keeps (fz g t), rg8.sub (fz g t)⟩) (lk f0 _ (vf0 _ gf0)).1 (lk f0 _ (vf0 _ gf0)).2 rfl (fun a b ha hb => ?_) rfl hj hlen rfl (.inl rfl) rfl rfl hq (hd2 C') (fun bd pm ctv c' x y => hb2 bd pm ctv c' x y)) (by omega) (by omega) ?_
      · revert ha; revert a; decide
      · exact fn_told (k := k) G'.grow (lk f0 _ (vf0 _ gf0)).1 (lk f0 _ (vf0 _ gf0)).2 (fun bd x y => hb1 bd _ _ _ x y) (fun X' s' o => (rec8.keeps (fz _ o.top)).keeps (vis_below _ _ _)) (fun g t => ⟨(visCell ct _ (by first | exact .head _ | exact .tail _ (.head _) | exact .tail _ (.tail _ (.head _)) | exact .tail _ (.tail _ (.tail _ (.head _))) | exact .tail _ (.tail _ (.tail _ (.tail _ (.head _)))) | simp) ct7).keeps (fz g t), rt.sub (fz g t)⟩) ha hb hlen
      · simp only [Int.toNat_natCast, sts]
        rw [List.getElem?_map, getD_get hlt]; rfl
    · obtain ⟨oc, gc, dc⟩ := (visCell cp _ (by first | exact .head _ | exact .tail _ (.head _) | exact .tail _ (.tail _ (.head _)) | exact .tail _ (.tail _ (.tail _ (.head _))) | exact .tail _ (.tail _ (.tail _ (.tail _ (.head _)))) | simp) cp7).keeps (fz _ hO.top)
      exact bound_load hE.kind (.inr ⟨.inl rfl, cp, rfl, oc, (vis_get gc).1, dc⟩) (h vp s (.refl _ _) (src_range (by omega) (rg8.sub (fz _ hO.top)))) (by decide) (by decide)
  rw [q3]
  refine wpAny_execs_cons (wpAny_Return_some (pvR A X8 s₇ _ (hR.less (by omega)) O8 (S8.en.some fun p hp => by rw [List.mem_singleton] at hp; subst hp; simp) fun v s' e r => ?_))
  have oM : ∀ y ∈ [ct], y ∈ (23 :: own (envR more eL eg ct ck cp cn equal efunc eframe ebu)) := List.forall_mem_cons.mpr ⟨List.mem_cons_of_mem _ oT, fun _ h => nomatch h⟩
  have oM2 : ∀ y ∈ [(23 : Addr), ck], y ∈ (23 :: own (envR more eL eg ct ck cp cn equal efunc eframe ebu)) := List.forall_mem_cons.mpr ⟨List.mem_cons_self, List.forall_mem_cons.mpr ⟨List.mem_cons_of_mem _ oK, fun _ h => nomatch h⟩⟩
  have oM3 : ∀ y ∈ [(23 : Addr), cp], y ∈ (23 :: own (envR more eL eg ct ck cp cn equal efunc eframe ebu)) := List.forall_mem_cons.mpr ⟨List.mem_cons_self, List.forall_mem_cons.mpr ⟨List.mem_cons_of_mem _ oP, fun _ h => nomatch h⟩⟩
  have oM4 : ∀ y ∈ [(23 : Addr)], y ∈ (23 :: own (envR more eL eg ct ck cp cn equal efunc eframe ebu)) := List.forall_mem_cons.mpr ⟨List.mem_cons_self, fun _ h => nomatch h⟩
  refine hQ v s' ?_ (e.tab (23, .any) List.mem_cons_self (S7.ok.tabs _ List.mem_cons_self)) ⟨_, S.ok.top 23 _ (by exact rfl) (hoff 23 (by decide))⟩ ?_
  · have z1 : ExtO tb (23 :: own (envR more eL eg ct ck cp cn equal efunc eframe ebu)) s s₄ := (((ExtO.of e₁).trans (y₂.mono oM)).trans (.of e₃)).trans (M.ext.mono oM4)
    have z2 := (z1.trans (y₅.back.mono oM2)).trans ((ExtO.of (Y := []) e₆).back.mono oM4)
    exact (z2.trans (y₇.back.mono oM3)).trans ((ExtO.of (Y := []) e).back.mono oM4)
  · refine r.seqs fun b o hd g => ?_
    obtain ⟨g0, n, m⟩ := vis_get g
    refine vis_mk g0 n fun z => m (toX8 b z fun q => ?_)
    have no : ∀ c v, s₇.heap.IsCell c v → b ≠ c := fun c v h q => by
      obtain ⟨oc, gc, dc⟩ := S7.ok.cellExt h e
      rw [← q, g0] at gc; cases gc
      rcases hd with ⟨_, _, hd⟩ | ⟨_, _, hd⟩ <;> (rw [dc] at hd; cases hd)
    simp only [List.mem_cons, List.not_mem_nil, or_false] at q
    rcases q with q | q | q | q | q
    · exact no _ _ cn7 q
    · exact no _ _ cp7 q
    · exact no _ _ ck7 q
    · exact no _ _ ct7 q
    · have := e.keep c0 _ ntc0 gc0
      rw [← q, g0] at this; cases this
      rcases hd with ⟨_, _, hd⟩ | ⟨_, _, hd⟩ <;> (rw [dc0] at hd; cases hd)
end
end Mine
end
section
open PySem PySem.W PySem.Calls PyProof.Rows
set_option maxRecDepth 100000
set_option maxHeartbeats 4000000
set_option linter.all false
namespace Mine
abbrev qRoots : Str := (("_law_roots" : Str) ++ ".<locals>.") ++ "<lambda>"
section
variable {prog : Program} {w : World} {W : Wd} {K : Frag} {off : List Addr} {tb : Tb} {k : Nat} {X : List Addr} {s : Shared} {A : Around}
theorem code125 {g : Heap} (t : TopOk (K1 W) off g) (h : (125 : Nat) ∉ off) : CodeHd g 125 123 := ⟨_, _, _, _, _, _, _, _, _, t 125 _ rfl h, rfl, rfl, rfl, rfl, rfl, rfl, rfl, rfl, by decide⟩
theorem blt123 {g : Heap} (t : TopOk (K1 W) off g) (h : (4 : Nat) ∉ off) : g.BuiltinsAt (mg1 W) 123 := ⟨4, _, rfl, by decide, by decide, by decide, t 4 W.o4 rfl h, W.d4.1, W.d4.2.1, W.d4.2.2⟩
theorem tab123 {env : Env} (hk : ∀ g, TopOk K off g → TopOk (K1 W) off g) (hc : env.code = .ref 125) (h125 : (125 : Nat) ∉ off) (h4 : (4 : Nat) ∉ off) (hm : ((123 : Addr), TK.code qRoots) ∈ tb) (ho : ∀ p ∈ tb, p.1 = 123 → p.2 = .code qRoots) : TabAt K off tb (mg1 W) env 125 123 qRoots :=
  ⟨hc, fun g t => code125 (hk g t) h125, hm, ho, by decide, fun g t => blt123 (hk g t) h4⟩
theorem call_roots {names : List Str} {v : Value} {Q : Value → Shared → Prop} (hn : Nms names) (hR : Room A (k + 7)) (hO : Ok (K1 W) off tb X s)
    (hoff : ∀ a ∈ [0, 1, 2, 3, 4, 23, 27, 28, 29, 30, 36, 37, 80, 84, 85, 91, 92, 94, 95, 120, 121, 125, 126], a ∉ off) (hoffT : ∀ a ∈ off, a ∈ tb.map (·.1))
    (hm : ((123 : Addr), TK.code qRoots) ∈ tb) (ho : ∀ p ∈ tb, p.1 = 123 → p.2 = .code qRoots) (r : Rp (vis tb X s.heap) v (.list (sts names)))
    (hQ : ∀ v s', ExtO tb [23] s s' → Ok (K1 W) (23 :: off) ((23, .any) :: tb) X s' → (∀ v d, Rp (vis tb X s.heap) v d → Rp (vis ((23, .any) :: tb) X s'.heap) v d) → Rp (vis ((23, .any) :: tb) X s'.heap) v (.list (sts (rootsOf names))) → Q v s') :
    wpAny (model prog w) A (call (.ref 126) [v]) Q NoE s := by
  have G : Globs (K1 W) off (mg1 W) (mb1 W) := globs1 (hoff 0 (by decide)) (hoff 2 (by decide)) (hoff 3 (by decide))
  have sub : ∀ a ∈ ([0, 1, 2, 3, 4, 23, 27, 28, 29, 30, 36, 37, 80, 84, 85, 91, 92, 94, 95, 120, 121, 125] : List Nat), a ∈ ([0, 1, 2, 3, 4, 23, 27, 28, 29, 30, 36, 37, 80, 84, 85, 91, 92, 94, 95, 120, 121, 125, 126] : List Nat) := by decide
  have h125 := hoff 125 (by decide)
  have h4 := hoff 4 (by decide)
  refine wpAny_call ?_
  refine codeAny_call_binds (binds := [("names", v)]) hR.lim (hO.get (a := 126) rfl (hoff 126 (by decide))) rfl (hO.globs G).2.2 ?_ rfl ?_ rfl ?_ (fun s₁ I₁ => ?_)
  · exact Heap.CodeRec.keeps (⟨125, _, _, _, rfl, hO.top 125 _ rfl h125, rfl, rfl⟩ : (vis tb X s.heap).CodeRec _ _) (vis_below _ _ _)
  · intro A' Q E' hq
    exact wpAny_pure hq
  · exact List.forall_mem_cons.mpr ⟨.inr ⟨rfl, rfl⟩, fun _ h => nomatch h⟩
  · have T := entered (ρ := [("names", .list (sts names))]) rfl I₁ hO rfl rfl rfl (show (["names"] : List Str).Nodup by decide)
      (List.forall_mem_cons.mpr ⟨.inr ⟨rfl, rfl⟩, fun _ h => nomatch h⟩)
      (List.forall_mem_cons.mpr ⟨⟨v, by simp, r⟩, fun _ h => nomatch h⟩)
    refine wpAny_mono (E := NoE) ?_ (fun _ _ z => z) fun _ _ z => z.elim
    refine roots_body (k := k) (ct := s.heap.objs.size + 1 + 1 + 1 + 1) (ck := s.heap.objs.size + 1 + 1 + 1) (cp := s.heap.objs.size + 1 + 1) (cn := s.heap.objs.size + 1) (q := qRoots) rfl ?_ ?_ (fun a ha => hoff a (sub a ha)) hoffT
      (fun K hk => tab123 hk rfl h125 h4 hm ho) (fun K hk C => tab123 hk rfl ?_ ?_ (List.mem_cons_of_mem _ hm) ?_) hn hR.deeper ⟨T.ok, T.en, (fun _ h => nomatch h), T.loc⟩ (fun z hz => List.mem_append_left _ hz) rfl (fun C => rfl) (fun bd pm ctv c' x y => rfl) (fun bd pm ctv c' x y => rfl) rfl rfl rfl rfl fun v' s' e t23 hps r' => ?_
    · refine ⟨?_, ?_, ?_, ?_, ?_, ?_⟩ <;> (show @Ne Nat _ _; omega)
    · exact List.forall_mem_cons.mpr ⟨⟨_, I₁.cell "told" _ rfl⟩, List.forall_mem_cons.mpr ⟨⟨_, I₁.cell "key" _ rfl⟩, List.forall_mem_cons.mpr ⟨⟨_, I₁.cell "places" _ rfl⟩, fun _ h => nomatch h⟩⟩⟩
    · exact fun z => (List.mem_cons.mp z).elim (fun z => by cases z) h125
    · exact fun z => (List.mem_cons.mp z).elim (fun z => by cases z) h4
    · intro p hp hp1
      rcases List.mem_cons.mp hp with rfl | hp
      · cases hp1
      · exact ho p hp hp1
    · have hP0 : (vis tb X s.heap).get? 23 = some (tabObj #[]) := hO.top 23 _ rfl (hoff 23 (by decide))
      have x : ExtO tb [23] s s' := ⟨fun b o n m g => e.keep b o n (fun z => by
          rcases List.mem_cons.mp z with z | z
          · exact m (List.mem_singleton.mpr z)
          · rw [T.fresh b z] at g; cases g) (T.ext.keep b o n g), fun q hq z => e.tab q hq (T.ext.tab q hq z), e.gens.trans T.ext.gens, e.os.trans T.ext.os⟩
      obtain ⟨O', sb⟩ := hO.mark x hP0 t23
      exact hQ v' s' x O' (fun v d rv => rv.mark hP0 sb) (r'.sub (vis_more fun y hy => List.mem_append_right _ hy))
end
end Mine
end
section
open PySem PySem.W PySem.Calls PyProof.Rows
set_option maxRecDepth 100000
set_option linter.all false
namespace Mine
section
variable {M : Model} {A : Around} {E : Value → Shared → Prop} {s : Shared}
theorem wpAny_newFunctionEnv_one {scope : Scope} {globals : Addr} {closure : List (Str × Addr)} {x : Str} {qual : Str} {func : Option Addr} {code : Value} {outer : Env} {builtins : Addr} {Q : Env → Shared → Prop}
    (hone : ∀ n acc, cellsFrom n scope.names acc = (x, n) :: acc) (hpush : ∀ h, pushCells h scope.names = h.push { cls := .type "cell", data := .cell none })
    (hQ : Q (newEnv scope s.heap.objs.size globals ((x, s.heap.objs.size + 1) :: closure) qual func code (some outer) builtins) { s with heap := (s.heap.push { cls := .type "dict", data := .dict #[] }).push { cls := .type "cell", data := .cell none } }) :
    wpAny M A (newFunctionEnv scope globals closure [] qual func code (some outer) builtins) Q E s := by
  simp only [newFunctionEnv, Option.isSome_some, if_true]
  refine wpAny_bind (wpAny_alloc ?_)
  refine wpAny_bind (wpAny_layCells _ (fun name kind cells => by cases hkc : kind == NameKind.cell <;> simp [hkc]) _ _ _ _ ?_)
  rw [hone, hpush]
  have e : ({ s with heap := s.heap.push { cls := .type "dict", data := .dict #[] } } : Shared).heap.objs.size = s.heap.objs.size + 1 := Heap.size_push ..
  rw [e]
  refine wpAny_bind ?_
  rw [List.forIn_nil]
  exact wpAny_pure (wpAny_pure hQ)
end
section
variable {prog : Program} {w : World} {W : Wd} {K : Frag} {off : List Addr} {tb : Tb} {k : Nat} {env : Env} {ρ : Rho} {mg mb : Str → Option Value}
/-- a block whose one name lies in a cell -/
theorem comp_genC {elt iter : Expr} {x : Str} {px : Pos} {ifs : List Expr} {scope : Scope} {pos : Pos} {cl : List (Str × Addr)} {ρ ρ' : Rho} {ds : List PyData} (p : PyData → Bool) (f : PyData → PyData)
    (hclos : closureFor scope env = pure cl) (hkind : scope.kind = .function) (hone : ∀ n acc, cellsFrom n scope.names acc = (x, n) :: acc) (hpush : ∀ h, pushCells h scope.names = h.push { cls := .type "cell", data := .cell none }) (hnames : ∀ y ∈ scope.names, y.2 = .local → scope.names.lookup y.1 = some .local) (hxk : ∀ Z C, (compEnvC scope ((x, Z) :: cl) C env).kindOf x = some .cell)
    (hpass : ∀ Z C, Passes env (compEnvC scope ((x, Z) :: cl) C env) ρ') (hsub : ∀ q ∈ ρ', q ∈ ρ) (hlen : ds.length ≤ sizeLine)
    (htest : ∀ d ∈ ds, ∀ Z C, PTs prog w K off tb k (compEnvC scope ((x, Z) :: cl) C env) ((x, d) :: ρ') ifs (p d))
    (helt : ∀ d ∈ ds, p d = true → ∀ Z C, PV prog w K off tb k (compEnvC scope ((x, Z) :: cl) C env) ((x, d) :: ρ') elt (f d))
    (hs : ∀ v, foldedSetIterable iter env v = pure v)
    (hiter : ∀ (A : Around) (X : List Addr) (s : Shared) (Q : Value → Shared → Prop), Room A k → Ok K off tb X s → EnvOk tb X env ρ s →
      (∀ v s', Ext tb s s' → (∃ SO, Src prog w tb k X s' v ds SO) → Q v s') → wpAny (model prog w) A (eval iter env) Q NoE s)
    {use : Option (Value → Sem Unit)} {pos' : Pos} {A : Around} {X : List Addr} {s : Shared} {Q : Value → Shared → Prop} (hR : Room A k) (hO : Ok K off tb X s) (hE : EnvOk tb X env ρ s)
    (hend : ∀ (D C : Addr) (s' : Shared) (mC : Str → Option Value), Ext tb s s' → Rp (vis tb (C :: X) s'.heap) (.ref D) (.list ((ds.filter p).map f)) → s'.heap.Ns C mC → s.heap.get? C = none → C ∉ X → C ∉ tb.map (·.1) →
      compPost (model prog w) A NoE use Q (.ref D) C (.ok .next) s') :
    wpAny (model prog w) A (comprehension (.ListComp elt [⟨.Name x px, iter, ifs, 0⟩] scope pos) scope env pos' (newList []) false (eval iter env) use) Q NoE s := by
  refine wpAny_comprehension_free rfl hs hclos hkind hnames (hiter A X s _ hR hO hE fun xv s₁ e₁ ⟨SO, S⟩ => ?_)
  have O1 := hO.ext e₁
  have E1 := hE.ext hO e₁
  refine S.lay A _ hR fun oI hSO hIf => ?_
  generalize hI : s₁.heap.objs.size = I
  refine wpAny_newObj_type ?_
  refine wpAny_newFunctionEnv_one hone hpush ?_
  dsimp only
  generalize hH2 : (s₁.heap.push oI).push { cls := .type "list", dict := none, data := .seq ([] : List Value).toArray } = H2
  generalize hD : (s₁.heap.push oI).objs.size = D
  have hns : ((H2.push { cls := .type "dict", data := .dict #[] }).push { cls := .type "cell", data := .cell none }).Ns H2.objs.size (fun _ => none) := (Heap.Ns.new H2 (.type "dict")).keeps fun b o e => Heap.get?_push_of_some _ e
  have gZ : ((H2.push { cls := .type "dict", data := .dict #[] }).push { cls := .type "cell", data := .cell none }).IsCell (H2.objs.size + 1) none := ⟨_, by have := Heap.get?_push_size (h := H2.push { cls := .type "dict", data := .dict #[] }) (o := { cls := .type "cell", data := .cell none }) rfl; rwa [Heap.size_push] at this, rfl⟩
  have k12 : Sub H2 ((H2.push { cls := .type "dict", data := .dict #[] }).push { cls := .type "cell", data := .cell none }) := fun b o e => Heap.get?_push_of_some _ (Heap.get?_push_of_some _ e)
  generalize ((H2.push { cls := .type "dict", data := .dict #[] }).push { cls := .type "cell", data := .cell none }) = h₁ at hns gZ k12 ⊢
  generalize hC : H2.objs.size = C at hns gZ ⊢
  generalize hZ : C + 1 = Z at gZ ⊢
  have hDI : D = I + 1 := by rw [← hD, ← hI, Heap.size_push]
  have hCI : C = I + 2 := by rw [← hC, ← hH2, Heap.size_push, hD, hDI]
  have hZI : Z = I + 3 := by rw [← hZ, hCI]
  have none_ : ∀ b : Nat, I ≤ b → s₁.heap.get? b = none := fun b hb => Heap.get?_none_of_le (by rw [hI]; exact hb)
  have g2 : ∀ b o, (s₁.heap.push oI).get? b = some o → h₁.get? b = some o := fun b o e => k12 b o (by rw [← hH2]; exact Heap.get?_push_of_some _ e)
  have g2D : H2.get? D = some { cls := .type "list", dict := none, data := .seq ([] : List Value).toArray } := by
    rw [← hH2, ← hD]; exact Heap.get?_push_size _ rfl
  have gI : h₁.get? I = some oI := g2 _ _ (by rw [← hI]; exact Heap.get?_push_size _ hIf)
  have nC := none_ C (by omega)
  have nIC : @Ne Nat I C := by omega
  have nIZ : @Ne Nat I Z := by omega
  have nDC : @Ne Nat D C := by omega
  have nDZ : @Ne Nat D Z := by omega
  have nCZ : @Ne Nat C Z := by omega
  have hfin := @comp_loop prog w K off tb k elt iter x px ifs scope pos (compEnvC scope ((x, Z) :: cl) C env) ρ' ds p f SO xv [C, Z] X (fun h => (∃ m, h.Ns C m) ∧ ∃ v, h.IsCell Z v) I D C oI A s₁ { s₁ with heap := h₁ } (compPost (model prog w) A NoE use Q (.ref D) C)
    S hR O1 (all4 (none_ I (Nat.le_refl _)) (none_ D (by omega)) nC (none_ Z (by omega))) (by show @Ne Nat _ _; omega) (fun z => (List.mem_cons.mp z).elim nIC fun z => nIZ (List.mem_singleton.mp z)) (fun z => (List.mem_cons.mp z).elim nDC fun z => nDZ (List.mem_singleton.mp z)) List.mem_cons_self
    (fun h ⟨⟨m, o, es, ep, g, d, _⟩, v, o2, g2, d2⟩ => all2 ⟨o, g, noCode_dict d⟩ ⟨o2, g2, noCode_cell d2⟩) (fun h h' ⟨⟨m, o, es, ep, g, r⟩, v, o2, g2, r2⟩ kp => ⟨⟨m, o, es, ep, kp _ _ List.mem_cons_self g, r⟩, v, o2, kp _ _ (List.mem_cons_of_mem _ List.mem_cons_self) g2, r2⟩)
    (fun s' v Q ⟨⟨m, n⟩, v0, z0⟩ hQ => wpAny_assign_Name (wpAny_storeName_cell hkind (hxk Z C) (by simp [compEnvC]) z0 fun h2 z2 sb2 => hQ h2 s'.toks ⟨⟨m, n.extBut sb2.extBut nCZ⟩, _, z2⟩ (fun b o hb g => sb2.extBut b o (fun z => hb (z ▸ List.mem_cons_of_mem _ List.mem_cons_self)) g) (.inr ⟨.inl (hxk Z C), Z, by simp [compEnvC], z2⟩)))
    hkind E1.globals E1.builtins List.mem_cons_self (fun s' e q hq => by
      obtain ⟨u, b, ru⟩ := E1.vars q (hsub q hq)
      obtain ⟨c1, c2, c3⟩ := hpass Z C q hq
      refine ⟨u, ?_, ru⟩
      rcases b.ext O1 E1.nloc e with ⟨kl, _⟩ | ⟨_, c, hc, hv⟩
      · rcases c1 with c1 | c1 <;> (rw [kl] at c1; cases c1)
      · exact .inr ⟨c2, c, c3.trans hc, hv⟩) hlen (fun d hd => htest d hd Z C) (fun d hd hp => helt d hd hp Z C)
    (fun s' e r ⟨⟨mC, n⟩, _⟩ => by
      have nn := notTab_of O1 nC
      refine hend D C _ _ (e₁.trans e) r n ?_ nn.2 nn.1
      cases hc : s.heap.get? C with
      | none => rfl
      | some o => rw [e₁.keep C o nn.1 hc] at nC; cases nC)
    (.of_sub (fun b o e => g2 _ _ (Heap.get?_push_of_some _ e)) rfl rfl) gI hSO ⟨_, k12 D _ g2D, rfl, _, rfl⟩ ⟨⟨_, hns⟩, _, gZ⟩
  exact codeAny_compStart_list hfin (S.self _ _ 0 oI I _ _ gI hSO hfin)

end
end Mine
end
section
open PySem PySem.W PySem.Calls PyProof.Rows
set_option maxRecDepth 100000
set_option maxHeartbeats 4000000
set_option linter.all false
namespace Mine
section
variable {prog : Program} {w : World} {W : Wd} {K : Frag} {off : List Addr} {tb : Tb} {k : Nat} {env : Env} {ρ : Rho} {mg mb : Str → Option Value} {X : List Addr} {s₀ : Shared} {A : Around}
/-- two objects of one's own beside what stands -/
theorem Ok.two {I S : Addr} {s' : Shared} (hO : Ok K off tb X s₀) (gI : s₀.heap.get? I = none) (gS : s₀.heap.get? S = none) (x : ExtO tb [S, I] s₀ s') (eI : ∃ o, s'.heap.get? I = some o) (eS : ∃ o, s'.heap.get? S = some o) :
    Ok K off tb (S :: I :: X) s' ∧ Sub (vis tb X s₀.heap) (vis tb (S :: I :: X) s'.heap) := by
  have nI := notTab_new hO gI
  have nS := notTab_new hO gS
  have no : ∀ b o, s₀.heap.get? b = some o → b ∉ [S, I] := fun b o g z => by
    simp only [List.mem_cons, List.not_mem_nil, or_false] at z
    rcases z with rfl | rfl
    · rw [gS] at g; cases g
    · rw [gI] at g; cases g
  have sb : Sub (vis tb X s₀.heap) (vis tb (S :: I :: X) s'.heap) := fun b o g => by
    obtain ⟨g0, n, m⟩ := vis_get g
    have h := no b o g0
    simp only [List.mem_cons, List.not_mem_nil, or_false, not_or] at h
    refine vis_mk (x.keep b o n (no b o g0) g0) n fun z => ?_
    rcases List.mem_cons.mp z with z | z
    · exact h.1 z
    · rcases List.mem_cons.mp z with z | z
      · exact h.2 z
      · exact m z
  refine ⟨⟨fun y hy => ?_, fun q hq => x.tab q hq (hO.tabs q hq), hO.top.sub sb⟩, sb⟩
  rcases List.mem_cons.mp hy with rfl | hy
  · exact ⟨nS.1, eS⟩
  · rcases List.mem_cons.mp hy with rfl | hy
    · exact ⟨nI.1, eI⟩
    · obtain ⟨n, o, g⟩ := hO.priv y hy
      exact ⟨n, o, x.keep y o n (no y o g) g⟩
theorem ext_two {I S : Addr} {s' : Shared} (gI : s₀.heap.get? I = none) (gS : s₀.heap.get? S = none) (x : ExtO tb [S, I] s₀ s') : Ext tb s₀ s' :=
  ⟨fun b o n g => x.keep b o n (fun z => by
    simp only [List.mem_cons, List.not_mem_nil, or_false] at z
    rcases z with rfl | rfl
    · rw [gS] at g; cases g
    · rw [gI] at g; cases g) g, x.tab, x.gens, x.os⟩

theorem min_name : (toString "min" ++ toString ".loop" : String) = "min.loop" := by decide
section
variable {I S qf : Addr} {ds : List PyData} {SO : Nat → Obj → Prop} {R : Result → Shared → Prop} {l : Value}
theorem min_end {s' : Shared} {vb : Value} {kb : Int} {t : Tok} {c i : Nat} {d : PyData} (nS : S ∉ tb.map (·.1)) (x : ExtO tb [S, I] s₀ s') (gI0 : s₀.heap.get? I = none) (gS0 : s₀.heap.get? S = none) (gS : s'.heap.get? S = some (seqObj "list" #[vb, .int kb t] c))
    (hR : ∀ s'', Ext tb s₀ s'' → R (.ok (.ret vb)) s'') : R (.ok (.ret vb)) { s' with heap := s'.heap.update S (Obj.mapSeq fun _ => (#[] : Array Value)) } := by
  have s1 := Heap.SameBut.update s'.heap S (Obj.mapSeq fun _ => (#[] : Array Value))
  refine hR _ (ext_two gI0 gS0 (x.trans (b := s') ⟨fun b o n m g => ?_, fun p hp z => ?_, rfl, rfl⟩))
  · exact s1.extBut b o (fun z => m (by simp [z])) g
  · exact z.but s1.extBut gS (noCode_seq (its := #[vb, .int kb t]) (n := c) rfl) (ne_of_tab nS hp)

theorem min_loop (kf : PyData → Int) (hR : Room A (k + 1)) (hO : Ok K off tb X s₀) (SR : Src prog w tb k X s₀ l ds SO) (gI0 : s₀.heap.get? I = none) (gS0 : s₀.heap.get? S = none) (hIS : I ≠ S) (hf : ∀ d ∈ ds, Fn prog w K off tb k (.ref qf) [d] (.int (kf d)))
    (hE : ∀ (v : Value) (i : Nat) (d : PyData) (s' : Shared), ds[i]? = some d → Rp (vis tb X s₀.heap) v d → (∀ (j : Nat) (d' : PyData), ds[j]? = some d' → kf d ≤ kf d' ∧ (j < i → kf d < kf d')) → Ext tb s₀ s' → R (.ok (.ret v)) s') :
    ∀ (r j i : Nat) (s' : Shared) (vb : Value) (db : PyData) (t : Tok) (c : Nat) (oI : Obj), ds.length - j = r → ExtO tb [S, I] s₀ s' → s'.heap.get? I = some oI → SO j oI → s'.heap.get? S = some (seqObj "list" #[vb, .int (kf db) t] c) → ds[i]? = some db → Rp (vis tb X s₀.heap) vb db →
      i < j → j ≤ ds.length → (∀ j' d', j' < j → ds[j']? = some d' → kf db ≤ kf d' ∧ (j' < i → kf db < kf d')) → codeAny (model prog w) A (.builtin "min.loop" ⟨[.ref I, .ref qf, .ref S], []⟩) R s' := by
  have nI := notTab_new hO gI0
  have nS := notTab_new hO gS0
  intro r
  induction r with
  | zero =>
    intro j i s' vb db t c oI hr x gI so gS hi rb hij hj hb
    have ok := hO.two gI0 gS0 x ⟨_, gI⟩ ⟨_, gS⟩
    refine codeAny_builtin PySem.F.entry_min_loop ?_
    rw [Around.under_plainId PySem.F.plain_min_loop _]
    show wpAny _ A.in1 (seqItems? (.ref S) >>= _) _ _ _
    refine wpAny_bind (wpAny_seqItems gS rfl ?_)
    show wpAny _ A.in1 (tryCatch (pyNext (.ref I)) _ >>= _) _ _ _
    refine wpAny_bind (wpAny_tryCatch (SR.next _ s' j oI I _ _ hR.in1 (ok.2.trans (vis_below _ _ _)) gI so (fun d v h' tk o' hd hx gI' so' rv => ?_) fun h' hd hx => ?_))
    · have := (List.getElem?_eq_some_iff.mp hd).1; omega
    · have x1 : ExtO tb [S, I] s₀ { s' with heap := h' } := x.trans ⟨fun b o n m g => hx b o (fun z => m (by simp [z])) g, fun p hp z => z.but hx gI (SR.noCode _ _ so) (ne_of_tab nI.1 hp), rfl, rfl⟩
      have gS1 := hx S _ (Ne.symm hIS) gS
      show wpAny _ A.in1 (updateSeq S (fun _ => #[]) >>= _) _ _ _
      refine wpAny_bind (wpAny_updateSeq gS1 rfl (wpAny_bind (wpAny_letGo (wpAny_pure ?_))))
      refine min_end (i := i) (d := db) nS.1 x1 gI0 gS0 gS1 fun s'' e => hE vb i db s'' hi rb (fun j' d' hd' => ?_) e
      exact hb j' d' (by have := (List.getElem?_eq_some_iff.mp hd').1; omega) hd'
  | succ r ih =>
    intro j i s' vb db t c oI hr x gI so gS hi rb hij hj hb
    have ok := hO.two gI0 gS0 x ⟨_, gI⟩ ⟨_, gS⟩
    refine codeAny_builtin PySem.F.entry_min_loop ?_
    rw [Around.under_plainId PySem.F.plain_min_loop _]
    show wpAny _ A.in1 (seqItems? (.ref S) >>= _) _ _ _
    refine wpAny_bind (wpAny_seqItems gS rfl ?_)
    show wpAny _ A.in1 (tryCatch (pyNext (.ref I)) _ >>= _) _ _ _
    refine wpAny_bind (wpAny_tryCatch (SR.next _ s' j oI I _ _ hR.in1 (ok.2.trans (vis_below _ _ _)) gI so (fun d v h' tk o' hd hx gI' so' rv => ?_) fun h' hd hx => ?_))
    · have x1 : ExtO tb [S, I] s₀ { s' with heap := h', toks := tk } := x.trans ⟨fun b o n m g => hx b o (fun z => m (by simp [z])) g, fun p hp z => z.but hx gI (SR.noCode _ _ so) (ne_of_tab nI.1 hp), rfl, rfl⟩
      have gS1 := hx S _ (Ne.symm hIS) gS
      have ok1 := hO.two gI0 gS0 x1 ⟨_, gI'⟩ ⟨_, gS1⟩
      show wpAny _ A.in1 (tryCatch (holding [v] (call (.ref qf) [v])) _ >>= _) _ _ _
      refine wpAny_bind (wpAny_tryCatch (wpAny_holding (wpAny_mono (hf d (List.mem_of_getElem? hd) A.in1 _ _ [v] (fun u s2 => ∃ t2, u = .int (kf d) t2 ∧ Ext tb { s' with heap := h', toks := tk } s2) hR.in1 ok1.1 (.cons (rv.sub ok1.2) .nil) fun u s2 e2 r2 => ?_) (fun u s2 hu => ?_) fun _ _ z => z.elim)))
      · obtain ⟨t2, rfl⟩ := r2.int
        exact ⟨t2, rfl, e2⟩
      obtain ⟨t2, rfl, e2⟩ := hu
      have x2 := x1.trans (.of e2)
      have gI2 := e2.keep I o' nI.1 gI'
      have gS2 := e2.keep S _ nS.1 gS1
      show wpAny _ A.in1 (tryCatch (holding [v, .int (kf d) t2] (richCompare .Lt (.int (kf d) t2) (.int (kf db) t) >>= _)) _ >>= _) _ _ _
      refine wpAny_bind (wpAny_tryCatch (wpAny_holding (wpAny_bind (show wpAny _ A.in1 (compareOp .Lt (.int (kf d) t2) (.int (kf db) t)) _ _ _ from lt_int ?_))))
      refine wpAny_bind (wpAny_holding (wpAny_truthy_bool ?_))
      refine wpAny_bind (wpAny_letGo (wpAny_pure ?_))
      have hjl : j < ds.length := (List.getElem?_eq_some_iff.mp hd).1
      by_cases hlt : kf d < kf db
      · have s1 := Heap.SameBut.update s2.heap S (Obj.mapSeq fun _ => #[v, .int (kf d) t2])
        obtain ⟨c2, hc2⟩ : ∃ c2, (s2.heap.update S (Obj.mapSeq fun _ => #[v, .int (kf d) t2])).get? S = some (seqObj "list" #[v, .int (kf d) t2] c2) := ⟨_, get?_update_seq gS2 fun _ => #[v, .int (kf d) t2]⟩
        simp only [hlt, decide_true, if_true]
        refine wpAny_bind (wpAny_updateSeq gS2 rfl (wpAny_bind (wpAny_letGo ?_)))
        rw [min_name]
        have x3 : ExtO tb [S, I] s₀ { s2 with heap := s2.heap.update S (Obj.mapSeq fun _ => #[v, .int (kf d) t2]) } :=
          x2.trans ⟨fun b o n m g => s1.extBut b o (fun z => m (by simp [z])) g, fun p hp z => z.but s1.extBut gS2 (noCode_seq (its := #[vb, .int (kf db) t]) rfl) (ne_of_tab nS.1 hp), rfl, rfl⟩
        refine wpAny_pure ⟨plainId_quiet PySem.F.plain_min_loop _, ih (j + 1) j _ v d t2 c2 o' (by omega) x3 ((s1.2 I hIS).trans gI2) so' hc2 hd rv (Nat.lt_succ_self _) hjl fun j' d' hj' hd' => ?_⟩
        by_cases e : j' = j
        · subst e; rw [hd] at hd'; cases hd'; exact ⟨Int.le_refl _, fun h => absurd h (Nat.lt_irrefl _)⟩
        · have := hb j' d' (by omega) hd'
          exact ⟨by omega, fun _ => by omega⟩
      · simp only [hlt, decide_false, Bool.false_eq_true, if_false]
        refine wpAny_bind (wpAny_letGo ?_)
        rw [min_name]
        refine wpAny_pure ⟨plainId_quiet PySem.F.plain_min_loop _, ih (j + 1) i _ vb db t _ o' (by omega) x2 gI2 so' gS2 hi rb (by omega) hjl fun j' d' hj' hd' => ?_⟩
        by_cases e : j' = j
        · subst e; rw [hd] at hd'; cases hd'; exact ⟨by omega, fun h => absurd h (by omega)⟩
        · exact hb j' d' (by omega) hd'
    · have := List.getElem?_eq_none_iff.mp hd; omega
end
end
end Mine
end
section
open PySem PySem.W PySem.Calls PyProof.Rows
set_option maxRecDepth 100000
set_option maxHeartbeats 4000000
set_option linter.all false
namespace Mine
theorem shortest_at {α : Type} (len : α → Nat) : ∀ (l : List α) (b : α) (i : Nat) (x : α), (b :: l)[i]? = some x → (∀ j y, (b :: l)[j]? = some y → len x ≤ len y ∧ (j < i → len x < len y)) → shortest len b l = x
  | [], b, i, x, h, _ => by
    cases i with
    | zero => simpa [shortest] using h
    | succ i => simp at h
  | y :: r, b, i, x, h, hm => by
    unfold shortest
    split
    · rename_i hlt
      cases i with
      | zero =>
        have e : b = x := by simpa using h
        have := (hm 1 y rfl).1
        rw [← e] at this; omega
      | succ i =>
        refine shortest_at len r y i x (by simpa using h) fun j z hz => ?_
        have := hm (j + 1) z (by simpa using hz)
        exact ⟨this.1, fun q => this.2 (by omega)⟩
    · rename_i hlt
      match i, h, hm with
      | 0, h, hm =>
        refine shortest_at len r b 0 x h fun j z hz => ⟨?_, fun q => absurd q (Nat.not_lt_zero _)⟩
        cases j with
        | zero => exact (hm 0 z (by simpa using hz)).1
        | succ j => exact (hm (j + 2) z (by simpa using hz)).1
      | 1, h, hm =>
        have e : y = x := by simpa using h
        have := (hm 0 b rfl).2 (by omega)
        rw [← e] at this; omega
      | i + 2, h, hm =>
        refine shortest_at len r b (i + 1) x (by simpa using h) fun j z hz => ?_
        cases j with
        | zero =>
          have := hm 0 z (by simpa using hz)
          exact ⟨this.1, fun _ => this.2 (by omega)⟩
        | succ j =>
          have := hm (j + 2) z (by simpa using hz)
          exact ⟨this.1, fun q => this.2 (by omega)⟩
section
variable {prog : Program} {w : World} {W : Wd} {K : Frag} {off : List Addr} {tb : Tb} {k : Nat} {env : Env} {ρ : Rho} {mg mb : Str → Option Value} {X : List Addr} {s₀ s : Shared} {A : Around}
theorem call_min {qf : Addr} {v : Value} {ds : List PyData} {Q : Value → Shared → Prop} (kf : PyData → Int) (hR : Room A (k + 1)) (hO : Ok K off tb X s₀) (r : Rp (vis tb X s₀.heap) v (.list ds)) (hne : ds ≠ []) (hf : ∀ d ∈ ds, Fn prog w K off tb k (.ref qf) [d] (.int (kf d)))
    (hQ : ∀ (v : Value) (i : Nat) (d : PyData) (s' : Shared), ds[i]? = some d → Rp (vis tb X s'.heap) v d → (∀ (j : Nat) (d' : PyData), ds[j]? = some d' → kf d ≤ kf d' ∧ (j < i → kf d < kf d')) → Ext tb s₀ s' → Q v s') :
    wpAny (model prog w) A (call (.builtin "min") [v] [(Str.ofString "key", .ref qf)]) Q NoE s₀ := by
  obtain ⟨SO, SR⟩ := src_list (prog := prog) (w := w) (k := k) r
  refine kmk_tree PySem.F.kind_min PySem.F.plain_min PySem.F.entry_min (kmk_min_key _ _) ?_
  show wpAny _ A.in1 (Builtin.Builtins.bindParams "min" ["key", "default"] 0 ⟨[], [(Str.ofString "key", .ref qf)]⟩ >>= _) _ _ _
  refine wpAny_bind (wpAny_of_eq (show Builtin.Builtins.bindParams "min" ["key", "default"] 0 ⟨[], [(Str.ofString "key", .ref qf)]⟩ = pure [some (.ref qf), none] from rfl) ?_)
  refine wpAny_bind (wpAny_pure ?_)
  refine wpAny_bind (SR.lay A.in1 _ hR.in1 fun oI hSO hIf => ?_)
  refine wpAny_bind (wpAny_newList ?_ (Nat.zero_le _))
  rw [min_name]
  refine wpAny_pure ⟨plainId_quiet PySem.F.plain_min_loop _, ?_⟩
  generalize hI : s₀.heap.objs.size = I
  generalize hS : (s₀.heap.push oI).objs.size = S
  have hIS : I ≠ S := by rw [← hI, ← hS, Heap.size_push]; exact Nat.ne_of_lt (Nat.lt_succ_self _)
  have gI0 : s₀.heap.get? I = none := at_none (Nat.le_of_eq hI)
  have gS0 : s₀.heap.get? S = none := at_none (by rw [← hS, Heap.size_push]; exact Nat.le_succ _)
  have kp : Sub s₀.heap ((s₀.heap.push oI).push (seqObj "list" #[] 0)) := fun b o g => by
    have e1 : (s₀.heap.push oI).get? b = some o := Heap.get?_push_of_some _ g
    exact Heap.get?_push_of_some _ e1
  have gI : ((s₀.heap.push oI).push (seqObj "list" #[] 0)).get? I = some oI := by
    have e1 : (s₀.heap.push oI).get? I = some oI := by rw [← hI]; exact Heap.get?_push_size _ hIf
    exact Heap.get?_push_of_some _ e1
  have gS : ((s₀.heap.push oI).push (seqObj "list" #[] 0)).get? S = some (seqObj "list" #[] 0) := by rw [← hS]; exact Heap.get?_push_size _ rfl
  have x0 : ExtO tb [S, I] s₀ { s₀ with heap := (s₀.heap.push oI).push (seqObj "list" #[] 0) } := .of (.of_sub kp rfl rfl)
  have nI := notTab_new hO gI0
  have nS := notTab_new hO gS0
  have ok := hO.two gI0 gS0 x0 ⟨_, gI⟩ ⟨_, gS⟩
  have hlen : 0 < ds.length := List.length_pos_iff.mpr hne
  refine codeAny_builtin PySem.F.entry_min_loop ?_
  rw [Around.under_plainId PySem.F.plain_min_loop _]
  show wpAny _ A.in1 (seqItems? (.ref S) >>= _) _ _ _
  refine wpAny_bind (wpAny_seqItems gS rfl ?_)
  show wpAny _ A.in1 (tryCatch (pyNext (.ref I)) _ >>= _) _ _ _
  refine wpAny_bind (wpAny_tryCatch (SR.next _ { s₀ with heap := (s₀.heap.push oI).push (seqObj "list" #[] 0) } 0 oI I _ _ hR.in1 (ok.2.trans (vis_below _ _ _)) gI hSO (fun d v h' tk o' hd hx gI' so' rv => ?_) fun h' hd hx => ?_))
  · have x1 : ExtO tb [S, I] s₀ { s₀ with heap := h', toks := tk } := x0.trans ⟨fun b o n m g => hx b o (fun z => m (by simp [z])) g, fun p hp z => z.but hx gI (SR.noCode _ _ hSO) (ne_of_tab nI.1 hp), rfl, rfl⟩
    have gS1 := hx S _ (Ne.symm hIS) gS
    have ok1 := hO.two gI0 gS0 x1 ⟨_, gI'⟩ ⟨_, gS1⟩
    show wpAny _ A.in1 (tryCatch (holding [v] (call (.ref qf) [v])) _ >>= _) _ _ _
    refine wpAny_bind (wpAny_tryCatch (wpAny_holding (wpAny_mono (hf d (List.mem_of_getElem? hd) A.in1 _ _ [v] (fun u s2 => ∃ t2, u = .int (kf d) t2 ∧ Ext tb { s₀ with heap := h', toks := tk } s2) hR.in1 ok1.1 (.cons (rv.sub ok1.2) .nil) fun u s2 e2 r2 => ?_) (fun u s2 hu => ?_) fun _ _ z => z.elim)))
    · obtain ⟨t2, rfl⟩ := r2.int
      exact ⟨t2, rfl, e2⟩
    obtain ⟨t2, rfl, e2⟩ := hu
    have x2 := x1.trans (.of e2)
    have gI2 := e2.keep I o' nI.1 gI'
    have gS2 := e2.keep S _ nS.1 gS1
    have s1 := Heap.SameBut.update s2.heap S (Obj.mapSeq fun _ => #[v, .int (kf d) t2])
    obtain ⟨c2, hc2⟩ : ∃ c2, (s2.heap.update S (Obj.mapSeq fun _ => #[v, .int (kf d) t2])).get? S = some (seqObj "list" #[v, .int (kf d) t2] c2) := ⟨_, get?_update_seq gS2 fun _ => #[v, .int (kf d) t2]⟩
    show wpAny _ A.in1 (updateSeq S (fun _ => #[v, .int (kf d) t2]) >>= _) _ _ _
    refine wpAny_bind (wpAny_updateSeq gS2 rfl ?_)
    rw [min_name]
    have x3 : ExtO tb [S, I] s₀ { s2 with heap := s2.heap.update S (Obj.mapSeq fun _ => #[v, .int (kf d) t2]) } :=
      x2.trans ⟨fun b o n m g => s1.extBut b o (fun z => m (by simp [z])) g, fun p hp z => z.but s1.extBut gS2 (noCode_seq (its := #[]) rfl) (ne_of_tab nS.1 hp), rfl, rfl⟩
    refine wpAny_pure ⟨plainId_quiet PySem.F.plain_min_loop _, min_loop (I := I) (S := S) (qf := qf) kf hR hO SR gI0 gS0 hIS hf (fun v' i d' s' h1 h2 h3 h4 => hQ v' i d' s' h1 (h2.sub h4.vis) h3 h4) _ 1 0 _ v d t2 c2 o' rfl x3 ((s1.2 I hIS).trans gI2) so' hc2 hd rv (Nat.lt_succ_self _) hlen fun j' d' hj' hd' => ?_⟩
    have e : j' = 0 := by omega
    subst e
    rw [hd] at hd'; cases hd'
    exact ⟨Int.le_refl _, fun h => absurd h (Nat.lt_irrefl _)⟩
  · have := List.getElem?_eq_none_iff.mp hd; omega
end
end Mine
end
section
open PySem PySem.W PySem.Calls PyProof.Rows
set_option maxRecDepth 100000
set_option maxHeartbeats 4000000
set_option linter.all false
namespace Mine
abbrev scLen : Scope := { kind := .function, names := [("one", .local), ("len", .globalImplicit)], isGenerator := false, isCoroutine := false, more := [] }
abbrev lenOf : PyData → Int := fun d => match d with | .str x => (x.length : Int) | _ => 0
section
variable {prog : Program} {w : World} {W : Wd} {K : Frag} {off : List Addr} {tb : Tb} {k : Nat} {env : Env} {ρ ρ' : Rho} {β β' : Raw} {mg mb : Str → Option Value} {X : List Addr} {s₀ s : Shared} {A : Around}
  {p1 p2 p3 p4 p5 p6 p7 p8 pos : Pos} {q : Str} {params : Arguments} {pm ctv : Value} {c' : Addr}
theorem fn_lenStr {x : Str} (hz : x.length < 2 ^ 62) : Fn prog w K off tb k (.builtin "len") [.str x] (.int x.length) := by
  intro A X s vs Q hR hO r0 h
  obtain ⟨v, rfl, r⟩ := r0.one
  obtain ⟨t, rfl⟩ := r.str
  exact PySem.P.len_str (by omega) (h _ _ (.of_sub (.refl _) rfl rfl) .mkInt)
/-- lambda one: len(one) -/
theorem fn_lambdaLen {f : Addr} {x : Str} (G : Globs K off mg mb) (hm : mg "len" = none) (hv : mb "len" = some (.builtin "len")) (hf : K.lookup f = some (kla_obj "<lambda>" q params (.Call (.Name "len" p1) [.Name "one" p2] [] p3) scLen [] pm c' ctv)) (hfo : f ∉ off)
    (hbind : ∀ (bd : Expr) (x : Value), bindArgs (kla_fn "<lambda>" q params bd scLen [] pm (.ref c') ctv) ⟨[x], []⟩ = (pure [(("one" : Str), x)] : Sem (List (Str × Value))))
    (hcd : ∀ X s, Ok K off tb X s → s.heap.CodeRec (.ref c') q) (hz : x.length < 2 ^ 62) : Fn prog w K off tb (k + 1) (.ref f) [.str x] (.int x.length) := by
  refine fn_lambda (xs := ["one"]) (ρF := []) G hf hfo rfl rfl rfl rfl hcd rfl ?_ (by decide) ?_ ?_ (fun _ _ _ h => nomatch h) rfl rfl rfl fun L => ?_
  · intro vs hv
    match vs, hv with
    | [x], _ => exact hbind _ x
  · exact List.forall_mem_cons.mpr ⟨rfl, fun _ h => nomatch h⟩
  · exact List.forall_mem_cons.mpr ⟨by decide, List.forall_mem_cons.mpr ⟨by decide, fun _ h => nomatch h⟩⟩
  · exact pv_builtin G hm hv (pvs_cons (pv_var rfl) pvs_nil) (fn_lenStr hz)

/-- min(e, key=lambda one: len(one)) -/
theorem pv_min {c P : Addr} {e : Expr} {b : Str} {r : List Str} {kp : Pos} (G : Globs K off mg mb) (hm : mg "len" = none) (hv : mb "len" = some (.builtin "len")) (hm2 : mg "min" = none) (hv2 : mb "min" = some (.builtin "min")) (hoffT : ∀ a ∈ off, a ∈ tb.map (·.1))
    (T : TabAt K off tb mg env c P q) (he : PV prog w K off tb (k + 2) env ρ e (.list (sts (b :: r)))) (hz : ∀ x ∈ b :: r, x.length < 2 ^ 62)
    (hcl : closureFor scLen env = pure []) (hq : env.qual ++ "<lambda>" = q) (hdef : defaultsOf params env = ([], []))
    (hbind : ∀ (bd : Expr) (pm ctv : Value) (c' : Addr) (x : Value), bindArgs (kla_fn "<lambda>" q params bd scLen [] pm (.ref c') ctv) ⟨[x], []⟩ = (pure [(("one" : Str), x)] : Sem (List (Str × Value))))
    (hx : env.kindOf "min" = some .globalImplicit := by rfl) (hst : starEach [e] env = [(false, eval e env)] := by rfl) :
    PV prog w K off tb (k + 2) env ρ (.Call (.Name "min" p4) [e] [⟨some "key", .Lambda params (.Call (.Name "len" p1) [.Name "one" p2] [] p3) scLen p5, kp⟩] pos) (.str (shortest (·.length) b r)) := by
  intro A X s Q hR hO hE h
  show wpAny (model prog w) A (do callWith pos (← eval (.Name "min" p4) env) [] (backTo pos (starEach [e] env)) (backToKw pos (keywordEach [⟨some "key", .Lambda params (.Call (.Name "len" p1) [.Name "one" p2] [] p3) scLen p5, kp⟩] env))) Q NoE s
  refine wpAny_bind (load_builtin G hO hE hm2 hv2 hx (by decide) ?_)
  refine callWith_kw ?_ (by rw [hst]; rfl) (by rw [hst]; rfl) rfl rfl
  rw [hst]
  refine spliced_cons (he A X s _ hR hO hE fun v s₁ e₁ r₁ => spliced_nil ?_)
  have O1 := hO.ext e₁
  have E1 := hE.ext hO e₁
  refine kws_cons (eval_lambda G T O1 E1 hcl hq hdef fun f c' ctv s₂ e₂ fr gf rec => kws_nil ?_)
  have O2 := O1.ext e₂
  have hc' := O2.recTab rec
  have hX2 : ∀ z ∈ X.filter (fun z => z != c'), z ∈ X := fun z hz => (List.mem_filter.mp hz).1
  obtain ⟨L2, O3, fz, lk⟩ := freeze' (O2.less hX2) hoffT
  obtain ⟨nf1, nf2⟩ := notTab_new O1 fr
  obtain ⟨lf, lfo⟩ := lk f _ (vis_mk gf nf1 fun z => nf2 (hX2 f z))
  have rec' : (vis tb (X.filter (fun z => z != c')) s₂.heap).CodeRec (.ref c') q := by
    obtain ⟨c₂, o₂, vs₂, t₂, e₂, g₂, r₂⟩ := rec
    cases e₂
    exact ⟨_, o₂, vs₂, t₂, rfl, vis_mk g₂ hc' (fun z => by have := (List.mem_filter.mp z).2; simp at this), r₂⟩
  show wpAny (model prog w) A (call (.builtin "min") [v] [(Str.ofString "key", .ref f)]) Q NoE s₂
  refine call_min (k := k + 1) lenOf hR O3 ((r₁.sub e₂.vis).sub (vis_more hX2)) (by simp [sts]) (fun d hd => ?_) fun v' i d s' hi rv hmin e₃ => ?_
  · obtain ⟨x, hx, rfl⟩ := List.mem_map.mp hd
    exact fn_lambdaLen G.grow hm hv lf lfo (fun bd x => hbind bd _ _ _ x) (fun X' s' o => (rec'.keeps (fz _ o.top)).keeps (vis_below _ _ _)) (hz x hx)
  · have hi' : (b :: r)[i]?.map PyData.str = some d := by rw [← List.getElem?_map]; exact hi
    obtain ⟨x, hx, rfl⟩ := Option.map_eq_some_iff.mp hi'
    have e : shortest (·.length) b r = x := shortest_at (·.length) r b i x hx fun j y hy => by
      have := hmin j (.str y) (by
        show ((b :: r).map PyData.str)[j]? = _
        rw [List.getElem?_map, hy]; rfl)
      dsimp only [lenOf] at this ⊢
      exact ⟨by omega, fun q => by have := this.2 q; omega⟩
    obtain ⟨t, rfl⟩ := rv.str
    rw [e] at h
    exact h _ s' ((e₁.trans e₂).trans e₃) .mkStr
end
end Mine
end
section
open PySem PySem.W PySem.Calls PyProof.Rows
set_option maxRecDepth 100000
set_option linter.all false
namespace Mine
/-- a text of the letters a, b and of dots -/
structure Abc (n : Nat) (x : Str) : Prop where
  short : x.length ≤ n
  abc : ∀ c ∈ tl x, c = 97 ∨ c = 98 ∨ c = 46
theorem tl_app (x y : Str) : tl (x ++ y) = tl x ++ tl y := Array.toList_append
theorem tl_len (x : Str) : (tl x).length = x.length := rfl
theorem Abc.nm {n : Nat} {x : Str} (h : Abc n x) (hn : n ≤ 1000) : Nm x ∧ x ≠ "<string>" := by
  refine ⟨⟨Nat.le_trans h.short hn, (strOk_iff x).mpr fun c hc => ?_⟩, fun e => ?_⟩
  · rcases h.abc c hc with rfl | rfl | rfl <;> decide
  · have h60 : (60 : Nat) ∈ tl ("<string>" : Str) := by rw [show tl ("<string>" : Str) = _ from signs_ofString _]; decide
    rw [← e] at h60
    rcases h.abc 60 h60 with z | z | z <;> cases z
theorem Abc.app {n m : Nat} {x y : Str} (h : Abc n x) (k : Abc m y) : Abc (n + m) (x ++ y) := by
  have e : (x ++ y).length = x.length + y.length := by rw [← tl_len, tl_app, List.length_append]; rfl
  refine ⟨by have := h.short; have := k.short; omega, fun c hc => ?_⟩
  rw [tl_app] at hc
  exact (List.mem_append.mp hc).elim (h.abc c) (k.abc c)
theorem cut_len : ∀ (l : List Nat), ∀ p ∈ cut l, p.length ≤ l.length
  | [], p, hp => by simp [cut] at hp; subst hp; exact Nat.le_refl _
  | a :: r, p, hp => by
    have ih := cut_len r
    unfold cut at hp
    split at hp
    · rcases List.mem_cons.mp hp with rfl | hp
      · exact Nat.zero_le _
      · exact Nat.le_trans (ih p hp) (Nat.le_succ _)
    · split at hp
      · rename_i q qs e
        rw [e] at ih
        rcases List.mem_cons.mp hp with rfl | hp
        · have := ih q List.mem_cons_self
          simp only [List.length_cons]; omega
        · exact Nat.le_trans (ih p (List.mem_cons_of_mem _ hp)) (Nat.le_succ _)
      · simp at hp; subst hp; simp
theorem Abc.part {n : Nat} {x p : Str} (h : Abc n x) (hp : p ∈ parts x) : Abc n p := by
  have hm : tl p ∈ cut (tl x) := parts_cut x ▸ List.mem_map_of_mem hp
  refine ⟨?_, fun c hc => h.abc c (cut_mem _ _ hm c hc)⟩
  have := cut_len _ _ hm
  rw [tl_len, tl_len] at this
  exact Nat.le_trans this h.short
theorem sum_le {n : Nat} : ∀ (l : List Nat), (∀ x ∈ l, x ≤ n) → l.sum ≤ l.length * n
  | [], _ => by simp
  | a :: r, h => by
    have h1 := sum_le r fun x hx => h x (List.mem_cons_of_mem _ hx)
    have h2 := h a List.mem_cons_self
    simp only [List.sum_cons, List.length_cons, Nat.succ_mul]; omega
theorem dot_len : dot.length = 1 := by rw [dot_eq]; rfl
theorem Abc.join {n m : Nat} {ps : List Str} (h : ∀ p ∈ ps, Abc n p) (hm : ps.length ≤ m) : Abc (m * n + m) (Txt.join dot ps) := by
  refine ⟨?_, fun c hc => ?_⟩
  · show (Builtin.Str.glued dot ps).length ≤ _
    rw [size_glued, dot_len]
    have h1 := sum_le (n := n) (ps.map (·.length)) fun x hx => by
      obtain ⟨p, hp, rfl⟩ := List.mem_map.mp hx
      exact (h p hp).short
    rw [List.length_map] at h1
    have h2 : ps.length * n ≤ m * n := Nat.mul_le_mul_right _ hm
    omega
  · have hc : c ∈ (Str.join dot ps).cps.toList := by
      have : Txt.join dot ps = Str.join dot ps := StrLaws.glued_eq_join dot ps
      rw [this] at hc; exact hc
    rcases (mem_join dot c ps).mp hc with ⟨t, ht, hc⟩ | ⟨_, hc⟩
    · exact (h t ht).abc c hc
    · rw [dot_eq] at hc
      right; right
      simpa using hc
theorem abc_figure (i : Int) : Abc 2 (figure i) := by
  have key : ∀ s : String, s.toList.length ≤ 2 → (∀ c ∈ s.toList.map Char.toNat, c = 97 ∨ c = 98 ∨ c = 46) → Abc 2 (Str.ofString s) := fun s h1 h2 =>
    ⟨by rw [← tl_len, show tl (Str.ofString s) = _ from signs_ofString s, List.length_map]; exact h1, fun c hc => h2 c (by rw [show tl (Str.ofString s) = _ from signs_ofString s] at hc; exact hc)⟩
  unfold figure
  split
  · exact key "a" (by decide) (by decide)
  · split
    · exact key "b" (by decide) (by decide)
    · split
      · exact key "ab" (by decide) (by decide)
      · exact key "" (by decide) (by decide)
theorem abc_name (x : Int) : Abc 9 (lawName x) := by
  refine Abc.join (n := 2) (m := 3) (fun p hp => ?_) (lawParts_len x)
  obtain ⟨k, _, rfl⟩ := List.mem_map.mp hp
  exact abc_figure _
abbrev five : List Str := ["a.b", "ab", "b..a", "a", "b."]
def namesOf (ns : List Int) : List Str := (ns.take 3).map lawName ++ five
theorem abc_five : ∀ x ∈ five, Abc 9 x := by
  have key : ∀ s : String, s.toList.length ≤ 9 → (∀ c ∈ s.toList.map Char.toNat, c = 97 ∨ c = 98 ∨ c = 46) → Abc 9 (Str.ofString s) := fun s h1 h2 =>
    ⟨by rw [← tl_len, show tl (Str.ofString s) = _ from signs_ofString s, List.length_map]; exact h1, fun c hc => h2 c (by rw [show tl (Str.ofString s) = _ from signs_ofString s] at hc; exact hc)⟩
  exact List.forall_mem_cons.mpr ⟨key "a.b" (by decide) (by decide), List.forall_mem_cons.mpr ⟨key "ab" (by decide) (by decide), List.forall_mem_cons.mpr ⟨key "b..a" (by decide) (by decide), List.forall_mem_cons.mpr ⟨key "a" (by decide) (by decide), List.forall_mem_cons.mpr ⟨key "b." (by decide) (by decide), fun _ h => nomatch h⟩⟩⟩⟩⟩
theorem abc_names (ns : List Int) : ∀ x ∈ namesOf ns, Abc 9 x := by
  intro x hx
  rcases List.mem_append.mp hx with hx | hx
  · obtain ⟨y, _, rfl⟩ := List.mem_map.mp hx
    exact abc_name y
  · exact abc_five x hx
theorem names_len (ns : List Int) : (namesOf ns).length ≤ 8 := by
  simp [namesOf]; omega
abbrev upper (x : Str) : Str := Txt.join dot (parts x).dropLast
def askedOf (NS : List Str) : List Str := NS ++ NS.map (fun x : Str => x ++ ("b" : Str)) ++ NS.map upper
theorem abc_upper {x : Str} (h : Abc 9 x) : Abc 110 (upper x) := by
  refine Abc.join (n := 9) (m := 11) (fun p hp => h.part (List.dropLast_subset _ hp)) ?_
  have h1 : (parts x).length ≤ x.length + 2 := by rw [split_eq]; exact parts_len x
  have h2 := h.short
  rw [List.length_dropLast]; omega
theorem abc_b : Abc 1 ("b" : Str) := ⟨by rw [← tl_len, show tl ("b" : Str) = _ from signs_ofString "b"]; decide, fun c hc => by
  rw [show tl ("b" : Str) = _ from signs_ofString "b"] at hc
  revert hc; revert c; decide⟩
theorem nms_sub {xs NS : List Str} (h : ∀ x ∈ NS, Abc 9 x) (hs : ∀ x ∈ xs, x ∈ NS) (hl : xs.length ≤ 100) : Nms xs := ⟨hl, fun x hx => (h x (hs x hx)).nm (by omega)⟩
theorem nms_asked {NS : List Str} (h : ∀ x ∈ NS, Abc 9 x) (hl : NS.length ≤ 8) : Nms (askedOf NS) := by
  refine ⟨by simp [askedOf]; omega, fun x hx => ?_⟩
  rcases List.mem_append.mp hx with hx | hx
  · rcases List.mem_append.mp hx with hx | hx
    · exact (h x hx).nm (by omega)
    · obtain ⟨y, hy, rfl⟩ := List.mem_map.mp hx
      exact ((h y hy).app abc_b).nm (by omega)
  · obtain ⟨y, hy, rfl⟩ := List.mem_map.mp hx
    exact (abc_upper (h y hy)).nm (by omega)
end Mine
end
section
open PySem PySem.W PySem.Calls PyProof.Rows
set_option maxRecDepth 100000
set_option maxHeartbeats 4000000
set_option linter.all false
namespace Mine
section
variable {prog : Program} {w : World} {W : Wd} {K : Frag} {off : List Addr} {tb : Tb} {k : Nat} {env : Env} {ρ ρ' : Rho} {β β' : Raw} {mg mb : Str → Option Value} {X : List Addr} {s₀ s : Shared} {A : Around}
theorem pt_value {e : Expr} {b : Bool} (h : PV prog w K off tb k env ρ e (.bool b)) (he : isTrue e env (eval e env) = (do let v ← eval e env; standAt e.pos; holding [v] (truthy v)) := by rfl) : PT prog w K off tb k env ρ e b := by
  intro A X s Q hR hO hE hQ
  refine wpAny_isTrue_value (h A X s _ hR hO hE fun v s' e r => ?_) he
  obtain rfl := r.bool
  exact wpAny_truthy_bool (hQ s' e)

/-- y = [..], y a local name, the list stored before the block's names are let go -/
theorem St.assignComp {elt iter : Expr} {x y : Str} {px py : Pos} {ifs : List Expr} {scope : Scope} {pos spos : Pos} {es : List PyData} {Q : Flow → Shared → Prop}
    (hsw : swapsWith (.ListComp elt [⟨.Name x px, iter, ifs, 0⟩] scope pos) (some (.Name y py)) spos.line env = pure true) (hy : env.kindOf y = some .local) (S : St K off tb X env ρ β s) (hX : ∀ y ∈ own env, y ∈ X)
    (hcomp : ∀ (use : Option (Value → Sem Unit)) (Q : Value → Shared → Prop), (∀ (D C : Addr) (s' : Shared) (mC : Str → Option Value), Ext tb s s' → Rp (vis tb (C :: X) s'.heap) (.ref D) (.list es) → s'.heap.Ns C mC → s.heap.get? C = none → C ∉ X → C ∉ tb.map (·.1) →
      compPost (model prog w) A NoE use Q (.ref D) C (.ok .next) s') → wpAny (model prog w) A (comprehension (.ListComp elt [⟨.Name x px, iter, ifs, 0⟩] scope pos) scope env (firstIterPos [⟨.Name x px, iter, ifs, 0⟩] pos) (newList []) false (eval iter env) use) Q NoE s)
    (hQ : ∀ s', ExtO tb (own env) s s' → (∀ c v, s.heap.IsCell c v → s'.heap.IsCell c v) → (∀ ρ' β', (∀ p ∈ ρ', p = (y, .list es) ∨ (p ∈ ρ ∧ p.1 ≠ y)) → (∀ p ∈ β', p ∈ β ∧ p.1 ≠ y) → St K off tb X env ρ' β' s') → Q .next s') :
    wpAny (model prog w) A (exec (.Assign [.Name y py] (.ListComp elt [⟨.Name x px, iter, ifs, 0⟩] scope pos) spos) env) Q NoE s := by
  rw [exec_Assign_Name_used _ _ _ _ hsw]
  refine wpAny_bind (wpAny_standAt (wpAny_bind ?_))
  show wpAny (model prog w) A (do let _ ← comprehension (.ListComp elt [⟨.Name x px, iter, ifs, 0⟩] scope pos) scope env (firstIterPos [⟨.Name x px, iter, ifs, 0⟩] pos) (newList []) false (eval iter env) (some (assign (.Name y py) env))) _ _ s
  refine wpAny_bind (wpAny_mono (hcomp (some (assign (.Name y py) env)) (fun _ s' => Q .next s') fun D C s' mC e r n c0 cX cT => ?_) (fun _ s' hq => wpAny_pure (wpAny_pure hq)) fun _ _ e => e)
  show wpAny (model prog w) A (assign (.Name y py) env (.ref D)) _ _ _
  have gC := let ⟨oC, _, _, g, _⟩ := n; (⟨oC, g⟩ : ∃ o, s'.heap.get? C = some o)
  have SC := S.hide e c0 gC cT
  have hCL : C ≠ env.locals := fun z => by obtain ⟨m, o, es, ep, g, _⟩ := S.loc; rw [← z, c0] at g; cases g
  refine wpAny_assign_Name (SC.store (fun z hz => List.mem_cons_of_mem _ (hX z hz)) hy fun s₂ y₂ _ mk₂ kp₂ => ?_)
  have n₂ : s₂.heap.Ns C mC := let ⟨o, es, ep, g, q⟩ := n; ⟨o, es, ep, kp₂ C o hCL g, q⟩
  refine ⟨mC, n₂, fun h₃ sb3 => ?_⟩
  obtain ⟨oC2, esC, epC, gC2, dC2, _⟩ := id n₂
  have y3 : ExtO tb [C] s₂ { s₂ with heap := h₃ } := ⟨fun b o _ m g => sb3.extBut b o (fun z => m (by simp [z])) g, fun q hq z => z.but sb3.extBut gC2 (noCode_dict dC2) (ne_of_tab cT hq), rfl, rfl⟩
  have S3 : ∀ ρ' β', (∀ p ∈ ρ', p = (y, .list es) ∨ (p ∈ ρ ∧ p.1 ≠ y)) → (∀ p ∈ β', p ∈ β ∧ p.1 ≠ y) → St K off tb X env ρ' β' { s₂ with heap := h₃ } := fun ρ' β' h1 h2 => by
    have S2 := mk₂ ρ' β' (fun p hp => by
      rcases h1 p hp with rfl | h
      · exact .inl ⟨rfl, r⟩
      · exact .inr h) (fun p hp => .inr (h2 p hp))
    have sb : Sub (vis tb (C :: X) s₂.heap) (vis tb X h₃) := fun b o e1 => by
      obtain ⟨e0, n1, m⟩ := vis_get e1
      exact vis_mk (sb3.extBut b o (fun z => m (z ▸ List.mem_cons_self)) e0) n1 fun q => m (List.mem_cons_of_mem _ q)
    have bnd : ∀ u v, Bound env s₂.heap u v → Bound env h₃ u v := fun u v b => by
      rcases b with ⟨kl, m', n1, hm⟩ | ⟨kc, c, hc, oc, c1, c2⟩
      · exact .inl ⟨kl, m', n1.sameBut sb3 (Ne.symm hCL), hm⟩
      · exact .inr ⟨kc, c, hc, oc, sb3.extBut c oc (fun z => by rw [z, gC2] at c1; cases c1; rw [dC2] at c2; cases c2) c1, c2⟩
    refine ⟨⟨fun z hz => ?_, fun q hq => y3.tab q hq (S2.ok.tabs q hq), S2.ok.top.sub sb⟩, ⟨S2.en.kind, S2.en.globals, S2.en.builtins, S2.en.nloc, fun q hq => ?_⟩, fun q hq => bnd _ _ (S2.raw q hq), ?_⟩
    · obtain ⟨n1, o, g⟩ := S2.ok.priv z (List.mem_cons_of_mem _ hz)
      exact ⟨n1, o, sb3.extBut z o (fun q => cX (q ▸ hz)) g⟩
    · obtain ⟨u, b, ru⟩ := S2.en.vars q hq
      exact ⟨u, bnd _ _ b, ru.sub sb⟩
    · obtain ⟨m, nl⟩ := S2.loc
      exact ⟨m, nl.sameBut sb3 (Ne.symm hCL)⟩
  refine hQ _ ⟨fun b o n1 m1 e1 => ?_, fun q hq z => ?_, ?_, ?_⟩ (fun c v hc => ?_) S3
  · exact y3.keep b o n1 (fun z => by rw [List.mem_singleton.mp z, c0] at e1; cases e1) (y₂.keep b o n1 m1 (e.keep b o n1 e1))
  · exact y3.tab q hq (y₂.tab q hq (e.tab q hq z))
  · exact y₂.gens.trans e.gens
  · exact y₂.os.trans e.os
  · obtain ⟨o, g, d⟩ := S.ok.cellExt hc e
    have n1 : c ≠ env.locals := fun z => by
      obtain ⟨m, ol, es, ep, gl, dl, _⟩ := SC.loc
      rw [← z, g] at gl; cases gl; rw [d] at dl; cases dl
    have n2 : c ≠ C := fun z => by obtain ⟨o', g', _⟩ := hc; rw [z, c0] at g'; cases g'
    exact ⟨o, sb3.extBut c o n2 (kp₂ c o n1 g), d⟩
end
end Mine
end
section
open PySem PySem.W PySem.Calls PyProof.Rows
set_option maxRecDepth 100000
set_option maxHeartbeats 4000000
set_option linter.all false
namespace Mine
abbrev scLaw (more : List (Str × Const)) : Scope := { kind := .function, names := [("script", .local), ("names", .cell), ("above", .local), ("tops", .cell), ("due", .cell), ("kept", .cell), ("asked", .local), ("told", .local), ("range", .globalImplicit), ("len", .globalImplicit), ("reduce", .globalImplicit), ("_law_keep", .globalImplicit), ("_law_roots", .globalImplicit), ("_law_answers", .globalImplicit)], isGenerator := false, isCoroutine := false, more }
abbrev envL (more : List (Str × Const)) (L g cK cD cT cN : Addr) (qual : Str) (func frame : Option Addr) (bu : Addr) : Env :=
  { scope := scLaw more, locals := L, globals := g, cells := [("kept", cK), ("due", cD), ("tops", cT), ("names", cN)], qual, func, code := .ref 130, frame, builtins := bu }
abbrev scX : Scope := { kind := .function, names := [(".0", .local), ("x", .local), ("_law_name", .globalImplicit)], isGenerator := false, isCoroutine := false, more := [] }
abbrev scIn : Scope := { kind := .function, names := [(".0", .local), ("one", .local), ("_law_above", .globalImplicit), ("name", .free)], isGenerator := false, isCoroutine := false, more := [] }
abbrev scRow : Scope := { kind := .function, names := [(".0", .local), ("row", .local), ("min", .globalImplicit)], isGenerator := false, isCoroutine := false, more := [] }
abbrev scDue : Scope := { kind := .function, names := [(".0", .local), ("k", .local), ("names", .free), ("tops", .free)], isGenerator := false, isCoroutine := false, more := [] }
abbrev scNm : Scope := { kind := .function, names := [(".0", .local), ("name", .local)], isGenerator := false, isCoroutine := false, more := [] }
abbrev scK : Scope := { kind := .function, names := [(".0", .local), ("k", .local), ("_law_answers", .globalImplicit), ("kept", .free)], isGenerator := false, isCoroutine := false, more := [] }
abbrev intl (ns : List Int) : List PyData := ns.map .int
abbrev rowsOf (NS : List Str) : List PyData := NS.map fun y => .list (sts (NS.filter fun one => isAbove one y))
def topsOf (NS : List Str) : List Str := NS.map fun y => topIn isAbove (·.length) NS y
def unS : PyData → Str := fun d => match d with | .str x => x | _ => ""
def topD : PyData → PyData := fun d => match d with
  | .list ds => (match ds.map unS with | b :: r => .str (shortest (·.length) b r) | [] => .none)
  | _ => .none
theorem unS_sts (xs : List Str) : (sts xs).map unS = xs := by simp [sts, Function.comp_def, unS]
section
variable {prog : Program} {w : World} {W : Wd} {off : List Addr} {tb : Tb} {k : Nat} {env : Env} {ρ ρ' : Rho} {mg mb : Str → Option Value} {NS : List Str}
  {more : List (Str × Const)} {eL eg cK cD cT cN ebu : Addr} {equal : Str} {efunc eframe : Option Addr}
  {p1 p2 p3 p4 p5 p6 p7 p8 p9 p10 p11 p12 p13 p14 p15 p16 p17 p18 p19 p20 p21 p22 p23 p24 p25 p26 p27 p28 : Pos}

theorem pv_lawNames {ns : List Int} (G : Globs (K1 W) off (mg1 W) (mb1 W)) (h1 : (104 : Nat) ∉ off) (h2 : (103 : Nat) ∉ off) (hρ : ρ.lookup ("script" : Str) = some (.list (intl ns))) (hn : ns.length ≤ 63) :
    PV prog w (K1 W) off tb (k + 1) (envL more eL eg cK cD cT cN equal efunc eframe ebu) ρ (.BinOp (.ListComp (.Call (.Name "_law_name" p1) [.Name "x" p2] [] p3) [⟨.Name "x" p4, .Subscript (.Name "script" p5) (.Slice none (some (.Constant (.int 3) 0 p6)) none p7) p8, [], 0⟩] scX p9) .Add
      (.List [.Constant (.str "a.b") 0 p10, .Constant (.str "ab") 0 p11, .Constant (.str "b..a") 0 p12, .Constant (.str "a") 0 p13, .Constant (.str "b.") 0 p14] p15) p16) (.list (sts (namesOf ns))) := by
  have hz : sizeLine = 2 ^ 24 := rfl
  have e : sts (namesOf ns) = sts ((ns.take 3).map lawName) ++ sts five := by simp [namesOf, sts]
  rw [e]
  refine pv_binop ?_ (pv_list (pvs_cons pv_str (pvs_cons pv_str (pvs_cons pv_str (pvs_cons pv_str (pvs_cons pv_str pvs_nil)))))) (op_add_list (by simp [sts]; omega))
  refine pv_comp (ds := intl (ns.take 3)) (ρ' := []) (fun _ => true) (fun d => match d with | .int x => .str (lawName x) | _ => .none) rfl rfl (by decide) (by decide) rfl (fun C => fun _ h => nomatch h) (fun _ h => nomatch h) (by simp [intl]; omega)
    ?_ (fun d hd C => .inl ⟨rfl, rfl⟩) (fun d hd _ C => ?_) ?_
  · refine pv_slice (a := none) (b := some 3) (pv_var hρ) pp_none (pp_some pv_int) (by simp [intl]; omega) fun g vs r => ?_
    have := pick_upto (j := 3) (by omega) g vs r
    rw [show intl (ns.take 3) = (intl ns).take (3 : Int).toNat by simp [intl, List.map_take]]
    exact this
  · obtain ⟨x, hx, rfl⟩ := List.mem_map.mp hd
    exact pv_call (f := 104) G rfl (ho := by exact rfl) h1 (hdat := by exact rfl) (pvs_cons (pv_var rfl) pvs_nil) (fn_name h1 h2 G)
  · rw [filter_all]; simp [sts, intl, Function.comp_def]

/-- [one for one in xs if _law_above(one, name)] -/
theorem pv_lawRow {src y : Str} {xs : List Str} {Z : Addr} (G : Globs (K1 W) off (mg1 W) (mb1 W)) (h1 : (116 : Nat) ∉ off) (h2 : (115 : Nat) ∉ off) (hclos : closureFor scIn env = pure [(("name" : Str), Z)])
    (hpass : ∀ C, Passes env (compEnvC scIn [(("name" : Str), Z)] C env) [(("name" : Str), .str y)]) (hgi : ∀ C, (compEnvC scIn [(("name" : Str), Z)] C env).kindOf "_law_above" = some .globalImplicit)
    (hs : ρ.lookup src = some (.list (sts xs))) (hy : (("name" : Str), PyData.str y) ∈ ρ) (hx : ∀ x ∈ xs, Nm x) (hyn : Nm y) (hl : xs.length ≤ 100) (hd : (src == ("__debug__" : Str)) = false := by decide) (hc : (src == ("__classdict__" : Str)) = false := by decide) :
    PV prog w (K1 W) off tb (k + 1) env ρ (.ListComp (.Name "one" p1) [⟨.Name "one" p2, .Name src p3, [.Call (.Name "_law_above" p4) [.Name "one" p5, .Name "name" p6] [] p7], 0⟩] scIn p8) (.list (sts (xs.filter fun one => isAbove one y))) := by
  have hz : sizeLine = 2 ^ 24 := rfl
  refine pv_comp (ds := sts xs) (ρ' := [("name", .str y)]) (fun d => isAbove (unS d) y) id hclos rfl (by decide) (by decide) rfl hpass (fun q hq => by rw [List.mem_singleton] at hq; exact hq ▸ hy) (by simp [sts]; omega)
    (pv_var hs hd hc) (fun d hd C => .inr ⟨_, rfl, ?_⟩) (fun d hd _ C => ?_) ?_
  · obtain ⟨x, hx', rfl⟩ := List.mem_map.mp hd
    exact pt_value (pv_call (f := 116) G rfl (ho := by exact rfl) h1 (hdat := by exact rfl) (pvs_cons (pv_var rfl) (pvs_cons (pv_var rfl) pvs_nil)) (fn_above (hx x hx') hyn h1 h2 G) (hgi C))
  · exact pv_var rfl
  · simp [sts, List.filter_map, Function.comp_def, unS]

theorem tops_rows (hrow : ∀ y ∈ NS, y ∈ NS.filter fun one => isAbove one y) : (rowsOf NS).map topD = sts (topsOf NS) := by
  show (NS.map _).map topD = (NS.map _).map _
  rw [List.map_map, List.map_map]
  refine List.map_congr_left fun y hy => ?_
  show topD (.list (sts _)) = .str (topIn isAbove (·.length) NS y)
  have := hrow y hy
  unfold topD topIn
  dsimp only
  rw [unS_sts]
  cases h : NS.filter (fun one => isAbove one y) with
  | nil => rw [h] at this; cases this
  | cons b r => rfl
theorem self_row {y : Str} (hy : y ∈ NS) : y ∈ NS.filter fun one => isAbove one y := List.mem_filter.mpr ⟨hy, hier_names.refl y⟩
/-- [min(row, key=lambda one: len(one)) for row in above] -/
theorem pv_lawTops {P : Addr} {q : Str} {params : Arguments} {kp : Pos} (G : Globs (K1 W) off (mg1 W) (mb1 W)) (hoffT : ∀ a ∈ off, a ∈ tb.map (·.1)) (T : ∀ C, TabAt (K1 W) off tb (mg1 W) (compEnvC scRow [] C (envL more eL eg cK cD cT cN equal efunc eframe ebu)) 130 P q)
    (hρ : ρ.lookup ("above" : Str) = some (.list (rowsOf NS))) (hn : ∀ x ∈ NS, Nm x) (hl : NS.length ≤ 100) (hq : equal ++ "<lambda>" = q) (hdef : ∀ C, defaultsOf params (compEnvC scRow [] C (envL more eL eg cK cD cT cN equal efunc eframe ebu)) = ([], []))
    (hbind : ∀ (bd : Expr) (pm ctv : Value) (c' : Addr) (x : Value), bindArgs (kla_fn "<lambda>" q params bd scLen [] pm (.ref c') ctv) ⟨[x], []⟩ = (pure [(("one" : Str), x)] : Sem (List (Str × Value)))) :
    PV prog w (K1 W) off tb (k + 2) (envL more eL eg cK cD cT cN equal efunc eframe ebu) ρ (.ListComp (.Call (.Name "min" p1) [.Name "row" p2] [⟨some "key", .Lambda params (.Call (.Name "len" p3) [.Name "one" p4] [] p5) scLen p6, kp⟩] p7) [⟨.Name "row" p8, .Name "above" p9, [], 0⟩] scRow p10) (.list (sts (topsOf NS))) := by
  have hz : sizeLine = 2 ^ 24 := rfl
  refine pv_comp (ds := rowsOf NS) (ρ' := []) (fun _ => true) topD rfl rfl (by decide) (by decide) rfl (fun C => fun _ h => nomatch h) (fun _ h => nomatch h) (by simp [rowsOf]; omega)
    (pv_var hρ) (fun d hd C => .inl ⟨rfl, rfl⟩) (fun d hd _ C => ?_) ?_
  · obtain ⟨y, hy, rfl⟩ := List.mem_map.mp hd
    have hself := self_row hy
    show PV _ _ _ _ _ _ _ _ _ (topD (.list (sts (NS.filter fun one => isAbove one y))))
    unfold topD
    dsimp only
    rw [unS_sts]
    cases h : NS.filter (fun one => isAbove one y) with
    | nil => rw [h] at hself; cases hself
    | cons b r =>
      exact pv_min (b := b) (r := r) G rfl W.bLen rfl W.bMin hoffT (T C) (pv_var rfl) (fun x hx => by
        have hx : x ∈ NS := (List.mem_filter.mp (h ▸ hx : x ∈ NS.filter fun one => isAbove one y)).1
        have := (hn x hx).short; omega) rfl hq (hdef C) hbind
  · rw [filter_all, tops_rows fun y hy => self_row hy]

theorem topsOf_get {i : Nat} (hi : i < NS.length) : (topsOf NS)[i]? = some (topIn isAbove (·.length) NS (NS.getD i "")) := by
  unfold topsOf
  rw [List.getElem?_map, getD_get hi]; rfl
theorem getD_mem {α : Type} {xs : List α} {i : Nat} {d : α} (hi : i < xs.length) : xs.getD i d ∈ xs := by
  rw [List.getD_eq_getElem?_getD, List.getElem?_eq_getElem hi]; exact List.getElem_mem hi
theorem sts_get {xs : List Str} {i : Nat} (hi : i < xs.length) : (sts xs)[i]? = some (.str (xs.getD i "")) := by
  show (xs.map _)[i]? = _
  rw [List.getElem?_map, getD_get hi]; rfl
theorem eqv_str (a b : Str) : PyData.eqv (.str a) (.str b) = decide (a = b) := by
  show (a == b) = decide (a = b)
  rw [Bool.eq_iff_iff]; simp
abbrev dueTest (NS : List Str) (i : Nat) : Bool := decide (topIn isAbove (·.length) NS (NS.getD i "") = NS.getD i "") && !decide (NS.getD i "" ∈ NS.take i)
theorem due_tops : ((List.range NS.length).filter (dueTest NS)).map (fun i => NS.getD i "") = tops isAbove "" NS := by
  unfold tops firsts
  rw [List.filter_map, List.filter_filter]
  congr 1
  refine List.filter_congr fun i hi => ?_
  have hi := List.mem_range.mp hi
  have : decide (topIn isAbove (·.length) NS (NS.getD i "") = NS.getD i "") = minB isAbove NS (NS.getD i "") := by
    rw [Bool.eq_iff_iff, decide_eq_true_iff, minB_iff]
    exact top_eq hier_names (getD_mem hi)
  unfold dueTest
  rw [this]
  rfl
theorem any_eqv (xs : List Str) (y : Str) : ((sts xs).any fun z => PyData.eqv z (.str y)) = decide (y ∈ xs) := by
  rw [Bool.eq_iff_iff, List.any_eq_true, decide_eq_true_iff]
  constructor
  · rintro ⟨z, hz, e⟩
    obtain ⟨x, hx, rfl⟩ := List.mem_map.mp hz
    rw [eqv_str, decide_eq_true_iff] at e
    exact e ▸ hx
  · intro h
    exact ⟨.str y, List.mem_map_of_mem h, by rw [eqv_str]; simp⟩
/-- [names[k] for k in range(len(names)) if tops[k] == names[k] and names[k] not in names[:k]] -/
theorem pv_lawDue (G : Globs (K1 W) off (mg1 W) (mb1 W)) (hρ : (("names" : Str), PyData.list (sts NS)) ∈ ρ) (hρ2 : (("tops" : Str), PyData.list (sts (topsOf NS))) ∈ ρ) (hn : ∀ x ∈ NS, Nm x) (hl : NS.length ≤ 100) :
    PV prog w (K1 W) off tb k (envL more eL eg cK cD cT cN equal efunc eframe ebu) ρ (.ListComp (.Subscript (.Name "names" p1) (.Name "k" p2) p3) [⟨.Name "k" p4, .Call (.Name "range" p5) [.Call (.Name "len" p6) [.Name "names" p7] [] p8] [] p9,
      [.BoolOp .And [.Compare (.Subscript (.Name "tops" p10) (.Name "k" p11) p12) [.Eq] [.Subscript (.Name "names" p13) (.Name "k" p14) p15] p16,
        .Compare (.Subscript (.Name "names" p17) (.Name "k" p18) p19) [.NotIn] [.Subscript (.Name "names" p20) (.Slice none (some (.Name "k" p21)) none p22) p23] p24] p25], 0⟩] scDue p26) (.list (sts (tops isAbove "" NS))) := by
  have hz : sizeLine = 2 ^ 24 := rfl
  have okx : ∀ x ∈ NS, PyData.strOk x = true := fun x hx => (hn x hx).ok
  refine pv_comp_range (n := NS.length) (ρ' := [("names", .list (sts NS)), ("tops", .list (sts (topsOf NS)))]) (fun d => match d with | .int i => dueTest NS i.toNat | _ => false) (fun d => match d with | .int i => .str (NS.getD i.toNat "") | _ => .none) G rfl W.bRange rfl rfl (by decide) (by decide) rfl
    (fun C => List.forall_mem_cons.mpr ⟨⟨.inl rfl, .inl rfl, rfl⟩, List.forall_mem_cons.mpr ⟨⟨.inl rfl, .inl rfl, rfl⟩, fun _ h => nomatch h⟩⟩) (List.forall_mem_cons.mpr ⟨hρ, List.forall_mem_cons.mpr ⟨hρ2, fun _ h => nomatch h⟩⟩) (by omega) ?_ (fun j hj C => .inr ⟨_, rfl, ?_⟩) (fun j hj _ C => ?_) ?_
  · have := fn_len (prog := prog) (w := w) (K := K1 W) (off := off) (tb := tb) (k := k) (ds := sts NS) (by simp [sts]; omega)
    simp only [sts, List.length_map] at this
    exact pv_builtin G rfl W.bLen (pvs_cons (pv_name hρ) pvs_nil) this
  · have g1 : (topsOf NS).length = NS.length := by simp [topsOf]
    have hmem := getD_mem (xs := NS) (d := "") hj
    have htm : topIn isAbove (·.length) NS (NS.getD j "") ∈ NS := (top_spec hier_names ⟨_, hmem, hier_names.refl _⟩).1
    have e1 : dueTest NS ((j : Nat) : Int).toNat = (PyData.eqv (.str (topIn isAbove (·.length) NS (NS.getD j ""))) (.str (NS.getD j "")) && !((sts (NS.take j)).any fun z => PyData.eqv z (.str (NS.getD j "")))) := by
      rw [eqv_str, any_eqv]; rfl
    show PT _ _ _ _ _ _ _ _ _ (dueTest NS ((j : Nat) : Int).toNat)
    rw [e1]
    refine pt_and (pt_cmp (a := .str (topIn isAbove (·.length) NS (NS.getD j ""))) (b := .str (NS.getD j "")) (pv_item (ds := sts (topsOf NS)) (j := (j : Nat)) (pv_var rfl) (pv_var rfl) (by omega) (by omega) ?_) (pv_item (ds := sts NS) (j := (j : Nat)) (pv_var rfl) (pv_var rfl) (by omega) (by omega) (sts_get hj)) (op_eq (okx _ htm) (okx _ hmem) (by simp [PyData.depth]))) fun _ =>
      pt_cmp (a := .str (NS.getD j "")) (b := .list (sts (NS.take j))) (pv_item (ds := sts NS) (j := (j : Nat)) (pv_var rfl) (pv_var rfl) (by omega) (by omega) (sts_get hj)) ?_ (op_notIn (okx _ hmem) (lay_sts _ fun x hx => okx x (List.mem_of_mem_take hx)) ?_)
    · show ((topsOf NS).map _)[j]? = _
      rw [List.getElem?_map, topsOf_get hj]; rfl
    · refine pv_slice (a := none) (b := some (j : Nat)) (ds := sts NS) (pv_var rfl) pp_none (pp_some (pv_var rfl)) (by simp [sts]; omega) fun g vs r => ?_
      have := pick_upto (j := (j : Nat)) (by omega) g vs r
      rw [show sts (NS.take j) = (sts NS).take ((j : Nat) : Int).toNat by simp [sts, List.map_take]]
      exact this
    · have := dep_sts (NS.take j)
      omega
  · exact pv_item (ds := sts NS) (j := (j : Nat)) (pv_var rfl) (pv_var rfl) (by omega) (by omega) (sts_get hj)
  · rw [← due_tops]
    simp [sts, nts, List.filter_map, Function.comp_def]
end
end Mine
end
section
open PySem PySem.W PySem.Calls PyProof.Rows
set_option maxRecDepth 100000
set_option maxHeartbeats 4000000
set_option linter.all false
namespace Mine
theorem tell_covers (mods : List Str) (y : Str) : (tell mods y = 1) ↔ mods.any (fun m => isAbove m y) = true := by
  unfold tell
  split <;> simp_all
theorem keep_eq (kept : List Str) (name : Str) : (if tell kept name = 1 then kept else (kept.filter fun one => tell [name] one == 0) ++ [name]) = keepStep isAbove kept name := by
  unfold keepStep
  have e : (kept.filter fun one => tell [name] one == 0) = kept.filter fun one => !isAbove name one := by
    refine List.filter_congr fun x _ => ?_
    rw [tell_one]
    cases isAbove name x <;> rfl
  rw [e]
  by_cases h : tell kept name = 1
  · rw [if_pos h, if_pos ((tell_covers _ _).mp h)]
  · rw [if_neg h, if_neg fun z => h ((tell_covers _ _).mpr z)]
theorem tops_len (ns : List Str) : (tops isAbove "" ns).length ≤ ns.length := by
  unfold tops firsts
  have h1 := List.length_filter_le (minB isAbove ns) (((List.range ns.length).filter fun k => !decide (ns.getD k "" ∈ ns.take k)).map fun k => ns.getD k "")
  have h2 := List.length_filter_le (fun k => !decide (ns.getD k "" ∈ ns.take k)) (List.range ns.length)
  rw [List.length_map] at h1
  rw [List.length_range] at h2
  exact Nat.le_trans h1 h2
section
variable {prog : Program} {w : World} {W : Wd} {off : List Addr} {tb : Tb} {k : Nat} {env : Env} {ρ ρ' : Rho} {mg mb : Str → Option Value} {NS : List Str}
  {more : List (Str × Const)} {eL eg cK cD cT cN ebu : Addr} {equal : Str} {efunc eframe : Option Addr}
  {p1 p2 p3 p4 p5 p6 p7 p8 p9 p10 p11 p12 p13 p14 p15 p16 p17 p18 p19 p20 p21 p22 p23 p24 p25 p26 p27 p28 p29 p30 : Pos}
/-- reduce(_law_keep, names, []) -/
theorem pv_lawKept (G : Globs (K1 W) off (mg1 W) (mb1 W)) (hoff : ∀ a ∈ [1, 29, 30, 36, 37, 80, 84, 85, 91, 92, 94, 95, 108, 109], a ∉ off) (hoffT : ∀ a ∈ off, a ∈ tb.map (·.1)) (hρ : (("names" : Str), PyData.list (sts NS)) ∈ ρ) (hn : Nms NS)
    (hk1 : env.kindOf "reduce" = some .globalImplicit) (hk2 : env.kindOf "_law_keep" = some .globalImplicit) :
    PV prog w (K1 W) off tb (k + 4) env ρ (.Call (.Name "reduce" p1) [.Name "_law_keep" p2, .Name "names" p3, .List [] p4] [] p5) (.list (sts (tops isAbove "" NS))) := by
  intro A X s Q hR hO hE h
  have hl := hn.few
  have sub1 : ∀ a ∈ ([29, 30, 36, 37] : List Nat), a ∈ ([1, 29, 30, 36, 37, 80, 84, 85, 91, 92, 94, 95, 108, 109] : List Nat) := by decide
  have sub2 : ∀ a ∈ ([1, 80, 84, 85, 91, 92, 94, 95, 108, 109] : List Nat), a ∈ ([1, 29, 30, 36, 37, 80, 84, 85, 91, 92, 94, 95, 108, 109] : List Nat) := by decide
  obtain ⟨o37, fd37, l37, d37⟩ : ∃ o fd, (K1 W).lookup 37 = some o ∧ o.data = .func fd := ⟨_, _, rfl, rfl⟩
  obtain ⟨o109, fd109, l109, d109⟩ : ∃ o fd, (K1 W).lookup 109 = some o ∧ o.data = .func fd := ⟨_, _, rfl, rfl⟩
  refine wpAny_Call_NameR (load_global G hO hE (by exact rfl) hk1 (by decide) (callWith_fn d37 ?_ rfl))
  refine spliced_cons (load_global G hO hE (by exact rfl) hk2 (by decide) (spliced_cons ?_))
  obtain ⟨vn, bn, rn⟩ := hE.vars _ hρ
  refine bound_load hE.kind bn (spliced_cons ?_) (by decide) (by decide)
  refine pv_list (prog := prog) (w := w) (K := K1 W) (off := off) (tb := tb) (k := k + 4) (env := env) (ρ := ρ) (es := []) (ds := []) pvs_nil (by decide) A X s _ hR hO hE fun v₁ s₁ e₁ r₁ => spliced_nil ⟨(hO.ext e₁).get l37 (hoff 37 (by decide)), ?_⟩
  have O1 : Ok (K1 W ++ []) off tb X s₁ := by rw [List.append_nil]; exact hO.ext e₁
  have accN : ∀ i, (NS.take i).foldl (keepStep isAbove) [] = tops isAbove "" (NS.take i) := fun i => kept_tops hier_names "" _
  refine call_reduce (k := k + 2) (L := []) (fun i => .list (sts ((NS.take i).foldl (keepStep isAbove) []))) (ds := sts NS) G (fun a ha => hoff a (sub1 a ha)) hR O1 (by rw [List.append_nil]; exact l109) (hoff 109 (by decide)) d109 (by show True; trivial) r₁
    (fun X' s' sb => src_list ((rn.sub e₁.vis).sub sb)) (fun i d hd => ?_) fun v s' e r => ?_
  · have hi : i < NS.length := by have := (List.getElem?_eq_some_iff.mp hd).1; simpa [sts] using this
    rw [sts_get hi] at hd
    cases hd
    have htk : NS.take (i + 1) = NS.take i ++ [NS.getD i ""] := by rw [List.take_succ, getD_get hi]; rfl
    rw [List.append_nil]
    show Fn prog w (K1 W) off tb (k + 2 + 1) (.ref 109) [.list (sts ((NS.take i).foldl (keepStep isAbove) [])), .str (NS.getD i "")] (.list (sts ((NS.take (i + 1)).foldl (keepStep isAbove) [])))
    rw [htk, List.foldl_append]
    show Fn prog w (K1 W) off tb (k + 2 + 1) (.ref 109) [.list (sts ((NS.take i).foldl (keepStep isAbove) [])), .str (NS.getD i "")] (.list (sts (keepStep isAbove ((NS.take i).foldl (keepStep isAbove) []) (NS.getD i ""))))
    rw [← keep_eq, accN]
    refine fn_keep (k := k) ⟨?_, fun x hx => hn.nm x ?_⟩ (hn.nm _ (getD_mem hi)) G (fun a ha => hoff a (sub2 a ha)) hoffT
    · have := tops_len (NS.take i)
      rw [List.length_take] at this
      omega
    · exact List.mem_of_mem_take (tops_mem.mp hx).1
  · have e2 : (sts NS).length = NS.length := by simp [sts]
    rw [e2, List.take_length, kept_tops hier_names ""] at r
    exact h v s' (e₁.trans e) r

theorem joinOk_upper {x : Str} (h : Abc 9 x) : JoinOk dot (parts x).dropLast = true := by
  have h1 : (parts x).length ≤ x.length + 2 := by rw [split_eq]; exact parts_len x
  have h2 := h.short
  have h3 := StrLaws.joinFits (sep := dot) (texts := (parts x).dropLast) (B := 9) (fun y hy => (h.part (List.dropLast_subset _ hy)).short) (by
    rw [dot_len, List.length_dropLast]; omega)
  unfold JoinOk
  simpa using h3
/-- names + [name + 'b' for name in names] + ['.'.join(name.split('.')[:-1]) for name in names] -/
theorem pv_lawAsked (G : Globs (K1 W) off (mg1 W) (mb1 W)) (hρ : (("names" : Str), PyData.list (sts NS)) ∈ ρ) (hn : ∀ x ∈ NS, Abc 9 x) (hl : NS.length ≤ 8) (hl1 : (p10.endLine == p19.line) = true) (hl2 : (p12.endLine == p14.line) = true) :
    PV prog w (K1 W) off tb k (envL more eL eg cK cD cT cN equal efunc eframe ebu) ρ (.BinOp (.BinOp (.Name "names" p1) .Add (.ListComp (.BinOp (.Name "name" p2) .Add (.Constant (.str "b") 0 p3) p4) [⟨.Name "name" p5, .Name "names" p6, [], 0⟩] scNm p7) p8) .Add
      (.ListComp (.Call (.Attribute (.Constant (.str ".") 0 p9) "join" p10) [.Subscript (.Call (.Attribute (.Name "name" p11) "split" p12) [.Constant (.str ".") 0 p13] [] p14) (.Slice none (some (.UnaryOp .USub (.Constant (.int 1) 0 p15) p16)) none p17) p18] [] p19)
        [⟨.Name "name" p20, .Name "names" p21, [], 0⟩] scNm p22) p23) (.list (sts (askedOf NS))) := by
  have hz : sizeLine = 2 ^ 24 := rfl
  have e : sts (askedOf NS) = (sts NS ++ sts (NS.map fun x : Str => x ++ ("b" : Str))) ++ sts (NS.map upper) := by simp [askedOf, sts]
  rw [e]
  refine pv_binop (pv_binop (pv_name hρ) ?_ (op_add_list (by simp [sts]; omega))) ?_ (op_add_list (by simp [sts]; omega))
  · refine pv_comp (ds := sts NS) (ρ' := []) (fun _ => true) (fun d => .str (unS d ++ ("b" : Str))) rfl rfl (by decide) (by decide) rfl (fun C => fun _ h => nomatch h) (fun _ h => nomatch h) (by simp [sts]; omega) (pv_name hρ) (fun d hd C => .inl ⟨rfl, rfl⟩) (fun d hd _ C => ?_) ?_
    · obtain ⟨x, hx, rfl⟩ := List.mem_map.mp hd
      have := (hn x hx).short
      have hb := abc_b.short
      exact pv_binop (pv_var rfl) pv_str (op_add_str (by omega))
    · rw [filter_all]; simp [sts, Function.comp_def, unS]
  · refine pv_comp (ds := sts NS) (ρ' := []) (fun _ => true) (fun d => .str (upper (unS d))) rfl rfl (by decide) (by decide) rfl (fun C => fun _ h => nomatch h) (fun _ h => nomatch h) (by simp [sts]; omega) (pv_name hρ) (fun d hd C => .inl ⟨rfl, rfl⟩) (fun d hd _ C => ?_) ?_
    · obtain ⟨x, hx, rfl⟩ := List.mem_map.mp hd
      have hs := (hn x hx).short
      have lx : (parts x).length ≤ x.length + 2 := by rw [split_eq]; exact parts_len x
      refine pv_join pv_str ?_ (joinOk_upper (hn x hx)) rfl hl1
      refine pv_slice (a := none) (b := some (-1)) (ds := sts (parts x)) (pv_split (pv_var rfl) pv_str rfl (by omega) (Nat.le_trans (parts_len x) (by omega)) rfl hl2) pp_none (pp_some (pv_neg pv_int)) (by simp only [sts, List.length_map]; omega) fun g vs r => ?_
      have := pick_butLast g vs r
      show RpAll g _ (sts (parts x).dropLast)
      rw [show sts (parts x).dropLast = (sts (parts x)).dropLast by simp [sts]]
      exact this
    · rw [filter_all]; simp [sts, Function.comp_def, unS]

theorem ne_nil (xs : List Str) (p : Str → Bool) : (!PyData.eqv (.list (sts (xs.filter p))) (.list [])) = xs.any p := by
  have e : PyData.eqv (.list (sts (xs.filter p))) (.list []) = PyData.eqvAll (sts (xs.filter p)) (sts []) := rfl
  rw [e, eqv_sts]
  induction xs with
  | nil => rfl
  | cons a r ih => cases h : p a <;> simp_all
abbrev toldD (D : List Str) (asked : List Str) : List PyData := asked.map fun y => .int (tell D y)
/-- 1 if [one for one in due if _law_above(one, name)] != [] else 0 -/
theorem pv_lawTold {y : Str} {D : List Str} {Z : Addr} (G : Globs (K1 W) off (mg1 W) (mb1 W)) (h1 : (116 : Nat) ∉ off) (h2 : (115 : Nat) ∉ off) (hclos : closureFor scIn env = pure [(("name" : Str), Z)])
    (hpass : ∀ C, Passes env (compEnvC scIn [(("name" : Str), Z)] C env) [(("name" : Str), .str y)]) (hgi : ∀ C, (compEnvC scIn [(("name" : Str), Z)] C env).kindOf "_law_above" = some .globalImplicit)
    (hs : ρ.lookup ("due" : Str) = some (.list (sts D))) (hy : (("name" : Str), PyData.str y) ∈ ρ) (hx : ∀ x ∈ D, Nm x) (hyn : Nm y) (hl : D.length ≤ 100) :
    PV prog w (K1 W) off tb (k + 1) env ρ (.IfExp (.Compare (.ListComp (.Name "one" p1) [⟨.Name "one" p2, .Name "due" p3, [.Call (.Name "_law_above" p4) [.Name "one" p5, .Name "name" p6] [] p7], 0⟩] scIn p8) [.NotEq] [.List [] p9] p10) (.Constant (.int 1) 0 p11) (.Constant (.int 0) 0 p12) p13) (.int (tell D y)) := by
  have hd := dep_sts (D.filter fun one => isAbove one y)
  refine pv_ifexp (c := D.any fun m => isAbove m y) ?_ (fun q => ?_) fun q => ?_
  · rw [← ne_nil]
    exact pt_cmp (pv_lawRow G h1 h2 hclos hpass hgi hs hy hx hyn hl) (pv_list pvs_nil) (op_ne (lay_sts _ fun x hx' => (hx x (List.mem_filter.mp hx').1).ok) rfl (by simp only [PyData.depth]; omega))
  · have e : tell D y = 1 := if_pos q
    rw [e]; exact pv_int
  · have e : tell D y = 0 := if_neg (by rw [q]; decide)
    rw [e]; exact pv_int

theorem pv_lawAns {e1 e2 : Expr} {mods asked : List Str} (G : Globs (K1 W) off (mg1 W) (mb1 W)) (hoff : ∀ a ∈ [1, 80, 84, 85, 91, 92, 94, 95, 120, 121], a ∉ off) (hoffT : ∀ a ∈ off, a ∈ tb.map (·.1)) (hm : Nms mods) (ha : Nms asked)
    (h1 : PV prog w (K1 W) off tb (k + 3) env ρ e1 (.list (sts mods))) (h2 : PV prog w (K1 W) off tb (k + 3) env ρ e2 (.list (sts asked))) (hk : env.kindOf "_law_answers" = some .globalImplicit)
    (he : starEach [e1, e2] env = (false, eval e1 env) :: starEach [e2] env := by rfl) (he2 : starEach [e2] env = (false, eval e2 env) :: starEach [] env := by rfl) :
    PV prog w (K1 W) off tb (k + 3) env ρ (.Call (.Name "_law_answers" p1) [e1, e2] [] p2) (.list (toldD mods asked)) :=
  pv_call (f := 121) G rfl (ho := by exact rfl) (hoff 121 (by decide)) (hdat := by exact rfl) (pvs_cons h1 (pvs_cons h2 pvs_nil he2) he) (fn_answers hm ha G hoff hoffT) hk (by decide) he
theorem eqv_same : ∀ (l : List Int), PyData.eqvAll (l.map .int) (l.map .int) = true
  | [] => rfl
  | a :: r => by
    show (PyData.eqv (.int a) (.int a) && PyData.eqvAll (r.map .int) (r.map .int)) = true
    rw [eqv_int, eqv_same r]; simp
theorem lay_ints : ∀ (l : List Int), PyData.canLayAll0 (l.map .int) = true
  | [] => rfl
  | a :: r => by simp [PyData.canLayAll0, PyData.canLay0, lay_ints r]
theorem dep_ints : ∀ (l : List Int), PyData.depthAll (l.map .int) ≤ 1
  | [] => by simp [PyData.depthAll]
  | a :: r => by have := dep_ints r; simp [PyData.depthAll, PyData.depth]; omega
theorem toldD_ints (D asked : List Str) : toldD D asked = (asked.map (tell D)).map .int := by simp [toldD, Function.comp_def]
/-- [k for k in range(len(kept)) if _law_answers(kept[:k] + kept[k + 1:], [kept[k]]) != [0]] == [] -/
theorem pv_lawEnd {D : List Str} (G : Globs (K1 W) off (mg1 W) (mb1 W)) (hoff : ∀ a ∈ [1, 80, 84, 85, 91, 92, 94, 95, 120, 121], a ∉ off) (hoffT : ∀ a ∈ off, a ∈ tb.map (·.1)) (hρ : (("kept" : Str), PyData.list (sts D)) ∈ ρ) (hD : Nms D)
    (halone : ∀ i, i < D.length → (D.take i ++ D.drop (i + 1)).any (fun m => isAbove m (D.getD i "")) = false) :
    PV prog w (K1 W) off tb (k + 3) (envL more eL eg cK cD cT cN equal efunc eframe ebu) ρ (.Compare (.ListComp (.Name "k" p1) [⟨.Name "k" p2, .Call (.Name "range" p3) [.Call (.Name "len" p4) [.Name "kept" p5] [] p6] [] p7,
      [.Compare (.Call (.Name "_law_answers" p8) [.BinOp (.Subscript (.Name "kept" p9) (.Slice none (some (.Name "k" p10)) none p11) p12) .Add (.Subscript (.Name "kept" p13) (.Slice (some (.BinOp (.Name "k" p14) .Add (.Constant (.int 1) 0 p15) p16)) none none p17) p18) p19,
        .List [.Subscript (.Name "kept" p20) (.Name "k" p21) p22] p23] [] p24) [.NotEq] [.List [.Constant (.int 0) 0 p25] p26] p27], 0⟩] scK p28) [.Eq] [.List [] p29] p30) (.bool true) := by
  have hz : sizeLine = 2 ^ 24 := rfl
  have hl := hD.few
  have e0 : PyData.eqv (.list []) (.list []) = true := rfl
  rw [← e0]
  refine pv_cmp ?_ (pv_list pvs_nil) (op_eq rfl rfl (by simp [PyData.depth, PyData.depthAll]))
  refine pv_comp_range (n := D.length) (ρ' := [("kept", .list (sts D))]) (fun _ => false) id G rfl W.bRange rfl rfl (by decide) (by decide) rfl
    (fun C => List.forall_mem_cons.mpr ⟨⟨.inl rfl, .inl rfl, rfl⟩, fun _ h => nomatch h⟩) (List.forall_mem_cons.mpr ⟨hρ, fun _ h => nomatch h⟩) (by omega) ?_ (fun j hj C => .inr ⟨_, rfl, ?_⟩) (fun j hj q C => nomatch q) ?_
  · have := fn_len (prog := prog) (w := w) (K := K1 W) (off := off) (tb := tb) (k := k + 3) (ds := sts D) (by simp [sts]; omega)
    simp only [sts, List.length_map] at this
    exact pv_builtin G rfl W.bLen (pvs_cons (pv_name hρ) pvs_nil) this
  · have t0 : tell (D.take j ++ D.drop (j + 1)) (D.getD j "") = 0 := if_neg (by rw [halone j hj]; decide)
    have e1 : false = !PyData.eqv (.list (toldD (D.take j ++ D.drop (j + 1)) [D.getD j ""])) (.list [.int 0]) := by
      show false = !PyData.eqv (.list [.int (tell (D.take j ++ D.drop (j + 1)) (D.getD j ""))]) (.list [.int 0])
      rw [t0]; rfl
    show PT _ _ _ _ _ _ _ _ _ false
    rw [e1]
    have hsub : ∀ x ∈ D.take j ++ D.drop (j + 1), x ∈ D := fun x hx => (List.mem_append.mp hx).elim (fun z => List.mem_of_mem_take z) fun z => List.mem_of_mem_drop z
    refine pt_cmp (pv_lawAns G hoff hoffT ⟨by rw [List.length_append, List.length_take, List.length_drop]; omega, fun x hx => hD.nm x (hsub x hx)⟩ ⟨by simp, fun x hx => by rw [List.mem_singleton] at hx; subst hx; exact hD.nm _ (getD_mem hj)⟩ ?_ ?_ rfl) (pv_list (pvs_cons pv_int pvs_nil)) (op_ne (by simp [PyData.canLay0, PyData.canLayAll0]) rfl (by simp [PyData.depth, PyData.depthAll]))
    · have e2 : sts (D.take j ++ D.drop (j + 1)) = (sts D).take ((j : Nat) : Int).toNat ++ (sts D).drop ((j : Nat) + 1 : Int).toNat := by
        have : ((j : Nat) + 1 : Int).toNat = j + 1 := by omega
        rw [this]; simp [sts, List.map_take, List.map_drop]
      rw [e2]
      refine pv_binop (pv_slice (a := none) (b := some (j : Nat)) (ds := sts D) (pv_var rfl) pp_none (pp_some (pv_var rfl)) (by simp [sts]; omega) fun g vs r => pick_upto (by omega) g vs r)
        (pv_slice (a := some ((j : Nat) + 1)) (b := none) (ds := sts D) (pv_var rfl) (pp_some (pv_binop (pv_var rfl) pv_int op_add_int)) pp_none (by simp [sts]; omega) fun g vs r => pick_from (by omega) g vs r) (op_add_list (by simp [sts]; omega))
    · exact pv_list (pvs_cons (pv_item (ds := sts D) (j := (j : Nat)) (pv_var rfl) (pv_var rfl) (by omega) (by omega) (sts_get hj)) pvs_nil)
  · simp
end
end Mine
end
section
open PySem PySem.W PySem.Calls PyProof.Rows
set_option maxRecDepth 100000
set_option maxHeartbeats 4000000
set_option linter.all false
namespace Mine
abbrev scAbove : Scope := { kind := .function, names := [(".0", .local), ("name", .cell), ("names", .free)], isGenerator := false, isCoroutine := false, more := [] }
abbrev scTld : Scope := { kind := .function, names := [(".0", .local), ("name", .cell), ("due", .free)], isGenerator := false, isCoroutine := false, more := [] }
abbrev offAll : List Nat := [0, 1, 2, 3, 4, 23, 27, 28, 29, 30, 36, 37, 80, 84, 85, 91, 92, 94, 95, 103, 104, 108, 109, 115, 116, 120, 121, 125, 126, 130]
theorem map_range {α β : Type} (f : α → β) (d : α) (xs : List α) : (List.range xs.length).map (fun j => f (xs.getD j d)) = xs.map f := by
  refine List.ext_getElem? fun i => ?_
  rw [List.getElem?_map, List.getElem?_map]
  by_cases h : i < xs.length
  · rw [List.getElem?_range h, getD_get (d := d) h]; rfl
  · rw [List.getElem?_eq_none (by simpa using h), List.getElem?_eq_none (by simpa using h)]; rfl
theorem roots_eq (NS : List Str) : rootsOf NS = topsOf NS := by
  unfold topsOf
  rw [← map_range (fun y => topIn isAbove (·.length) NS y) "" NS]
  exact List.map_congr_left fun j hj => root_top hier_names "" NS j (List.mem_range.mp hj)
theorem told_eq (NS asked : List Str) : toldD NS asked = toldD (tops isAbove "" NS) asked := by
  refine List.map_congr_left fun y _ => ?_
  unfold tell
  rw [covers_tops hier_names]
theorem eqv_told (D asked : List Str) : (!PyData.eqv (.list (toldD D asked)) (.list (toldD D asked))) = false := by
  show (!PyData.eqvAll (toldD D asked) (toldD D asked)) = false
  rw [toldD_ints, eqv_same]; rfl
theorem eqv_strs (xs : List Str) : (!PyData.eqv (.list (sts xs)) (.list (sts xs))) = false := by
  show (!PyData.eqvAll (sts xs) (sts xs)) = false
  rw [eqv_sts]; simp
section
variable {prog : Program} {w : World} {W : Wd} {off : List Addr} {tb : Tb} {k : Nat} {X : List Addr} {s : Shared} {A : Around} {NS : List Str}
  {more : List (Str × Const)} {eL eg cK cD cT cN ebu : Addr} {equal : Str} {efunc eframe : Option Addr}
  {a1 a2 a3 a4 a5 a6 a7 a8 a9 a10 a11 a12 a13 a14 a15 a16 a17 a18 : Pos}
  {b1 b2 b3 b4 b5 b6 b7 b8 b9 b10 b11 b12 b13 : Pos}
  {c1 c2 c3 c4 c5 c6 c7 c8 c9 c10 c11 c12 : Pos}
  {d1 d2 d3 d4 d5 d6 d7 d8 d9 d10 d11 d12 d13 d14 d15 d16 d17 d18 d19 d20 d21 d22 d23 d24 d25 d26 d27 d28 : Pos}
  {e1 e2 e3 e4 e5 e6 e7 f1 f2 f3 f4 f5 f6 f7 f8 f9 f10 f11 : Pos}
  {g1 g2 g3 g4 g5 g6 g7 g8 g9 g10 g11 g12 g13 g14 g15 g16 g17 g18 g19 g20 g21 g22 g23 g24 g25 : Pos}
  {h1 h2 h3 h4 h5 h6 h7 h8 h9 h10 h11 h12 h13 h14 h15 h16 h17 h18 h19 : Pos}
  {i1 i2 i3 i4 i5 i6 i7 i8 i9 i10 i11 i12 i13 i14 i15 i16 : Pos}
  {j1 j2 j3 j4 j5 j6 j7 j8 j9 j10 j11 j12 j13 j14 j15 j16 j17 j18 j19 j20 j21 j22 j23 j24 j25 j26 j27 j28 j29 j30 j31 j32 : Pos}
theorem comp_above {ρ : Rho} {use : Option (Value → Sem Unit)} {Q' : Value → Shared → Prop} (G : Globs (K1 W) off (mg1 W) (mb1 W)) (ha : (116 : Nat) ∉ off) (hb : (115 : Nat) ∉ off) (hn : ∀ x ∈ NS, Nm x) (hl : NS.length ≤ 100)
    (hR : Room A (k + 1)) (hO : Ok (K1 W) off tb X s) (hE : EnvOk tb X (envL more eL eg cK cD cT cN equal efunc eframe ebu) ρ s) (hρ : (("names" : Str), PyData.list (sts NS)) ∈ ρ)
    (hend : ∀ (D C : Addr) (s' : Shared) (mC : Str → Option Value), Ext tb s s' → Rp (vis tb (C :: X) s'.heap) (.ref D) (.list (rowsOf NS)) → s'.heap.Ns C mC → s.heap.get? C = none → C ∉ X → C ∉ tb.map (·.1) → compPost (model prog w) A NoE use Q' (.ref D) C (.ok .next) s') :
    wpAny (model prog w) A (comprehension (.ListComp (.ListComp (.Name "one" b2) [⟨.Name "one" b3, .Name "names" b4, [.Call (.Name "_law_above" b5) [.Name "one" b6, .Name "name" b7] [] b8], 0⟩] scIn b9) [⟨.Name "name" b10, .Name "names" b11, [], 0⟩] scAbove b12) scAbove
      (envL more eL eg cK cD cT cN equal efunc eframe ebu) (firstIterPos [⟨.Name "name" b10, .Name "names" b11, [], 0⟩] b12) (newList []) false (eval (.Name "names" b11) (envL more eL eg cK cD cT cN equal efunc eframe ebu)) use) Q' NoE s := by
  have hz : sizeLine = 2 ^ 24 := rfl
  have e : rowsOf NS = ((sts NS).filter (fun _ => true)).map (fun d => .list (sts (NS.filter fun one => isAbove one (unS d)))) := by
    rw [filter_all]; simp [sts, Function.comp_def, unS]
  rw [e] at hend
  refine comp_genC (cl := [("names", cN)]) (ρ := ρ) (ρ' := [("names", .list (sts NS))]) (fun _ => true) _ rfl rfl (fun _ _ => rfl) (fun _ => rfl) (by decide) (fun _ _ => rfl) (fun Z C => List.forall_mem_cons.mpr ⟨⟨.inl rfl, .inl rfl, rfl⟩, fun _ h => nomatch h⟩)
    (List.forall_mem_cons.mpr ⟨hρ, fun _ h => nomatch h⟩) (by simp [sts]; omega) (fun d hd Z C => .inl ⟨rfl, rfl⟩) (fun d hd _ Z C => ?_) (fun _ => rfl) (fun A X s Q hR hO hE h => pv_name (prog := prog) (w := w) (k := k + 1) hρ (by decide) (by decide) A X s Q hR hO hE fun v s' e r => h v s' e (src_list r)) hR hO hE hend
  obtain ⟨y, hy, rfl⟩ := List.mem_map.mp hd
  exact pv_lawRow (y := y) G ha hb rfl (fun C => List.forall_mem_cons.mpr ⟨⟨.inl rfl, .inl rfl, rfl⟩, fun _ h => nomatch h⟩) (fun C => rfl) rfl (by first | exact .head _ | exact .tail _ (.head _) | exact .tail _ (.tail _ (.head _)) | exact .tail _ (.tail _ (.tail _ (.head _))) | exact .tail _ (.tail _ (.tail _ (.tail _ (.head _)))) | simp) hn (hn y hy) hl
theorem comp_told {ρ : Rho} {use : Option (Value → Sem Unit)} {Q' : Value → Shared → Prop} {D asked : List Str} (G : Globs (K1 W) off (mg1 W) (mb1 W)) (ha : (116 : Nat) ∉ off) (hb : (115 : Nat) ∉ off) (hn : ∀ x ∈ D, Nm x) (hl : D.length ≤ 100) (hn2 : ∀ x ∈ asked, Nm x) (hl2 : asked.length ≤ 100)
    (hR : Room A (k + 1)) (hO : Ok (K1 W) off tb X s) (hE : EnvOk tb X (envL more eL eg cK cD cT cN equal efunc eframe ebu) ρ s) (hρ : (("due" : Str), PyData.list (sts D)) ∈ ρ) (hρ2 : (("asked" : Str), PyData.list (sts asked)) ∈ ρ)
    (hend : ∀ (D' C : Addr) (s' : Shared) (mC : Str → Option Value), Ext tb s s' → Rp (vis tb (C :: X) s'.heap) (.ref D') (.list (toldD D asked)) → s'.heap.Ns C mC → s.heap.get? C = none → C ∉ X → C ∉ tb.map (·.1) → compPost (model prog w) A NoE use Q' (.ref D') C (.ok .next) s') :
    wpAny (model prog w) A (comprehension (.ListComp (.IfExp (.Compare (.ListComp (.Name "one" i1) [⟨.Name "one" i2, .Name "due" i3, [.Call (.Name "_law_above" i4) [.Name "one" i5, .Name "name" i6] [] i7], 0⟩] scIn i8) [.NotEq] [.List [] i9] i10) (.Constant (.int 1) 0 i11) (.Constant (.int 0) 0 i12) i13)
        [⟨.Name "name" i14, .Name "asked" i15, [], 0⟩] scTld i16) scTld
      (envL more eL eg cK cD cT cN equal efunc eframe ebu) (firstIterPos [⟨.Name "name" i14, .Name "asked" i15, [], 0⟩] i16) (newList []) false (eval (.Name "asked" i15) (envL more eL eg cK cD cT cN equal efunc eframe ebu)) use) Q' NoE s := by
  have hz : sizeLine = 2 ^ 24 := rfl
  have e : toldD D asked = ((sts asked).filter (fun _ => true)).map (fun d => .int (tell D (unS d))) := by
    rw [filter_all]; simp [sts, Function.comp_def, unS]
  rw [e] at hend
  refine comp_genC (cl := [("due", cD)]) (ρ := ρ) (ρ' := [("due", .list (sts D))]) (fun _ => true) _ rfl rfl (fun _ _ => rfl) (fun _ => rfl) (by decide) (fun _ _ => rfl) (fun Z C => List.forall_mem_cons.mpr ⟨⟨.inl rfl, .inl rfl, rfl⟩, fun _ h => nomatch h⟩)
    (List.forall_mem_cons.mpr ⟨hρ, fun _ h => nomatch h⟩) (by simp [sts]; omega) (fun d hd Z C => .inl ⟨rfl, rfl⟩) (fun d hd _ Z C => ?_) (fun _ => rfl) (fun A X s Q hR hO hE h => pv_name (prog := prog) (w := w) (k := k + 1) hρ2 (by decide) (by decide) A X s Q hR hO hE fun v s' e r => h v s' e (src_list r)) hR hO hE hend
  obtain ⟨y, hy, rfl⟩ := List.mem_map.mp hd
  exact pv_lawTold (y := y) G ha hb rfl (fun C => List.forall_mem_cons.mpr ⟨⟨.inl rfl, .inl rfl, rfl⟩, fun _ h => nomatch h⟩) (fun C => rfl) rfl (by first | exact .head _ | exact .tail _ (.head _) | exact .tail _ (.tail _ (.head _)) | exact .tail _ (.tail _ (.tail _ (.head _))) | exact .tail _ (.tail _ (.tail _ (.tail _ (.head _)))) | simp) hn (hn2 y hy) hl
theorem law_body {u0 u1 u2 u3 u4 u5 u6 u7 u8 u9 : Stmt} {ns : List Int} {params : Arguments} {kp : Pos} {q : Str} {Q : Flow → Shared → Prop} (hNS : NS = namesOf ns) (hq : equal ++ "<lambda>" = q)
    (hnd : cN ≠ cT ∧ cN ≠ cD ∧ cN ≠ cK ∧ cT ≠ cD ∧ cT ≠ cK ∧ cD ≠ cK) (hC0 : ∀ c ∈ [cN, cT, cD, cK], ∃ v, s.heap.IsCell c v)
    (hoff : ∀ a ∈ offAll, a ∉ off) (hoffT : ∀ a ∈ off, a ∈ tb.map (·.1)) (hm : ((123 : Addr), TK.code qRoots) ∈ tb) (ho : ∀ p ∈ tb, p.1 = 123 → p.2 = .code qRoots)
    (hT : ∀ C, TabAt (K1 W) off tb (mg1 W) (compEnvC scRow [] C (envL more eL eg cK cD cT cN equal efunc eframe ebu)) 130 128 q)
    (hns : ns.length ≤ 63) (hR : Room A (k + 8)) (S : St (K1 W) off tb X (envL more eL eg cK cD cT cN equal efunc eframe ebu) [("script", .list (intl ns))] [] s) (hX : ∀ y ∈ own (envL more eL eg cK cD cT cN equal efunc eframe ebu), y ∈ X)
    (hdef : ∀ C, defaultsOf params (compEnvC scRow [] C (envL more eL eg cK cD cT cN equal efunc eframe ebu)) = ([], []))
    (hbind : ∀ (bd : Expr) (pm ctv : Value) (c' : Addr) (x : Value), bindArgs (kla_fn "<lambda>" q params bd scLen [] pm (.ref c') ctv) ⟨[x], []⟩ = (pure [(("one" : Str), x)] : Sem (List (Str × Value))))
    (hs1 : (b1.line == b12.line) = true) (hs2 : (g8.line == i16.line) = true) (hl1 : (h10.endLine == h19.line) = true) (hl2 : (h12.endLine == h14.line) = true)
    (q0 : u0 = .Assign [.Name "names" a1] (.BinOp (.ListComp (.Call (.Name "_law_name" a2) [.Name "x" a3] [] a4) [⟨.Name "x" a5, .Subscript (.Name "script" a6) (.Slice none (some (.Constant (.int 3) 0 a7)) none a8) a9, [], 0⟩] scX a10) .Add
        (.List [.Constant (.str "a.b") 0 a11, .Constant (.str "ab") 0 a12, .Constant (.str "b..a") 0 a13, .Constant (.str "a") 0 a14, .Constant (.str "b.") 0 a15] a16) a17) a18)
    (q1 : u1 = .Assign [.Name "above" b1] (.ListComp (.ListComp (.Name "one" b2) [⟨.Name "one" b3, .Name "names" b4, [.Call (.Name "_law_above" b5) [.Name "one" b6, .Name "name" b7] [] b8], 0⟩] scIn b9) [⟨.Name "name" b10, .Name "names" b11, [], 0⟩] scAbove b12) b13)
    (q2 : u2 = .Assign [.Name "tops" c1] (.ListComp (.Call (.Name "min" c2) [.Name "row" c3] [⟨some "key", .Lambda params (.Call (.Name "len" c4) [.Name "one" c5] [] c6) scLen c7, kp⟩] c8) [⟨.Name "row" c9, .Name "above" c10, [], 0⟩] scRow c11) c12)
    (q3 : u3 = .Assign [.Name "due" d1] (.ListComp (.Subscript (.Name "names" d2) (.Name "k" d3) d4) [⟨.Name "k" d5, .Call (.Name "range" d6) [.Call (.Name "len" d7) [.Name "names" d8] [] d9] [] d10,
        [.BoolOp .And [.Compare (.Subscript (.Name "tops" d11) (.Name "k" d12) d13) [.Eq] [.Subscript (.Name "names" d14) (.Name "k" d15) d16] d17,
          .Compare (.Subscript (.Name "names" d18) (.Name "k" d19) d20) [.NotIn] [.Subscript (.Name "names" d21) (.Slice none (some (.Name "k" d22)) none d23) d24] d25] d26], 0⟩] scDue d27) d28)
    (q4 : u4 = .Assign [.Name "kept" e1] (.Call (.Name "reduce" e2) [.Name "_law_keep" e3, .Name "names" e4, .List [] e5] [] e6) e7)
    (q5 : u5 = .If (.BoolOp .Or [.Compare (.Name "kept" f1) [.NotEq] [.Name "due" f2] f3, .Compare (.Call (.Name "_law_roots" f4) [.Name "names" f5] [] f6) [.NotEq] [.Name "tops" f7] f8] f9) [.Return (some (.Constant (.bool false) 0 f10)) f11] [] g1)
    (q6 : u6 = .Assign [.Name "asked" g2] (.BinOp (.BinOp (.Name "names" h1) .Add (.ListComp (.BinOp (.Name "name" h2) .Add (.Constant (.str "b") 0 h3) h4) [⟨.Name "name" h5, .Name "names" h6, [], 0⟩] scNm h7) h8) .Add
        (.ListComp (.Call (.Attribute (.Constant (.str ".") 0 h9) "join" h10) [.Subscript (.Call (.Attribute (.Name "name" h11) "split" h12) [.Constant (.str ".") 0 h13] [] h14) (.Slice none (some (.UnaryOp .USub (.Constant (.int 1) 0 h15) h16)) none h17) h18] [] h19)
          [⟨.Name "name" g3, .Name "names" g4, [], 0⟩] scNm g5) g6) g7)
    (q7 : u7 = .Assign [.Name "told" g8] (.ListComp (.IfExp (.Compare (.ListComp (.Name "one" i1) [⟨.Name "one" i2, .Name "due" i3, [.Call (.Name "_law_above" i4) [.Name "one" i5, .Name "name" i6] [] i7], 0⟩] scIn i8) [.NotEq] [.List [] i9] i10) (.Constant (.int 1) 0 i11) (.Constant (.int 0) 0 i12) i13)
        [⟨.Name "name" i14, .Name "asked" i15, [], 0⟩] scTld i16) g9)
    (q8 : u8 = .If (.BoolOp .Or [.Compare (.Call (.Name "_law_answers" g10) [.Name "names" g11, .Name "asked" g12] [] g13) [.NotEq] [.Name "told" g14] g15, .Compare (.Call (.Name "_law_answers" g16) [.Name "kept" g17, .Name "asked" g18] [] g19) [.NotEq] [.Name "told" g20] g21] g22)
        [.Return (some (.Constant (.bool false) 0 g23)) g24] [] g25)
    (q9 : u9 = .Return (some (.Compare (.ListComp (.Name "k" j1) [⟨.Name "k" j2, .Call (.Name "range" j3) [.Call (.Name "len" j4) [.Name "kept" j5] [] j6] [] j7,
        [.Compare (.Call (.Name "_law_answers" j8) [.BinOp (.Subscript (.Name "kept" j9) (.Slice none (some (.Name "k" j10)) none j11) j12) .Add (.Subscript (.Name "kept" j13) (.Slice (some (.BinOp (.Name "k" j14) .Add (.Constant (.int 1) 0 j15) j16)) none none j17) j18) j19,
          .List [.Subscript (.Name "kept" j20) (.Name "k" j21) j22] j23] [] j24) [.NotEq] [.List [.Constant (.int 0) 0 j25] j26] j27], 0⟩] scK j28) [.Eq] [.List [] j29] j30)) j31)
    (hQ : ∀ s', ExtO tb (23 :: own (envL more eL eg cK cD cT cN equal efunc eframe ebu)) s s' → TabOk s'.heap 23 .any → Q (.ret (.bool true)) s') :
    wpAny (model prog w) A (execs [u0, u1, u2, u3, u4, u5, u6, u7, u8, u9]
      (envL more eL eg cK cD cT cN equal efunc eframe ebu)) Q NoE s := by
  have G : Globs (K1 W) off (mg1 W) (mb1 W) := globs1 (hoff 0 (by decide)) (hoff 2 (by decide)) (hoff 3 (by decide))
  obtain ⟨n1, n2, n3, n4, n5, n6⟩ := hnd
  have hA : ∀ x ∈ NS, Abc 9 x := hNS ▸ abc_names ns
  have hl8 : NS.length ≤ 8 := hNS ▸ names_len ns
  have hNms : Nms NS := nms_sub hA (fun x hx => hx) (by omega)
  have hNm : ∀ x ∈ NS, Nm x := fun x hx => (hNms.nm x hx).1
  have hDms : Nms (tops isAbove "" NS) := nms_sub hA (fun x hx => (tops_mem.mp hx).1) (by have := tops_len NS; omega)
  have hz : sizeLine = 2 ^ 24 := rfl
  generalize hE : (envL more eL eg cK cD cT cN equal efunc eframe ebu) = E at S hX hT hdef hQ ⊢
  have kN : E.kindOf "names" = some .cell := by rw [← hE]; rfl
  have kT : E.kindOf "tops" = some .cell := by rw [← hE]; rfl
  have kD : E.kindOf "due" = some .cell := by rw [← hE]; rfl
  have kK : E.kindOf "kept" = some .cell := by rw [← hE]; rfl
  have lN : E.cells.lookup ("names" : Str) = some cN := by rw [← hE]; rfl
  have lT : E.cells.lookup ("tops" : Str) = some cT := by rw [← hE]; rfl
  have lD : E.cells.lookup ("due" : Str) = some cD := by rw [← hE]; rfl
  have lK : E.cells.lookup ("kept" : Str) = some cK := by rw [← hE]; rfl
  have hU : ∀ (x y : Str) (c : Addr), E.cells.lookup x = some c → E.cells.lookup y = some c → x = y := fun x y c hx hy => by
    rw [← hE] at hx hy
    have hx := PySem.mem_of_lookup hx
    have hy := PySem.mem_of_lookup hy
    simp only [List.mem_cons, List.not_mem_nil, or_false, Prod.mk.injEq] at hx hy
    rcases hx with ⟨rfl, rfl⟩ | ⟨rfl, rfl⟩ | ⟨rfl, rfl⟩ | ⟨rfl, rfl⟩ <;> rcases hy with ⟨rfl, e⟩ | ⟨rfl, e⟩ | ⟨rfl, e⟩ | ⟨rfl, e⟩ <;> first | rfl | (exfalso; first | exact n1 e | exact n1 e.symm | exact n2 e | exact n2 e.symm | exact n3 e | exact n3 e.symm | exact n4 e | exact n4 e.symm | exact n5 e | exact n5 e.symm | exact n6 e | exact n6 e.symm)
  have oN : cN ∈ own E := own_cell kN lN
  have oT : cT ∈ own E := own_cell kT lT
  have oD : cD ∈ own E := own_cell kD lD
  have oK : cK ∈ own E := own_cell kK lK
  have o1 : ∀ {c : Addr}, c ∈ own E → ∀ y ∈ [c], y ∈ own E := fun h y hy => by rw [List.mem_singleton] at hy; exact hy ▸ h
  -- names
  have pvN := pv_lawNames (prog := prog) (w := w) (tb := tb) (k := k + 7) (ρ := [("script", .list (intl ns))]) (more := more) (eL := eL) (eg := eg) (cK := cK) (cD := cD) (cT := cT) (cN := cN) (ebu := ebu) (equal := equal) (efunc := efunc) (eframe := eframe)
    (p1 := a2) (p2 := a3) (p3 := a4) (p4 := a5) (p5 := a6) (p6 := a7) (p7 := a8) (p8 := a9) (p9 := a10) (p10 := a11) (p11 := a12) (p12 := a13) (p13 := a14) (p14 := a15) (p15 := a16) (p16 := a17) G (hoff 104 (by decide)) (hoff 103 (by decide)) rfl hns
  rw [hE, ← hNS] at pvN
  rw [q0]
  refine wpAny_execs_cons (wpAny_Assign_Name (pvN A X s _ hR S.ok S.en fun v₁ s₁ x₁ r₁ => ?_) (by rw [← hE]; rfl))
  have S1 := S.ext x₁
  have cell1 : ∀ c ∈ [cN, cT, cD, cK], ∃ v, s₁.heap.IsCell c v := fun c hc => let ⟨v, h⟩ := hC0 c hc; ⟨v, S.ok.cellExt h x₁⟩
  refine S1.storeC (c := cN) (hX _ oN) kN lN (cell1 cN (by first | exact .head _ | exact .tail _ (.head _) | exact .tail _ (.tail _ (.head _)) | exact .tail _ (.tail _ (.tail _ (.head _))) | exact .tail _ (.tail _ (.tail _ (.tail _ (.head _)))) | simp)) hU fun s₂ y₂ _ mk₂ _ => ?_
  have S2 := mk₂ [("names", .list (sts NS))] [] (all1 (.inl ⟨rfl, r₁⟩)) (fun _ h => nomatch h)
  have cell2 : ∀ c ∈ [cT, cD, cK], ∃ v, s₂.heap.IsCell c v := fun c hc => by
    obtain ⟨v, h⟩ := cell1 c (List.mem_cons_of_mem _ hc)
    refine ⟨v, S1.ok.cellExtO h y₂ fun z => ?_⟩
    rw [List.mem_singleton] at z; subst z
    simp only [List.mem_cons, List.not_mem_nil, or_false] at hc
    exact hc.elim n1 fun hc => hc.elim n2 n3
  have z2 : ExtO tb (own E) s s₂ := (ExtO.of x₁).trans (y₂.mono (o1 oN))
  -- above
  rw [q1]
  refine wpAny_execs_cons (S2.assignComp (es := rowsOf NS) (by rw [← hE]; show (pure (true && true && (b1.line == b12.line) && _) : Sem Bool) = _; rw [hs1]; rfl) (by rw [← hE]; rfl) hX (fun use Q' hend => ?_) fun s₃ y₃ cp₃ mk₃ => ?_)
  · have en := S2.en
    rw [← hE] at en ⊢
    exact comp_above (k := k + 7) G (hoff 116 (by decide)) (hoff 115 (by decide)) hNm (by omega) hR S2.ok en (by first | exact .head _ | exact .tail _ (.head _) | exact .tail _ (.tail _ (.head _)) | exact .tail _ (.tail _ (.tail _ (.head _))) | exact .tail _ (.tail _ (.tail _ (.tail _ (.head _)))) | simp) hend
  have S3 := mk₃ [("above", .list (rowsOf NS)), ("names", .list (sts NS))] [] (all2 (.inl rfl) (.inr ⟨by first | exact .head _ | exact .tail _ (.head _) | exact .tail _ (.tail _ (.head _)) | exact .tail _ (.tail _ (.tail _ (.head _))), by dsimp only; decide⟩)) (fun _ h => nomatch h)
  have cell3 : ∀ c ∈ [cT, cD, cK], ∃ v, s₃.heap.IsCell c v := fun c hc => let ⟨v, h⟩ := cell2 c hc; ⟨v, cp₃ c v h⟩
  have z3 := z2.trans y₃
  -- tops
  have pvT := fun (q1 : E = E) => pv_lawTops (prog := prog) (w := w) (tb := tb) (k := k + 6) (NS := NS) (ρ := [("above", .list (rowsOf NS)), ("names", .list (sts NS))]) (more := more) (eL := eL) (eg := eg) (cK := cK) (cD := cD) (cT := cT) (cN := cN) (ebu := ebu) (equal := equal) (efunc := efunc) (eframe := eframe)
    (p1 := c2) (p2 := c3) (p3 := c4) (p4 := c5) (p5 := c6) (p6 := c7) (p7 := c8) (p8 := c9) (p9 := c10) (p10 := c11) (kp := kp) (params := params) G hoffT (hE ▸ hT) rfl hNm (by omega) hq (hE ▸ hdef) hbind
  rw [hE] at pvT
  rw [q2]
  refine wpAny_execs_cons (wpAny_Assign_Name (pvT rfl A X s₃ _ hR S3.ok S3.en fun v₄ s₄ x₄ r₄ => ?_) (by rw [← hE]; rfl))
  have S4 := S3.ext x₄
  have cell4 : ∀ c ∈ [cT, cD, cK], ∃ v, s₄.heap.IsCell c v := fun c hc => let ⟨v, h⟩ := cell3 c hc; ⟨v, S3.ok.cellExt h x₄⟩
  refine S4.storeC (c := cT) (hX _ oT) kT lT (cell4 cT (by first | exact .head _ | exact .tail _ (.head _) | exact .tail _ (.tail _ (.head _)) | exact .tail _ (.tail _ (.tail _ (.head _))) | exact .tail _ (.tail _ (.tail _ (.tail _ (.head _)))) | simp)) hU fun s₅ y₅ _ mk₅ _ => ?_
  have S5 := mk₅ [("tops", .list (sts (topsOf NS))), ("names", .list (sts NS))] [] (all2 (.inl ⟨rfl, r₄⟩) (.inr ⟨by first | exact .head _ | exact .tail _ (.head _) | exact .tail _ (.tail _ (.head _)) | exact .tail _ (.tail _ (.tail _ (.head _))), by dsimp only; decide⟩)) (fun _ h => nomatch h)
  have cell5 : ∀ c ∈ [cD, cK], ∃ v, s₅.heap.IsCell c v := fun c hc => by
    obtain ⟨v, h⟩ := cell4 c (List.mem_cons_of_mem _ hc)
    refine ⟨v, S4.ok.cellExtO h y₅ fun z => ?_⟩
    rw [List.mem_singleton] at z; subst z
    simp only [List.mem_cons, List.not_mem_nil, or_false] at hc
    exact hc.elim n4 n5
  have z5 := (z3.trans (.of x₄)).trans (y₅.mono (o1 oT))
  -- due
  have pvD := pv_lawDue (prog := prog) (w := w) (off := off) (tb := tb) (k := k + 8) (NS := NS) (ρ := [("tops", .list (sts (topsOf NS))), ("names", .list (sts NS))]) (more := more) (eL := eL) (eg := eg) (cK := cK) (cD := cD) (cT := cT) (cN := cN) (ebu := ebu) (equal := equal) (efunc := efunc) (eframe := eframe)
    (p1 := d2) (p2 := d3) (p3 := d4) (p4 := d5) (p5 := d6) (p6 := d7) (p7 := d8) (p8 := d9) (p9 := d10) (p10 := d11) (p11 := d12) (p12 := d13) (p13 := d14) (p14 := d15) (p15 := d16) (p16 := d17) (p17 := d18) (p18 := d19) (p19 := d20) (p20 := d21) (p21 := d22) (p22 := d23) (p23 := d24) (p24 := d25) (p25 := d26) (p26 := d27) G (by first | exact .head _ | exact .tail _ (.head _) | exact .tail _ (.tail _ (.head _)) | exact .tail _ (.tail _ (.tail _ (.head _))) | exact .tail _ (.tail _ (.tail _ (.tail _ (.head _)))) | simp) (by first | exact .head _ | exact .tail _ (.head _) | exact .tail _ (.tail _ (.head _)) | exact .tail _ (.tail _ (.tail _ (.head _))) | exact .tail _ (.tail _ (.tail _ (.tail _ (.head _)))) | simp) hNm (by omega)
  rw [hE] at pvD
  rw [q3]
  refine wpAny_execs_cons (wpAny_Assign_Name (pvD A X s₅ _ hR S5.ok S5.en fun v₆ s₆ x₆ r₆ => ?_) (by rw [← hE]; rfl))
  have S6 := S5.ext x₆
  have cell6 : ∀ c ∈ [cD, cK], ∃ v, s₆.heap.IsCell c v := fun c hc => let ⟨v, h⟩ := cell5 c hc; ⟨v, S5.ok.cellExt h x₆⟩
  refine S6.storeC (c := cD) (hX _ oD) kD lD (cell6 cD (by first | exact .head _ | exact .tail _ (.head _) | exact .tail _ (.tail _ (.head _)) | exact .tail _ (.tail _ (.tail _ (.head _))) | exact .tail _ (.tail _ (.tail _ (.tail _ (.head _)))) | simp)) hU fun s₇ y₇ _ mk₇ _ => ?_
  have S7 := mk₇ [("due", .list (sts (tops isAbove "" NS))), ("tops", .list (sts (topsOf NS))), ("names", .list (sts NS))] [] (all3 (.inl ⟨rfl, r₆⟩) (.inr ⟨by first | exact .head _ | exact .tail _ (.head _) | exact .tail _ (.tail _ (.head _)) | exact .tail _ (.tail _ (.tail _ (.head _))), by dsimp only; decide⟩) (.inr ⟨by first | exact .head _ | exact .tail _ (.head _) | exact .tail _ (.tail _ (.head _)) | exact .tail _ (.tail _ (.tail _ (.head _))), by dsimp only; decide⟩)) (fun _ h => nomatch h)
  have cell7 : ∃ v, s₇.heap.IsCell cK v := by
    obtain ⟨v, h⟩ := cell6 cK (by first | exact .head _ | exact .tail _ (.head _) | exact .tail _ (.tail _ (.head _)) | exact .tail _ (.tail _ (.tail _ (.head _))) | exact .tail _ (.tail _ (.tail _ (.tail _ (.head _)))) | simp)
    exact ⟨v, S6.ok.cellExtO h y₇ fun z => n6 (List.mem_singleton.mp z).symm⟩
  have z7 := (z5.trans (.of x₆)).trans (y₇.mono (o1 oD))
  -- kept
  have sub1 : ∀ a ∈ ([1, 29, 30, 36, 37, 80, 84, 85, 91, 92, 94, 95, 108, 109] : List Nat), a ∈ offAll := by decide
  have pvK := pv_lawKept (prog := prog) (w := w) (off := off) (tb := tb) (k := k + 4) (NS := NS) (env := E) (ρ := [("due", .list (sts (tops isAbove "" NS))), ("tops", .list (sts (topsOf NS))), ("names", .list (sts NS))]) (p1 := e2) (p2 := e3) (p3 := e4) (p4 := e5) (p5 := e6)
    G (fun a ha => hoff a (sub1 a ha)) hoffT (by first | exact .head _ | exact .tail _ (.head _) | exact .tail _ (.tail _ (.head _)) | exact .tail _ (.tail _ (.tail _ (.head _))) | exact .tail _ (.tail _ (.tail _ (.tail _ (.head _)))) | simp) hNms (by rw [← hE]; rfl) (by rw [← hE]; rfl)
  rw [q4]
  refine wpAny_execs_cons (wpAny_Assign_Name (pvK A X s₇ _ hR S7.ok S7.en fun v₈ s₈ x₈ r₈ => ?_) (by rw [← hE]; rfl))
  have S8 := S7.ext x₈
  refine S8.storeC (c := cK) (hX _ oK) kK lK (let ⟨v, h⟩ := cell7; ⟨v, S7.ok.cellExt h x₈⟩) hU fun s₉ y₉ _ mk₉ _ => ?_
  have S9 := mk₉ [("kept", .list (sts (tops isAbove "" NS))), ("due", .list (sts (tops isAbove "" NS))), ("tops", .list (sts (topsOf NS))), ("names", .list (sts NS))] [] (all4 (.inl ⟨rfl, r₈⟩) (.inr ⟨by first | exact .head _ | exact .tail _ (.head _) | exact .tail _ (.tail _ (.head _)) | exact .tail _ (.tail _ (.tail _ (.head _))), by dsimp only; decide⟩) (.inr ⟨by first | exact .head _ | exact .tail _ (.head _) | exact .tail _ (.tail _ (.head _)) | exact .tail _ (.tail _ (.tail _ (.head _))), by dsimp only; decide⟩) (.inr ⟨by first | exact .head _ | exact .tail _ (.head _) | exact .tail _ (.tail _ (.head _)) | exact .tail _ (.tail _ (.tail _ (.head _))), by dsimp only; decide⟩)) (fun _ h => nomatch h)
  have z9 := (z7.trans (.of x₈)).trans (y₉.mono (o1 oK))
  -- kept != due or _law_roots(names) != tops
  have dS : ∀ xs : List Str, PyData.depthAll (sts xs) ≤ 1 := dep_sts
  have okD : PyData.canLayAll0 (sts (tops isAbove "" NS)) = true := lay_sts _ fun x hx => (hDms.nm x hx).1.ok
  have okT : PyData.canLayAll0 (sts (topsOf NS)) = true := lay_sts _ fun x hx => by
    obtain ⟨y, hy, rfl⟩ := List.mem_map.mp hx
    exact (hNm _ (top_spec hier_names ⟨y, hy, hier_names.refl y⟩).1).ok
  have pt1 : PT prog w (K1 W) off tb (k + 8) E [("kept", .list (sts (tops isAbove "" NS))), ("due", .list (sts (tops isAbove "" NS))), ("tops", .list (sts (topsOf NS))), ("names", .list (sts NS))] (.Compare (.Name "kept" f1) [.NotEq] [.Name "due" f2] f3) false := by
    rw [← eqv_strs (tops isAbove "" NS)]
    exact pt_cmp (pv_var rfl) (pv_var rfl) (op_ne okD okD (by have := dS (tops isAbove "" NS); simp only [PyData.depth]; omega))
  obtain ⟨o126, fd126, l126, d126⟩ : ∃ o fd, (K1 W).lookup 126 = some o ∧ o.data = .func fd := ⟨_, _, rfl, rfl⟩
  have sub2 : ∀ a ∈ ([0, 1, 2, 3, 4, 23, 27, 28, 29, 30, 36, 37, 80, 84, 85, 91, 92, 94, 95, 120, 121, 125, 126] : List Nat), a ∈ offAll := by decide
  rw [q5]
  refine wpAny_execs_cons (wpAny_If (wpAny_isTrue_BoolOp (wpAny_allTrue_Or_cons (pt1 A X s₉ _ hR S9.ok S9.en fun s₁₀ x₁₀ => ?_))))
  simp only [Bool.false_eq_true, if_false]
  have S10 := S9.ext x₁₀
  obtain ⟨vn, bn, rn⟩ := S10.en.vars ("names", .list (sts NS)) (by first | exact .head _ | exact .tail _ (.head _) | exact .tail _ (.tail _ (.head _)) | exact .tail _ (.tail _ (.tail _ (.head _))) | exact .tail _ (.tail _ (.tail _ (.tail _ (.head _)))) | simp)
  refine wpAny_allTrue_Or_cons (wpAny_isTrue_Compare1 (wpAny_Call_NameR (load_global G S10.ok S10.en (by exact rfl) (by rw [← hE]; rfl) (by decide) (callWith_fn d126 (spliced_cons (bound_load S10.en.kind bn (spliced_nil ⟨S10.ok.get l126 (hoff 126 (by decide)), ?_⟩) (by decide) (by decide))) rfl))) (by with_unfolding_all rfl))
  refine call_roots (k := k + 1) hNms hR S10.ok (fun a ha => hoff a (sub2 a ha)) hoffT hm ho rn fun v₁₁ s₁₁ x₁₁ O11 _ r₁₁ => ?_
  have S11 := S10.mark x₁₁ (S10.ok.top 23 _ (by exact rfl) (hoff 23 (by decide))) (O11.tabs _ List.mem_cons_self)
  obtain ⟨vt, bt, rt⟩ := S11.en.vars ("tops", .list (sts (topsOf NS))) (by first | exact .head _ | exact .tail _ (.head _) | exact .tail _ (.tail _ (.head _)) | exact .tail _ (.tail _ (.tail _ (.head _))) | exact .tail _ (.tail _ (.tail _ (.tail _ (.head _)))) | simp)
  refine bound_load S11.en.kind bt ?_ (by decide) (by decide)
  have okR : PyData.canLayAll0 (sts (rootsOf NS)) = true := by rw [roots_eq]; exact okT
  refine op_ne (prog := prog) (w := w) (K := K1 W) (k := k) (a := .list (sts (rootsOf NS))) (b := .list (sts (topsOf NS))) okR okT (by have := dS (topsOf NS); simp only [PyData.depth]; omega) A X s₁₁ _ _ _ (hR.less (by omega)) S11.ok r₁₁ rt fun s₁₂ x₁₂ => ?_
  rw [roots_eq, eqv_strs]
  refine wpAny_truthy_bool ?_
  simp only [Bool.false_eq_true, if_false]
  refine wpAny_allTrue_Or_nil ?_
  simp only [Bool.false_eq_true, if_false]
  refine wpAny_execs_nil ?_
  have S12 := S11.ext x₁₂
  have hoff' : ∀ a ∈ offAll, a ≠ 23 → a ∉ (23 :: off) := fun a ha hne z => (List.mem_cons.mp z).elim hne (hoff a ha)
  have G' : Globs (K1 W) (23 :: off) (mg1 W) (mb1 W) := globs1 (hoff' 0 (by decide) (by decide)) (hoff' 2 (by decide) (by decide)) (hoff' 3 (by decide) (by decide))
  have hoffT' : ∀ a ∈ (23 :: off), a ∈ (((23 : Addr), TK.any) :: tb).map (·.1) := fun a ha => by
    rcases List.mem_cons.mp ha with z | z
    · exact z ▸ List.mem_cons_self
    · exact List.mem_cons_of_mem _ (hoffT a z)
  have sub3 : ∀ a ∈ ([1, 80, 84, 85, 91, 92, 94, 95, 120, 121] : List Nat), a ∈ offAll ∧ a ≠ 23 := by decide
  have hAns : ∀ a ∈ [1, 80, 84, 85, 91, 92, 94, 95, 120, 121], a ∉ (23 :: off) := fun a ha => hoff' a (sub3 a ha).1 (sub3 a ha).2
  -- asked
  have pvA := pv_lawAsked (prog := prog) (w := w) (off := 23 :: off) (tb := (23, .any) :: tb) (k := k + 8) (NS := NS) (ρ := [("kept", .list (sts (tops isAbove "" NS))), ("due", .list (sts (tops isAbove "" NS))), ("tops", .list (sts (topsOf NS))), ("names", .list (sts NS))]) (more := more) (eL := eL) (eg := eg) (cK := cK) (cD := cD) (cT := cT) (cN := cN) (ebu := ebu) (equal := equal) (efunc := efunc) (eframe := eframe)
    (p1 := h1) (p2 := h2) (p3 := h3) (p4 := h4) (p5 := h5) (p6 := h6) (p7 := h7) (p8 := h8) (p9 := h9) (p10 := h10) (p11 := h11) (p12 := h12) (p13 := h13) (p14 := h14) (p15 := h15) (p16 := h16) (p17 := h17) (p18 := h18) (p19 := h19) (p20 := g3) (p21 := g4) (p22 := g5) (p23 := g6) G' (by first | exact .head _ | exact .tail _ (.head _) | exact .tail _ (.tail _ (.head _)) | exact .tail _ (.tail _ (.tail _ (.head _))) | exact .tail _ (.tail _ (.tail _ (.tail _ (.head _)))) | simp) hA hl8 hl1 hl2
  rw [hE] at pvA
  rw [q6]
  refine wpAny_execs_cons (wpAny_Assign_Name (pvA A X s₁₂ _ hR S12.ok S12.en fun v₁₃ s₁₃ x₁₃ r₁₃ => ?_) (by rw [← hE]; rfl))
  have S13 := S12.ext x₁₃
  refine S13.store hX (by rw [← hE]; rfl) fun s₁₄ y₁₄ _ mk₁₄ _ => ?_
  have S14 := mk₁₄ [("asked", .list (sts (askedOf NS))), ("kept", .list (sts (tops isAbove "" NS))), ("due", .list (sts (tops isAbove "" NS))), ("names", .list (sts NS))] [] (all4 (.inl ⟨rfl, r₁₃⟩) (.inr ⟨by first | exact .head _ | exact .tail _ (.head _) | exact .tail _ (.tail _ (.head _)) | exact .tail _ (.tail _ (.tail _ (.head _))), by dsimp only; decide⟩) (.inr ⟨by first | exact .head _ | exact .tail _ (.head _) | exact .tail _ (.tail _ (.head _)) | exact .tail _ (.tail _ (.tail _ (.head _))), by dsimp only; decide⟩) (.inr ⟨by first | exact .head _ | exact .tail _ (.head _) | exact .tail _ (.tail _ (.head _)) | exact .tail _ (.tail _ (.tail _ (.head _))), by dsimp only; decide⟩)) (fun _ h => nomatch h)
  -- told
  have hAsk := nms_asked hA hl8
  rw [q7]
  refine wpAny_execs_cons (S14.assignComp (es := toldD (tops isAbove "" NS) (askedOf NS)) (by rw [← hE]; show (pure (true && true && (g8.line == i16.line) && _) : Sem Bool) = _; rw [hs2]; rfl) (by rw [← hE]; rfl) hX (fun use Q' hend => ?_) fun s₁₅ y₁₅ _ mk₁₅ => ?_)
  · have en := S14.en
    rw [← hE] at en ⊢
    exact comp_told (k := k + 7) G' (hoff' 116 (by decide) (by decide)) (hoff' 115 (by decide) (by decide)) (fun x hx => (hDms.nm x hx).1) hDms.few (fun x hx => (hAsk.nm x hx).1) hAsk.few hR S14.ok en (by first | exact .head _ | exact .tail _ (.head _) | exact .tail _ (.tail _ (.head _)) | exact .tail _ (.tail _ (.tail _ (.head _))) | exact .tail _ (.tail _ (.tail _ (.tail _ (.head _)))) | simp) (by first | exact .head _ | exact .tail _ (.head _) | exact .tail _ (.tail _ (.head _)) | exact .tail _ (.tail _ (.tail _ (.head _))) | exact .tail _ (.tail _ (.tail _ (.tail _ (.head _)))) | simp) hend
  have S15 := mk₁₅ [("told", .list (toldD (tops isAbove "" NS) (askedOf NS))), ("asked", .list (sts (askedOf NS))), ("kept", .list (sts (tops isAbove "" NS))), ("names", .list (sts NS))] [] (all4 (.inl rfl) (.inr ⟨by first | exact .head _ | exact .tail _ (.head _) | exact .tail _ (.tail _ (.head _)) | exact .tail _ (.tail _ (.tail _ (.head _))), by dsimp only; decide⟩) (.inr ⟨by first | exact .head _ | exact .tail _ (.head _) | exact .tail _ (.tail _ (.head _)) | exact .tail _ (.tail _ (.tail _ (.head _))), by dsimp only; decide⟩) (.inr ⟨by first | exact .head _ | exact .tail _ (.head _) | exact .tail _ (.tail _ (.head _)) | exact .tail _ (.tail _ (.tail _ (.head _))), by dsimp only; decide⟩)) (fun _ h => nomatch h)
  -- the answers
  have okA : PyData.canLayAll0 (toldD (tops isAbove "" NS) (askedOf NS)) = true := by rw [toldD_ints]; exact lay_ints _
  have dA : PyData.depthAll (toldD (tops isAbove "" NS) (askedOf NS)) ≤ 1 := by rw [toldD_ints]; exact dep_ints _
  have opA : OpC prog w (K1 W) (23 :: off) ((23, .any) :: tb) (k + 8) .NotEq (.list (toldD (tops isAbove "" NS) (askedOf NS))) (.list (toldD (tops isAbove "" NS) (askedOf NS))) false := by
    have := op_ne (prog := prog) (w := w) (K := K1 W) (off := 23 :: off) (tb := (23, .any) :: tb) (k := k + 8) (a := .list (toldD (tops isAbove "" NS) (askedOf NS))) (b := .list (toldD (tops isAbove "" NS) (askedOf NS))) okA okA (by simp only [PyData.depth]; omega)
    rwa [eqv_told] at this
  have pv1 := pv_lawAns (prog := prog) (w := w) (off := 23 :: off) (tb := (23, .any) :: tb) (k := k + 5) (env := E) (ρ := [("told", .list (toldD (tops isAbove "" NS) (askedOf NS))), ("asked", .list (sts (askedOf NS))), ("kept", .list (sts (tops isAbove "" NS))), ("names", .list (sts NS))]) (p1 := g10) (p2 := g13) (e1 := .Name "names" g11) (e2 := .Name "asked" g12)
    G' hAns hoffT' hNms hAsk (pv_var rfl) (pv_var rfl) (by rw [← hE]; rfl)
  rw [told_eq NS (askedOf NS)] at pv1
  have pv2 := pv_lawAns (prog := prog) (w := w) (off := 23 :: off) (tb := (23, .any) :: tb) (k := k + 5) (env := E) (ρ := [("told", .list (toldD (tops isAbove "" NS) (askedOf NS))), ("asked", .list (sts (askedOf NS))), ("kept", .list (sts (tops isAbove "" NS))), ("names", .list (sts NS))]) (p1 := g16) (p2 := g19) (e1 := .Name "kept" g17) (e2 := .Name "asked" g18)
    G' hAns hoffT' hDms hAsk (pv_var rfl) (pv_var rfl) (by rw [← hE]; rfl)
  have pt2 := pt_or (pos := g22) (pt_cmp (pos := g15) pv1 (pv_var (x := "told") (pos := g14) rfl) opA) fun _ => pt_cmp (pos := g21) pv2 (pv_var (x := "told") (pos := g20) rfl) opA
  rw [q8]
  refine wpAny_execs_cons (wpAny_If (pt2 A X s₁₅ _ hR S15.ok S15.en fun s₁₆ x₁₆ => ?_))
  simp only [Bool.or_false, Bool.false_eq_true, if_false]
  refine wpAny_execs_nil ?_
  have S16 := S15.ext x₁₆
  -- the end
  have pvE := pv_lawEnd (prog := prog) (w := w) (off := 23 :: off) (tb := (23, .any) :: tb) (k := k + 5) (D := tops isAbove "" NS) (ρ := [("told", .list (toldD (tops isAbove "" NS) (askedOf NS))), ("asked", .list (sts (askedOf NS))), ("kept", .list (sts (tops isAbove "" NS))), ("names", .list (sts NS))]) (more := more) (eL := eL) (eg := eg) (cK := cK) (cD := cD) (cT := cT) (cN := cN) (ebu := ebu) (equal := equal) (efunc := efunc) (eframe := eframe)
    (p1 := j1) (p2 := j2) (p3 := j3) (p4 := j4) (p5 := j5) (p6 := j6) (p7 := j7) (p8 := j8) (p9 := j9) (p10 := j10) (p11 := j11) (p12 := j12) (p13 := j13) (p14 := j14) (p15 := j15) (p16 := j16) (p17 := j17) (p18 := j18) (p19 := j19) (p20 := j20) (p21 := j21) (p22 := j22) (p23 := j23) (p24 := j24) (p25 := j25) (p26 := j26) (p27 := j27) (p28 := j28) (p29 := j29) (p30 := j30)
    G' hAns hoffT' (by first | exact .head _ | exact .tail _ (.head _) | exact .tail _ (.tail _ (.head _)) | exact .tail _ (.tail _ (.tail _ (.head _))) | exact .tail _ (.tail _ (.tail _ (.tail _ (.head _)))) | simp) hDms fun i hi => tops_alone (A := isAbove) ("" : Str) NS i _ (getD_get hi)
  rw [hE] at pvE
  rw [q9]
  refine wpAny_execs_cons (wpAny_Return_some (pvE A X s₁₆ _ hR S16.ok S16.en fun v s' x r => ?_))
  obtain rfl := r.bool
  have m1 : ∀ y ∈ own E, y ∈ (23 :: own E) := fun y hy => List.mem_cons_of_mem _ hy
  have m2 : ∀ y ∈ [(23 : Addr)], y ∈ (23 :: own E) := List.forall_mem_cons.mpr ⟨List.mem_cons_self, fun _ h => nomatch h⟩
  have w1 := ((z9.mono m1).trans (.of x₁₀)).trans (x₁₁.mono m2)
  have w2 : ExtO ((23, .any) :: tb) (own E) s₁₁ s' := (((((ExtO.of x₁₂).trans (.of x₁₃)).trans y₁₄).trans y₁₅).trans (.of x₁₆)).trans (.of x)
  exact hQ s' (w1.trans w2.back) (x.tab (23, .any) List.mem_cons_self (S16.ok.tabs _ List.mem_cons_self))
end
end Mine
end
section
open PySem PySem.W PySem.Calls PyProof.Rows
set_option maxRecDepth 100000
set_option maxHeartbeats 8000000
set_option linter.all false
namespace Mine
abbrev qLaw : Str := (("law" : Str) ++ ".<locals>.") ++ "<lambda>"
section
variable {prog : Program} {w : World} {W : Wd} {K : Frag} {off : List Addr} {tb : Tb} {k : Nat} {X : List Addr} {s : Shared} {A : Around}
theorem code130 {g : Heap} (t : TopOk (K1 W) off g) (h : (130 : Nat) ∉ off) : CodeHd g 130 128 := ⟨_, _, _, _, _, _, _, _, _, t 130 _ rfl h, rfl, rfl, rfl, rfl, rfl, rfl, rfl, rfl, by decide⟩
theorem blt128 {g : Heap} (t : TopOk (K1 W) off g) (h : (4 : Nat) ∉ off) : g.BuiltinsAt (mg1 W) 128 := ⟨4, _, rfl, by decide, by decide, by decide, t 4 W.o4 rfl h, W.d4.1, W.d4.2.1, W.d4.2.2⟩
theorem tab128 {env : Env} (hc : env.code = .ref 130) (h130 : (130 : Nat) ∉ off) (h4 : (4 : Nat) ∉ off) (hm : ((128 : Addr), TK.code qLaw) ∈ tb) (ho : ∀ p ∈ tb, p.1 = 128 → p.2 = .code qLaw) : TabAt (K1 W) off tb (mg1 W) env 130 128 qLaw :=
  ⟨hc, fun g t => code130 t h130, hm, ho, by decide, fun g t => blt128 t h4⟩
theorem call_law {ns : List Int} {v : Value} {Q : Value → Shared → Prop} (hns : ns.length ≤ 63) (hR : Room A (k + 9)) (hO : Ok (K1 W) off tb X s)
    (hoff : ∀ a ∈ offAll, a ∉ off) (h131 : (131 : Nat) ∉ off) (hoffT : ∀ a ∈ off, a ∈ tb.map (·.1)) (hm : ((123 : Addr), TK.code qRoots) ∈ tb) (ho : ∀ p ∈ tb, p.1 = 123 → p.2 = .code qRoots) (hm2 : ((128 : Addr), TK.code qLaw) ∈ tb) (ho2 : ∀ p ∈ tb, p.1 = 128 → p.2 = .code qLaw)
    (r : Rp (vis tb X s.heap) v (.list (intl ns))) (hQ : ∀ s', ExtO tb [23] s s' → TabOk s'.heap 23 .any → Q (.bool true) s') :
    wpAny (model prog w) A (call (.ref 131) [v]) Q NoE s := by
  have G : Globs (K1 W) off (mg1 W) (mb1 W) := globs1 (hoff 0 (by decide)) (hoff 2 (by decide)) (hoff 3 (by decide))
  have h130 := hoff 130 (by decide)
  have h4 := hoff 4 (by decide)
  refine wpAny_call ?_
  refine codeAny_call_binds (binds := [("script", v)]) hR.lim (hO.get (a := 131) rfl h131) rfl (hO.globs G).2.2 ?_ rfl ?_ rfl ?_ (fun s₁ I₁ => ?_)
  · exact Heap.CodeRec.keeps (⟨130, _, _, _, rfl, hO.top 130 _ rfl h130, rfl, rfl⟩ : (vis tb X s.heap).CodeRec _ _) (vis_below _ _ _)
  · intro A' Q E' hq
    exact wpAny_pure hq
  · exact List.forall_mem_cons.mpr ⟨.inl rfl, fun _ h => nomatch h⟩
  · have T := entered (ρ := [("script", .list (intl ns))]) rfl I₁ hO rfl rfl rfl (show (["script"] : List Str).Nodup by decide)
      (List.forall_mem_cons.mpr ⟨.inl rfl, fun _ h => nomatch h⟩)
      (List.forall_mem_cons.mpr ⟨⟨v, by simp, r⟩, fun _ h => nomatch h⟩)
    refine wpAny_mono (E := NoE) ?_ (fun _ _ z => z) fun _ _ z => z.elim
    refine law_body (k := k) (ns := ns) (NS := namesOf ns) (cK := s.heap.objs.size + 1 + 1 + 1 + 1) (cD := s.heap.objs.size + 1 + 1 + 1) (cT := s.heap.objs.size + 1 + 1) (cN := s.heap.objs.size + 1) (q := qLaw) rfl rfl ?_ ?_ hoff hoffT hm ho
      (fun C => tab128 rfl h130 h4 hm2 ho2) hns hR.deeper ⟨T.ok, T.en, (fun _ h => nomatch h), T.loc⟩ (fun z hz => List.mem_append_left _ hz) (fun C => rfl) (fun bd pm ctv c' x => rfl) rfl rfl rfl rfl rfl rfl rfl rfl rfl rfl rfl rfl rfl rfl fun s' e t23 => ?_
    · refine ⟨?_, ?_, ?_, ?_, ?_, ?_⟩ <;> (show @Ne Nat _ _; omega)
    · exact List.forall_mem_cons.mpr ⟨⟨_, I₁.cell "names" _ rfl⟩, List.forall_mem_cons.mpr ⟨⟨_, I₁.cell "tops" _ rfl⟩, List.forall_mem_cons.mpr ⟨⟨_, I₁.cell "due" _ rfl⟩, List.forall_mem_cons.mpr ⟨⟨_, I₁.cell "kept" _ rfl⟩, fun _ h => nomatch h⟩⟩⟩⟩
    · exact hQ s' ⟨fun b o n m g => e.keep b o n (fun z => by
          rcases List.mem_cons.mp z with z | z
          · exact m (List.mem_singleton.mpr z)
          · rw [T.fresh b z] at g; cases g) (T.ext.keep b o n g), fun q hq z => e.tab q hq (T.ext.tab q hq z), e.gens.trans T.ext.gens, e.os.trans T.ext.os⟩ t23
end
end Mine
end
section
open PySem PySem.W PySem.W.X PySem.Calls PyProof.Rows PySem.Spec
set_option maxRecDepth 100000
set_option maxHeartbeats 8000000
set_option linter.all false
namespace Mine
abbrev tbL : Tb := [((123 : Addr), TK.code qRoots), ((128 : Addr), TK.code qLaw)]
abbrev offL : List Addr := [123, 128]
section
variable {W : Wd} {s s' : Shared}
theorem start_ok (KX : (K1 W).In s.heap) : Ok (K1 W) offL tbL [] s := by
  have g1 : s.heap.get? 123 = some (tabObj #[]) := KX 123 _ rfl
  have g2 : s.heap.get? 128 = some (tabObj #[]) := KX 128 _ rfl
  refine ⟨(fun _ h => nomatch h), List.forall_mem_cons.mpr ⟨⟨#[], g1, trivial, (fun pos cv h => nomatch h)⟩, List.forall_mem_cons.mpr ⟨⟨#[], g2, trivial, (fun pos cv h => nomatch h)⟩, (fun _ h => nomatch h)⟩⟩, fun a o e n => vis_mk (KX a o e) n (fun h => nomatch h)⟩
theorem start_rp (KX : (K1 W).In s.heap) {v : Value} {d : PyData} (r : Rp s.heap v d) : Rp (vis tbL [] s.heap) v d := by
  have g1 : s.heap.get? 123 = some (tabObj #[]) := KX 123 _ rfl
  have g2 : s.heap.get? 128 = some (tabObj #[]) := KX 128 _ rfl
  refine r.seqs fun b o hd g => vis_mk g (fun z => ?_) (fun h => nomatch h)
  have z : b ∈ ([123, 128] : List Addr) := z
  simp only [List.mem_cons, List.not_mem_nil, or_false] at z
  rcases z with rfl | rfl
  · rw [g1] at g; cases g
    rcases hd with ⟨_, _, hd⟩ | ⟨_, _, hd⟩ <;> cases hd
  · rw [g2] at g; cases g
    rcases hd with ⟨_, _, hd⟩ | ⟨_, _, hd⟩ <;> cases hd
theorem tab_old {c P : Addr} (C : CodeHd s.heap c P) (hP : s.heap.get? P = some (tabObj #[])) (h : ∃ ps, s'.heap.get? P = some (tabObj ps)) : ∀ o, s.heap.get? P = some o → asItWas s.heap s'.heap P o := fun o g => by
  rw [hP] at g; cases g
  obtain ⟨ps, hps⟩ := h
  refine .inr (.inl ⟨(C.tab hP).isCodeTable, rfl, #[], ps, rfl, ?_⟩)
  rw [hps]; simp
theorem end_old (KX : (K1 W).In s.heap) (x : ExtO tbL [23] s s') (t : TabOk s'.heap 23 .any) : OldK s.heap s'.heap := by
  have O := start_ok KX
  have tp : TopOk (K1 W) offL s.heap := O.top.sub (vis_below _ _ _)
  have g23 : s.heap.get? 23 = some (tabObj #[]) := KX 23 _ rfl
  have g1 : s.heap.get? 123 = some (tabObj #[]) := KX 123 _ rfl
  have g2 : s.heap.get? 128 = some (tabObj #[]) := KX 128 _ rfl
  obtain ⟨p23, h23, _⟩ := t
  obtain ⟨p1, h1, _⟩ := x.tab (123, .code qRoots) (by simp) (O.tabs _ (by simp))
  obtain ⟨p2, h2, _⟩ := x.tab (128, .code qLaw) (by simp) (O.tabs _ (by simp))
  have key : ∀ b o, s.heap.get? b = some o → asItWas s.heap s'.heap b o ∧ ∃ o', s'.heap.get? b = some o' := fun b o g => by
    by_cases hb : b ∈ ([123, 128] : List Addr)
    · simp only [List.mem_cons, List.not_mem_nil, or_false] at hb
      rcases hb with rfl | rfl
      · exact ⟨tab_old (code125 tp (by decide)) g1 ⟨p1, h1⟩ o g, _, h1⟩
      · exact ⟨tab_old (code130 tp (by decide)) g2 ⟨p2, h2⟩ o g, _, h2⟩
    · by_cases hb3 : b = 23
      · subst hb3
        exact ⟨tab_old (code27 tp (by decide)) g23 ⟨p23, h23⟩ o g, _, h23⟩
      · have := x.keep b o hb (fun z => hb3 (List.mem_singleton.mp z)) g
        exact ⟨.inl this, o, this⟩
  exact ⟨fun b o g => (key b o g).1, fun b o g => (key b o g).2⟩
theorem in_cons {K : Frag} {h : Heap} {a : Addr} {o : Obj} (g : h.get? a = some o) (k : K.In h) : Frag.In ((a, o) :: K) h := fun b o' e => by
  have e : List.lookup b ((a, o) :: K) = some o' := e
  by_cases z : b = a
  · subst z; simp at e; subst e; exact g
  · have y : (b == a) = false := by simpa using z
    simp only [List.lookup, y] at e
    exact k b o' e
theorem room_caller : Room callerA 10 := ⟨rfl, by decide, by decide⟩
end
end Mine
open Mine in
theorem Mine.law_true : PySem.Challenge.rw_mr0152_01.Holds := by
  refine hdx ?_
  intro w s₀ s₁ mg mb G Y fa o pm cd doc dV kV ho hd hcd hD hmg hg args vals as hpre hlay hrd hwl hlo
  have KX := kIn_of Y
  have T := G.T
  clear hd hcd hD ho
  x_fa T KX hmg
  obtain ⟨o0, es0, n0, g0, d0, k0, f0⟩ := T.b
  obtain ⟨mm, ⟨o1, es1, n1, g1, _⟩, _⟩ := (T.seer (by rfl)).mods
  obtain ⟨bm, o4, hbm, _, g4, c4⟩ := T.bmain
  have h4 := mg_of KX T.g (rfl : nsIn (K0 w.params) mainGlobals "__builtins__" = some (some (.ref 4)))
  rw [h4] at hbm
  cases hbm
  have bi : ∀ x : Str, x ≠ "__name__" → mb x = bootBuiltins x := T.builtins
  have b1 : mb "len" = some (.builtin "len") := (bi _ (by decide)).trans (by kernel_rfl)
  have b2 : mb "range" = some (.type "range") := (bi _ (by decide)).trans (by kernel_rfl)
  have b3 : mb "set" = some (.type "set") := (bi _ (by decide)).trans (by kernel_rfl)
  have b4 : mb "iter" = some (.builtin "iter") := (bi _ (by decide)).trans (by kernel_rfl)
  have b5 : mb "min" = some (.builtin "min") := (bi _ (by decide)).trans (by kernel_rfl)
  have b6 : mb "object" = some (.type "object") := (bi _ (by decide)).trans (by kernel_rfl)
  have b7 : mb "__build_class__" = some (.builtin "__build_class__") := (bi _ (by decide)).trans (by kernel_rfl)
  obtain ⟨W, hW⟩ : ∃ W : Wd, (K1 W).In s₁.heap := ⟨⟨w.params, o0, o1, o4, mb, es0, n0, d0, k0, f0, c4, b1, b2, b3, b4, b5, b6, b7⟩,
    in_cons g0 (in_cons g1 (in_cons g4 KX))⟩
  clear KX Y
  wrow_args hpre hlay hrd hwl hlo
  rename_i ns _ _ _ _ _ _ _ a _ _ _ _ _ r0 _ _ hlen _
  have hlen' : ns.length ≤ 63 := by
    have : ¬ ((63 : Nat) : Int) < (ns.length : Int) := hlen
    omega
  refine wpAny_mono (E := NoE) ?_ (fun _ _ z => z) fun _ _ z => z.elim
  refine call_law (W := W) (k := 1) (ns := ns) hlen' room_caller (start_ok hW) (by decide) (by decide) (by decide) (by simp) (by simp) (by simp) (by simp) (start_rp hW ⟨_, r0⟩) fun s' x t => ?_
  refine ⟨.inl ⟨.bool true, .bool true, [], rfl, fun _ => rfl, .bool _, (by wrow_post), fun _ => ⟨List.nodup_nil, fun _ h => nomatch h⟩⟩, end_old hW x t, x.os, ?_⟩
  rw [x.gens, hg]
  exact fun i hi => by simp at hi
end

theorem PySem.Challenge.cw_mr0152_01_holds : PySem.Challenge.rw_mr0152_01.Holds :=
  Mine.law_true
