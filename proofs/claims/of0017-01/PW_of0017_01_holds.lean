import PyProof.Rows.All
import Wide.All
import OpenK.AllK
import Wide.FinOn
import PyProof.Rows.SortStr
import Lean
import PySem.Challenge.RW_of0017_01
set_option linter.all false
section
open PySem PySem.W PyProof.Rows
set_option Elab.async false
set_option maxRecDepth 100000
set_option maxHeartbeats 8000000
namespace Mine
open_top hd for PySem.Challenge.rw_of0017_01
end Mine
end

section
open PySem PySem.W PyProof.Rows
set_option Elab.async false
set_option maxRecDepth 100000
namespace Mine
theorem zlo {i n : Nat} (h : i < n) (k : n ≤ 1) : i = 0 := Nat.lt_one_iff.mp (Nat.lt_of_lt_of_le h k)
theorem one_of {p n : Nat} (e : p = n) (h : 0 < n) (k : n ≤ 1) : p = 1 := e.trans (Nat.le_antisymm k h)
theorem mem_hd {a b : Addr} {l : List Addr} (h : b ∈ [a]) : b ∈ a :: l := by
  cases h with
  | head => exact .head _
  | tail _ x => cases x
theorem nin1 {a b : Addr} (h : b ∉ [a]) : b ≠ a := fun q => h (q ▸ .head _)
theorem l05 : 0 < 5 := by decide
theorem l15 : 1 < 5 := by decide
theorem l25 : 2 < 5 := by decide
theorem nlt {n i : Nat} (h : i < n) : n + 1 - (i + 1) < n + 1 - i := by
  rw [Nat.add_sub_add_right, Nat.succ_sub (Nat.le_of_lt h)]
  exact Nat.lt_succ_self _
/-! sets of texts: what the library's SetOf does not tell (led, plain), the call set(list of texts), the walk over a set of texts -/

theorem layNew_led (t : SetTable) (es : Array (Int × Value)) (h : Int) (x : Value) : (layNew t es h x).2.1.led = t.led := by
  unfold layNew
  split
  · simp only [SetTable.put, SetTable.orStandIn, SetTable.standIn]
    (repeat' split) <;> rfl
  · rfl

theorem relaid_led {t t' : SetTable} {hs : Array Int} {n : Nat} {order : Array Nat} (e : t.relaid hs n = some (t', order)) : t'.led = t.led ∧ t'.plain = t.plain := by
  unfold SetTable.relaid SetTable.laid at e
  simp only [Option.bind_eq_bind, Option.pure_def] at e
  cases hc : SetTable.layClean (SetTable.sizeAbove n - 1) hs with
  | none => rw [hc] at e; cases e
  | some owner =>
    rw [hc] at e
    simp only [Option.bind_some, Option.some.injEq, Prod.mk.injEq] at e
    obtain ⟨e1, _⟩ := e
    subst e1
    exact ⟨rfl, rfl⟩

theorem relayAll_led (t : SetTable) (es : Array (Int × Value)) (n : Nat) : (relayAll t es n).2.1.led = t.led ∧ (t.plain = false → (relayAll t es n).2.1.plain = false) := by
  unfold relayAll
  split
  · rename_i t' order e
    have := relaid_led e
    dsimp only
    split
    · exact ⟨this.1, fun h => this.2.trans h⟩
    · exact ⟨rfl, fun _ => rfl⟩
  · exact ⟨rfl, fun _ => rfl⟩

noncomputable def SSet (prog : Program) (w : World) (h : Heap) (a : Addr) (S : Str → Bool) (n : Nat) : Prop :=
  ∃ o es ep t, h.get? a = some o ∧ o.ExactSet ∧ o.data = .set es ep t ∧ ElemsOf (strKind prog w) es.toList ∧ (∀ k, S k = true ↔ ∃ e ∈ es.toList, (strKind prog w).is k e.2 = true)
    ∧ es.size ≤ n ∧ t.fits es.size = true ∧ t.led = (!w.params.followText "set-order") ∧ (es.size ≠ 0 → t.plain = false)

noncomputable def SSetW (prog : Program) (w : World) (h : Heap) (a : Addr) (S : Str → Bool) (n : Nat) : Prop :=
  ∃ o es ep t, h.get? a = some o ∧ o.ExactSet ∧ o.data = .set es ep t ∧ ElemsOf (strKind prog w) es.toList ∧ (∀ k, S k = true ↔ ∃ e ∈ es.toList, (strKind prog w).is k e.2 = true)
    ∧ es.size ≤ n ∧ t.fits es.size = true ∧ (es.size ≠ 0 → t.led = (!w.params.followText "set-order") ∧ t.plain = false)
theorem SSet.weak {prog : Program} {w : World} {h : Heap} {a : Addr} {S : Str → Bool} {n : Nat} (x : SSet prog w h a S n) : SSetW prog w h a S n := by
  obtain ⟨o, es, ep, t, ho, hex, hd, hel, hmem, hn, hf, hl, hp⟩ := x
  exact ⟨o, es, ep, t, ho, hex, hd, hel, hmem, hn, hf, fun z => ⟨hl, hp z⟩⟩
theorem SSetW.keeps {prog : Program} {w : World} {h h' : Heap} {a : Addr} {S : Str → Bool} {n : Nat} (x : SSetW prog w h a S n) (k : ∀ o, h.get? a = some o → h'.get? a = some o) : SSetW prog w h' a S n := by
  obtain ⟨o, es, ep, t, ho, r⟩ := x
  exact ⟨o, es, ep, t, k o ho, r⟩
theorem SSetW.congr {prog : Program} {w : World} {h : Heap} {a : Addr} {S S' : Str → Bool} {n n' : Nat} (x : SSetW prog w h a S n) (e : ∀ k, S k = S' k) (en : n ≤ n') : SSetW prog w h a S' n' := by
  obtain ⟨o, es, ep, t, ho, hex, hd, hel, hmem, hn, hf, hl⟩ := x
  exact ⟨o, es, ep, t, ho, hex, hd, hel, fun k => by rw [← e k]; exact hmem k, Nat.le_trans hn en, hf, hl⟩
theorem SSetW.setOf {prog : Program} {w : World} {h : Heap} {a : Addr} {S : Str → Bool} {n : Nat} (x : SSetW prog w h a S n) (hb : n < scanBound) : ∃ m, m ≤ n ∧ h.SetOf (strKind prog w) a S m := by
  obtain ⟨o, es, ep, t, ho, hex, hd, hel, hmem, hn, hf, hl⟩ := x
  exact ⟨es.size, hn, o, es, ep, t, ho, hex, hd, hel, hmem, Nat.lt_of_le_of_lt hn hb, hf, rfl⟩
theorem SSetW.fresh {prog : Program} {w : World} {h : Heap} {a : Addr} {led : Bool} (e : h.get? a = some { cls := .type "set", dict := none, data := .set #[] 0 (.fresh 0 0 led) }) : SSetW prog w h a (fun _ => false) 0 :=
  ⟨_, #[], 0, _, e, ⟨rfl, rfl, rfl⟩, rfl, fun e he => by simp at he, fun k => by simp, by simp, by rfl, fun h => absurd rfl h⟩

theorem SSet.keeps {prog : Program} {w : World} {h h' : Heap} {a : Addr} {S : Str → Bool} {n : Nat} (x : SSet prog w h a S n) (k : ∀ o, h.get? a = some o → h'.get? a = some o) : SSet prog w h' a S n := by
  obtain ⟨o, es, ep, t, ho, r⟩ := x
  exact ⟨o, es, ep, t, k o ho, r⟩
theorem SSet.congr {prog : Program} {w : World} {h : Heap} {a : Addr} {S S' : Str → Bool} {n n' : Nat} (x : SSet prog w h a S n) (e : ∀ k, S k = S' k) (en : n ≤ n') : SSet prog w h a S' n' := by
  obtain ⟨o, es, ep, t, ho, hex, hd, hel, hmem, hn, hf, hl, hp⟩ := x
  exact ⟨o, es, ep, t, ho, hex, hd, hel, fun k => by rw [← e k]; exact hmem k, Nat.le_trans hn en, hf, hl, hp⟩
theorem SSet.setOf {prog : Program} {w : World} {h : Heap} {a : Addr} {S : Str → Bool} {n : Nat} (x : SSet prog w h a S n) (hb : n < scanBound) : ∃ m, m ≤ n ∧ h.SetOf (strKind prog w) a S m := by
  obtain ⟨o, es, ep, t, ho, hex, hd, hel, hmem, hn, hf, hl, hp⟩ := x
  exact ⟨es.size, hn, o, es, ep, t, ho, hex, hd, hel, hmem, Nat.lt_of_le_of_lt hn hb, hf, rfl⟩

section
variable {prog : Program} {w : World} {A : Around} {E : Value → Shared → Prop} {s : Shared}

theorem SSet_store {h : Heap} {a : Addr} {o : Obj} {es : Array (Int × Value)} {ep : Nat} {t : SetTable} (ho : h.get? a = some o) (hex : o.ExactSet) (hd : o.data = .set es ep t)
    {es' : Array (Int × Value)} {t' : SetTable} {S' : Str → Bool} {n : Nat} (hel : ElemsOf (strKind prog w) es'.toList) (hmem : ∀ k, S' k = true ↔ ∃ e ∈ es'.toList, (strKind prog w).is k e.2 = true) (hn : es'.size ≤ n) (hf : t'.fits es'.size = true)
    (hl : t'.led = (!w.params.followText "set-order")) (hp : t'.plain = false) :
    (h.update a (Obj.putSet es' t')).get? a = some { o with data := .set es' (ep + 1) t' } ∧ SSet prog w (h.update a (Obj.putSet es' t')) a S' n := by
  have hg : (h.update a (Obj.putSet es' t')).get? a = some { o with data := .set es' (ep + 1) t' } := by
    have := Heap.get?_update_self (Obj.putSet es' t') ho (by rw [putSet_of es' t' hd]; rfl)
    rw [putSet_of es' t' hd] at this; exact this
  exact ⟨hg, _, es', ep + 1, t', hg, hex, rfl, hel, hmem, hn, hf, hl, fun _ => hp⟩

theorem sset_addTail {g : Bool → Sem Unit} (hg : ∀ (b : Bool) (s₁ : Shared) (Q' : Unit → Shared → Prop), Q' () s₁ → wpAny (model prog w) A (g b) Q' E s₁)
    {a : Addr} {o : Obj} {es : Array (Int × Value)} {ep : Nat} {t : SetTable} (ho : s.heap.get? a = some o) (hex : o.ExactSet) (hd : o.data = .set es ep t)
    {es1 : Array (Int × Value)} {t2 : SetTable} {S' : Str → Bool} {n : Nat} (hel1 : ElemsOf (strKind prog w) es1.toList) (hmem1 : ∀ k', S' k' = true ↔ ∃ e ∈ es1.toList, (strKind prog w).is k' e.2 = true)
    (hn1 : es1.size ≤ n) (hb1 : n < scanBound) (hf2 : t2.fits es1.size = true) (hl2 : t2.led = (!w.params.followText "set-order")) (hp2 : t2.plain = false) {wasDummy : Bool} {R : Option Bool → Shared → Prop}
    (h : ∀ h', Heap.SameBut a s.heap h' → SSet prog w h' a S' n → R (some true) { s with heap := h' }) :
    wpAny (model prog w) A (do
        storeSet a es1 t2
        if (!wasDummy && t2.tooFull) = true then do
            g (relayAll t2 es1 (SetTable.grown es1.size)).2.2
            storeSet a (relayAll t2 es1 (SetTable.grown es1.size)).1 (relayAll t2 es1 (SetTable.grown es1.size)).2.1
            pure (some true)
          else pure (some true)) R E s := by
  have hbs : es1.size < scanBound := Nat.lt_of_le_of_lt hn1 hb1
  refine wpAny_bind (wpAny_storeSet_of ho hd ?_ (fits_of_scanBound hbs))
  obtain ⟨ho1, hS1⟩ := SSet_store (prog := prog) (w := w) ho hex hd hel1 hmem1 hn1 hf2 hl2 hp2
  have hsb1 := Heap.SameBut.update s.heap a (Obj.putSet es1 t2)
  split
  · have hp := relayAll_perm t2 es1 (SetTable.grown es1.size)
    have hfr := relayAll_fits t2 es1 (SetTable.grown es1.size)
    have hld := relayAll_led t2 es1 (SetTable.grown es1.size)
    generalize hRl : relayAll t2 es1 (SetTable.grown es1.size) = Rl at hp hfr hld ⊢
    obtain ⟨es2, t3, gave2⟩ := Rl
    dsimp only at hp hfr hld ⊢
    have hel2 : ElemsOf (strKind prog w) es2.toList := hel1.perm hp
    have hmem2 : ∀ k', S' k' = true ↔ ∃ e ∈ es2.toList, (strKind prog w).is k' e.2 = true := fun k' => (hmem1 k').trans ⟨fun ⟨e, he, q⟩ => ⟨e, hp.mem_iff.mpr he, q⟩, fun ⟨e, he, q⟩ => ⟨e, hp.mem_iff.mp he, q⟩⟩
    have hsz : es2.size = es1.size := by rw [← Array.length_toList, hp.length_eq, Array.length_toList]
    refine wpAny_bind (hg _ _ _ ?_)
    refine wpAny_bind (wpAny_storeSet_of ho1 rfl ?_ (fits_of_scanBound (by rw [hsz]; exact hbs)))
    obtain ⟨_, hS2⟩ := SSet_store (prog := prog) (w := w) ho1 hex rfl hel2 hmem2 (hsz ▸ hn1) hfr (hld.1.trans hl2) (hld.2 hp2)
    exact wpAny_pure (h _ (hsb1.trans (Heap.SameBut.update _ a _)) hS2)
  · exact wpAny_pure (h _ hsb1 hS1)

theorem sset_add {a : Addr} {S : Str → Bool} {n : Nat} {k : Str} {tk : Tok} {Q : Bool → Shared → Prop} (hS : SSet prog w s.heap a S n) (hroom : n + 1 < scanBound)
    (h : ∀ h', Heap.SameBut a s.heap h' → SSet prog w h' a (fun k' => S k' || decide (k' = k)) (n + 1) → Q (!S k) { s with heap := h' }) :
    wpAny (model prog w) A (setAddHashed a (.str k tk) ((strKind prog w).hash k)) Q E s := by
  obtain ⟨o, es, ep, t, ho, hex, hd, hel, hmem, hn, hf, hl, hp⟩ := hS
  have hkey : (strKind prog w).is k (.str k tk) = true := strKind_is prog w k tk
  have hb : es.size < scanBound := Nat.lt_of_le_of_lt hn (Nat.lt_of_succ_lt hroom)
  unfold setAddHashed setAddHashedIn
  refine wpAny_holding (wpAny_bind (wpAny_setState_of ho hd hf ?_))
  dsimp only
  rw [byScan_of (knd := strKind prog w) rfl hb hel]
  simp only [↓reduceIte]
  unfold setAddByScan
  refine wpAny_bind ?_
  refine wpAny_bind (wpAny_rule ?_)
  refine wpAny_bind (wpAny_setScan_of hkey ho hd hf hel ?_)
  cases hr : List.findIdx? (fun e => (strKind prog w).is k e.2) es.toList with
  | some j =>
    dsimp only
    obtain ⟨hj, hpj, _⟩ := List.findIdx?_eq_some_iff_getElem.mp hr
    have hSk : S k = true := (hmem k).mpr ⟨es.toList[j], List.getElem_mem hj, hpj⟩
    refine wpAny_pure (wpAny_pure ?_)
    have e : s = { s with heap := s.heap } := by cases s; rfl
    have := h s.heap (Heap.SameBut.refl a s.heap) ⟨o, es, ep, t, ho, hex, hd, hel, fun k' => by
      rw [Bool.or_eq_true, decide_eq_true_eq, ← hmem k']
      exact ⟨fun hk => hk.elim id (fun e => e ▸ hSk), .inl⟩, Nat.le_succ_of_le hn, hf, hl, hp⟩
    rw [hSk] at this; rw [e]; exact this
  | none =>
    dsimp only
    have hSk : S k = false := by
      cases hk : S k with
      | false => rfl
      | true => obtain ⟨e, he, hp⟩ := (hmem k).mp hk; have := List.findIdx?_eq_none_iff.mp hr e he; rw [hp] at this; exact Bool.noConfusion this
    have hgw : ∀ (b : Bool) {s₁ : Shared} {Q' : Unit → Shared → Prop}, Q' () s₁ → wpAny (model prog w) A (match b with | true => rule "set.scan.the-table-gave-way" | false => pure ()) Q' E s₁ :=
      fun b s₁ Q' hq => by cases b <;> first | exact wpAny_pure hq | exact wpAny_rule hq
    have hperm := layNew_perm t es ((strKind prog w).hash k) (.str k tk)
    have hfits := layNew_fits t es ((strKind prog w).hash k) (.str k tk)
    have hled := layNew_led t es ((strKind prog w).hash k) (.str k tk)
    generalize hL : layNew t es ((strKind prog w).hash k) (.str k tk) = L at hperm hfits hled ⊢
    obtain ⟨es1, t1, wasDummy, gave⟩ := L
    dsimp only at hperm hfits hled ⊢
    rw [Array.toList_push] at hperm
    have hel1 : ElemsOf (strKind prog w) es1.toList := (hel.push hkey rfl).perm hperm
    have hmem1 : ∀ k', (S k' || decide (k' = k)) = true ↔ ∃ e ∈ es1.toList, (strKind prog w).is k' e.2 = true := mem_push_iff hkey hmem hperm
    have hsz1 : es1.size = es.size + 1 := by rw [← Array.length_toList, hperm.length_eq, List.length_append, Array.length_toList]; rfl
    refine wpAny_bind (hgw _ ?_)
    have hend : ∀ h', Heap.SameBut a s.heap h' → SSet prog w h' a (fun k' => S k' || decide (k' = k)) (n + 1) → Q true { s with heap := h' } := by
      intro h' hsb hS'; have := h h' hsb; rw [hSk] at this; exact this hS'
    split
    · refine wpAny_bind ?_
      rw [hashByValue_scannable 8 (x := .str k tk) rfl]
      refine wpAny_pure ?_
      refine sset_addTail (n := n + 1) ?_ ho hex hd hel1 hmem1 (hsz1 ▸ Nat.add_le_add_right hn 1) hroom ?_ ?_ ?_ ?_
      · intro b s₁ Q' hq; cases b <;> first | exact wpAny_pure hq | exact wpAny_rule hq
      · exact SetTable.fits_plain_off hfits
      · exact hled.trans hl
      · rfl
      · intro h' hsb hS'; dsimp only; exact wpAny_pure (hend h' hsb hS')
    · rename_i hpl
      refine wpAny_bind (wpAny_pure ?_)
      simp only [↓reduceIte]
      refine sset_addTail (n := n + 1) ?_ ho hex hd hel1 hmem1 (hsz1 ▸ Nat.add_le_add_right hn 1) hroom hfits (hled.trans hl) (by simpa using hpl) ?_
      · intro b s₁ Q' hq; cases b <;> first | exact wpAny_pure hq | exact wpAny_rule hq
      · intro h' hsb hS'; dsimp only; exact wpAny_pure (hend h' hsb hS')
end
end Mine
end

section
open PySem PySem.W PyProof.Rows
set_option Elab.async false
set_option maxRecDepth 100000
namespace Mine
section
variable {prog : Program} {w : World} {A : Around} {E : Value → Shared → Prop} {s : Shared} {R : Result → Shared → Prop}

theorem contains_take_succ {ks : List Str} {i : Nat} {k : Str} (e : ks[i]? = some k) (x : Str) : (decide (x ∈ ks.take i) || decide (x = k)) = decide (x ∈ ks.take (i + 1)) := by
  rw [List.take_succ, e, Option.toList_some, Bool.eq_iff_iff, Bool.or_eq_true, decide_eq_true_eq, decide_eq_true_eq, decide_eq_true_eq, List.mem_append, List.mem_singleton]

theorem set_update_strs {I S l : Addr} {items : Array Value} {ks : List Str} (hh : A.handled = none) (hI : StrsAre items.toList ks) (hb : ks.length + 1 < scanBound) (hSI : S ≠ I) (hSl : S ≠ l) (hne : l ≠ I) :
    ∀ (k i : Nat) (s : Shared), items.size - i = k → i ≤ items.size → s.heap.IsListIter I l i → s.heap.IsList l items →
      SSet prog w s.heap S (fun x => decide (x ∈ ks.take i)) i →
      (∀ h' tk, (∀ b o, b ≠ S → b ≠ I → s.heap.get? b = some o → h'.get? b = some o) → SSet prog w h' S (fun x => decide (x ∈ ks)) ks.length → R (.ok (.ret .none)) { s with heap := h', toks := tk }) →
      codeAny (model prog w) A (.builtin "set.update.loop" ⟨[.ref S, .ref I], []⟩) R s := by
  have hlen : items.size = ks.length := by have := StrsAre.length hI; simpa using this
  intro k
  induction k with
  | zero =>
    intro i s hk hi hit hl hS hR
    have hin : i = items.size := Nat.le_antisymm hi (Nat.le_of_sub_eq_zero hk)
    subst hin
    refine codeAny_builtin F.entry_set_update_loop ?_
    rw [Around.under_plainId F.plain_set_update_loop _]
    show wpAny _ A.in1 (pyNext (.ref I) >>= _) _ _ s
    refine wpAny_bind (wpAny_pyNext_list_end (by simp [hh]) hit hl (by simp) fun h' he => ?_)
    show wpAny _ A.in1 (ret Value.none) _ _ _
    refine wpAny_pure (hR h' s.toks (fun b o _ hbI e => he b o hbI e) ?_)
    refine (hS.keeps fun o e => he S o hSI e).congr (fun x => ?_) (Nat.le_of_eq hlen)
    rw [hlen, List.take_length]
  | succ k ih =>
    intro i s hk hi hit hl hS hR
    have hlt : i < items.size := Nat.lt_of_sub_pos (by rw [hk]; exact Nat.succ_pos k)
    have hv : items[i]? = some items[i] := by simp [hlt]
    obtain ⟨y, t, ey, ky⟩ := StrsAre.item hI i items[i] (by rw [Array.getElem?_toList]; exact hv)
    refine codeAny_builtin F.entry_set_update_loop ?_
    rw [Around.under_plainId F.plain_set_update_loop _]
    show wpAny _ A.in1 (pyNext (.ref I) >>= _) _ _ s
    refine wpAny_bind (wpAny_pyNext_list_item hit hl hv fun h₁ hit₁ hs₁ => ?_)
    rw [ey]
    show wpAny _ A.in1 (holding [Value.str y t] (setAdd S (.str y t)) >>= _) _ _ _
    refine wpAny_bind (wpAny_holding ?_)
    unfold setAdd
    refine wpAny_holding ?_
    refine wpAny_bind ((strKind prog w).pyHash (k := y) (strKind_is prog w y t) ?_)
    have hS₁ : SSet prog w h₁ S (fun x => decide (x ∈ ks.take i)) i := hS.keeps fun o e => hs₁.extBut S o hSI e
    refine sset_add (s := { s with heap := h₁, toks := s.toks + 1 }) hS₁ (Nat.lt_trans (Nat.succ_lt_succ (Nat.lt_of_lt_of_eq hlt hlen)) hb) fun h₂ hs₂ hS₂ => ?_
    refine wpAny_pure ⟨plainId_quiet F.plain_set_update_loop _, ih (i + 1) _ (by rw [Nat.sub_add_eq, hk]; rfl) hlt (hit₁.extBut hs₂.extBut (Ne.symm hSI)) ((hl.extBut hs₁.extBut hne).extBut hs₂.extBut (Ne.symm hSl)) (hS₂.congr (contains_take_succ ky) (Nat.le_refl _)) fun h' tk hk' hS' => ?_⟩
    exact hR h' tk (fun b o hbS hbI e => hk' b o hbS hbI (hs₂.extBut b o hbS (hs₁.extBut b o hbI e))) hS'

theorem sset_fresh {h : Heap} {a : Addr} {led : Bool} (e : h.get? a = some { cls := .type "set", dict := none, data := .set #[] 0 (.fresh 0 0 led) }) (hl : led = !w.params.followText "set-order") : SSet prog w h a (fun _ => false) 0 :=
  ⟨_, #[], 0, _, e, ⟨rfl, rfl, rfl⟩, rfl, fun e he => by simp at he, fun k => by simp, by simp, by rfl, hl, fun h => absurd rfl h⟩

theorem set_new_1 (a : Value) {Q₁ : Value → Shared → Prop}
    (h : Q₁ (.ref s.heap.objs.size) { s with heap := s.heap.push { cls := .type "set", dict := none, data := .set #[] 0 (.fresh 0 0 (!w.params.followText "set-order")) } }) :
    codeAny (model prog w) A (.call (.builtin "set.__new__") ⟨[.type "set", a], []⟩) (wants Q₁ E) s := by
  refine codeAny_of_tree ?_
  show wpAny _ A.in1 (do checkBuiltinCall "set.__new__" ⟨[.type "set", a], []⟩; again (.builtin "set.__new__" ⟨[.type "set", a], []⟩)) _ _ s
  refine wpAny_bind (wpAny_of_eq (F.newCall_set_1 a) (wpAny_pure ⟨plainId_quiet F.plain_set_new _, codeAny_builtin F.entry_set_new ?_⟩))
  rw [Around.under_plainId F.plain_set_new _]
  unfold Builtin.«set.__new__» Builtin.Frozenset.newClass
  have hsub := sub_set_self
  obtain ⟨hp, g, d, tk, os⟩ := s
  dsimp only
  wp_walk
  refine wpAny_askSetting (wpAny_pure ?_)
  dsimp only
  simp only [newObj]
  refine wpAny_bind (wpAny_alloc (wpAny_pure ?_))
  exact wpAny_pure h

set_option maxHeartbeats 3200000 in
theorem call_set_strs {l : Addr} {items : Array Value} {ks : List Str} {Q : Value → Shared → Prop}
    (hh : A.handled = none) (hl : s.heap.IsList l items) (hi : StrsAre items.toList ks) (hb : ks.length + 1 < scanBound)
    (h : ∀ (h' : Heap) (tk : Nat), SSet prog w h' s.heap.objs.size (fun x => decide (x ∈ ks)) ks.length →
      (∀ b o, s.heap.get? b = some o → h'.get? b = some o) → Q (.ref s.heap.objs.size) { s with heap := h', toks := tk }) :
    wpAny (model prog w) A (call (.type "set") [.ref l]) Q E s := by
  obtain ⟨c, tl, hmro⟩ := F.called_set.mro
  have hmade := F.called_set.made
  have hsub := F.called_set.sub
  refine wpAny_call (codeAny_of_tree ?_)
  show wpAny _ _ (callAny (.type "set") _) _ _ _
  refine wpAny_pure ⟨Code.quiet_builtin _ (by decide +kernel), codeAny_builtin F.entry_type_call ?_⟩
  rw [Around.under_plain (weight_type_call_type "set" [.ref l] []) rfl]
  have h1 := F.called_set.notType
  have h2 := F.called_set.canCreate
  have hct := F.typeCall_set_1 (.ref l)
  repeat (any_goals (first | assumption | wp_step))
  generalize hled : (!w.params.followText "set-order") = led
  refine codeAny_mono (set_new_1 (.ref l) (E := E) (Q₁ := fun obj s₁ => obj = .ref s.heap.objs.size ∧ s₁ = { s with heap := s.heap.push { cls := .type "set", dict := none, data := .set #[] 0 (.fresh 0 0 led) } }) (by rw [hled]; exact ⟨rfl, rfl⟩)) fun r s₁ hr => ?_
  cases r with
  | error e => exact hr
  | ok fl =>
    cases fl with
    | ret obj =>
      obtain ⟨rfl, rfl⟩ := hr
      have hS : (s.heap.push { cls := .type "set", dict := none, data := .set #[] 0 (.fresh 0 0 led) }).get? s.heap.objs.size = some { cls := .type "set", dict := none, data := .set #[] 0 (.fresh 0 0 led) } := Heap.get?_push_size _ rfl
      have hT : Shared.TypeIs { s with heap := s.heap.push { cls := .type "set", dict := none, data := .set #[] 0 (.fresh 0 0 led) } } (.ref s.heap.objs.size) "set" := ⟨_, hS, rfl⟩
      have hli := F.called_set.init.lookup
      have hbi := F.called_set.init.bind (.ref s.heap.objs.size)
      repeat (any_goals (first | assumption | wp_step))
      refine codeAny_mono (codeAny_call_builtin (R := wants (fun r s₂ => r = .none ∧ ∃ h' tk, s₂ = { s with heap := h', toks := tk } ∧
          SSet prog w h' s.heap.objs.size (fun x => decide (x ∈ ks)) ks.length ∧ (∀ b o, s.heap.get? b = some o → h'.get? b = some o)) E) F.called_set.init.plain F.entry_set_init (check_set_init_1 hT ?_)) fun r₂ s₂ hr₂ => ?_
      · obtain ⟨ol, hol, hcl, nl, hdl⟩ := hl
        obtain ⟨ocls, odict, odata, oslots⟩ := ol
        simp only at hcl hdl
        subst hcl; subst hdl
        have hol' : (s.heap.push { cls := .type "set", dict := none, data := .set #[] 0 (.fresh 0 0 led) }).get? l = some { cls := .type "list", dict := odict, data := .seq items nl, slots := oslots } := Heap.get?_push_of_some _ hol
        have hsls := F.sub_list_set
        have hslf := F.sub_list_frozenset
        have hne : (Value.type "list" == Value.type "dict") = false := by decide
        have hl1 : (s.heap.push { cls := .type "set", dict := none, data := .set #[] 0 (.fresh 0 0 led) }).IsList l items := ⟨_, hol', rfl, nl, rfl⟩
        unfold Builtin.«set.__init__» noKeywords Builtin.Frozenset.updateFrom
        generalize hPI : pyIter = PI
        wp_walk
        subst hPI
        refine wpAny_pyIter_list hl1 ?_
        refine wpAny_bind (wpAny_runValue ?_)
        have hlS : l < s.heap.objs.size := Heap.lt_size hol
        have hh3 : A.in1.in1.in1.handled = none := by simp [hh]
        refine set_update_strs (items := items) (ks := ks) (l := l) (S := s.heap.objs.size) (by simp [hh]) hi hb ?_ (Nat.ne_of_gt hlS) ?_ (items.size - 0) 0 _ (by omega) (Nat.zero_le _)
          ⟨_, Heap.get?_push_size _ rfl, rfl, rfl⟩ (hl1.push _) ?hS0 ?hR
        · rw [Heap.size_push]; exact Nat.ne_of_lt (Nat.lt_succ_self _)
        · rw [Heap.size_push]; exact Nat.ne_of_lt (Nat.lt_succ_of_lt hlS)
        case hS0 =>
          exact (sset_fresh (prog := prog) (w := w) (Heap.get?_push_of_some _ hS) hled.symm).congr (fun x => by simp) (Nat.le_refl _)
        case hR =>
          intro h' tk' hm hS'
          show wpAny _ _ _ _ _ _
          refine wpAny_pure ?_
          show wpAny _ _ (ret Value.none) _ _ _
          refine wpAny_pure ⟨rfl, h', tk', rfl, hS', fun b o e => ?_⟩
          have hb := Heap.lt_size e
          exact hm b o (Nat.ne_of_lt hb) (by rw [Heap.size_push]; exact Nat.ne_of_lt (Nat.lt_succ_of_lt hb)) (Heap.get?_push_of_some _ (Heap.get?_push_of_some _ e))
      · cases r₂ with
        | error e => exact hr₂
        | ok fl₂ =>
          cases fl₂ with
          | ret r =>
            obtain ⟨rfl, h', tk, rfl, hS', hk'⟩ := hr₂
            repeat (any_goals (first | assumption | wp_step))
            exact h _ _ hS' hk'
          | _ => exact hr₂.elim
    | _ => exact hr.elim
end
end Mine
end

section
open PySem PySem.W PyProof.Rows
set_option Elab.async false
set_option maxRecDepth 100000
namespace Mine

theorem perm_eraseIdx {α : Type} : ∀ (l : List α) (i : Nat) (x : α), l[i]? = some x → List.Perm (x :: l.eraseIdx i) l
  | [], i, x, h => by simp at h
  | a :: r, 0, x, h => by simp at h; subst h; exact .refl _
  | a :: r, i + 1, x, h => by
    simp only [List.getElem?_cons_succ] at h
    exact (List.Perm.swap a x _).trans (.cons a (perm_eraseIdx r i x h))

theorem pickOrder_go {α : Type} (next : Nat → Nat) : ∀ (fuel k : Nat) (left : List α) (out : Array α), left.length = fuel → List.Perm (pickOrder.go next fuel k left out).toList (out.toList ++ left)
  | 0, k, left, out, e => by
    have : left = [] := List.length_eq_zero_iff.mp e
    subst this
    simp [pickOrder.go]
  | fuel + 1, k, left, out, e => by
    have hlt : next k % left.length < left.length := Nat.mod_lt _ (by rw [e]; exact Nat.succ_pos _)
    have hx : left[next k % left.length]? = some left[next k % left.length] := List.getElem?_eq_getElem hlt
    unfold pickOrder.go
    rw [hx]
    dsimp only
    refine (pickOrder_go next fuel (k + 1) _ _ (by rw [List.length_eraseIdx_of_lt hlt, e]; rfl)).trans ?_
    rw [Array.toList_push, List.append_assoc]
    exact (perm_eraseIdx left _ _ hx).append_left _

theorem pickOrder_perm {α : Type} (next : Nat → Nat) (xs : Array α) : List.Perm (pickOrder next xs).toList xs.toList := by
  have := pickOrder_go next xs.size 0 xs.toList #[] (by simp)
  simpa [pickOrder] using this

section
variable {M : Model} {A : Around} {E : Value → Shared → Prop} {s : Shared}

theorem wpAny_choose {src : Source} {n : Nat} {Q : Nat → Shared → Prop} (hn : n ≠ 0) (h : ∀ i, i < n → Q i { s with drawn := s.drawn.bump src }) : wpAny M A (choose src n) Q E s :=
  fun Γ p hΓ => ⟨hn, h _ (Nat.mod_lt _ (Nat.pos_of_ne_zero hn))⟩

theorem wpAny_drawOrder {α : Type} : ∀ (n : Nat) (xs : List α) (s : Shared) (Q : List α → Shared → Prop), xs.length = n → (∀ ys d', List.Perm ys xs → Q ys { s with drawn := d' }) → wpAny M A (drawOrder n xs) Q E s
  | 0, xs, s, Q, e, h => by
    have : xs = [] := List.length_eq_zero_iff.mp e
    subst this
    unfold drawOrder
    exact wpAny_pure (h [] s.drawn (.refl _))
  | n + 1, [], s, Q, e, h => by simp at e
  | n + 1, a :: r, s, Q, e, h => by
    unfold drawOrder
    refine wpAny_bind (wpAny_choose (by simp) fun i hi => ?_)
    rw [List.getElem?_eq_getElem hi]
    dsimp only
    refine wpAny_bind (wpAny_drawOrder n _ _ _ (by rw [List.length_eraseIdx_of_lt hi, e]; rfl) fun ys d' hp => ?_)
    refine wpAny_pure (h _ d' ?_)
    exact (hp.cons _).trans (perm_eraseIdx (a :: r) i _ (List.getElem?_eq_getElem hi))

theorem stop_new {α : Type} {Q : α → Shared → Prop} (hh : A.handled = none)
    (hE : ∀ e h', (∀ b o, s.heap.get? b = some o → h'.get? b = some o) → (∃ o, h'.get? e = some o ∧ o.cls = .type "StopIteration") → E (.ref e) { s with heap := h' }) :
    wpAny M A (newExc (.type "StopIteration") [] >>= fun x => raiseNew x) Q E s := by
  refine wpAny_bind ?_
  simp only [newExc, newTuple]
  refine wpAny_bind (wpAny_newObj_type ?_ (by size_fits))
  refine wpAny_bind (m := firstArgMember _ _) (wpAny_of_eq (a := Value.none) (by first | rfl | (simp only [firstArgMember]; rfl)) ?_)
  refine wpAny_newObj_type ?_ (by size_fits)
  simp only [raiseNew]
  refine wpAny_bind (wpAny_handled ?_)
  rw [hh]
  refine wpAny_bind (wpAny_pure (wpAny_throw ?_))
  exact hE _ _ (fun b o e => Heap.get?_push_of_some _ (Heap.get?_push_of_some _ e)) ⟨_, Heap.get?_push_size _ rfl, rfl⟩
end
end Mine
end

section
open PySem PySem.W PyProof.Rows
set_option Elab.async false
set_option maxRecDepth 100000
namespace Mine

theorem entry_set_iter : entryFor table "set.__iter__" = some Builtin.«frozenset.__iter__» :=
  entryFor_alias (id' := "frozenset.__iter__") (by kernel_rfl) rfl (by decide +kernel) (by kernel_rfl)
theorem slot_setiter_next : Slot "set_iterator" "__next__" "set_iterator.__next__" :=
  .of (owner := "set_iterator") (n := "__next__") (by rw [typeLookup_type, builtinLookup_eq_fast]; kernel_rfl) (by decide +kernel) (by decide +kernel) (by decide +kernel)
    (by first | exact .inl (by decide +kernel) | exact .inr (by decide +kernel)) (by rw [isSubtype_type]; kernel_rfl)
theorem entry_setiter_next : entryFor table "set_iterator.__next__" = some Builtin.«set_iterator.__next__» := entryFor_of_fast (by kernel_rfl)
theorem args_setiter_next (a : Value) : argsOk "set_iterator.__next__" ⟨[a], []⟩ := by unfold argsOk; kernel_rfl
theorem slot_setiter_iter : Slot "set_iterator" "__iter__" "set_iterator.__iter__" :=
  .of (owner := "set_iterator") (n := "__iter__") (by rw [typeLookup_type, builtinLookup_eq_fast]; kernel_rfl) (by decide +kernel) (by decide +kernel) (by decide +kernel)
    (by first | exact .inl (by decide +kernel) | exact .inr (by decide +kernel)) (by rw [isSubtype_type]; kernel_rfl)
theorem entry_setiter_iter : entryFor table "set_iterator.__iter__" = some Builtin.«dict_keyiterator.__iter__» :=
  entryFor_alias (id' := "dict_keyiterator.__iter__") (by kernel_rfl) rfl (by decide +kernel) (by kernel_rfl)
theorem args_setiter_iter (a : Value) : argsOk "set_iterator.__iter__" ⟨[a], []⟩ := by unfold argsOk; kernel_rfl

noncomputable def IsSetIter (h : Heap) (I a : Addr) (first : Value) (i n ep : Nat) : Prop :=
  ∃ o, h.get? I = some o ∧ o.cls = .type "set_iterator" ∧ o.data = .fields #[first, .int i 0, .ref a, .int n 0, .int ep 0]
noncomputable def SetAt (w : World) (h : Heap) (a : Addr) (es : Array (Int × Value)) (ep : Nat) (t : SetTable) : Prop :=
  (∃ o, h.get? a = some o ∧ o.data = .set es ep t) ∧ t.fits es.size = true ∧ (es.size ≠ 0 → t.led = (!w.params.followText "set-order") ∧ t.plain = false)

section
variable {prog : Program} {w : World} {A : Around} {E : Value → Shared → Prop} {s : Shared}

theorem IsSetIter.typeIs {I a : Addr} {first : Value} {i n ep : Nat} (x : IsSetIter s.heap I a first i n ep) : s.TypeIs (.ref I) "set_iterator" := let ⟨o, ho, hc, _⟩ := x; ⟨o, ho, hc⟩

theorem setiter_next {I a : Addr} {first : Value} {i : Nat} {es : Array (Int × Value)} {ep : Nat} {t : SetTable} {Q : Option Value → Shared → Prop}
    (hit : IsSetIter s.heap I a first i es.size ep) (hs : SetAt w s.heap a es ep t)
    (h : wpAny (model prog w) A.in1 (if let .int slot _ := first then do
        match ← setNext a slot.toNat i ep with
        | some (x, next) =>
          setField (.ref I) 0 (rawInt next)
          setField (.ref I) 1 (rawInt ((i : Int) + 1))
          ret x
        | none => setField (.ref I) 2 .none; raiseNew (← newExc (.type "StopIteration") [])
      else do
        let some places ← seqItems? first | unsupported "internal:set_iterator"
        match places[i]? with
        | some (.int place _) =>
          let x ← setNextDrawn a place.toNat ep
          setField (.ref I) 1 (rawInt ((i : Int) + 1))
          ret x
        | some _ => unsupported "internal:set_iterator"
        | none => setField (.ref I) 0 (rawInt 0); setField (.ref I) 2 .none; raiseNew (← newExc (.type "StopIteration") []))
      (fun fin s' => ∃ v, fin = .done (.ret v) ∧ Q (some v) s') (fun e s' => (∃ x o, e = .ref x ∧ s'.heap.get? x = some o ∧ o.cls = .type "StopIteration") ∧ Q none s') s) :
    wpAny (model prog w) A (pyNext (.ref I)) Q E s := by
  obtain ⟨o, ho, hc, hd⟩ := id hit
  obtain ⟨⟨oa, hoa, hda⟩, hf, _⟩ := hs
  unfold pyNext
  refine wpAny_bind (wpAny_attempt (wpAny_callSpecial?_slot (name := Str.ofString "__next__") hit.typeIs slot_setiter_next
    (wpAny_call_entry slot_setiter_next hit.typeIs entry_setiter_next ?_ (args_setiter_next _))))
  show wpAny _ _ (fieldsOf (.ref I) >>= _) _ _ s
  refine wpAny_bind (wpAny_fieldsOf ho hd ?_)
  dsimp only
  refine wpAny_bind (wpAny_setEntries_of (prog := prog) (w := w) hoa hda hf ?_)
  have hne : ((es.size : Int) != (es.size : Int)) = false := by simp
  rw [hne]
  simp only [Bool.false_eq_true, if_false, Int.toNat_natCast]
  refine wpAny_mono h (fun fin s' h' => ?_) fun e s' h' => ?_
  · obtain ⟨v, e, q⟩ := h'
    exact ⟨v, e, wpAny_pure q⟩
  · obtain ⟨⟨x, o, rfl, hx, hcx⟩, q⟩ := h'
    refine wpAny_bind (wpAny_isInstance (T := "StopIteration") (b := true) ⟨_, hx, hcx⟩ isSubtype_stop ?_)
    exact wpAny_pure q
end
end Mine
end

section
open PySem PySem.W PyProof.Rows
set_option Elab.async false
set_option maxRecDepth 100000
namespace Mine
section
variable {prog : Program} {w : World} {A : Around} {E : Value → Shared → Prop} {s : Shared}

theorem SetAt.of {h h' : Heap} {a : Addr} {es : Array (Int × Value)} {ep : Nat} {t : SetTable} (x : SetAt w h a es ep t) (k : ∀ o, h.get? a = some o → h'.get? a = some o) : SetAt w h' a es ep t :=
  let ⟨⟨o, ho, hd⟩, r⟩ := x; ⟨⟨o, k o ho, hd⟩, r⟩
theorem IsSetIter.of {h h' : Heap} {I a : Addr} {first : Value} {i n ep : Nat} (x : IsSetIter h I a first i n ep) (k : ∀ o, h.get? I = some o → h'.get? I = some o) : IsSetIter h' I a first i n ep :=
  let ⟨o, ho, r⟩ := x; ⟨o, k o ho, r⟩

theorem setiter_stop {I : Addr} {o : Obj} {vs : Array Value} {Q : Fin → Shared → Prop} {P : Shared → Prop} (hh : A.handled = none) (ho : s.heap.get? I = some o) (hd : o.data = .fields vs) (hsz : 2 < vs.size)
    (h : ∀ h', Heap.ExtBut I s.heap h' → P { s with heap := h' }) :
    wpAny (model prog w) A (do setField (.ref I) 2 .none; raiseNew (← newExc (.type "StopIteration") [])) Q (fun e s' => (∃ x o, e = .ref x ∧ s'.heap.get? x = some o ∧ o.cls = .type "StopIteration") ∧ P s') s := by
  refine wpAny_bind (wpAny_setField ho hd hsz ?_)
  refine stop_new hh fun e h' hk hx => ⟨?_, h h' fun b o hb q => hk b o ((Heap.get?_update_ne _ _ _ _ hb).trans q)⟩
  obtain ⟨o, a1, a2⟩ := hx
  exact ⟨e, o, rfl, a1, a2⟩

theorem setiter_moved {h : Heap} {I a : Addr} {first : Value} {i n ep : Nat} (hit : IsSetIter h I a first i n ep) :
    IsSetIter (h.update I (Obj.mapFields (·.setIfInBounds 1 (rawInt ((i : Int) + 1))))) I a first (i + 1) n ep := by
  obtain ⟨o, ho, hc, hd⟩ := hit
  exact ⟨_, Heap.get?_update_self _ ho (Obj.isFreed_of_fields (Obj.data_mapFields hd _)), (Obj.cls_mapFields ..).trans hc, by
    rw [Obj.data_mapFields hd]; simp [rawInt]⟩
theorem setiter_first {h : Heap} {I a : Addr} {first : Value} {i n ep : Nat} (hit : IsSetIter h I a first i n ep) (v : Value) :
    IsSetIter (h.update I (Obj.mapFields (·.setIfInBounds 0 v))) I a v i n ep := by
  obtain ⟨o, ho, hc, hd⟩ := hit
  exact ⟨_, Heap.get?_update_self _ ho (Obj.isFreed_of_fields (Obj.data_mapFields hd _)), (Obj.cls_mapFields ..).trans hc, by
    rw [Obj.data_mapFields hd]; simp⟩

theorem setiter_item {I a : Addr} {c : Int} {ct : Tok} {i : Nat} {es : Array (Int × Value)} {ep : Nat} {t : SetTable} {x : Value} {next : Nat} {Q : Option Value → Shared → Prop}
    (hit : IsSetIter s.heap I a (.int c ct) i es.size ep) (hs : SetAt w s.heap a es ep t) (haI : a ≠ I)
    (hn : ∀ (P : Option (Value × Nat) → Shared → Prop) (E' : Value → Shared → Prop), P (some (x, next)) s → wpAny (model prog w) A.in1 (setNext a c.toNat i ep) P E' s)
    (hQ : ∀ h', IsSetIter h' I a (.int next 0) (i + 1) es.size ep → SetAt w h' a es ep t → Heap.SameBut I s.heap h' → Q (some x) { s with heap := h' }) :
    wpAny (model prog w) A (pyNext (.ref I)) Q E s := by
  refine setiter_next hit hs ?_
  dsimp only
  refine wpAny_bind (hn _ _ ?_)
  dsimp only
  obtain ⟨o, ho, hc, hd⟩ := id hit
  refine wpAny_bind (wpAny_setField ho hd l05 ?_)
  have h1 := setiter_first hit (rawInt next)
  obtain ⟨o1, ho1, hc1, hd1⟩ := id h1
  refine wpAny_bind (wpAny_setField (s := { s with heap := _ }) ho1 hd1 l15 ?_)
  refine wpAny_pure ⟨x, rfl, ?_⟩
  have sb := (Heap.SameBut.update s.heap I (Obj.mapFields (·.setIfInBounds 0 (rawInt next)))).trans (Heap.SameBut.update _ I (Obj.mapFields (·.setIfInBounds 1 (rawInt ((i : Int) + 1)))))
  exact hQ _ (setiter_moved h1) (hs.of fun o q => sb.extBut a o haI q) sb
theorem setiter_end {I a : Addr} {c : Int} {ct : Tok} {i : Nat} {es : Array (Int × Value)} {ep : Nat} {t : SetTable} {Q : Option Value → Shared → Prop} (hh : A.handled = none)
    (hit : IsSetIter s.heap I a (.int c ct) i es.size ep) (hs : SetAt w s.heap a es ep t)
    (hn : ∀ (P : Option (Value × Nat) → Shared → Prop) (E' : Value → Shared → Prop), P none s → wpAny (model prog w) A.in1 (setNext a c.toNat i ep) P E' s)
    (hQ : ∀ h', Heap.ExtBut I s.heap h' → Q none { s with heap := h' }) :
    wpAny (model prog w) A (pyNext (.ref I)) Q E s := by
  refine setiter_next hit hs ?_
  dsimp only
  refine wpAny_bind (hn _ _ ?_)
  dsimp only
  obtain ⟨o, ho, hc, hd⟩ := id hit
  exact setiter_stop (P := fun s' => Q none s') hh ho hd l25 hQ

theorem setNext_text {a : Addr} {es : Array (Int × Value)} {ep : Nat} {t : SetTable} {slot i : Nat} {P : Option (Value × Nat) → Shared → Prop}
    (hs : SetAt w s.heap a es ep t) (hT : w.params.followText "set-order" = true)
    (h : P (((pickOrder (w.params.setOrder a ep) es)[i]?).map fun e => (e.2, slot)) s) : wpAny (model prog w) A (setNext a slot i ep) P E s := by
  obtain ⟨⟨oa, hoa, hda⟩, hf, hl⟩ := hs
  unfold setNext
  refine wpAny_bind (wpAny_setState_of hoa hda hf ?_)
  dsimp only
  unfold setsByText
  refine wpAny_bind (wpAny_bind (wpAny_askSetting (wpAny_pure ?_)))
  show wpAny _ _ (if w.params.followText "set-order" = true then _ else _) _ _ _
  rw [if_pos hT]
  simp only [bne_self_eq_false, Bool.false_eq_true, if_false]
  unfold setWalk
  refine wpAny_bind (wpAny_bind (wpAny_setState_of hoa hda hf ?_))
  dsimp only
  unfold setsByText
  refine wpAny_bind (wpAny_bind (wpAny_askSetting (wpAny_pure ?_)))
  show wpAny _ _ (if w.params.followText "set-order" = true then _ else _) _ _ _
  rw [if_pos hT]
  refine wpAny_bind (wpAny_askSetting (wpAny_pure (wpAny_pure ?_)))
  exact h
end
end Mine
end

section
open PySem PySem.W PyProof.Rows
set_option Elab.async false
set_option maxRecDepth 100000
namespace Mine
theorem below_one (xs : Array Nat) (j : Nat) (e : xs.size = 1) (c : Nat) (hc : xs[0]? = some c) : SetTable.below xs j = if c < j then 1 else 0 := by
  have hg : xs.getD 0 j = c := by simp [Array.getD_eq_getD_getElem?, hc]
  unfold SetTable.below
  rw [e]
  unfold SetTable.below.go
  simp only [Nat.zero_lt_one, if_true, Nat.zero_add, Nat.reduceDiv, hg]
  split <;> rfl

section
variable {prog : Program} {w : World} {A : Around} {E : Value → Shared → Prop} {s : Shared}

theorem setNext_plain {a : Addr} {es : Array (Int × Value)} {ep : Nat} {t : SetTable} {slot i : Nat} {P : Option (Value × Nat) → Shared → Prop}
    (hs : SetAt w s.heap a es ep t) (hT : w.params.followText "set-order" = false) (hsz : es.size ≤ 1)
    (h : P (match es[SetTable.below t.place slot]?, t.place[SetTable.below t.place slot]? with | some (_, x), some j => some (x, j + 1) | _, _ => none) s) : wpAny (model prog w) A (setNext a slot i ep) P E s := by
  obtain ⟨⟨oa, hoa, hda⟩, hf, hl⟩ := hs
  unfold setNext
  refine wpAny_bind (wpAny_setState_of hoa hda hf ?_)
  dsimp only
  unfold setsByText
  refine wpAny_bind (wpAny_bind (wpAny_askSetting (wpAny_pure ?_)))
  show wpAny _ _ (if w.params.followText "set-order" = true then _ else _) _ _ _
  rw [if_neg (by rw [hT]; decide)]
  have hd : (!t.plain && decide (es.size > 1)) = false := by rw [decide_eq_false (by omega)]; simp
  show wpAny _ _ (if (!t.plain && decide (es.size > 1)) = true then _ else _) _ _ _
  rw [hd]
  simp only [Bool.false_eq_true, if_false]
  have hml : (!t.led && !es.isEmpty) = false := by
    by_cases hz : es.size = 0
    · have : es.isEmpty = true := by simp [Array.isEmpty, hz]
      rw [this]; simp
    · rw [(hl hz).1, hT]; simp
  refine wpAny_bind ?_
  show wpAny _ _ (if (!t.led && !es.isEmpty) = true then _ else _) _ _ _
  rw [hml]
  simp only [Bool.false_eq_true, if_false]
  exact wpAny_pure (wpAny_pure h)

theorem setNextDrawn_of {a : Addr} {es : Array (Int × Value)} {ep : Nat} {t : SetTable} {i : Nat} {e : Int × Value} {P : Value → Shared → Prop}
    (hs : SetAt w s.heap a es ep t) (he : es[i]? = some e) (h : P e.2 s) : wpAny (model prog w) A (setNextDrawn a i ep) P E s := by
  obtain ⟨⟨oa, hoa, hda⟩, hf, hl⟩ := hs
  unfold setNextDrawn
  refine wpAny_bind (wpAny_setState_of hoa hda hf ?_)
  simp only [bne_self_eq_false, Bool.false_eq_true, if_false, he]
  exact wpAny_pure h

theorem setiter_self {I a : Addr} {first : Value} {i n ep : Nat} {Q : Value → Shared → Prop} (hit : IsSetIter s.heap I a first i n ep) (h : Q (.ref I) s) : wpAny (model prog w) A (pyIter (.ref I)) Q E s := by
  refine wpAny_pyIter_slot hit.typeIs slot_setiter_iter (wpAny_call_entry slot_setiter_iter hit.typeIs entry_setiter_iter ?_ (args_setiter_iter _))
  exact wpAny_pure ⟨_, rfl, "set_iterator", _, hit.typeIs, slot_setiter_next.lookup, h⟩

theorem walks_text (hh : A.handled = none) (hT : w.params.followText "set-order" = true) (I a : Addr) (haI : a ≠ I) (es : Array (Int × Value)) (ep : Nat) (t : SetTable) :
    Walks prog w A I [I, a] [I] ((pickOrder (w.params.setOrder a ep) es).toList.map (·.2)).length (fun i v => ((pickOrder (w.params.setOrder a ep) es).toList.map (·.2))[i]? = some v)
      (fun i h => ∃ c : Nat, IsSetIter h I a (.int c 0) i es.size ep ∧ SetAt w h a es ep t) where
  sub := fun b hb => mem_hd hb
  frame := fun _ _ _ ⟨c, x, y⟩ hk => ⟨c, x.of fun o e => hk I (.head _) o e, y.of fun o e => hk a (.tail _ (.head _)) o e⟩
  item := fun i s Q E hi st hQ => by
    obtain ⟨c, hit, hs⟩ := st
    rw [List.length_map, Array.length_toList] at hi
    refine setiter_item hit hs haI (x := ((pickOrder (w.params.setOrder a ep) es)[i]).2) (next := c) (fun P E' hP => setNext_text hs hT (by rw [Array.getElem?_eq_getElem hi]; exact hP)) fun h' a1 a2 a3 => ?_
    exact hQ _ h' s.toks (by rw [List.getElem?_map, Array.getElem?_toList, Array.getElem?_eq_getElem hi]; rfl) ⟨c, a1, a2⟩ fun b o hb e => a3.extBut b o (nin1 hb) e
  done := fun s Q E st hQ => by
    obtain ⟨c, hit, hs⟩ := st
    refine setiter_end hh hit hs (fun P E' hP => setNext_text hs hT (by rw [Array.getElem?_eq_none (by rw [List.length_map, Array.length_toList]; exact Nat.le_refl _)]; exact hP)) fun h' a3 => ?_
    exact hQ h' s.toks fun b o hb e => a3 b o (nin1 hb) e
  self := fun i s Q E st hQ => by
    obtain ⟨c, hit, hs⟩ := st
    exact setiter_self hit hQ

theorem fits_size {t : SetTable} {n : Nat} (h : t.fits n = true) : t.place.size = n := eq_of_beq (Bool.and_eq_true_iff.mp h).1
theorem get_one {α : Type} {xs : Array α} (h : 0 < xs.size) : ∃ x, xs[0]? = some x := ⟨_, Array.getElem?_eq_getElem h⟩
theorem walks_one (hh : A.handled = none) (hT : w.params.followText "set-order" = false) (I a : Addr) (haI : a ≠ I) (es : Array (Int × Value)) (ep : Nat) (t : SetTable) (hsz : es.size ≤ 1) :
    Walks prog w A I [I, a] [I] (es.toList.map (·.2)).length (fun i v => (es.toList.map (·.2))[i]? = some v)
      (fun i h => ∃ c : Nat, (i = 0 → c = 0) ∧ (i ≠ 0 → ∀ j, t.place[0]? = some j → j < c) ∧ IsSetIter h I a (.int c 0) i es.size ep ∧ SetAt w h a es ep t) where
  sub := fun b hb => mem_hd hb
  frame := fun _ _ _ ⟨c, x1, x2, x, y⟩ hk => ⟨c, x1, x2, x.of fun o e => hk I (.head _) o e, y.of fun o e => hk a (.tail _ (.head _)) o e⟩
  item := fun i s Q E hi st hQ => by
    obtain ⟨c, x1, x2, hit, hs⟩ := st
    rw [List.length_map, Array.length_toList] at hi
    cases zlo hi hsz
    cases x1 rfl
    have hps := one_of (fits_size hs.2.1) hi hsz
    obtain ⟨c0, hp0⟩ := get_one (xs := t.place) (by rw [hps]; exact Nat.zero_lt_one)
    obtain ⟨e0, he0⟩ := get_one hi
    have hb := below_one t.place 0 hps _ hp0
    rw [if_neg (Nat.not_lt_zero _)] at hb
    refine setiter_item hit hs haI (x := e0.2) (next := c0 + 1) (fun P E' hP => setNext_plain hs hT hsz (by rw [show SetTable.below t.place (Int.toNat ((0 : Nat) : Int)) = 0 from hb, he0, hp0]; exact hP)) fun h' a1 a2 a3 => ?_
    exact hQ _ h' s.toks (by rw [List.getElem?_map, Array.getElem?_toList, he0]; rfl) ⟨_, fun q => absurd q (Nat.succ_ne_zero _), fun _ j hj => Option.some.inj (hp0.symm.trans hj) ▸ Nat.lt_succ_self _, a1, a2⟩ fun b o hb e => a3.extBut b o (nin1 hb) e
  done := fun s Q E st hQ => by
    obtain ⟨c, x1, x2, hit, hs⟩ := st
    rw [List.length_map, Array.length_toList] at x2
    refine setiter_end hh hit hs (fun P E' hP => setNext_plain hs hT hsz ?_) fun h' a3 => ?_
    · have key : es[SetTable.below t.place (Int.toNat (c : Int))]? = none := by
        rcases Nat.eq_zero_or_pos es.size with hz | hz
        · exact Array.getElem?_eq_none (by rw [hz]; exact Nat.zero_le _)
        · have hps := one_of (fits_size hs.2.1) hz hsz
          obtain ⟨c0, hp0⟩ := get_one (xs := t.place) (by rw [hps]; exact Nat.zero_lt_one)
          have hb := below_one t.place c hps _ hp0
          rw [if_pos (x2 (Nat.ne_of_gt hz) _ hp0)] at hb
          rw [Int.toNat_natCast, hb]
          exact Array.getElem?_eq_none hsz
      rw [key]
      exact hP
    · exact hQ h' s.toks fun b o hb e => a3 b o (nin1 hb) e
  self := fun i s Q E st hQ => by
    obtain ⟨c, x1, x2, hit, hs⟩ := st
    exact setiter_self hit hQ

theorem walks_drawn (hh : A.handled = none) (I a T : Addr) (haI : a ≠ I) (hTI : T ≠ I) (es : Array (Int × Value)) (ep : Nat) (t : SetTable) (pl : List Nat) (hpl : ∀ p ∈ pl, p < es.size) :
    Walks prog w A I [I, a, T] [I] pl.length (fun i v => (pl.map fun p => ((es[p]?).map (·.2)).getD .none)[i]? = some v)
      (fun i h => IsSetIter h I a (.ref T) i es.size ep ∧ SetAt w h a es ep t ∧ ∃ o n, h.get? T = some o ∧ o.data = .seq (pl.map fun p => rawInt (p : Nat)).toArray n) where
  sub := fun b hb => mem_hd hb
  frame := fun _ _ _ ⟨x, y, o, n, z, z'⟩ hk => ⟨x.of fun o e => hk I (.head _) o e, y.of fun o e => hk a (.tail _ (.head _)) o e, o, n, hk T (.tail _ (.tail _ (.head _))) o z, z'⟩
  item := fun i s Q E hi st hQ => by
    obtain ⟨hit, hs, oT, nT, hoT, hdT⟩ := st
    have hp : pl[i] < es.size := hpl _ (List.getElem_mem hi)
    refine setiter_next hit hs ?_
    dsimp only
    refine wpAny_bind (wpAny_seqItems hoT hdT ?_)
    dsimp only
    rw [List.getElem?_toArray, List.getElem?_map, List.getElem?_eq_getElem hi, Option.map_some]
    refine wpAny_bind (setNextDrawn_of hs (e := es[pl[i]]) (Array.getElem?_eq_getElem hp) ?_)
    obtain ⟨o, ho, hc, hd⟩ := id hit
    refine wpAny_bind (wpAny_setField ho hd l15 ?_)
    refine wpAny_pure ⟨_, rfl, ?_⟩
    have sb := Heap.SameBut.update s.heap I (Obj.mapFields (·.setIfInBounds 1 (rawInt ((i : Int) + 1))))
    exact hQ _ _ s.toks (by rw [List.getElem?_map, List.getElem?_eq_getElem hi, Option.map_some, Array.getElem?_eq_getElem hp]; rfl) ⟨setiter_moved hit, hs.of fun o q => sb.extBut a o haI q, oT, nT, sb.extBut T oT hTI hoT, hdT⟩ fun b o hb e => sb.extBut b o (nin1 hb) e
  done := fun s Q E st hQ => by
    obtain ⟨hit, hs, oT, nT, hoT, hdT⟩ := st
    refine setiter_next hit hs ?_
    dsimp only
    refine wpAny_bind (wpAny_seqItems hoT hdT ?_)
    dsimp only
    rw [List.getElem?_toArray, List.getElem?_eq_none (by rw [List.length_map]; exact Nat.le_refl _)]
    dsimp only
    obtain ⟨o, ho, hc, hd⟩ := id hit
    refine wpAny_bind (wpAny_setField ho hd l05 ?_)
    obtain ⟨o1, ho1, hc1, hd1⟩ := setiter_first hit (rawInt 0)
    refine setiter_stop (P := fun s' => Q none s') (s := { s with heap := _ }) hh ho1 hd1 l25 fun h' a3 => ?_
    exact hQ h' s.toks fun b o hb e => a3 b o (nin1 hb) ((Heap.get?_update_ne _ _ _ _ (nin1 hb)).trans e)
  self := fun i s Q E st hQ => setiter_self st.1 hQ
end
end Mine
end

section
open PySem PySem.W PyProof.Rows
set_option Elab.async false
set_option maxRecDepth 100000
namespace Mine
section
variable {prog : Program} {w : World} {A : Around} {E : Value → Shared → Prop} {s : Shared}

theorem elems_strs {es : List (Int × Value)} {S : Str → Bool} (hel : ElemsOf (strKind prog w) es) (hmem : ∀ k, S k = true ↔ ∃ e ∈ es, (strKind prog w).is k e.2 = true) {ord : List Value} (hp : List.Perm ord (es.map (·.2))) :
    (∀ v ∈ ord, ∃ k t, v = .str k t ∧ S k = true) ∧ (∀ k, S k = true → ∃ t, Value.str k t ∈ ord) := by
  constructor
  · intro v hv
    obtain ⟨e, he, rfl⟩ := List.mem_map.mp (hp.mem_iff.mp hv)
    obtain ⟨⟨k, hk, _⟩, _⟩ := hel e he
    obtain ⟨t, et⟩ := Value.isStrOf_shape (show Value.isStrOf k e.2 = true from hk)
    exact ⟨k, t, et, (hmem k).mpr ⟨e, he, hk⟩⟩
  · intro k hk
    obtain ⟨e, he, hke⟩ := (hmem k).mp hk
    obtain ⟨t, et⟩ := Value.isStrOf_shape (show Value.isStrOf k e.2 = true from hke)
    exact ⟨t, hp.mem_iff.mpr (et ▸ List.mem_map_of_mem he)⟩

set_option maxHeartbeats 1000000 in
theorem pyIter_sset {a : Addr} {S : Str → Bool} {n : Nat} {Q : Value → Shared → Prop} (hh : A.handled = none) (hS : SSetW prog w s.heap a S n) (hb : n < scanBound)
    (h : ∀ (I : Addr) (fp : List Addr) (ord : List Value) (St : Nat → Heap → Prop) (h' : Heap) (d' : Drawn), Walks prog w A I fp [I] ord.length (fun i v => ord[i]? = some v) St → St 0 h' → (∀ b ∈ fp, b = a ∨ s.heap.objs.size ≤ b) → (∀ b ∈ fp, b < h'.objs.size) →
      s.heap.objs.size ≤ I → (∀ b o, s.heap.get? b = some o → h'.get? b = some o) → (∀ v ∈ ord, ∃ k t, v = .str k t ∧ S k = true) → (∀ k, S k = true → ∃ t, Value.str k t ∈ ord) → ord.length ≤ n → Q (.ref I) { s with heap := h', drawn := d' }) :
    wpAny (model prog w) A (pyIter (.ref a)) Q E s := by
  obtain ⟨o, es, ep, t, ho, hex, hd, hel, hmem, hn, hf, hl⟩ := hS
  have hT : s.TypeIs (.ref a) "set" := ⟨o, ho, hex.1⟩
  have hlt := Heap.lt_size ho
  refine wpAny_pyIter_slot hT F.slot_set_iter (wpAny_call_entry F.slot_set_iter hT entry_set_iter ?_ (F.args_set_iter_1 _))
  show wpAny _ A.in1 (do
    let n ← Builtin.Frozenset.sizeOf a
    let first ← if ← setDrawn a then newTuple ((← drawOrder n (List.range n)).map fun (i : Nat) => rawInt i) else pure (rawInt 0)
    ret (← newFields "set_iterator" [first, rawInt 0, .ref a, rawInt n, rawInt (← setEpoch a)])) _ _ s
  refine wpAny_bind (m := Builtin.Frozenset.sizeOf a) ?_
  unfold Builtin.Frozenset.sizeOf
  refine wpAny_bind (wpAny_setEntries_of (prog := prog) (w := w) ho hd hf (wpAny_pure ?_))
  refine wpAny_bind (m := setDrawn a) ?_
  unfold setDrawn
  refine wpAny_bind (wpAny_setState_of ho hd hf ?_)
  dsimp only
  unfold setsByText
  refine wpAny_bind (wpAny_bind (wpAny_askSetting (wpAny_pure (wpAny_pure ?_))))
  show wpAny _ _ (if (!w.params.followText "set-order" && (!t.plain && decide (es.size > 1))) = true then _ else _) _ _ _
  by_cases hdr : (!w.params.followText "set-order" && (!t.plain && decide (es.size > 1))) = true
  · rw [if_pos hdr]
    refine wpAny_bind (wpAny_drawOrder _ _ _ _ (by simp) fun pl d' hpl => ?_)
    have hplt : ∀ p ∈ pl, p < es.size := fun p hp => by simpa using hpl.mem_iff.mp hp
    have hpll : pl.length = es.size := by simpa using hpl.length_eq
    have hsz : es.size ≤ sizeLine := fits_of_scanBound (Nat.lt_of_le_of_lt hn hb)
    refine wpAny_bind (wpAny_newObj_type (data := .seq (pl.map fun (i : Nat) => rawInt i).toArray) ?_ ?hz)
    case hz => show (pl.map fun (i : Nat) => rawInt i).toArray.size ≤ sizeLine; rw [List.size_toArray, List.length_map, hpll]; exact hsz
    refine wpAny_bind (wpAny_setEpoch_of (Heap.get?_push_of_some _ ho) hd hf ?_)
    refine wpAny_bind (wpAny_newObj_type (wpAny_pure ⟨_, rfl, "set_iterator", _, ⟨_, Heap.get?_push_size _ rfl, rfl⟩, slot_setiter_next.lookup, ?_⟩))
    simp only [Heap.size_push]
    have hperm : List.Perm (pl.map fun p => ((es[p]?).map (·.2)).getD .none) (es.toList.map (·.2)) := by
      refine (hpl.map _).trans ?_
      have : (List.range es.size).map (fun p => ((es[p]?).map (·.2)).getD .none) = es.toList.map (·.2) := by
        apply List.ext_getElem
        · simp
        · intro i h1 h2
          simp at h1
          simp [h1]
      rw [this]
    obtain ⟨e1, e2⟩ := elems_strs hel hmem hperm
    have W := walks_drawn (prog := prog) (w := w) (A := A) hh (s.heap.objs.size + 1) a s.heap.objs.size (Nat.ne_of_lt (Nat.lt_succ_of_lt hlt)) (Nat.ne_of_lt (Nat.lt_succ_self _)) es ep t pl hplt
    rw [show pl.length = (pl.map fun p => ((es[p]?).map (·.2)).getD Value.none).length from (List.length_map _).symm] at W
    refine h (s.heap.objs.size + 1) _ _ _ _ d' W ⟨⟨_, by rw [← Heap.size_push s.heap]; exact Heap.get?_push_size _ rfl, rfl, rfl⟩, ⟨⟨o, Heap.get?_push_of_some _ (Heap.get?_push_of_some _ ho), hd⟩, hf, hl⟩, _, _, Heap.get?_push_of_some _ (Heap.get?_push_size _ rfl), rfl⟩ ?_ ?_ (Nat.le_succ _) ?_ e1 e2 (by rw [List.length_map, hpll]; exact hn)
    · intro b hb; simp at hb; rcases hb with rfl | rfl | rfl
      · exact .inr (Nat.le_succ _)
      · exact .inl rfl
      · exact .inr (Nat.le_refl _)
    · intro b hb; simp at hb; simp only [Heap.size_push]; rcases hb with rfl | rfl | rfl
      · exact Nat.lt_succ_self _
      · exact Nat.lt_succ_of_lt (Nat.lt_succ_of_lt hlt)
      · exact Nat.lt_succ_of_lt (Nat.lt_succ_self _)
    · exact fun b o e => Heap.get?_push_of_some _ (Heap.get?_push_of_some _ e)
  · rw [if_neg hdr]
    refine wpAny_bind (wpAny_pure ?_)
    refine wpAny_bind (wpAny_setEpoch_of ho hd hf ?_)
    refine wpAny_bind (wpAny_newObj_type (wpAny_pure ⟨_, rfl, "set_iterator", _, ⟨_, Heap.get?_push_size _ rfl, rfl⟩, slot_setiter_next.lookup, ?_⟩))
    have hit : IsSetIter (s.heap.push { cls := .type "set_iterator", data := .fields #[rawInt 0, rawInt 0, .ref a, rawInt es.size, rawInt ep] }) s.heap.objs.size a (.int ((0 : Nat) : Int) 0) 0 es.size ep := ⟨_, Heap.get?_push_size _ rfl, rfl, rfl⟩
    have hsa : SetAt w (s.heap.push { cls := .type "set_iterator", data := .fields #[rawInt 0, rawInt 0, .ref a, rawInt es.size, rawInt ep] }) a es ep t := ⟨⟨o, Heap.get?_push_of_some _ ho, hd⟩, hf, hl⟩
    have hfp : ∀ b ∈ [s.heap.objs.size, a], b = a ∨ s.heap.objs.size ≤ b := fun b hb => by simp at hb; rcases hb with rfl | rfl; exact .inr (Nat.le_refl _); exact .inl rfl
    have hfl : ∀ b ∈ [s.heap.objs.size, a], b < (s.heap.push { cls := .type "set_iterator", data := .fields #[rawInt 0, rawInt 0, .ref a, rawInt es.size, rawInt ep] }).objs.size := fun b hb => by simp at hb; simp only [Heap.size_push]; rcases hb with rfl | rfl; exact Nat.lt_succ_self _; exact Nat.lt_succ_of_lt hlt
    have hkp : ∀ b o, s.heap.get? b = some o → (s.heap.push { cls := .type "set_iterator", data := .fields #[rawInt 0, rawInt 0, .ref a, rawInt es.size, rawInt ep] }).get? b = some o := fun b o e => Heap.get?_push_of_some _ e
    by_cases hTx : w.params.followText "set-order" = true
    · obtain ⟨e1, e2⟩ := elems_strs hel hmem ((pickOrder_perm (w.params.setOrder a ep) es).map (·.2))
      exact h s.heap.objs.size _ _ _ _ s.drawn (walks_text hh hTx s.heap.objs.size a (Nat.ne_of_lt hlt) es ep t) ⟨0, hit, hsa⟩ hfp hfl (Nat.le_refl _) hkp e1 e2 (by rw [List.length_map, (pickOrder_perm _ es).length_eq, Array.length_toList]; exact hn)
    · have hTf : w.params.followText "set-order" = false := by simpa using hTx
      have hsz : es.size ≤ 1 := by
        rcases Nat.lt_or_ge 1 es.size with hz | hz
        · exfalso; apply hdr; rw [hTf, (hl (Nat.ne_of_gt (Nat.lt_of_succ_lt hz))).2, decide_eq_true hz]; rfl
        · exact hz
      obtain ⟨e1, e2⟩ := elems_strs hel hmem (List.Perm.refl _)
      exact h s.heap.objs.size _ _ _ _ s.drawn (walks_one hh hTf s.heap.objs.size a (Nat.ne_of_lt hlt) es ep t hsz) ⟨0, fun _ => rfl, fun q => absurd rfl q, hit, hsa⟩ hfp hfl (Nat.le_refl _) hkp e1 e2 (by rw [List.length_map, Array.length_toList]; exact hn)
end
end Mine
end

section
open PySem PySem.W PyProof.Rows
set_option Elab.async false
set_option maxRecDepth 100000
namespace Mine
section
variable {prog : Program} {w : World} {A : Around} {E : Value → Shared → Prop} {s : Shared} {env : Env}

noncomputable def SearI (s : Shared) (L I : Addr) (x : Str) (m : Str → Option Value) (n : Nat) (St : Nat → Heap → Prop) (Pass : Nat → Prop) (k : Nat) (s' : Shared) : Prop :=
  ∃ h' tk m' i, s' = { s with heap := h', toks := tk } ∧ St i h' ∧ h'.Ns L m' ∧ (∀ y, y ≠ x → m' y = m y) ∧ i ≤ n ∧ k = n + 1 - i ∧ (∀ j, j < i → Pass j) ∧
      ∀ b o, b ≠ L → b ≠ I → s.heap.get? b = some o → h'.get? b = some o
theorem SearI.intro {L I : Addr} {x : Str} {m : Str → Option Value} {n : Nat} {St : Nat → Heap → Prop} {Pass : Nat → Prop} (h' : Heap) (tk : Nat) (m' : Str → Option Value) (i : Nat) (a : St i h') (b : h'.Ns L m') (c : ∀ y, y ≠ x → m' y = m y) (d : i ≤ n) (e : ∀ j, j < i → Pass j)
    (f : ∀ b o, b ≠ L → b ≠ I → s.heap.get? b = some o → h'.get? b = some o) : SearI s L I x m n St Pass (n + 1 - i) { s with heap := h', toks := tk } := ⟨h', tk, m', i, rfl, a, b, c, d, rfl, e, f⟩
theorem SearI.elim {L I : Addr} {x : Str} {m : Str → Option Value} {n k : Nat} {St : Nat → Heap → Prop} {Pass : Nat → Prop} {s' : Shared} {C : Prop} (q : SearI s L I x m n St Pass k s')
    (g : ∀ h' tk m' i, s' = { s with heap := h', toks := tk } → k = n + 1 - i → St i h' → h'.Ns L m' → (∀ y, y ≠ x → m' y = m y) → i ≤ n → (∀ j, j < i → Pass j) → (∀ b o, b ≠ L → b ≠ I → s.heap.get? b = some o → h'.get? b = some o) → C) : C := by
  obtain ⟨h', tk, m', i, e1, a, b, c, d, e2, e, f⟩ := q
  exact g h' tk m' i e1 e2 a b c d e f
theorem for_search {R : Result → Shared → Prop} {x : Str} {px : Pos} {body : List Stmt} {I : Addr} {fp : List Addr} {n : Nat} {P : Nat → Value → Prop} {St : Nat → Heap → Prop} {m : Str → Option Value} (Pass : Nat → Prop)
    (W : Walks prog w A I fp [I] n P St) (hst : St 0 s.heap) (hx : env.kindOf x = some .local)
    (hp : (env.scope.kind == .class || (env.scope.kind == .module && env.locals != env.globals)) = false)
    (hL : env.locals ∉ fp) (hIf : I ∈ fp) (hn : s.heap.Ns env.locals m)
    (turn : ∀ i v h₁ tk, i < n → P i v → (∀ b o, b ≠ env.locals → b ≠ I → s.heap.get? b = some o → h₁.get? b = some o) → h₁.Ns env.locals (fun y => if y = x then some v else m y) → 
      wpAny (model prog w) A (execs body env) (fun f s₂ => (f = .next ∧ (∃ tk', s₂ = { s with heap := h₁, toks := tk' }) ∧ Pass i) ∨ (∃ r, f = .ret r ∧ R (.ok (.ret r)) s₂)) (notedBy (model prog w) A env fun e s' => R (.error e) s') { s with heap := h₁, toks := tk })
    (done : ∀ h₁ tk u, (∀ b o, b ≠ env.locals → b ≠ I → s.heap.get? b = some o → h₁.get? b = some o) → h₁.Ns env.locals (fun y => if y = x then u else m y) → (∀ i, i < n → Pass i) → R (.ok .next) { s with heap := h₁, toks := tk }) :
    codeAny (model prog w) A (.forLoop (.Name x px) (.ref I) body [] env) R s := by
  have hIL : I ≠ env.locals := fun e => hL (e ▸ hIf)
  refine codeAny_forLoop
    (SearI s env.locals I x m n St Pass) ?_ (n + 1) (.intro s.heap s.toks m 0 hst hn (fun _ _ => rfl) (Nat.zero_le _) (fun j h => absurd h (Nat.not_lt_zero _)) fun _ _ _ _ e => e)
  intro k s' q
  refine q.elim fun h' tk m' i e1 e2 st hn' hm' hi hpass hk => ?_
  subst e1 e2
  rcases Nat.lt_or_ge i n with hlt | hge
  · refine W.item i _ _ _ hlt st fun v h₁ tk₁ hv st₁ hk₁ => ?_
    dsimp only
    have hn₁ : h₁.Ns env.locals m' := hn'.at' fun o e => hk₁ env.locals o (by simp [Ne.symm hIL]) e
    refine wpAny_assign_Name (wpAny_storeName_local hx hn₁ (fun h₂ hn₂ hs₂ => ?_) hp)
    have hk₂ : ∀ b o, b ≠ env.locals → b ≠ I → s.heap.get? b = some o → h₂.get? b = some o := fun b o hbL hbI e => hs₂.extBut b o hbL (hk₁ b o (by simp [hbI]) (hk b o hbL hbI e))
    have em : (fun y => if y = x then some v else m' y) = fun y => if y = x then some v else m y := funext fun y => by by_cases hy : y = x <;> simp [hy, hm']
    rw [em] at hn₂
    refine wpAny_mono (turn i v h₂ _ hlt hv hk₂ hn₂) (fun f s₃ h₃ => ?_) fun _ _ e => e
    rcases h₃ with ⟨rfl, ⟨tk', rfl⟩, hp⟩ | ⟨r, rfl, hr⟩
    · refine ⟨n + 1 - (i + 1), nlt hlt, .intro h₂ tk' _ (i + 1) ?_ hn₂ (fun y hy => by simp [hy]) hlt (fun j hj => ?_) hk₂⟩
      · exact W.frame _ _ _ st₁ fun b hb o e => hs₂.extBut b o (fun q => hL (q ▸ hb)) e
      · rcases Nat.lt_succ_iff_lt_or_eq.mp hj with hj | rfl
        · exact hpass j hj
        · exact hp
    · exact hr
  · have hin : i = n := Nat.le_antisymm hi hge
    subst hin
    refine W.done _ _ _ st fun h₁ tk₁ hk₁ => wpAny_execs_nil ?_
    have em : m' = fun y => if y = x then m' x else m y := funext fun y => by by_cases hy : y = x <;> simp [hy, hm']
    rw [em] at hn'
    exact done h₁ tk₁ (m' x) (fun b o hbL hbI e => hk₁ b o (by simp [hbI]) (hk b o hbL hbI e)) (hn'.at' fun o e => hk₁ env.locals o (by simp [Ne.symm hIL]) e) hpass
end
end Mine
end

section
open PySem PySem.W PyProof.Rows PyProof.V PySem.Calls PySem.Spec
set_option Elab.async false
set_option maxRecDepth 100000
namespace Mine
noncomputable def Halt (p : Prop) : Prop := p
noncomputable def TEnd (wr : List Addr) (s : Shared) (h : Heap) (P : Heap → Prop) (s₅ : Shared) : Prop := ∃ h₅ d₅ tk₅, s₅ = { s with heap := h₅, drawn := d₅, toks := tk₅ } ∧ (∀ b o, b ∉ wr → h.get? b = some o → h₅.get? b = some o) ∧ P h₅
theorem TEnd.intro {wr : List Addr} {s : Shared} {h : Heap} {P : Heap → Prop} (h₅ : Heap) (d₅ : Drawn) (tk₅ : Nat) (k : ∀ b o, b ∉ wr → h.get? b = some o → h₅.get? b = some o) (p : P h₅) : TEnd wr s h P { s with heap := h₅, drawn := d₅, toks := tk₅ } := ⟨h₅, d₅, tk₅, rfl, k, p⟩
section
variable {prog : Program} {w : World} {A : Around} {E : Value → Shared → Prop} {env : Env}

noncomputable abbrev tests (ifs : List Expr) (env : Env) : Sem Bool := forIn ifs true fun c r => if r = true then do let ok ← isTrue c env (eval c env); pure (ForInStep.yield ok) else pure (ForInStep.yield r)

end
section
variable {prog : Program} {w : World} {A : Around} {E : Value → Shared → Prop} {env : Env} {R : Result → Shared → Prop}
theorem loop_go {s : Shared} {elt target iter : PySem.Expr} {ifs : List PySem.Expr} {scope : Scope} {pos : Pos} {it acc : Value} {env : Env} (I : Nat → Shared → Prop)
    (turn : ∀ n s, I n s → wpAny (model prog w) A (pyNext it) (fun r s₁ => match r with
      | none => R (.ok .next) s₁
      | some v => wpAny (model prog w) A (letOwnedTupleGo target it v) (fun _ s₀ => wpAny (model prog w) A (assign target env v) (fun _ s₂ =>
          wpAny (model prog w) A (tests ifs env) (fun ok s₃ =>
            if ok = true then wpAny (model prog w) A (eval elt env) (fun x s₄ =>
              wpAny (model prog w) A (call (.builtin "list.append") [acc, x]) (fun _ s₅ => ∃ m, m < n ∧ I m s₅) (notedBy (model prog w) A env fun e s' => R (.error e) s') s₄) (notedBy (model prog w) A env fun e s' => R (.error e) s') s₃
            else ∃ m, m < n ∧ I m s₃) (notedBy (model prog w) A env fun e s' => R (.error e) s') s₂) (notedBy (model prog w) A env fun e s' => R (.error e) s') s₀) (notedBy (model prog w) A env fun e s' => R (.error e) s') s₁) (notedBy (model prog w) A env fun e s' => R (.error e) s') s)
    (n : Nat) (h : I n s) :
    codeAny (model prog w) A (.compLoop (.ListComp elt [⟨target, iter, ifs, 0⟩] scope pos) 0 it acc env) R s := by
  refine codeAny_loop rfl I (fun n s hI => ?_) n h
  show wpAny _ A ((compTurn (.ListComp elt [⟨target, iter, ifs, 0⟩] scope pos) 0 it acc env).onRaise (fun x => do noteFrame x env; theTreesLotGoes x)) _ _ s
  refine wpAny_noted ?_
  rw [compTurn_list]
  refine wpAny_bind (wpAny_standAt (wpAny_bind (wpAny_mono (turn n s hI) (fun r s₁ h₁ => ?_) fun _ _ h' => h')))
  cases r with
  | none => exact wpAny_pure h₁
  | some v =>
    refine wpAny_bind (wpAny_mono h₁ (fun _ s₀ h₀ => ?_) fun _ _ h' => h')
    refine wpAny_bind (wpAny_mono h₀ (fun _ s₂ h₂ => wpAny_bind (wpAny_mono h₂ (fun ok s₃ h₃ => ?_) fun _ _ h' => h')) fun _ _ h' => h')
    cases ok with
    | false => exact wpAny_pure ⟨rfl, h₃⟩
    | true =>
      exact wpAny_bind (wpAny_bind (wpAny_mono h₃ (fun x s₄ h₄ => wpAny_bind (wpAny_mono h₄ (fun _ s₅ h₅ => wpAny_pure (wpAny_pure ⟨rfl, h₅⟩)) fun _ _ h' => h')) fun _ _ h' => h'))
end
section
variable {prog : Program} {w : World} {A : Around} {E : Value → Shared → Prop} {env : Env}
structure CompOk (prog : Program) (w : World) (A : Around) (env : Env) (scope : Scope) (cl : List (Str × Addr)) (target elt : Expr) (ifs : List Expr) (ld : Value → (Str → Option Value) → Prop) (P : Nat → Value → Prop) (wr : List Addr) (J : Nat → List Value → Heap → Prop) (I : Addr) (n : Nat) (s₂ : Shared) : Prop where
  start : J 0 [] s₂.heap
  stable : ∀ i ys h h', (∀ b o, b ≠ I → b ≠ s₂.heap.objs.size → b ≠ s₂.heap.objs.size + 1 → h.get? b = some o → h'.get? b = some o) → J i ys h → J i ys h'
  bind : ∀ i v h d tk E' (Q : Unit → Shared → Prop) m, i < n → P i v → h.Ns (s₂.heap.objs.size + 1) m →
    (∀ h' tk' m', h'.Ns (s₂.heap.objs.size + 1) m' → ld v m' → Heap.SameBut (s₂.heap.objs.size + 1) h h' → Q () { s₂ with heap := h', drawn := d, toks := tk' }) →
    wpAny (model prog w) A (assign target (compEnvC scope cl (s₂.heap.objs.size + 1) env) v) Q E' { s₂ with heap := h, drawn := d, toks := tk }
  turn : ∀ i v h d tk m ys E', i < n → P i v → (∀ b o, b ∉ wr → b ≠ I → s₂.heap.get? b = some o → h.get? b = some o) → s₂.heap.objs.size + 2 ≤ h.objs.size → h.Ns (s₂.heap.objs.size + 1) m → ld v m → J i ys h → ys.length ≤ i →
    wpAny (model prog w) A (tests ifs (compEnvC scope cl (s₂.heap.objs.size + 1) env)) (fun ok s₄ => if ok = true then
        wpAny (model prog w) A (eval elt (compEnvC scope cl (s₂.heap.objs.size + 1) env)) (fun y s₅ => ∃ h₅ d₅ tk₅, s₅ = { s₂ with heap := h₅, drawn := d₅, toks := tk₅ } ∧ (∀ b o, b ∉ wr → h.get? b = some o → h₅.get? b = some o) ∧ J (i + 1) (ys ++ [y]) h₅) E' s₄
      else ∃ h₅ d₅ tk₅, s₄ = { s₂ with heap := h₅, drawn := d₅, toks := tk₅ } ∧ (∀ b o, b ∉ wr → h.get? b = some o → h₅.get? b = some o) ∧ J (i + 1) ys h₅) E' { s₂ with heap := h, drawn := d, toks := tk }

structure CompJ (prog : Program) (w : World) (A : Around) (env : Env) (scope : Scope) (cl : List (Str × Addr)) (target elt : PySem.Expr) (ifs : List PySem.Expr) (ld : Value → (Str → Option Value) → Prop) (P : Nat → Value → Prop) (wr : List Addr) (J : Nat → List Value → Heap → Prop) (St : Nat → Heap → Prop) (I : Addr) (n : Nat) (s₂ : Shared) : Prop where
  start : J 0 [] s₂.heap
  stable : ∀ i ys h h', (∀ b o, b ≠ I → b ≠ s₂.heap.objs.size → b ≠ s₂.heap.objs.size + 1 → h.get? b = some o → h'.get? b = some o) → J i ys h → J i ys h'
  bind : ∀ i v h d tk E' (Q : Unit → Shared → Prop) m, i < n → P i v → St (i + 1) h → (∀ b o, b ∉ wr → b ≠ I → s₂.heap.get? b = some o → h.get? b = some o) → h.Ns (s₂.heap.objs.size + 1) m →
    (∀ h' tk' m', h'.Ns (s₂.heap.objs.size + 1) m' → ld v m' → (∀ b o, b ≠ s₂.heap.objs.size + 1 → h.get? b = some o → h'.get? b = some o) → Q () { s₂ with heap := h', drawn := d, toks := tk' }) →
    wpAny (model prog w) A (letOwnedTupleGo target (.ref I) v) (fun _ s₀ => wpAny (model prog w) A (assign target (compEnvC scope cl (s₂.heap.objs.size + 1) env) v) Q E' s₀) E' { s₂ with heap := h, drawn := d, toks := tk }
  turn : ∀ i v h d tk m ys E', i < n → P i v → (∀ b o, b ∉ wr → b ≠ I → s₂.heap.get? b = some o → h.get? b = some o) → s₂.heap.objs.size + 2 ≤ h.objs.size → h.Ns (s₂.heap.objs.size + 1) m → ld v m → J i ys h → ys.length ≤ i →
    wpAny (model prog w) A (tests ifs (compEnvC scope cl (s₂.heap.objs.size + 1) env)) (fun ok s₄ => Halt (if ok = true then
        wpAny (model prog w) A (eval elt (compEnvC scope cl (s₂.heap.objs.size + 1) env)) (fun y s₅ => Halt (TEnd wr s₂ h (J (i + 1) (ys ++ [y])) s₅)) E' s₄
      else TEnd wr s₂ h (J (i + 1) ys) s₄)) E' { s₂ with heap := h, drawn := d, toks := tk }
noncomputable def CInv (s₂ : Shared) (I : Addr) (n : Nat) (St : Nat → Heap → Prop) (wr : List Addr) (J : Nat → List Value → Heap → Prop) (k : Nat) (s' : Shared) : Prop := ∃ h' d' tk m i ys, s' = { s₂ with heap := h', drawn := d', toks := tk } ∧ St i h' ∧ h'.Ns (s₂.heap.objs.size + 1) m ∧ h'.IsList s₂.heap.objs.size (List.toArray ys) ∧ J i ys h' ∧ ys.length ≤ i ∧ i ≤ n ∧ k = n + 1 - i ∧ s₂.heap.objs.size + 2 ≤ h'.objs.size ∧ (∀ b o, b ∉ wr → b ≠ I → s₂.heap.get? b = some o → h'.get? b = some o)
theorem CInv.intro {s₂ : Shared} {I : Addr} {n : Nat} {St : Nat → Heap → Prop} {wr : List Addr} {J : Nat → List Value → Heap → Prop} {k : Nat} {s' : Shared} (h' : Heap) (d' : Drawn) (tk : Nat) (m : Str → Option Value) (i : Nat) (ys : List Value) (a0 : s' = { s₂ with heap := h', drawn := d', toks := tk }) (a1 : St i h') (a2 : h'.Ns (s₂.heap.objs.size + 1) m) (a3 : h'.IsList s₂.heap.objs.size (List.toArray ys)) (a4 : J i ys h') (a5 : ys.length ≤ i) (a6 : i ≤ n) (a7 : k = n + 1 - i) (a8 : s₂.heap.objs.size + 2 ≤ h'.objs.size) (a9 : (∀ b o, b ∉ wr → b ≠ I → s₂.heap.get? b = some o → h'.get? b = some o)) : CInv s₂ I n St wr J k s' := ⟨h', d', tk, m, i, ys, a0, a1, a2, a3, a4, a5, a6, a7, a8, a9⟩
theorem CInv.elim {P : Prop} {s₂ : Shared} {I : Addr} {n : Nat} {St : Nat → Heap → Prop} {wr : List Addr} {J : Nat → List Value → Heap → Prop} {k : Nat} {s' : Shared} (x : CInv s₂ I n St wr J k s') (f : ∀ (h' : Heap) (d' : Drawn) (tk : Nat) (m : Str → Option Value) (i : Nat) (ys : List Value), s' = { s₂ with heap := h', drawn := d', toks := tk } → St i h' → h'.Ns (s₂.heap.objs.size + 1) m → h'.IsList s₂.heap.objs.size (List.toArray ys) → J i ys h' → ys.length ≤ i → i ≤ n → k = n + 1 - i → s₂.heap.objs.size + 2 ≤ h'.objs.size → (∀ b o, b ∉ wr → b ≠ I → s₂.heap.get? b = some o → h'.get? b = some o) → P) : P := by
  obtain ⟨h', d', tk, m, i, ys, a0, a1, a2, a3, a4, a5, a6, a7, a8, a9⟩ := x
  exact f h' d' tk m i ys a0 a1 a2 a3 a4 a5 a6 a7 a8 a9
theorem comp_core {elt target iter : PySem.Expr} {ifs : List PySem.Expr} {scope : Scope} {cl : List (Str × Addr)} {pos : Pos} {RR : Value → Addr → Result → Shared → Prop} (ld : Value → (Str → Option Value) → Prop)
    {s₂ : Shared} {I : Addr} {fp : List Addr} {n : Nat} {P : Nat → Value → Prop} {St : Nat → Heap → Prop} {wr : List Addr} {J : Nat → List Value → Heap → Prop}
    (hcell : ∀ y ∈ scope.names, y.2 ≠ .cell) (hkind : scope.kind = .function)
    (W : Walks prog w A I fp [I] n P St) (hsz : n ≤ sizeLine) (hst : St 0 s₂.heap) (hfp : ∀ b ∈ fp, b < s₂.heap.objs.size)
    (hwr : ∀ b ∈ wr, b ∉ fp ∧ b < s₂.heap.objs.size) (ok : CompJ prog w A env scope cl target elt ifs ld P wr J St I n s₂)
    (hRR : ∀ h' d' tk m (ys : List Value), h'.Ns (s₂.heap.objs.size + 1) m → h'.IsList s₂.heap.objs.size ys.toArray → J n ys h' → ys.length ≤ n → (∀ b o, b ∉ wr → b ≠ I → s₂.heap.get? b = some o → h'.get? b = some o) →
      RR (.ref s₂.heap.objs.size) (s₂.heap.objs.size + 1) (.ok .next) { s₂ with heap := h', drawn := d', toks := tk }) :
    wpAny (model prog w) A (newList []) (fun acc s₃ => wpAny (model prog w) A (newFunctionEnv scope env.globals cl [] env.qual none .none (some env)) (fun cenv s₄ =>
      codeAny (model prog w) A (.compStart (.ListComp elt [⟨target, iter, ifs, 0⟩] scope pos) 0 (.ref I) acc { cenv with scope := relabel scope env }) (RR acc cenv.locals) s₄) E s₃) E s₂ := by
  have hIf : I ∈ fp := W.sub I (by simp)
  have hIlt := hfp I hIf
  refine wpAny_newObj_type (wpAny_newFunctionEnv hcell (by intro y hy; simp at hy) (fun h₁ hns₁ hsb₁ => ?_) hkind)
  dsimp only at hns₁ hsb₁ ⊢
  rw [Heap.size_push] at hns₁ hsb₁ ⊢
  have old : ∀ b o, s₂.heap.get? b = some o → h₁.get? b = some o := fun b o e => hsb₁.extBut b o (Nat.ne_of_lt (Nat.lt_succ_of_lt (Heap.lt_size e))) (Heap.get?_push_of_some _ (Heap.get?_push_of_some _ e))
  have hacc : h₁.IsList s₂.heap.objs.size #[] := ⟨_, hsb₁.extBut _ _ (Nat.ne_of_lt (Nat.lt_succ_self _)) (Heap.get?_push_of_some _ (Heap.get?_push_size _ rfl)), rfl, _, rfl⟩
  have hst₁ : St 0 h₁ := W.frame _ _ _ hst fun b _ o e => old b o e
  have hsz₁ : s₂.heap.objs.size + 2 ≤ h₁.objs.size := by
    obtain ⟨oC, _, _, hC, _⟩ := hns₁
    exact Heap.lt_size hC
  have hJ₁ : J 0 [] h₁ := ok.stable _ _ _ _ (fun b o _ _ _ e => old b o e) ok.start
  have hDf : s₂.heap.objs.size ∉ fp := fun hm => Nat.lt_irrefl _ (hfp _ hm)
  have hCf : s₂.heap.objs.size + 1 ∉ fp := fun hm => Nat.lt_irrefl _ (Nat.lt_of_succ_lt (hfp _ hm))
  have hDw : s₂.heap.objs.size ∉ wr := fun hm => Nat.lt_irrefl _ (hwr _ hm).2
  have hCw : s₂.heap.objs.size + 1 ∉ wr := fun hm => Nat.lt_irrefl _ (Nat.lt_of_succ_lt (hwr _ hm).2)
  have hIw : I ∉ wr := fun hm => (hwr _ hm).1 hIf
  have loop : ∀ s₃ : Shared, s₃ = { s₂ with heap := h₁, toks := s₂.toks + ([] : List (Str × Value)).length } →
      codeAny (model prog w) A (.compLoop (.ListComp elt [⟨target, iter, ifs, 0⟩] scope pos) 0 (.ref I) (.ref s₂.heap.objs.size) (compEnvC scope cl (s₂.heap.objs.size + 1) env))
        (RR (.ref s₂.heap.objs.size) (s₂.heap.objs.size + 1)) s₃ := by
    rintro s₃ rfl
    refine loop_go (CInv s₂ I n St wr J) ?_ (n + 1) (CInv.intro (k := n + 1) h₁ s₂.drawn _ _ 0 [] rfl hst₁ hns₁ hacc hJ₁ (Nat.le_refl _) (Nat.zero_le _) rfl hsz₁ fun b o _ _ e => old b o e)
    intro k s' hx
    refine hx.elim fun h' d' tk m i ys ex1 st hn hl hJ hyl hi ex2 hszn hk => ?_
    subst ex1
    subst ex2
    clear hx
    rcases Nat.lt_or_ge i n with hlt | hge
    · refine W.item i _ _ _ hlt st fun v h₂ tk₂ hv st₂ hk₂ => ?_
      dsimp only at hk₂ ⊢
      have neI : ∀ b, b ≠ I → b ∉ [I] := fun b hb => by simp [hb]
      have hCI : s₂.heap.objs.size + 1 ≠ I := fun q => hCf (q ▸ hIf)
      have hDI : s₂.heap.objs.size ≠ I := fun q => hDf (q ▸ hIf)
      have hn₂ : h₂.Ns (s₂.heap.objs.size + 1) m := hn.at' fun o e => hk₂ _ o (neI _ hCI) e
      have hk₂' : ∀ b o, b ∉ wr → b ≠ I → s₂.heap.get? b = some o → h₂.get? b = some o := fun b o b1 b2 e => hk₂ b o (neI _ b2) (hk b o b1 b2 e)
      refine ok.bind i v h₂ d' tk₂ _ _ m hlt hv st₂ hk₂' hn₂ fun h₃ tk₃ m₃ hn₃ hld₃ sb₃ => ?_
      have st₃ : St (i + 1) h₃ := W.frame _ _ _ st₂ fun b hb o e => sb₃ b o (fun q => hCf (q ▸ hb)) e
      have hl₃ : h₃.IsList s₂.heap.objs.size (List.toArray ys) := (hl.at fun o e => sb₃ _ o (Nat.ne_of_lt (Nat.lt_succ_self _)) (hk₂ _ o (neI _ hDI) e))
      have hJ₃ : J i ys h₃ := ok.stable _ _ _ _ (fun b o b1 b2 b3 e => sb₃ b o b3 (hk₂ b o (neI _ b1) e)) hJ
      have hk₃ : ∀ b o, b ∉ wr → b ≠ I → s₂.heap.get? b = some o → h₃.get? b = some o := fun b o b1 b2 e => sb₃ b o (fun q => by
        have := Heap.lt_size e; rw [q] at this; exact absurd this (Nat.not_lt.mpr (Nat.le_succ _))) (hk₂' b o b1 b2 e)
      have hsz₃ : s₂.heap.objs.size + 2 ≤ h₃.objs.size := by
        obtain ⟨oC, _, _, hC, _⟩ := hn₃
        exact Heap.lt_size hC
      refine wpAny_mono (ok.turn i v h₃ d' tk₃ m₃ ys _ hlt hv hk₃ hsz₃ hn₃ hld₃ hJ₃ hyl) (fun b s₄ hb => ?_) fun _ _ e => e
      cases b with
      | false =>
        obtain ⟨h₅, d₅, tk₅, rfl, hk₅, hJ₅⟩ := hb
        refine ⟨n + 1 - (i + 1), nlt hlt, CInv.intro h₅ d₅ tk₅ m₃ (i + 1) ys rfl ?_ (hn₃.at' fun o e => hk₅ _ o hCw e) (hl₃.at fun o e => hk₅ _ o hDw e) hJ₅ (Nat.le_succ_of_le hyl) hlt rfl ?_ fun b o b1 b2 e => hk₅ b o b1 (hk₃ b o b1 b2 e)⟩
        · exact W.frame _ _ _ st₃ fun b hb o e => hk₅ b o (fun q => (hwr _ q).1 hb) e
        · obtain ⟨oC, _, _, hC, _⟩ := hn₃
          exact Heap.lt_size (hk₅ _ _ hCw hC)
      | true =>
        refine wpAny_mono hb (fun y s₅ hy => ?_) fun _ _ e => e
        obtain ⟨h₅, d₅, tk₅, rfl, hk₅, hJ₅⟩ := hy
        have hl₅ : h₅.IsList s₂.heap.objs.size (List.toArray ys) := hl₃.at fun o e => hk₅ _ o hDw e
        refine wpAny_list_append hl₅ (fun h₆ hl₆ sb₆ => ?_) (by simp; omega)
        refine ⟨n + 1 - (i + 1), nlt hlt, CInv.intro h₆ d₅ _ m₃ (i + 1) (ys ++ [y]) rfl ?_ ?_ (by simpa using hl₆) ?_ (by rw [List.length_append]; exact Nat.add_le_add_right hyl 1) hlt rfl ?_ fun b o b1 b2 e => sb₆.extBut b o (Nat.ne_of_lt (Heap.lt_size e)) (hk₅ b o b1 (hk₃ b o b1 b2 e))⟩
        · exact W.frame _ _ _ st₃ fun b hb o e => sb₆.extBut b o (fun q => hDf (q ▸ hb)) (hk₅ b o (fun q => (hwr _ q).1 hb) e)
        · exact hn₃.at' fun o e => sb₆.extBut _ o (Nat.ne_of_gt (Nat.lt_succ_self _)) (hk₅ _ o hCw e)
        · exact ok.stable _ _ _ _ (fun b o b1 b2 b3 e => sb₆.extBut b o b2 e) hJ₅
        · obtain ⟨oC, _, _, hC, _⟩ := hn₃
          exact Heap.lt_size (sb₆.extBut _ _ (Nat.ne_of_gt (Nat.lt_succ_self _)) (hk₅ _ _ hCw hC))
    · have hin : i = n := Nat.le_antisymm hi hge
      subst hin
      refine W.done _ _ _ st fun h₂ tk₂ hk₂ => ?_
      dsimp only at hk₂ ⊢
      have neI : ∀ b, b ≠ I → b ∉ [I] := fun b hb => by simp [hb]
      have hCI : s₂.heap.objs.size + 1 ≠ I := fun q => hCf (q ▸ hIf)
      have hDI : s₂.heap.objs.size ≠ I := fun q => hDf (q ▸ hIf)
      exact hRR h₂ d' tk₂ m ys (hn.at' fun o e => hk₂ _ o (neI _ hCI) e) (hl.at fun o e => hk₂ _ o (neI _ hDI) e) (ok.stable _ _ _ _ (fun b o b1 b2 b3 e => hk₂ b o (neI _ b1) e) hJ) hyl
        fun b o b1 b2 e => hk₂ b o (neI _ b2) (hk b o b1 b2 e)
  exact codeAny_compStart_list (loop _ rfl) (W.self 0 _ _ _ hst₁ (loop _ rfl))

theorem comp_inv {s : Shared} {elt target iter : Expr} {ifs : List Expr} {scope : Scope} {cl : List (Str × Addr)} {pos : Pos} {Q : Value → Shared → Prop} (ld : Value → (Str → Option Value) → Prop)
    (hclos : closureFor scope env = pure cl) (hcell : ∀ y ∈ scope.names, y.2 ≠ .cell) (hkind : scope.kind = .function)
    (hnames : ∀ y ∈ scope.names, y.2 = .local → scope.names.lookup y.1 = some .local) (ht : ∀ it v, letOwnedTupleGo target it v = pure ())
    (h : wpAny (model prog w) A (eval iter env) (fun xv s₁ => wpAny (model prog w) A (pyIter xv) (fun it s₂ => ∃ I fp n P St wr J, it = .ref I ∧ Walks prog w A I fp [I] n P St ∧ n ≤ sizeLine ∧ St 0 s₂.heap ∧ (∀ b ∈ fp, b < s₂.heap.objs.size) ∧
      (∀ b ∈ wr, b ∉ fp ∧ b < s₂.heap.objs.size) ∧ CompOk prog w A env scope cl target elt ifs ld P wr J I n s₂ ∧
      (∀ h' d' tk (ys : List Value), h'.IsList s₂.heap.objs.size ys.toArray → J n ys h' → ys.length ≤ n → (∀ b o, b ∉ wr → b ≠ I → s₂.heap.get? b = some o → h'.get? b = some o) → Q (.ref s₂.heap.objs.size) { s₂ with heap := h', drawn := d', toks := tk })) E s₁) E s)
    (hs : ∀ x, foldedSetIterable iter env x = pure x := by intro _; rfl) :
    wpAny (model prog w) A (eval (.ListComp elt [⟨target, iter, ifs, 0⟩] scope pos) env) Q E s := by
  rw [eval_ListComp]
  refine wpAny_comprehension_free (use := none) rfl hs hclos hkind hnames (wpAny_mono h (fun xv s₁ h₁ => wpAny_mono h₁ (fun it s₂ h₂ => ?_) fun _ _ e => e) fun _ _ e => e)
  obtain ⟨I, fp, n, P, St, wr, J, rfl, W, hsz, hst, hfp, hwr, ok, hQ⟩ := h₂
  refine comp_core (RR := fun acc C => compPost (model prog w) A E none Q acc C) ld hcell hkind W hsz hst hfp hwr ⟨ok.start, ok.stable, ?_, ok.turn⟩ ?_
  · intro i v h d tk E' Q' m hi hv st hk hn hQ'
    rw [ht]
    exact wpAny_pure (ok.bind i v h d tk E' Q' m hi hv hn fun h' tk' m' a b c => hQ' h' tk' m' a b fun b o hb e => c.extBut b o hb e)
  · intro h' d' tk m ys hn hl hJ hyl hk
    refine ⟨m, hn, fun h₃ sb₃ => ?_⟩
    exact hQ h₃ d' tk ys (hl.at fun o e => sb₃.extBut _ o (Nat.ne_of_lt (Nat.lt_succ_self _)) e) (ok.stable _ _ _ _ (fun b o b1 b2 b3 e => sb₃.extBut b o b3 e) hJ) hyl
      fun b o b1 b2 e => sb₃.extBut b o (fun q => by have := Heap.lt_size e; rw [q] at this; exact absurd this (Nat.not_lt.mpr (Nat.le_succ _))) (hk b o b1 b2 e)
end
end Mine
end

section
open PySem PySem.W PyProof.Rows
set_option Elab.async false
set_option maxRecDepth 100000
namespace Mine
noncomputable def Stop (p : Prop) : Prop := p
theorem stop_here {p : Prop} (h : Stop p) : p := h
theorem Stop.go {p : Prop} (h : Stop p) : p := h
theorem wp_gen {M : Model} {A : Around} {E : Value → Shared → Prop} {s : Shared} {α : Type} {x : Sem α} {Q : α → Shared → Prop} (h : ∀ Q1 : α → Shared → Prop, (∀ a s', Q a s' → Q1 a s') → wpAny M A x Q1 E s) : wpAny M A x Q E s := h Q fun _ _ q => q
theorem wp_gen2 {M : Model} {A : Around} {E : Value → Shared → Prop} {s : Shared} {α : Type} {x : Sem α} {Q : α → Shared → Prop} (h : ∀ (Q1 : α → Shared → Prop) (E1 : Value → Shared → Prop), Stop (∀ a s', Q a s' → Q1 a s') → Stop (∀ e s', E e s' → E1 e s') → wpAny M A x Q1 E1 s) : wpAny M A x Q E s := h Q E (fun _ _ q => q) fun _ _ q => q
/-! small bounds, said once -/
theorem lt0 {a m c : Nat} (h : a + m < c) : a < c := Nat.lt_of_le_of_lt (Nat.le_add_right a m) h
theorem ltl {a n m c : Nat} (h : a + m < c) (k : n ≤ m) : a + n < c := Nat.lt_of_le_of_lt (Nat.add_le_add_left k a) h
theorem ltd {A : Around} {env : Env} {n m c : Nat} (h : A.depth + m < c) (k : 1 + n ≤ m) : (A.deeper env).depth + n < c := by
  show A.depth + 1 + n < c
  rw [Nat.add_assoc]
  exact ltl h k
theorem ltu {A : Around} {env : Env} {n m c : Nat} (h : A.units + m < c) (k : 3 + n ≤ m) : (A.deeper env).units + n < c := by
  show A.units + 3 + n < c
  rw [Nat.add_assoc]
  exact ltl h k
theorem lt_eq {a b c : Nat} (h : a < b) (e : c = b) : a < c := e ▸ h
theorem nil_lt {α : Type} {n m : Nat} (h : n ≤ m) (k : m < 800) : ([] : List α).length + n < 800 := by
  rw [List.length_nil, Nat.zero_add]; exact Nat.lt_of_le_of_lt h k
theorem fold1 {a b i n : Nat} (h : a ≤ b) (h' : b ≤ i) (hi : i < n) (hb : n < 700) : a + 1 < 800 := Nat.lt_of_le_of_lt (Nat.succ_le_of_lt (Nat.lt_of_le_of_lt (Nat.le_trans h h') hi)) (Nat.lt_trans hb (by decide))
theorem c1i {i v k : Nat} (h : i < v) (e : v = k) (b : k < 900) : 1 + i < 100000 := Nat.lt_of_le_of_lt (Nat.add_le_add_left (Nat.le_trans (Nat.le_of_lt h) (e ▸ Nat.le_of_lt b)) 1) (by decide)
theorem szl {n m : Nat} (h : n ≤ m) (k : m ≤ 10000) : n ≤ sizeLine := Nat.le_trans h (Nat.le_trans k (by decide))
theorem in1 {α : Type} {q : α → Prop} {a : α} (h : q a) : ∀ p, p ∈ [a] → q p := fun p hp => by cases hp with | head => exact h | tail _ x => cases x
theorem in2 {α : Type} {q : α → Prop} {a b : α} (h : q a) (h' : q b) : ∀ p, p ∈ [a, b] → q p := fun p hp => by
  cases hp with
  | head => exact h
  | tail _ x => exact in1 h' p x
theorem szd {u v U a j : Nat} (h1 : u = U) (h2 : v = a) (h3 : U ≤ a) (h4 : a < 900) : u + (v - j) ≤ sizeLine :=
  Nat.le_trans (Nat.add_le_add (Nat.le_of_eq h1) (Nat.le_trans (Nat.sub_le v j) (Nat.le_of_eq h2))) (Nat.le_trans (Nat.add_le_add (Nat.le_trans h3 (Nat.le_of_lt h4)) (Nat.le_of_lt h4)) (by decide))
theorem i63 {i n : Nat} (h : i < n) (k : n < 10000) : ((i : Nat) : Int) < 2 ^ 63 := by omega
theorem i63s {i n : Nat} (h : i < n) (k : n < 10000) : ((i : Nat) : Int) + 1 < 2 ^ 63 := by omega
theorem i63e {i n : Nat} (h : i ≤ n) (k : n < 10000) : ((i : Nat) : Int) < 2 ^ 63 := by omega
theorem i0s (i : Nat) : (0 : Int) ≤ (i : Int) + 1 := by omega
theorem tn {j : Int} {n m : Nat} (h0 : 0 ≤ j) (h : j < n) (e : m = n) : j.toNat < m := (Int.toNat_lt h0).mpr (e.symm ▸ h)
theorem j63 {j : Int} {n : Nat} (h : j < n) (k : n < 1000) : j < 2 ^ 63 := by omega
theorem zz0 (i : Nat) : 0 ≤ 0 + ((i : Nat) : Int) := by omega
theorem zz63 {i n : Nat} (h : i < n) (k : n < 10000) : 0 + ((i : Nat) : Int) < 2 ^ 63 := by omega
theorem lt22 (i : Nat) : i < 2 + 2 * i := by omega
theorem out0 {a c i : Nat} (e : c = a) (h : ¬ i < a) : (c : Int) ≤ (i : Int) := by omega
theorem out1 {a c i : Nat} (e : c = a) (h : ¬ i + 1 < a) : (c : Int) ≤ (i : Int) + 1 := by omega
theorem mdec {n k k' : Nat} (h : k < k') (h' : k < n) : n - k' < n - k := Nat.sub_lt_sub_left h' h
noncomputable abbrev PR : Program := PySem.Challenge.rw_of0017_01.row.prog
noncomputable abbrev LO : List Str := looseW hd.view_39 [Str.ofString "_initial_missing", Str.ofString "reduce"]

noncomputable def Kept (h h' : Heap) : Prop := ∀ b o, h.get? b = some o → h'.get? b = some o
theorem Kept.refl (h : Heap) : Kept h h := fun _ _ e => e
theorem Kept.trans {a b c : Heap} (x : Kept a b) (y : Kept b c) : Kept a c := fun p o e => y p o (x p o e)
theorem Kept.lst {h h' : Heap} (k : Kept h h') {l : Addr} {vs : Array Value} (x : h.IsList l vs) : h'.IsList l vs := by
  obtain ⟨o, e, r⟩ := x
  exact ⟨o, k _ _ e, r⟩

section
variable {prog : Program} {w : World} {A : Around} {s : Shared} {h₀ : Heap} {news : List (Addr × Obj)} {K : Frag} {p : Program} {loose : List Str} {mean : ExcName → Option Value} {mg mb : Str → Option Value}
  {R : Result → Shared → Prop} {name qual : Str} {params : Arguments} {body : List Stmt} {scope : Scope} {dV kV doc pm cdv ct oc : Value} {an od : Option Addr} {osl : Array (Option Value)} {f : Addr} {args : Args} {binds : List (Str × Value)}

theorem enterP (hk₀ : Kept h₀ s.heap) (hsz : h₀.objs.size ≤ s.heap.objs.size) (hnews : ∀ q ∈ news, s.heap.get? q.1 = some q.2 ∧ h₀.get? q.1 = none)
    (X : K.In h₀) (T : Top p loose mean mg mb h₀)
    (ho : K.lookup f = some ⟨oc, od, .func (fnOf name qual params body scope dV kV doc pm an cdv ct), osl⟩) (hcd : codeIn K cdv qual = true) (hroom : A.depth < recursionLimit)
    (hbind : BindsTo s (fnOf name qual params body scope dV kV doc pm an cdv ct) args binds) (hloc : ∀ y ∈ binds, scope.names.lookup y.1 = some .local)
    (hco : scope.isCoroutine = false) (hgen : scope.isGenerator = false) (hk : scope.kind = .function)
    (hcell : ∀ x ∈ scope.names, x.2 ≠ .cell)
    (h : ∀ L h₁, Fr h₀ L h₁ (fun y => binds.reverse.lookup y) → News h₀ L h₁ news → Kept s.heap h₁ → s.heap.objs.size = L →
      wpAny (model prog w) (A.deeper (envOf qual scope L f cdv)) (execs body (envOf qual scope L f cdv))
        (fun fl s' => R (.ok (.ret (match fl with | .ret v => v | _ => .none))) s')
        (fun e s' => wpAny (model prog w) (A.deeper (envOf qual scope L f cdv)) (leaving (envOf qual scope L f cdv) e) (fun _ s'' => R (.error e) s'') (fun e' s'' => R (.error e') s'') s')
        { s with heap := h₁, toks := s.toks + binds.length }) :
    codeAny (model prog w) A (.call (.ref f) args) R s := by
  have X' := X.keeps hk₀
  refine codeAny_call_def (fd := fnOf name qual params body scope dV kV doc pm an cdv ct) (body := body) (binds := binds) hroom (X' _ _ ho) rfl (T.nolimit.keeps hk₀) (codeRec_of X' hcd) rfl hbind hcell hloc (fun h₁ hns hk₁ => ?_) hco hgen hk
  exact h s.heap.objs.size h₁ ⟨hns, fun b o e => hk₁ b o (hk₀ b o e), hsz⟩
    (fun q hq => ⟨hk₁ _ _ (hnews q hq).1, Nat.ne_of_lt (Heap.lt_size (hnews q hq).1), (hnews q hq).2⟩) (fun b o e => hk₁ b o e) rfl

theorem enterC (hk₀ : Kept h₀ s.heap) (hsz : h₀.objs.size ≤ s.heap.objs.size) (hnews : ∀ q ∈ news, s.heap.get? q.1 = some q.2 ∧ h₀.get? q.1 = none)
    (X : K.In h₀) (T : Top p loose mean mg mb h₀)
    (ho : K.lookup f = some ⟨oc, od, .func (fnOf name qual params body scope dV kV doc pm an cdv ct), osl⟩) (hcd : codeIn K cdv qual = true) (hroom : A.depth < recursionLimit)
    (hbind : BindsTo s (fnOf name qual params body scope dV kV doc pm an cdv ct) args binds) (hkind : (binds.all fun y => scope.names.lookup y.1 == some .local || scope.names.lookup y.1 == some .cell) = true)
    (hnd : ((cellsFrom 0 scope.names []).map (·.1)).Nodup)
    (hco : scope.isCoroutine = false) (hgen : scope.isGenerator = false) (hk : scope.kind = .function)
    (h : ∀ L h₁ tk cells, Fr h₀ L h₁ (bindL (envOfC qual scope L f cdv).kindOf binds fun _ => none) → News h₀ L h₁ (cells ++ news) →
      CellsAre (bindC (envOfC qual scope L f cdv).kindOf binds fun _ => none) (cellsFrom (L + 1) scope.names []) cells → Kept s.heap h₁ → s.heap.objs.size = L →
      wpAny (model prog w) (A.deeper (envOfC qual scope L f cdv)) (execs body (envOfC qual scope L f cdv))
        (fun fl s' => R (.ok (.ret (match fl with | .ret v => v | _ => .none))) s')
        (fun e s' => wpAny (model prog w) (A.deeper (envOfC qual scope L f cdv)) (leaving (envOfC qual scope L f cdv) e) (fun _ s'' => R (.error e) s'') (fun e' s'' => R (.error e') s'') s')
        { s with heap := h₁, toks := tk }) :
    codeAny (model prog w) A (.call (.ref f) args) R s := by
  have X' := X.keeps hk₀
  refine codeAny_call_function hroom (X' _ _ ho) rfl hco hgen rfl (codeRec_of X' hcd) (hbind _ _ _ _ ?_)
  refine wpAny_newFunctionEnv_cells hk (kindsX hkind _) fun env' he s' x => ?_
  subst he
  refine ⟨(T.nolimit.keeps hk₀).keeps x.toInCall.keep, codeAny_func ?_⟩
  obtain ⟨h₁, tk, rfl, _⟩ := x.done
  have hk₁ := x.toInCall.keep
  obtain ⟨cells, NC, Y⟩ := Cl.news (h₀ := s.heap) (Nat.le_refl _) fun n c hm => ⟨x.cell n c (lookup_of_mem_nodup (cellsFrom_names scope.names 0 (s.heap.objs.size + 1) [] [] rfl ▸ hnd) hm), x.above n c hm⟩
  refine h s.heap.objs.size h₁ tk cells ⟨x.toInCall.ns, fun b o e => hk₁ b o (hk₀ b o e), hsz⟩ (fun q hq => ?_) Y (fun b o e => hk₁ b o e) rfl
  rcases List.mem_append.mp hq with hq | hq
  · refine ⟨(NC q hq).1, (NC q hq).2.1, ?_⟩
    cases e : h₀.get? q.1 with
    | none => rfl
    | some o => have := hk₀ _ _ e; rw [(NC q hq).2.2] at this; cases this
  · exact ⟨hk₁ _ _ (hnews q hq).1, Nat.ne_of_lt (Heap.lt_size (hnews q hq).1), (hnews q hq).2⟩
end
end Mine
end

section
open PySem PySem.W PyProof.Rows
set_option Elab.async false
set_option maxRecDepth 100000
namespace Mine
theorem fill_it (w : World) (h : Heap) : (hd.heap_39 w.params).In h → PySem.Challenge.rw_of0017_01.foot = 6 := by
  k_fill
  intro _
  rfl
theorem fr_kept {h₀ h h' : Heap} {L : Addr} {m : Str → Option Value} (F : Fr h₀ L h m) (k : ∀ b o, h.get? b = some o → h'.get? b = some o) : Fr h₀ L h' m :=
  ⟨F.ns.keeps k, fun b o e => k b o (F.keep b o e), F.above⟩
theorem news_kept {h₀ h h' : Heap} {L : Addr} {news : List (Addr × Obj)} (N : News h₀ L h news) (k : ∀ b o, h.get? b = some o → h'.get? b = some o) : News h₀ L h' news :=
  fun p hp => ⟨k _ _ (N p hp).1, (N p hp).2⟩
theorem fr_lt {h₀ h : Heap} {L : Addr} {m : Str → Option Value} (F : Fr h₀ L h m) : L < h.objs.size := by
  obtain ⟨oL, _, _, hL, _⟩ := F.ns
  exact Heap.lt_size hL
theorem fresh_none {h₀ h : Heap} (k : ∀ b o, h₀.get? b = some o → h.get? b = some o) {a : Addr} (ha : h.objs.size ≤ a) : h₀.get? a = none := by
  cases q : h₀.get? a with
  | none => rfl
  | some o => exact absurd (Heap.lt_size (k _ _ q)) (Nat.not_lt.mpr ha)
theorem news_cons {h₀ h h' : Heap} {L : Addr} {m : Str → Option Value} {news : List (Addr × Obj)} {a : Addr} {o : Obj} (F : Fr h₀ L h m) (N : News h₀ L h news) (k : ∀ b o, h.get? b = some o → h'.get? b = some o) (ha : h.objs.size ≤ a) (ho : h'.get? a = some o) :
    News h₀ L h' ((a, o) :: news) := fun p hp => by
  rcases List.mem_cons.mp hp with rfl | hp
  · exact ⟨ho, Nat.ne_of_gt (Nat.lt_of_lt_of_le (fr_lt F) ha), fresh_none F.keep ha⟩
  · exact news_kept N k p hp

noncomputable def SObj (prog : Program) (w : World) (o : Obj) (S : Str → Bool) (n : Nat) : Prop := ∀ h a, h.get? a = some o → SSetW prog w h a S n
theorem SSetW.obj {prog : Program} {w : World} {h : Heap} {a : Addr} {S : Str → Bool} {n : Nat} (x : SSetW prog w h a S n) : ∃ o, h.get? a = some o ∧ SObj prog w o S n := by
  obtain ⟨o, es, ep, t, ho, r⟩ := x
  exact ⟨o, ho, fun h' a' e => ⟨o, es, ep, t, e, r⟩⟩

section
variable {prog : Program} {w : World} {A : Around} {E : Value → Shared → Prop} {s : Shared} {h₀ : Heap} {L : Addr} {m : Str → Option Value} {news : List (Addr × Obj)}
theorem set_strs_N {l : Addr} {vs : List Value} {ks : List Str} {Q : Value → Shared → Prop} (F : Fr h₀ L s.heap m) (N : News h₀ L s.heap news)
    (hh : A.handled = none) (hl : h₀.IsList l vs.toArray) (hi : StrsAre vs ks) (hb : ks.length + 1 < scanBound)
    (h : ∀ a h' (tk : Nat) o, Fr h₀ L h' m → News h₀ L h' ((a, o) :: news) → SObj prog w o (fun x => decide (x ∈ ks)) ks.length → (∀ p ∈ news, p.1 < a) → Q (.ref a) { s with heap := h', toks := tk }) :
    wpAny (model prog w) A (call (.type "set") [.ref l]) Q E s := by
  refine call_set_strs hh (Kept.lst F.keep hl) (by simpa using hi) hb fun h' tk hS hk => ?_
  obtain ⟨o, ho, hso⟩ := hS.weak.obj
  exact h _ h' tk o (fr_kept F hk) (news_cons F N hk (Nat.le_refl _) ho) hso fun p hp => Heap.lt_size (N p hp).1
theorem set_none_N {Q : Value → Shared → Prop} (F : Fr h₀ L s.heap m) (N : News h₀ L s.heap news)
    (h : ∀ h' o, Fr h₀ L h' m → News h₀ L h' ((s.heap.objs.size, o) :: news) → SObj prog w o (fun _ => false) 0 → Q (.ref s.heap.objs.size) { s with heap := h' }) :
    wpAny (model prog w) A (call (.type "set") []) Q E s :=
  newSet_N F N fun h' _ F' N' => h h' _ F' N' fun _ _ e => .fresh e
end


noncomputable def cov (ks : List Str) (n : Str) : Bool := ks.any fun m => decide (n = m) || Txt.startswith n (m ++ Str.ofString ".")
noncomputable def cv (ks : List Str) (n : Str) : Int := if cov ks n then 1 else 0
noncomputable abbrev rdDict (w : World) (t1 t2 t3 : Tok) (ms ds ig : Addr) : Obj :=
  dictOf [{ hash := PyData.keyHash w.params (Str.ofString "_mods"), key := .str (Str.ofString "_mods") t1, val := .ref ms },
    { hash := PyData.keyHash w.params (Str.ofString "_dirs"), key := .str (Str.ofString "_dirs") t2, val := .ref ds },
    { hash := PyData.keyHash w.params (Str.ofString "_ignore"), key := .str (Str.ofString "_ignore") t3, val := .ref ig }] 3
noncomputable def RdrAt (w : World) (b : Nat) (h : Heap) (x ig : Addr) (ks : List Str) : Prop :=
  ∃ dx ms ds t1 t2 t3 oms n, h.get? x = some (instObj 95 dx) ∧ h.get? dx = some (rdDict w t1 t2 t3 ms ds ig) ∧ h.get? ms = some oms ∧ SObj PR w oms (fun y => decide (y ∈ ks)) ks.length ∧ h.get? ds = some (listOf #[] n) ∧
    x ≠ ig ∧ dx ≠ ig ∧ ms ≠ ig ∧ ds ≠ ig ∧ b ≤ x ∧ b ≤ dx ∧ b ≤ ms ∧ b ≤ ds ∧ b ≤ ig
theorem RdrAt.intro {w : World} {b : Nat} {h : Heap} {x ig : Addr} {ks : List Str} {dx ms ds : Addr} {t1 t2 t3 : Tok} {oms : Obj} {n : Nat} (a0 : h.get? x = some (instObj 95 dx)) (a1 : h.get? dx = some (rdDict w t1 t2 t3 ms ds ig)) (a2 : h.get? ms = some oms) (a3 : SObj PR w oms (fun y => decide (y ∈ ks)) ks.length) (a4 : h.get? ds = some (listOf #[] n)) (a5 : x ≠ ig) (a6 : dx ≠ ig) (a7 : ms ≠ ig) (a8 : ds ≠ ig) (a9 : b ≤ x) (a10 : b ≤ dx) (a11 : b ≤ ms) (a12 : b ≤ ds) (a13 : b ≤ ig) : RdrAt w b h x ig ks :=
  ⟨dx, ms, ds, t1, t2, t3, oms, n, a0, a1, a2, a3, a4, a5, a6, a7, a8, a9, a10, a11, a12, a13⟩
theorem RdrAt.elim {P : Prop} {w : World} {b : Nat} {h : Heap} {x ig : Addr} {ks : List Str} (r : RdrAt w b h x ig ks) (k : ∀ dx ms ds t1 t2 t3 oms n, h.get? x = some (instObj 95 dx) → h.get? dx = some (rdDict w t1 t2 t3 ms ds ig) → h.get? ms = some oms → SObj PR w oms (fun y => decide (y ∈ ks)) ks.length → h.get? ds = some (listOf #[] n) → x ≠ ig → dx ≠ ig → ms ≠ ig → ds ≠ ig → b ≤ x → b ≤ dx → b ≤ ms → b ≤ ds → b ≤ ig → P) : P := by
  obtain ⟨dx, ms, ds, t1, t2, t3, oms, n, c0, c1, c2, c3, c4, c5, c6, c7, c8, c9, c10, c11, c12, c13⟩ := r
  exact k _ _ _ _ _ _ _ _ c0 c1 c2 c3 c4 c5 c6 c7 c8 c9 c10 c11 c12 c13
noncomputable def IgAt (w : World) (h : Heap) (ig : Addr) (ks : List Str) (c : Nat) : Prop :=
  (ig == sysModules) = false ∧ ∃ kvs, h.DictOf (PySem.strKind PR w) ig kvs ∧ kvs.length ≤ c ∧ ∀ p ∈ kvs, p.1 ≠ Str.ofString "<string>" → ∃ t, p.2 = .int (cv ks p.1) t

set_option pp.deepTerms false
set_option pp.deepTerms.threshold 6
set_option maxHeartbeats 4000000
theorem mk_reader {w : World} {A : Around} {mg mb : Str → Option Value} {mean : ExcName → Option Value} 
    {s : Shared} {l : Addr} {vs : List Value} {ks : List Str} {Q E : Value → Shared → Prop}
    (X : (hd.heap_39 w.params).In s.heap) (T : Top hd.view_39 LO mean mg mb s.heap) 
    (hl : s.heap.IsList l vs.toArray) (hs : StrsAre vs ks) (hb : ks.length < 1000) (hd1 : A.depth + 10 < recursionLimit) (hh : A.handled = none)
    (hQ : ∀ x ig h' tk, Kept s.heap h' → RdrAt w s.heap.objs.size h' x ig ks → IgAt w h' ig ks 1 → Q (.ref x) { s with heap := h', toks := tk }) :
   wpAny (model PR w) A (call (.ref 95) [.ref l]) Q E s := by
  obtain ⟨h, g, d, t, os⟩ := s
  dsimp only at X T hl
  have hm : makesIn (hd.heap_39 w.params) 95 = true := by k_is
  refine' wpAny_call (make_core (makes_of X hm) (looks_findIn X ?k2) (fun self => bind_fn X self ?k3) (.inl rfl) ?_)
  case k2 => k_is
  case k3 => k_is
  have hk2 : ∀ b o, h.get? b = some o → ((h.push emptyDict).push (instObj 95 h.objs.size)).get? b = some o := fun b o e => Heap.get?_push_of_some _ (Heap.get?_push_of_some _ e)
  have N0 : ∀ q ∈ [(h.objs.size + 1, instObj 95 h.objs.size), (h.objs.size, emptyDict)], ((h.push emptyDict).push (instObj 95 h.objs.size)).get? q.1 = some q.2 ∧ h.get? q.1 = none := by
    intro q hq
    simp only [List.mem_cons, List.mem_nil_iff, or_false] at hq
    rcases hq with rfl | rfl
    · exact ⟨by rw [← Heap.size_push h emptyDict]; exact Heap.get?_push_size _ rfl, fresh_none (fun _ _ e => e) (Nat.le_succ _)⟩
    · exact ⟨Heap.get?_push_of_some _ (Heap.get?_push_size _ rfl), fresh_none (fun _ _ e => e) (Nat.le_refl _)⟩
  refine' enterP (h₀ := h) hk2 (by rw [Heap.size_push, Heap.size_push]; exact Nat.le_add_right _ 2) N0 X T ?k1 ?k2 ?k3 ?k4 ?k5 ?k6 ?k7 ?k8 ?k9 ?_
  case k1 => k_is
  case k2 => k_is
  case k3 => rw [depth_under_make]; exact ltl hd1 (by decide)
  case k4 => first | exact BindsTo.of_eq rfl | exact binds_K (X.keeps hk2) rfl (by k_is) rfl rfl rfl
  case k5 => exact locs rfl
  case k6 => rfl
  case k7 => rfl
  case k8 => rfl
  case k9 => decide
  intro L h₁ F N kk eL
  try dsimp only
  refine wp_gen2 fun Q1 E1 finT finE => ?_
  w_on
  k_steps
  refine wpAny_truthy_list (items := vs.toArray) (Kept.lst F.keep hl) ?_ ?_
  · rw [List.size_toArray, StrsAre.length hs]; exact i63 hb (by decide)
  have hh2 : ∀ e, ((A.under (Code.builtin "type.__call__" e)).deeper (envOf (Str.ofString "_Ignore.__init__") default L 85 (Value.ref 84))).handled = none := fun e => hh
  rcases Nat.eq_zero_or_pos vs.length with hz | hz
  · have hv : vs = [] := List.length_eq_zero_iff.mp hz
    subst hv
    rw [if_pos (by simp)]
    k_steps
    cases hs
    (with_reducible rename Fr _ _ _ _ => F')
    (with_reducible rename News _ _ _ _ => N')
    (with_reducible rename Obj.IsDictOf _ _ _ => hD)
    (with_reducible rename (_ == sysModules) = false => lo)
    (with_reducible rename (_ : Nat) < _ ∧ (_ : Nat) < _ => zA)
    (with_reducible rename (_ : Nat) < _ ∧ (_ : Nat) < _ ∧ (_ : Nat) < _ => zB)
    (with_reducible rename (_ : Nat) < _ ∧ (_ : Nat) < _ ∧ (_ : Nat) < _ ∧ (_ : Nat) < _ => zC)
    refine finT.go _ _ ⟨rfl, ?_⟩
    refine hQ _ _ _ _ F'.keep (RdrAt.intro (N' _ (.tail _ (.tail _ (.tail _ (.head _))))).1 (N' _ (.tail _ (.tail _ (.tail _ (.tail _ (.head _)))))).1 (N' _ (.tail _ (.tail _ (.head _)))).1 (fun _ _ e => (SSetW.fresh e).congr (fun k => by simp) (Nat.le_refl _)) (N' _ (.tail _ (.head _))).1 (Nat.ne_of_lt zC.2.2.1) (Nat.ne_of_lt zC.2.2.2) (Nat.ne_of_lt zC.2.1) (Nat.ne_of_lt zC.1) (Nat.le_succ _) (Nat.le_refl _) (Nat.le_of_lt zA.2) (Nat.le_of_lt zB.2.2) (Nat.le_of_lt zC.2.2.2))
      ⟨lo, _, Heap.dictOf_iff.mpr ⟨_, (N' _ (.head _)).1, hD⟩, by simp [strPairs], fun p hp hne => absurd (by simp [strPairs] at hp; rw [hp]) hne⟩
  · rw [if_neg (by simp; intro q; subst q; simp at hz)]
    k_steps
    refine set_strs_N F N hh hl hs (Nat.lt_of_le_of_lt hb (by decide)) ?_
    intro a' h' tk' o F' N' hso l1
    k_lt l1
    k_steps
    (with_reducible rename Fr _ _ _ _ => F')
    (with_reducible rename News _ _ _ _ => N')
    (with_reducible rename Obj.IsDictOf _ _ _ => hD)
    (with_reducible rename (_ == sysModules) = false => lo)
    (with_reducible rename (_ : Nat) < _ ∧ (_ : Nat) < _ => zA)
    (with_reducible rename (_ : Nat) < _ ∧ (_ : Nat) < _ ∧ (_ : Nat) < _ => zB)
    (with_reducible rename (_ : Nat) < _ ∧ (_ : Nat) < _ ∧ (_ : Nat) < _ ∧ (_ : Nat) < _ => zC)
    refine finT.go _ _ ⟨rfl, ?_⟩
    refine hQ _ _ _ _ F'.keep (RdrAt.intro (N' _ (.tail _ (.tail _ (.tail _ (.head _))))).1 (N' _ (.tail _ (.tail _ (.tail _ (.tail _ (.head _)))))).1 (N' _ (.tail _ (.tail _ (.head _)))).1 hso (N' _ (.tail _ (.head _))).1 (Nat.ne_of_lt zC.2.2.1) (Nat.ne_of_lt zC.2.2.2) (Nat.ne_of_lt zC.2.1) (Nat.ne_of_lt zC.1) (Nat.le_succ _) (Nat.le_refl _) (Nat.le_of_lt zA.2) (Nat.le_of_lt zB.2.2) (Nat.le_of_lt zC.2.2.2))
      ⟨lo, _, Heap.dictOf_iff.mpr ⟨_, (N' _ (.head _)).1, hD⟩, by simp [strPairs], fun p hp hne => absurd (by simp [strPairs] at hp; rw [hp]) hne⟩
end Mine
end

section
open PySem PySem.W PyProof.Rows
set_option Elab.async false
set_option maxRecDepth 100000
namespace Mine
theorem none_below {h : Heap} {a : Addr} (ha : h.objs.size ≤ a) : h.get? a = none := fresh_none (fun _ _ e => e) ha

theorem cov_true_of_mem {ks : List Str} {n k : Str} (hk : k ∈ ks) (h : n = k ∨ Txt.startswith n (k ++ Str.ofString ".") = true) : cv ks n = 1 := by
  unfold cv cov
  rw [if_pos]
  rw [List.any_eq_true]
  refine ⟨k, hk, ?_⟩
  rcases h with h | h
  · rw [decide_eq_true h]; rfl
  · rw [h, Bool.or_true]
theorem cov_false_of {ks : List Str} {n : Str} (hn : n ∉ ks) (h : ∀ k ∈ ks, Txt.startswith n (k ++ Str.ofString ".") = false) : cv ks n = 0 := by
  unfold cv cov
  rw [if_neg]
  rw [List.any_eq_true]
  rintro ⟨k, hk, hc⟩
  rw [h k hk, Bool.or_false] at hc
  exact hn (of_decide_eq_true hc ▸ hk)
theorem ig_stored {w : World} {h' : Heap} {ig : Addr} {ks : List Str} {c : Nat} {kvs : List (Str × Value)} {md : Str} {t : Tok} {v : Int} (i1 : (ig == sysModules) = false) (habs : kvs.any (fun kv => decide (kv.1 = md)) = false)
    (D' : h'.DictOf (PySem.strKind PR w) ig (stored kvs md (.int v t))) (hc : kvs.length ≤ c) (i4 : ∀ p ∈ kvs, p.1 ≠ Str.ofString "<string>" → ∃ t, p.2 = .int (cv ks p.1) t) (hv : cv ks md = v) : IgAt w h' ig ks (c + 1) := by
  refine ⟨i1, _, D', ?_, ?_⟩
  · unfold stored; rw [habs, if_neg Bool.false_ne_true, List.length_append]; exact Nat.add_le_add_right hc 1
  · unfold stored; rw [habs]
    intro p hp hne
    simp only [Bool.false_eq_true, if_false, List.mem_append, List.mem_singleton] at hp
    rcases hp with hp | rfl
    · exact i4 p hp hne
    · exact ⟨t, by rw [hv]⟩

local macro_rules | `(tactic| walk_at "exec For Name Attribute cons nil") => `(tactic| (k_here; refine wpAny_For ?_ (by intro _; with_unfolding_all rfl)))
set_option pp.deepTerms false
set_option pp.deepTerms.threshold 6
set_option maxHeartbeats 4000000
theorem names_spec {w : World} {A : Around} {mg mb : Str → Option Value} {mean : ExcName → Option Value} 
    {s : Shared} {h₀ : Heap} {x ig : Addr} {ks : List Str} {fn md : Str} {t1 t2 : Tok} {c : Nat} {Q E : Value → Shared → Prop}
    (hk₀ : Kept h₀ s.heap) (hsz : h₀.objs.size ≤ s.heap.objs.size)
    (X : (hd.heap_39 w.params).In h₀) (T : Top hd.view_39 LO mean mg mb h₀) 
    (hR : RdrAt w h₀.objs.size s.heap x ig ks) (hI : IgAt w s.heap ig ks c) (hc : c < 100000) (hb : ks.length < 1000) (hks : ∀ k ∈ ks, k.length ≤ 1000) (hmd : md ≠ Str.ofString "<string>")
    (hd1 : A.depth + 10 < recursionLimit) (hh : A.handled = none)
    (hQ : ∀ h' d' tk t, (∀ b o, b ≠ ig → s.heap.get? b = some o → h'.get? b = some o) → IgAt w h' ig ks (c + 1) → Q (.int (cv ks md) t) { s with heap := h', drawn := d', toks := tk }) :
   wpAny (model PR w) A (call (.ref 92) [.ref x, .str fn t1, .str md t2]) Q E s := by
  refine hR.elim fun dx ms ds u1 u2 u3 oms n r1 r2 r3 r4 r5 q1 q2 q3 q4 b1 b2 b3 b4 b5 => ?_
  obtain ⟨i1, kvs, i2, i3, i4⟩ := hI
  obtain ⟨oig, g1, g2⟩ := Heap.dictOf_iff.mp i2
  have N0 : ∀ q ∈ [(ig, oig), (x, instObj 95 dx), (dx, rdDict w u1 u2 u3 ms ds ig), (ms, oms), (ds, listOf #[] n)], s.heap.get? q.1 = some q.2 ∧ h₀.get? q.1 = none := by
    intro q hq
    simp only [List.mem_cons, List.mem_nil_iff, or_false] at hq
    rcases hq with rfl | rfl | rfl | rfl | rfl
    · exact ⟨g1, none_below b5⟩
    · exact ⟨r1, none_below b1⟩
    · exact ⟨r2, none_below b2⟩
    · exact ⟨r3, none_below b3⟩
    · exact ⟨r5, none_below b4⟩
  refine' wpAny_call (enterP (h₀ := h₀) hk₀ hsz N0 X T ?k1 ?k2 ?k3 ?k4 ?k5 ?k6 ?k7 ?k8 ?k9 ?_)
  case k1 => k_is
  case k2 => k_is
  case k3 => exact lt0 hd1
  case k4 => exact BindsTo.of_eq rfl
  case k5 => exact locs rfl
  case k6 => rfl
  case k7 => rfl
  case k8 => rfl
  case k9 => decide
  intro L h₁ F N kk eL
  try dsimp only
  refine wp_gen2 fun Q1 E1 finT finE => ?_
  w_on
  k_steps
  have D1 : h₁.DictOf (PySem.strKind PR w) ig kvs := Heap.dictOf_iff.mpr ⟨oig, (N _ (.head _)).1, g2⟩
  refine wpAny_in_of (knd := PySem.strKind PR w) (strKind_is PR w md t2) i1 D1.mapOf ?_
  cases hv : valueAt kvs md with
  | some v =>
    rw [Option.isSome_some]
    k_steps
    refine wpAny_getItem_of (knd := PySem.strKind PR w) (strKind_is PR w md t2) D1.mapOf hv ?_
    try dsimp only
    obtain ⟨p, hp, ep⟩ : ∃ p ∈ kvs, p = (md, v) := by
      unfold valueAt at hv
      cases hf : kvs.find? (fun kv => decide (kv.1 = md)) with
      | none => rw [hf] at hv; cases hv
      | some p =>
        rw [hf] at hv
        simp only [Option.map_some, Option.some.injEq] at hv
        have h1 := List.find?_some hf
        simp only [decide_eq_true_eq] at h1
        exact ⟨p, List.mem_of_find?_eq_some hf, by rw [← h1, ← hv]⟩
    subst ep
    obtain ⟨t, ev⟩ := i4 _ hp hmd
    dsimp only at ev
    subst ev
    exact finT.go _ _ (hQ _ _ _ _ (fun b o _ e => kk b o e) ⟨i1, kvs, D1, Nat.le_succ_of_le i3, i4⟩)
  | none =>
    rw [Option.isSome_none]
    k_steps
    have S1 : SSetW PR w h₁ ms (fun y => decide (y ∈ ks)) ks.length := r4 _ _ (N _ (.tail _ (.tail _ (.tail _ (.head _))))).1
    obtain ⟨m1, _, S2⟩ := S1.setOf (Nat.lt_trans hb (by decide))
    refine wpAny_inSet_of (knd := PySem.strKind PR w) (strKind_is PR w md t2) rfl S2 ?_
    have habs : kvs.any (fun kv => decide (kv.1 = md)) = false := by
      unfold valueAt at hv
      simp only [Option.map_eq_none_iff, List.find?_eq_none, decide_eq_true_eq] at hv
      rw [List.any_eq_false]
      intro p hp
      simpa using hv p hp
    by_cases hin : md ∈ ks
    · rw [decide_eq_true hin]
      k_steps
      refine wpAny_setItem_pairs (knd := PySem.strKind PR w) (strKind_is PR w md t2) D1 ?_ (Nat.le_trans (Nat.le_of_lt (Nat.lt_of_le_of_lt i3 hc)) (by decide))
      intro h' D' sb
      have F' : Fr h₀ L h' _ := ⟨F.ns.sameBut sb (Ne.symm (N _ (.head _)).2.1), fun b o e => sb.extBut b o (fun q => by rw [q, (N _ (.head _)).2.2] at e; cases e) (F.keep b o e), F.above⟩
      k_steps
      try dsimp only
      have e1 := cov_true_of_mem hin (.inl rfl)
      rw [e1] at hQ
      exact finT.go _ _ (hQ h' s.drawn _ _ (fun b o hb e => sb.extBut b o hb (kk b o e)) (ig_stored i1 habs D' i3 i4 e1))
    · rw [decide_eq_false hin]
      k_steps
      refine pyIter_sset hh S1 (Nat.lt_trans hb (by decide)) ?_
      intro I fp ord St h' d' W st hfp hfl hI hkp e1 e2 e3
      have hLl := fr_lt F
      refine for_search (Pass := fun i => ∀ k t, ord[i]? = some (.str k t) → Txt.startswith md (k ++ Str.ofString ".") = false) W st rfl rfl ?hL (W.sub I (by simp)) (F.ns.keeps hkp) ?turn ?done
      case hL =>
        intro hm
        rcases hfp _ hm with q | q
        · exact (N _ (.tail _ (.tail _ (.tail _ (.head _))))).2.1 q.symm
        · exact absurd hLl (Nat.not_lt.mpr q)
      case turn =>
        intro i v h₂ tk₂ hi hv hk2 hn2
        refine wp_gen2 fun Q2 E2 fin2 finE2 => ?_
        obtain ⟨k, t, rfl, hk⟩ := e1 v (List.mem_of_getElem? hv)
        have hkl : k.length ≤ 1000 := hks k (of_decide_eq_true hk)
        have kk2 : ∀ b o, b ≠ L → h₁.get? b = some o → h₂.get? b = some o := fun b o hb e => hk2 b o hb (fun q => absurd (Heap.lt_size e) (Nat.not_lt.mpr (q ▸ hI))) (hkp b o e)
        have F₂ : Fr h₀ L h₂ _ := ⟨hn2, fun b o e => kk2 b o (Nat.ne_of_lt (Nat.lt_of_lt_of_le (Heap.lt_size e) F.above)) (F.keep b o e), F.above⟩
        have N₂ : News h₀ L h₂ [(ig, oig), (x, instObj 95 dx), (dx, rdDict w u1 u2 u3 ms ds ig), (ms, oms), (ds, listOf #[] n)] := fun p hp => ⟨kk2 _ _ (N p hp).2.1 (N p hp).1, (N p hp).2⟩
        clear F N
        have D2 : h₂.DictOf (PySem.strKind PR w) ig kvs := Heap.dictOf_iff.mpr ⟨oig, (N₂ _ (.head _)).1, g2⟩
        k_steps
        · (with_reducible rename Txt.startswith _ _ = true => hsw)
          refine wpAny_setItem_pairs (knd := PySem.strKind PR w) (strKind_is PR w md t2) D2 ?_ (Nat.le_trans (Nat.le_of_lt (Nat.lt_of_le_of_lt i3 hc)) (by decide))
          intro h' D' sb
          have F' : Fr h₀ L h' _ := ⟨F₂.ns.sameBut sb (Ne.symm (N₂ _ (.head _)).2.1), fun b o e => sb.extBut b o (fun q => by rw [q, (N₂ _ (.head _)).2.2] at e; cases e) (F₂.keep b o e), F₂.above⟩
          clear F₂
          k_steps
          try dsimp only
          refine fin2.go _ _ (Or.inr ⟨_, rfl, ?_⟩)
          have e1 := cov_true_of_mem (of_decide_eq_true hk) (.inr hsw)
          rw [e1] at hQ
          exact finT.go _ _ (hQ h' d' _ _ (fun b o hb e => sb.extBut b o hb (kk2 b o (fun q => absurd (Heap.lt_size e) (by rw [q, ← eL]; exact Nat.lt_irrefl _)) (kk b o e))) (ig_stored i1 habs D' i3 i4 e1))
        · (with_reducible rename Txt.startswith _ _ = false => hsw)
          refine fin2.go _ _ (Or.inl ⟨rfl, ⟨_, rfl⟩, fun k' t' e => ?_⟩)
          rw [hv] at e
          cases e
          exact hsw
      case done =>
        intro h₂ tk₂ u hk2 hn2 hpass
        have kk2 : ∀ b o, b ≠ L → h₁.get? b = some o → h₂.get? b = some o := fun b o hb e => hk2 b o hb (fun q => absurd (Heap.lt_size e) (Nat.not_lt.mpr (q ▸ hI))) (hkp b o e)
        have F₂ : Fr h₀ L h₂ _ := ⟨hn2, fun b o e => kk2 b o (Nat.ne_of_lt (Nat.lt_of_lt_of_le (Heap.lt_size e) F.above)) (F.keep b o e), F.above⟩
        have N₂ : News h₀ L h₂ [(ig, oig), (x, instObj 95 dx), (dx, rdDict w u1 u2 u3 ms ds ig), (ms, oms), (ds, listOf #[] n)] := fun p hp => ⟨kk2 _ _ (N p hp).2.1 (N p hp).1, (N p hp).2⟩
        clear F N
        try dsimp only
        k_steps
        have Lds : h₂.IsList ds #[] := ⟨_, (N₂ _ (.tail _ (.tail _ (.tail _ (.tail _ (.head _)))))).1, rfl, n, rfl⟩
        refine wpAny_pyIter_list Lds ?_
        have hdsL := (N₂ _ (.tail _ (.tail _ (.tail _ (.tail _ (.head _)))))).2.1
        have hdlt := Heap.lt_size (N₂ _ (.tail _ (.tail _ (.tail _ (.tail _ (.head _)))))).1
        have hLl2 := fr_lt F₂
        refine for_search (Pass := fun _ => True) (I := h₂.objs.size) (fp := [h₂.objs.size, ds]) (n := (#[] : Array Value).size) (P := fun i v => (#[] : Array Value)[i]? = some v) (St := fun i h => h.IsListIter h₂.objs.size ds i ∧ h.IsList ds #[]) (Walks.list (A := A.deeper _) (by exact hh) _ ds (Nat.ne_of_lt hdlt) #[]) ⟨⟨_, Heap.get?_push_size _ rfl, rfl, rfl⟩, Lds.push _⟩ rfl rfl ?hL2 (by simp) (F₂.ns.push _) ?turn2 ?done2
        case hL2 =>
          intro hm
          simp only [List.mem_cons, List.mem_nil_iff, or_false] at hm
          rcases hm with q | q
          · exact absurd hLl2 (by rw [show L = h₂.objs.size from q]; exact Nat.lt_irrefl _)
          · exact hdsL q.symm
        case turn2 => intro i v h₃ tk₃ hi; exact absurd hi (Nat.not_lt_zero _)
        case done2 =>
          intro h₃ tk₃ u₃ hk3 hn3 _
          have kk3 : ∀ b o, b ≠ L → h₂.get? b = some o → h₃.get? b = some o := fun b o hb e => hk3 b o hb (Nat.ne_of_lt (Heap.lt_size e)) (Heap.get?_push_of_some _ e)
          have F₃ : Fr h₀ L h₃ _ := ⟨hn3, fun b o e => kk3 b o (Nat.ne_of_lt (Nat.lt_of_lt_of_le (Heap.lt_size e) F₂.above)) (F₂.keep b o e), F₂.above⟩
          have N₃ : News h₀ L h₃ [(ig, oig), (x, instObj 95 dx), (dx, rdDict w u1 u2 u3 ms ds ig), (ms, oms), (ds, listOf #[] n)] := fun p hp => ⟨kk3 _ _ (N₂ p hp).2.1 (N₂ p hp).1, (N₂ p hp).2⟩
          clear F₂ N₂
          try dsimp only
          have D3 : h₃.DictOf (PySem.strKind PR w) ig kvs := Heap.dictOf_iff.mpr ⟨oig, (N₃ _ (.head _)).1, g2⟩
          k_steps
          refine wpAny_setItem_pairs (knd := PySem.strKind PR w) (strKind_is PR w md t2) D3 ?_ (Nat.le_trans (Nat.le_of_lt (Nat.lt_of_le_of_lt i3 hc)) (by decide))
          intro h' D' sb
          have F' : Fr h₀ L h' _ := ⟨F₃.ns.sameBut sb (Ne.symm (N₃ _ (.head _)).2.1), fun b o e => sb.extBut b o (fun q => by rw [q, (N₃ _ (.head _)).2.2] at e; cases e) (F₃.keep b o e), F₃.above⟩
          clear F₃
          k_steps
          try dsimp only
          have e1 : cv ks md = 0 := cov_false_of hin fun k hk => by
            obtain ⟨t, ht⟩ := e2 k (decide_eq_true hk)
            obtain ⟨i, hi, e⟩ := List.getElem_of_mem ht
            exact hpass i hi k t (by rw [List.getElem?_eq_getElem hi, e])
          have hLne : ∀ b o, s.heap.get? b = some o → b ≠ L := fun b o e q => absurd (Heap.lt_size e) (by rw [q, ← eL]; exact Nat.lt_irrefl _)
          rw [e1] at hQ
          exact finT.go _ _ (hQ h' d' _ _ (fun b o hb e => sb.extBut b o hb (kk3 b o (hLne b o e) (kk2 b o (hLne b o e) (kk b o e)))) (ig_stored i1 habs D' i3 i4 e1))
end Mine
end

section
open PySem PySem.W PyProof.Rows
set_option Elab.async false
set_option maxRecDepth 100000
namespace Mine
local macro_rules | `(tactic| walk_at "no such key") => `(tactic| skip)
noncomputable def stepF (ks : List Str) (n : Str) : List Str := if cov ks n then ks else (ks.filter fun old => !cov [n] old) ++ [n]

theorem fr_but {h₀ h h' : Heap} {L ig : Addr} {m : Str → Option Value} (F : Fr h₀ L h m) (hL : L ≠ ig) (h0 : h₀.get? ig = none) (k : ∀ b o, b ≠ ig → h.get? b = some o → h'.get? b = some o) : Fr h₀ L h' m :=
  ⟨F.ns.at' fun o e => k L o hL e, fun b o e => k b o (fun q => by rw [q, h0] at e; cases e) (F.keep b o e), F.above⟩
theorem news_but {h₀ h h' : Heap} {L ig : Addr} {news : List (Addr × Obj)} (N : News h₀ L h news) (hn : ∀ p ∈ news, p.1 ≠ ig) (k : ∀ b o, b ≠ ig → h.get? b = some o → h'.get? b = some o) : News h₀ L h' news :=
  fun p hp => ⟨k _ _ (hn p hp) (N p hp).1, (N p hp).2⟩

theorem news_add {h₀ h h' : Heap} {L : Addr} {m : Str → Option Value} {news : List (Addr × Obj)} {a : Addr} {o : Obj} (F : Fr h₀ L h m) (N : News h₀ L h' news) (ha : h.objs.size ≤ a) (ho : h'.get? a = some o) :
    News h₀ L h' ((a, o) :: news) := fun p hp => by
  rcases List.mem_cons.mp hp with rfl | hp
  · exact ⟨ho, Nat.ne_of_gt (Nat.lt_of_lt_of_le (fr_lt F) ha), fresh_none F.keep ha⟩
  · exact N p hp

theorem IgAt.of {w : World} {h h' : Heap} {ig : Addr} {ks : List Str} {c : Nat} (x : IgAt w h ig ks c) (k : ∀ o, h.get? ig = some o → h'.get? ig = some o) : IgAt w h' ig ks c := by
  obtain ⟨a, kvs, ⟨o, es, ep, ho, r⟩, b⟩ := x
  exact ⟨a, kvs, ⟨o, es, ep, k o ho, r⟩, b⟩
theorem IgAt.le {w : World} {h : Heap} {ig : Addr} {ks : List Str} {c c' : Nat} (x : IgAt w h ig ks c) (e : c ≤ c') : IgAt w h ig ks c' := by
  obtain ⟨a, kvs, d, l, b⟩ := x
  exact ⟨a, kvs, d, Nat.le_trans l e, b⟩
theorem IgAt.lt {w : World} {h : Heap} {ig : Addr} {ks : List Str} {c : Nat} (x : IgAt w h ig ks c) : ig < h.objs.size := by
  obtain ⟨a, kvs, ⟨o, es, ep, ho, r⟩, b⟩ := x
  exact Heap.lt_size ho
theorem RdrAt.of {w : World} {b : Nat} {h h' : Heap} {x ig : Addr} {ks : List Str} (r : RdrAt w b h x ig ks) (k : ∀ a o, a ≠ ig → b ≤ a → h.get? a = some o → h'.get? a = some o) : RdrAt w b h' x ig ks := by
  refine r.elim fun dx ms ds u1 u2 u3 oms n r1 r2 r3 r4 r5 q1 q2 q3 q4 b1 b2 b3 b4 b5 => ?_
  exact .intro (k _ _ q1 b1 r1) (k _ _ q2 b2 r2) (k _ _ q3 b3 r3) r4 (k _ _ q4 b4 r5) q1 q2 q3 q4 b1 b2 b3 b4 b5
theorem RdrAt.mono {w : World} {b b' : Nat} {h : Heap} {x ig : Addr} {ks : List Str} (r : RdrAt w b h x ig ks) (hb : b' ≤ b) : RdrAt w b' h x ig ks := by
  refine r.elim fun dx ms ds u1 u2 u3 oms n r1 r2 r3 r4 r5 q1 q2 q3 q4 b1 b2 b3 b4 b5 => ?_
  exact .intro r1 r2 r3 r4 r5 q1 q2 q3 q4 (Nat.le_trans hb b1) (Nat.le_trans hb b2) (Nat.le_trans hb b3) (Nat.le_trans hb b4) (Nat.le_trans hb b5)
theorem RdrAt.ig_ge {w : World} {b : Nat} {h : Heap} {x ig : Addr} {ks : List Str} (r : RdrAt w b h x ig ks) : b ≤ ig := by
  refine r.elim fun dx ms ds u1 u2 u3 oms n r1 r2 r3 r4 r5 q1 q2 q3 q4 b1 b2 b3 b4 b5 => ?_
  exact b5

section
variable {M : Model} {A : Around} {E : Value → Shared → Prop} {s : Shared} {h₀ : Heap} {L a : Addr} {m : Str → Option Value} {cn : Str} {cs : Scope} {ccd : Value} {x : Str} {v : Value} {Q : Unit → Shared → Prop} {c : Addr} {o : Obj} {v₀ : Option Value}
theorem store_cell (F : Fr h₀ L s.heap m) (hc : (cellsFrom (L + 1) cs.names []).lookup x = some c) (ho : s.heap.get? c = some o) (hd : o.data = .cell v₀) (hne : c ≠ L) (h0 : h₀.get? c = none)
    (h : ∀ h' o', Fr h₀ L h' m → h'.get? c = some o' → o'.data = .cell (some v) → Heap.SameBut c s.heap h' → Q () { s with heap := h' })
    (hk : cs.kind = .function := by rfl) (hx : (envOfC cn cs L a ccd).kindOf x = some .cell := by rfl) : wpAny M A (storeName (envOfC cn cs L a ccd) x v) Q E s := by
  refine wpAny_storeName_cell hk hx hc ⟨o, ho, hd⟩ fun h' hv hs => ?_
  obtain ⟨o', ho', hd'⟩ := hv
  exact h h' o' (fr_but F (Ne.symm hne) h0 fun b o hb e => hs.extBut b o hb e) ho' hd' hs
end

local macro_rules | `(tactic| walk_at "eval ListComp") => `(tactic| (k_here; refine stop_here ?_))

set_option pp.deepTerms false
set_option pp.deepTerms.threshold 6
set_option maxHeartbeats 4000000
theorem step_spec {w : World} {A : Around} {mg mb : Str → Option Value} {mean : ExcName → Option Value} 
    {s : Shared} {l : Addr} {vs : List Value} {ks : List Str} {nm : Str} {t : Tok} {Q E : Value → Shared → Prop}
    (X : (hd.heap_39 w.params).In s.heap) (T : Top hd.view_39 LO mean mg mb s.heap) 
    (hl : s.heap.IsList l vs.toArray) (hs : StrsAre vs ks) (hb : ks.length < 900) (hks : ∀ k ∈ ks, k.length ≤ 1000 ∧ k ≠ Str.ofString "<string>") (hnm : nm.length ≤ 1000 ∧ nm ≠ Str.ofString "<string>")
    (hd1 : A.depth + 20 < recursionLimit) (hh : A.handled = none)
    (hQ : ∀ b ws h' d' tk, Kept s.heap h' → h'.IsList b (List.toArray ws) → StrsAre ws (stepF ks nm) → Q (.ref b) { s with heap := h', drawn := d', toks := tk }) :
   wpAny (model PR w) A (call (.ref 121) [.ref l, .str nm t]) Q E s := by
  refine' wpAny_call (enterC (h₀ := s.heap) (news := []) (Kept.refl _) (Nat.le_refl _) (fun _ h => nomatch h) X T ?k1 ?k2 ?k3 ?k4 ?k5 ?k6 ?k7 ?k8 ?k9 ?_)
  case k1 => k_is
  case k2 => k_is
  case k3 => exact lt0 hd1
  case k4 => exact BindsTo.of_eq rfl
  case k5 => exact rfl
  case k6 => decide +kernel
  case k7 => rfl
  case k8 => rfl
  case k9 => rfl
  intro L h₁ tk cells F N Y kk eL
  k_cells Y
  simp only [List.cons_append, List.nil_append] at N
  try dsimp only
  try k_fold
  refine wp_gen2 fun Q1 E1 finT finE => ?_
  w_on
  k_steps
  (with_reducible rename Fr _ _ _ _ => F1)
  (with_reducible rename News _ _ _ _ => N1)
  have hL1 := fr_lt F1
  refine mk_reader (X.keeps F1.keep) (T.keeps F1.keep) (Kept.lst F1.keep hl) hs (Nat.lt_trans hb (by decide)) (ltd hd1 (by decide)) hh ?_
  intro x ig h2 tk2 hk2 hR hI
  have F2 := fr_kept F1 hk2
  refine hR.elim fun dx ms ds u1 u2 u3 oms n r1 r2 r3 r4 r5 q1 q2 q3 q4 b1 b2 b3 b4 b5 => ?_
  dsimp only at hk2 hR hI b1 b2 b3 b4 b5
  have hc1 := Heap.lt_size (N1 _ (.head _)).1
  have N2 := news_add F1 (news_add F1 (news_kept N1 hk2) b2 r2) b1 r1

  clear F1
  k_steps
  have hLig : L ≠ ig := Nat.ne_of_lt (Nat.lt_of_lt_of_le hL1 b5)
  have h0ig : s.heap.get? ig = none := none_below (Nat.le_trans (Nat.le_of_lt (by rw [eL]; exact hL1)) b5)
  refine names_spec (h₀ := h₁) hk2 (Nat.le_of_lt (Nat.lt_of_le_of_lt b1 (Heap.lt_size r1))) (X.keeps kk) (T.keeps kk) hR hI (by decide) (Nat.lt_trans hb (by decide)) (fun k hk => (hks k hk).1) hnm.2 (ltd hd1 (by decide)) hh ?_
  intro h3 d3 tk3 t3 hk3 _
  have F3 := fr_but F2 hLig h0ig hk3
  have N3 := news_but (news_kept N1 hk2) (in1 (Nat.ne_of_lt (Nat.lt_of_lt_of_le hc1 b5))) hk3
  have kk3 : Kept s.heap h3 := F3.keep
  clear F2 N2
  clear N1
  by_cases hc : cov ks nm = true
  · have e1 : cv ks nm = 1 := by unfold cv; rw [if_pos hc]
    rw [e1]
    k_steps
    try dsimp only
    refine finT.go _ _ (hQ l vs _ _ _ kk3 (Kept.lst kk3 hl) ?_)
    unfold stepF
    rw [if_pos hc]
    exact hs
  · have e1 : cv ks nm = 0 := by unfold cv; rw [if_neg hc]
    rw [e1]
    k_steps
    (with_reducible rename Fr _ _ _ _ => F4)
    (with_reducible rename News _ _ _ _ => N4)
    have hL4 := fr_lt F4
    refine mk_reader (vs := [.str nm t]) (ks := [nm]) (X.keeps F4.keep) (T.keeps F4.keep) ⟨_, (N4 _ (.head _)).1, rfl, _, rfl⟩ (.cons _ _ .nil) (by simp) (ltd hd1 (by decide)) hh ?_
    intro x2 ig2 h5 tk5 hk5 hR2 hI2
    have F5 := fr_kept F4 hk5
    have N4c := N4 _ (.tail _ (.head _))
    have hcl4 := Heap.lt_size N4c.1
    dsimp only at hk5 hR2 hcl4
    refine store_cell F5 (by rfl) (hk5 _ _ N4c.1) (by assumption) N4c.2.1 N4c.2.2 ?_
    intro h6 o6 F6 g6 d6 sb6
    have hR6 := (hR2.of fun a o _ hb e => sb6.extBut a o (Nat.ne_of_gt (Nat.lt_of_lt_of_le hcl4 hb)) e).mono (b' := s.heap.objs.size) (Nat.le_of_lt (by rw [eL]; exact hL4))
    have hR6' := hR2.ig_ge
    have hI6 : IgAt w h6 ig2 [nm] 1 := hI2.of fun o e => sb6.extBut _ o (Nat.ne_of_gt (Nat.lt_of_lt_of_le hcl4 hR2.ig_ge)) e
    have N6 : News s.heap L h6 [(L + 1, o6)] := fun p hp => by
      simp only [List.mem_cons, List.mem_nil_iff, or_false] at hp
      subst hp
      exact ⟨g6, N4c.2⟩
    clear F5

    clear F4 N4
    k_steps
    (with_reducible rename Fr _ _ _ _ => F6)
    (with_reducible rename News _ _ _ _ => N6)
    have kk6 : Kept s.heap h6 := F6.keep
    show wpAny _ _ _ _ _ _
    refine comp_inv (ld := fun v m => m (Str.ofString "old") = some v) (cl := [(Str.ofString "reader", L + 1)]) (by rfl) (by decide) (by rfl) (by decide) (by intro _ _; rfl) ?_
    walk1
    refine wpAny_pyIter_list (Kept.lst kk6 hl) ?_
    try dsimp only
    have hlt6 : ig2 < h6.objs.size := hI6.lt
    have hl6 := Kept.lst kk6 hl
    obtain ⟨ol6, hol6, _⟩ := id hl6
    have hll := Heap.lt_size hol6
    refine ⟨h6.objs.size, [h6.objs.size, l], vs.toArray.size, _, _, [ig2], fun i ys h => IgAt w h ig2 [nm] (1 + i) ∧ StrsAre ys ((ks.take i).filter fun old => !cov [nm] old), rfl,
      Walks.list (by exact hh) _ l (Nat.ne_of_lt hll) vs.toArray, ?_, ⟨⟨_, Heap.get?_push_size _ rfl, rfl, rfl⟩, hl6.push _⟩, ?_, ?_, ⟨?_, ?_, ?_, ?_⟩, ?_⟩
    · rw [List.size_toArray, StrsAre.length hs]; exact szl (Nat.le_of_lt hb) (by decide)
    · intro b hb
      simp only [List.mem_cons, List.mem_nil_iff, or_false] at hb
      rw [Heap.size_push]
      rcases hb with rfl | rfl
      · exact Nat.lt_succ_self _
      · exact Nat.lt_succ_of_lt hll
    · intro b hb
      simp only [List.mem_cons, List.mem_nil_iff, or_false] at hb
      subst hb
      rw [Heap.size_push]
      refine ⟨?_, Nat.lt_succ_of_lt hlt6⟩
      intro hm
      simp only [List.mem_cons, List.mem_nil_iff, or_false] at hm
      rcases hm with q | q
      · exact Nat.ne_of_lt hlt6 q
      · obtain ⟨ol, hol, _⟩ := hl
        rw [← q, none_below hR6.ig_ge] at hol
        cases hol
    · exact ⟨hI6.of fun o e => Heap.get?_push_of_some _ e, .nil⟩
    · intro i ys h h' hk hJ
      rw [Heap.size_push] at hk
      refine ⟨hJ.1.of fun o e => hk _ o (Nat.ne_of_lt hlt6) (Nat.ne_of_lt (Nat.lt_succ_of_lt hlt6)) (Nat.ne_of_lt (Nat.lt_succ_of_lt (Nat.lt_succ_of_lt hlt6))) e, hJ.2⟩
    · intro i v h d tk E' Q' m hi hv hn hQ'
      refine wpAny_assign_Name (wpAny_storeName_local (by rfl) hn (fun h' hn' hs' => hQ' h' _ _ hn' (by simp) hs') (by rfl))
    · intro i v h d tk m ys E' hi hv hk hsz hn hld hJ hyl
      refine wpAny_tests_one ?_
      obtain ⟨S2, eS⟩ : ∃ S2, S2 = (h6.push { cls := .type "list_iterator", data := .fields #[.ref l, .int 0 0] }).objs.size := ⟨_, rfl⟩
      rw [← eS] at hsz hn ⊢
      rw [Heap.size_push] at eS
      have kt : ∀ b o, b ≠ ig2 → h6.get? b = some o → h.get? b = some o := fun b o hb e => hk b o (by simp [hb]) (Nat.ne_of_lt (Heap.lt_size e)) (Heap.get?_push_of_some _ e)
      have hRt := hR6.of fun a o ha _ e => kt a o ha e
      refine hRt.elim fun dx2 ms2 ds2 v1 v2 v3 oms2 n2 R1 R2 R3 R4 R5 Q1 Q2 Q3 Q4 B1 B2 B3 B4 B5 => ?_
      have hig0 : s.heap.get? ig2 = none := none_below B5
      have hs0 : s.heap.objs.size ≤ h6.objs.size := Nat.le_trans B5 (Nat.le_of_lt hlt6)
      have hs8 : s.heap.objs.size ≤ S2 + 1 := by rw [eS]; exact Nat.le_trans hs0 (Nat.le_trans (Nat.le_succ _) (Nat.le_succ _))
      have F7 : Fr s.heap (S2 + 1) h m := ⟨hn, fun b o e => kt b o (fun q => by rw [q, hig0] at e; cases e) (kk6 b o e), hs8⟩
      have neS : ∀ a o, h6.get? a = some o → a ≠ S2 + 1 := fun a o e => by rw [eS]; exact Nat.ne_of_lt (Nat.lt_succ_of_lt (Nat.lt_succ_of_lt (Heap.lt_size e)))
      have hcell : h.get? (L + 1) = some o6 := kt _ _ (Nat.ne_of_lt (Nat.lt_of_lt_of_le hcl4 hR6')) g6
      have N7 : News s.heap (S2 + 1) h [(x2, instObj 95 dx2), (dx2, rdDict w v1 v2 v3 ms2 ds2 ig2), (L + 1, o6)] := by
        refine hR6.elim fun dy _ _ _ _ _ _ _ W1 W2 _ _ _ W3 _ _ _ _ _ _ _ _ => ?_
        have e1 := kt _ _ W3 W1
        rw [R1] at e1
        cases e1
        intro p hp
        simp only [List.mem_cons, List.mem_nil_iff, or_false] at hp
        rcases hp with rfl | rfl | rfl
        · exact ⟨R1, neS _ _ W1, none_below B1⟩
        · exact ⟨R2, neS _ _ W2, none_below B2⟩
        · exact ⟨hcell, neS _ _ g6, N4c.2.2⟩
      obtain ⟨y, ty, rfl, hy⟩ := StrsAre.item hs i v (by simpa using hv)
      have hyk : y ∈ ks := List.mem_of_getElem? hy
      have hlen := StrsAre.length hs
      have hi' : i < vs.length := by simpa using hi
      clear F6 N6
      k_steps
      refine names_spec (h₀ := s.heap) F7.keep (Nat.le_trans B1 (Nat.le_of_lt (Heap.lt_size R1))) X T hRt hJ.1 (c1i hi' hlen hb) (show 1 < 1000 by decide) (in1 hnm.1) (hks y hyk).2 (ltd hd1 (by decide)) hh ?_
      intro h8 d8 tk8 t8 hk8 hI8
      have eT : (ks.take (i + 1)) = ks.take i ++ [y] := by rw [List.take_succ, hy]; rfl
      by_cases hcy : cov [nm] y = true
      · have e1 : cv [nm] y = 1 := by unfold cv; rw [if_pos hcy]
        rw [e1]
        walk1
        show Exists _
        refine ⟨h8, d8, tk8, rfl, fun b o hb e => hk8 b o (by simpa using hb) e, by rw [Nat.add_assoc] at hI8; exact hI8, ?_⟩
        rw [eT, List.filter_append]
        simp only [List.filter_cons, hcy, Bool.not_true, Bool.false_eq_true, if_false, List.filter_nil, List.append_nil]
        exact hJ.2
      · have e1 : cv [nm] y = 0 := by unfold cv; rw [if_neg hcy]
        rw [e1]
        have F8 : Fr s.heap (S2 + 1) h8 m := fr_but F7 (by rw [eS]; exact Nat.ne_of_gt (Nat.lt_succ_of_lt (Nat.lt_succ_of_lt hlt6))) hig0 hk8
        clear F7 N7
        walk1
        show wpAny _ _ (eval _ _) _ _ _
        refine wpAny_Name (wpAny_loadName_local (by rfl) (by rfl) F8.ns hld ?_) (by decide)
        refine ⟨h8, d8, tk8, rfl, fun b o hb e => hk8 b o (by simpa using hb) e, by rw [Nat.add_assoc] at hI8; exact hI8, ?_⟩
        rw [eT, List.filter_append]
        simp only [List.filter_cons, hcy, Bool.not_false, if_true, List.filter_nil]
        exact strsAre_append hJ.2 (.cons _ _ .nil)
    · intro h' d' tk ys hy hJ hyl hk
      rw [Heap.size_push] at hy ⊢
      have kt : ∀ b o, b ≠ ig2 → h6.get? b = some o → h'.get? b = some o := fun b o hb e => hk b o (by simp [hb]) (Nat.ne_of_lt (Heap.lt_size e)) (Heap.get?_push_of_some _ e)
      have hig0 : s.heap.get? ig2 = none := none_below hR6.ig_ge
      have F9 := fr_but F6 (Nat.ne_of_lt (Nat.lt_trans (by rw [← eL]; exact Nat.lt_succ_self _) (Nat.lt_of_lt_of_le hcl4 hR6'))) hig0 kt
      have hs0 : s.heap.objs.size ≤ h6.objs.size := Nat.le_trans hR6.ig_ge (Nat.le_of_lt hlt6)
      obtain ⟨oD, hoD, hcD, nD, hdD⟩ := hy
      have N9 : News s.heap L h' [(h6.objs.size + 1, oD)] := fun p hp => by
        simp only [List.mem_cons, List.mem_nil_iff, or_false] at hp
        subst hp
        exact ⟨hoD, Nat.ne_of_gt (Nat.lt_succ_of_lt (fr_lt F6)), none_below (Nat.le_trans hs0 (Nat.le_succ _))⟩
      clear F6 N6
      k_steps
      (with_reducible rename Fr _ _ _ _ => Fa)
      (with_reducible rename News _ _ _ _ => Na)
      have hlen := StrsAre.length hs
      refine add_lists (vs := ys) (ws := [.str nm t]) Fa Na ⟨oD, (Na _ (.tail _ (.head _))).1, hcD, nD, hdD⟩ ⟨_, (Na _ (.head _)).1, rfl, _, rfl⟩ ?_ ?_
      · intro hb Fb Nb
        try dsimp only
        refine finT.go _ _ (hQ _ (ys ++ [.str nm t]) _ _ _ Fb.keep ⟨_, (Nb _ (.head _)).1, rfl, _, rfl⟩ ?_)
        unfold stepF
        rw [if_neg hc]
        refine strsAre_append ?_ (.cons _ _ .nil)
        have := hJ.2
        rw [List.take_of_length_le (by rw [← hlen]; simp)] at this
        exact this
      · exact szl (Nat.succ_le_of_lt (Nat.lt_of_le_of_lt hyl (by rw [List.size_toArray, hlen]; exact hb))) (by decide)
end Mine
end

section
open PySem PySem.W PyProof.Rows PySem.Calls PySem.Spec
set_option Elab.async false
set_option maxRecDepth 100000
namespace Mine
section
variable {prog : Program} {w : World} {A : Around} {E : Value → Shared → Prop} {s : Shared}
theorem iter_list {l : Addr} {items : Array Value} {Q : Value → Shared → Prop} (hl : s.heap.IsList l items)
    (h : Q (.ref s.heap.objs.size) { s with heap := s.heap.push { cls := .type "list_iterator", data := .fields #[.ref l, .int 0 0] } }) :
    wpAny (model prog w) A (call (.builtin "iter") [.ref l]) Q E s := by
  refine call_function_entry (by decide +kernel) (by decide +kernel) kdk_entry_iter (kdk_args_iter _) ?_
  unfold Builtin.«iter»
  refine wpAny_bind (m := someArgs "iter" 1 2 _) (wpAny_of_eq (a := [Value.ref l]) (by first | rfl | kernel_rfl!) ?_)
  show wpAny _ _ (pyIter (.ref l) >>= _) _ _ _
  exact wpAny_bind (wpAny_pyIter_list hl (wpAny_pure ⟨_, rfl, h⟩))

theorem next_list {it l : Addr} {i : Nat} {items : Array Value} {x : Value} {Q : Value → Shared → Prop} (hit : s.heap.IsListIter it l i) (hl : s.heap.IsList l items) (hx : items[i]? = some x)
    (hQ : ∀ h', h'.IsListIter it l (i + 1) → Heap.SameBut it s.heap h' → Q x { s with heap := h' }) :
    wpAny (model prog w) A (call (.builtin "next") [.ref it]) Q E s := by
  obtain ⟨o, ho, hc, hd⟩ := id hit
  obtain ⟨ol, hol, _, nl, hdl⟩ := hl
  refine call_function_entry (by decide +kernel) (by decide +kernel) kdk_entry_next (kdk_args_next _) ?_
  unfold Builtin.«next»
  refine wpAny_bind (m := someArgs "next" 1 2 _) (wpAny_of_eq (a := [Value.ref it]) (by first | rfl | kernel_rfl!) ?_)
  refine wpAny_bind (m := specialOf (.ref it) "__next__") (wpAny_specialOf hit.typeIs slot_listiter_next.lookup ?_)
  show wpAny _ _ (callSpecial? (.ref it) "__next__" >>= _) _ _ _
  refine wpAny_bind (wpAny_callSpecial?_slot (name := Str.ofString "__next__") hit.typeIs slot_listiter_next
    (wpAny_call_entry slot_listiter_next hit.typeIs entry_listiter_next ?_ (args_listiter_next _)))
  show wpAny _ _ (field (.ref it) 0 >>= _) _ _ s
  refine wpAny_bind (wpAny_field ho hd (x := .ref l) rfl ?_)
  show wpAny _ _ (if (Value.ref l == Value.none) = true then _ else _) _ _ s
  rw [if_neg (show ¬ ((Value.ref l == Value.none) = true) from Bool.false_ne_true)]
  show wpAny _ _ (field (.ref it) 1 >>= _) _ _ s
  refine wpAny_bind (wpAny_field ho hd (x := .int i 0) rfl ?_)
  show wpAny _ _ (seqItems? (.ref l) >>= _) _ _ s
  refine wpAny_bind (wpAny_seqItems hol hdl ?_)
  simp only [Int.toNat_natCast, hx]
  refine wpAny_bind (wpAny_setField ho hd (by simp) (wpAny_pure ⟨x, rfl, wpAny_pure ⟨_, rfl, hQ _ ?_ (Heap.SameBut.update ..)⟩⟩))
  exact ⟨_, Heap.get?_update_self _ ho (Obj.isFreed_of_fields (Obj.data_mapFields hd _)), (Obj.cls_mapFields ..).trans hc, by
    rw [Obj.data_mapFields hd]; simp [rawInt]⟩
end

section
variable {prog : Program} {w : World} {A : Around} {E : Value → Shared → Prop} {s : Shared} {env : Env}
noncomputable def FoldI (s : Shared) (L I ax : Addr) (items : Array Value) (J : Nat → (Str → Option Value) → Heap → Prop) (n : Nat) (s' : Shared) : Prop :=
  ∃ h' d tk m' i, s' = { s with heap := h', drawn := d, toks := tk } ∧ h'.IsListIter I ax i ∧ h'.IsList ax items ∧ h'.Ns L m' ∧ J i m' h' ∧ i ≤ items.size ∧ n = items.size + 1 - i ∧
      ∀ b o, b ≠ L → b ≠ I → s.heap.get? b = some o → h'.get? b = some o
theorem FoldI.intro {L I ax : Addr} {items : Array Value} {J : Nat → (Str → Option Value) → Heap → Prop} (h' : Heap) (d : Drawn) (tk : Nat) (m' : Str → Option Value) (i : Nat)
    (a : h'.IsListIter I ax i) (b : h'.IsList ax items) (c : h'.Ns L m') (e : J i m' h') (f : i ≤ items.size) (g : ∀ b o, b ≠ L → b ≠ I → s.heap.get? b = some o → h'.get? b = some o) :
    FoldI s L I ax items J (items.size + 1 - i) { s with heap := h', drawn := d, toks := tk } := ⟨h', d, tk, m', i, rfl, a, b, c, e, f, rfl, g⟩
theorem FoldI.elim {L I ax : Addr} {items : Array Value} {J : Nat → (Str → Option Value) → Heap → Prop} {n : Nat} {s' : Shared} {C : Prop} (x : FoldI s L I ax items J n s')
    (k : ∀ h' d tk m' i, s' = { s with heap := h', drawn := d, toks := tk } → n = items.size + 1 - i → h'.IsListIter I ax i → h'.IsList ax items → h'.Ns L m' → J i m' h' → i ≤ items.size → (∀ b o, b ≠ L → b ≠ I → s.heap.get? b = some o → h'.get? b = some o) → C) : C := by
  obtain ⟨h', d, tk, m', i, e1, a, b, c, e, f, e2, g⟩ := x
  exact k h' d tk m' i e1 e2 a b c e f g
theorem for_fold {R : Result → Shared → Prop} {x : Str} {px : Pos} {body : List Stmt} {I ax : Addr} {items : Array Value} {i0 : Nat} {m : Str → Option Value} (J : Nat → (Str → Option Value) → Heap → Prop)
    (hh : A.handled = none) (hx : env.kindOf x = some .local)
    (hp : (env.scope.kind == .class || (env.scope.kind == .module && env.locals != env.globals)) = false)
    (hIL : I ≠ env.locals) (haL : ax ≠ env.locals) (haI : ax ≠ I) (hi0 : i0 ≤ items.size)
    (hit : s.heap.IsListIter I ax i0) (hl : s.heap.IsList ax items) (hn : s.heap.Ns env.locals m) (h0 : J i0 m s.heap)
    (hst : ∀ i m h h', (∀ b o, b ≠ I → b ≠ env.locals → h.get? b = some o → h'.get? b = some o) → J i m h → J i m h')
    (turn : ∀ i v h₁ d tk m₁, items[i]? = some v → h₁.IsListIter I ax (i + 1) → J i m₁ h₁ → h₁.Ns env.locals (fun y => if y = x then some v else m₁ y) → (∀ b o, b ≠ env.locals → b ≠ I → s.heap.get? b = some o → h₁.get? b = some o) →
      wpAny (model prog w) A (execs body env) (fun f s₂ => f = .next ∧ ∃ h₂ d₂ tk₂ m₂, s₂ = { s with heap := h₂, drawn := d₂, toks := tk₂ } ∧ (∀ b o, b ≠ env.locals → h₁.get? b = some o → h₂.get? b = some o) ∧ h₂.Ns env.locals m₂ ∧ J (i + 1) m₂ h₂)
        (notedBy (model prog w) A env fun e s' => R (.error e) s') { s with heap := h₁, drawn := d, toks := tk })
    (hR : ∀ h' d tk m', h'.Ns env.locals m' → J items.size m' h' → (∀ b o, b ≠ env.locals → b ≠ I → s.heap.get? b = some o → h'.get? b = some o) → R (.ok .next) { s with heap := h', drawn := d, toks := tk }) :
    codeAny (model prog w) A (.forLoop (.Name x px) (.ref I) body [] env) R s := by
  refine codeAny_forLoop
    (FoldI s env.locals I ax items J) ?_ (items.size + 1 - i0) (.intro s.heap s.drawn s.toks m i0 hit hl hn h0 hi0 fun _ _ _ _ e => e)
  intro n s' x
  refine x.elim fun h' d tk m' i e1 e2 hit' hl' hn' hJ hi hk => ?_
  subst e1 e2
  cases hv : items[i]? with
  | none =>
    have hsz : i = items.size := Nat.le_antisymm hi (by simpa using hv)
    refine wpAny_pyNext_list_end hh hit' hl' hv fun h₁ he₁ => wpAny_execs_nil ?_
    exact hR h₁ d tk m' (hn'.extBut he₁ (Ne.symm hIL)) (hsz ▸ hst _ _ _ _ (fun b o b1 _ e => he₁ b o b1 e) hJ) fun b o hbL hbI e => he₁ b o hbI (hk b o hbL hbI e)
  | some v =>
    have hlt : i < items.size := (Array.getElem?_eq_some_iff.mp hv).1
    refine wpAny_pyNext_list_item hit' hl' hv fun h₁ hit₁ hs₁ => ?_
    refine wpAny_assign_Name (wpAny_storeName_local hx (hn'.sameBut hs₁ (Ne.symm hIL)) (fun h₂ hn₂ hs₂ => ?_) hp)
    have hJ₂ : J i m' h₂ := hst _ _ _ _ (fun b o b1 b2 e => hs₂.extBut b o b2 (hs₁.extBut b o b1 e)) hJ
    have hk₂ : ∀ b o, b ≠ env.locals → b ≠ I → s.heap.get? b = some o → h₂.get? b = some o := fun b o hbL hbI e => hs₂.extBut b o hbL (hs₁.extBut b o hbI (hk b o hbL hbI e))
    refine wpAny_mono (turn i v h₂ d _ m' hv (hit₁.extBut hs₂.extBut hIL) hJ₂ hn₂ hk₂) (fun f s₃ h₃ => ?_) fun _ _ e => e
    obtain ⟨rfl, h₃', d₃, tk₃, m₂, rfl, hk₃, hn₃, hJ₃⟩ := h₃
    refine ⟨items.size + 1 - (i + 1), nlt hlt, .intro h₃' d₃ tk₃ m₂ (i + 1) ?_ ?_ hn₃ hJ₃ hlt fun b o hbL hbI e => hk₃ b o hbL (hk₂ b o hbL hbI e)⟩
    · exact (hit₁.extBut hs₂.extBut hIL).extBut (b := env.locals) (fun b o hb e => hk₃ b o hb e) hIL
    · exact ((hl'.extBut hs₁.extBut haI).extBut hs₂.extBut haL).extBut (b := env.locals) (fun b o hb e => hk₃ b o hb e) haL
end
end Mine
end

section
open PySem PySem.W PyProof.Rows
set_option Elab.async false
set_option maxRecDepth 100000
namespace Mine
noncomputable def lm (mb : Str → Option Value) (u : Option Value) (acc : Value) : Str → Option Value := fun y => if y = Str.ofString "element" then u else if y = Str.ofString "value" then some acc else mb y
theorem lm_self {m : Str → Option Value} {acc : Value} (h : m (Str.ofString "value") = some acc) : m = lm m (m (Str.ofString "element")) acc := by
  funext y
  unfold lm
  by_cases h1 : y = Str.ofString "element"
  · rw [if_pos h1, h1]
  · rw [if_neg h1]
    by_cases h2 : y = Str.ofString "value"
    · rw [if_pos h2, h2, h]
    · rw [if_neg h2]
theorem lm_step {mb : Str → Option Value} {u : Option Value} {acc v r : Value} : (fun y => if y = Str.ofString "value" then some r else if y = Str.ofString "element" then some v else lm mb u acc y) = lm mb (some v) r := by
  funext y
  unfold lm
  by_cases h1 : y = Str.ofString "element"
  · have h2 : y ≠ Str.ofString "value" := by rw [h1]; decide
    rw [if_neg h2, if_pos h1, if_pos h1]
  · rw [if_neg h1, if_neg h1, if_neg h1]
    by_cases h2 : y = Str.ofString "value"
    · rw [if_pos h2, if_pos h2]
    · rw [if_neg h2, if_neg h2, if_neg h2]
noncomputable def FJ (mb : Str → Option Value) (B : Nat → Addr → Heap → Prop) (h0 : Heap) (I L : Addr) (i : Nat) (m : Str → Option Value) (h : Heap) : Prop :=
  ∃ u b, m = lm mb u (.ref b) ∧ B i b h ∧ Kept h0 h ∧ b ≠ I ∧ b ≠ L
theorem FJ.intro {mb : Str → Option Value} {B : Nat → Addr → Heap → Prop} {h0 : Heap} {I L : Addr} {i : Nat} {m : Str → Option Value} {h : Heap} (u : Option Value) (b : Addr) (e : m = lm mb u (.ref b)) (hB : B i b h) (hK : Kept h0 h) (n1 : b ≠ I) (n2 : b ≠ L) :
    FJ mb B h0 I L i m h := ⟨u, b, e, hB, hK, n1, n2⟩
theorem FJ.elim {mb : Str → Option Value} {B : Nat → Addr → Heap → Prop} {h0 : Heap} {I L : Addr} {i : Nat} {m : Str → Option Value} {h : Heap} {C : Prop} (x : FJ mb B h0 I L i m h)
    (k : ∀ u b, m = lm mb u (.ref b) → B i b h → Kept h0 h → b ≠ I → b ≠ L → C) : C := by
  obtain ⟨u, b, e, hB, hK, n1, n2⟩ := x
  exact k u b e hB hK n1 n2
theorem FJ.stable {mb : Str → Option Value} {B : Nat → Addr → Heap → Prop} {h0 : Heap} {I L : Addr} (hB : ∀ i b h h', (∀ o, h.get? b = some o → h'.get? b = some o) → B i b h → B i b h')
    (bad : ∀ b o, h0.get? b = some o → b ≠ I ∧ b ≠ L) (i : Nat) (m : Str → Option Value) (h h' : Heap) (hk : ∀ b o, b ≠ I → b ≠ L → h.get? b = some o → h'.get? b = some o) (x : FJ mb B h0 I L i m h) : FJ mb B h0 I L i m h' :=
  x.elim fun u b e b1 hK n1 n2 => .intro u b e (hB _ _ _ _ (fun o q => hk b o n1 n2 q) b1) (fun a o q => hk a o (bad a o q).1 (bad a o q).2 (hK a o q)) n1 n2

local macro_rules | `(tactic| walk_at "exec For Name Name cons nil") => `(tactic| (k_here; refine wpAny_For ?_ (by intro _; with_unfolding_all rfl)))
set_option pp.deepTerms false
set_option pp.deepTerms.threshold 6
set_option maxHeartbeats 4000000
theorem reduce_from {w : World} {A : Around} {mg mb : Str → Option Value} {mean : ExcName → Option Value} 
    {s : Shared} {f l l0 : Addr} {items : List Value} {Q E : Value → Shared → Prop} (Inv : Nat → Value → Heap → Prop)
    (X : (hd.heap_39 w.params).In s.heap) (T : Top hd.view_39 LO mean mg mb s.heap) 
    (hl : s.heap.IsList l items.toArray) {its0 : Array Value} (hl0 : s.heap.IsList l0 its0)
    (hd1 : A.depth + 20 < recursionLimit) (hh : A.handled = none)
    (hf : f = 121 ∨ f = 128) (hi0 : Inv 0 (.ref l0) s.heap) (hil : ∀ i v h, Inv i v h → ∃ b ws, v = .ref b ∧ h.IsList b ws) (hik : ∀ i b h h', (∀ o, h.get? b = some o → h'.get? b = some o) → Inv i (.ref b) h → Inv i (.ref b) h')
    (hstep : ∀ (i : Nat) (v acc : Value) (s' : Shared) (Q' E' : Value → Shared → Prop) (A' : Around), A'.depth = A.depth + 1 → A'.handled = none → items[i]? = some v → Kept s.heap s'.heap → Inv i acc s'.heap →
      (∀ r h' d' tk', Kept s'.heap h' → Inv (i + 1) r h' → Q' r { s' with heap := h', drawn := d', toks := tk' }) → wpAny (model PR w) A' (call (.ref f) [acc, v]) Q' E' s')
    (hQ : ∀ r h' d' tk, Kept s.heap h' → Inv items.length r h' → Q r { s with heap := h', drawn := d', toks := tk }) :
   wpAny (model PR w) A (call (.ref 37) [.ref f, .ref l, .ref l0]) Q E s := by
  refine' wpAny_call (enterP (h₀ := s.heap) (news := []) (Kept.refl _) (Nat.le_refl _) (fun _ h => nomatch h) X T ?k1 ?k2 ?k3 ?k4 ?k5 ?k6 ?k7 ?k8 ?k9 ?_)
  case k1 => k_is
  case k2 => k_is
  case k3 => exact lt0 hd1
  case k4 => first | exact BindsTo.of_eq rfl | exact binds_K X rfl (by k_is) rfl rfl rfl
  case k5 => exact locs rfl
  case k6 => rfl
  case k7 => rfl
  case k8 => rfl
  case k9 => decide
  intro L h₁ F N kk eL
  try dsimp only
  refine wp_gen2 fun Q1 E1 finT finE => ?_
  w_on
  k_steps
  refine iter_list (Kept.lst F.keep hl) ?_
  have F1 := F.push { cls := .type "list_iterator", data := .fields #[.ref l, .int 0 0] }
  have hI : (h₁.push { cls := .type "list_iterator", data := .fields #[.ref l, .int 0 0] }).IsListIter h₁.objs.size l 0 := ⟨_, Heap.get?_push_size _ rfl, rfl, rfl⟩
  have N1 : News s.heap L (h₁.push { cls := .type "list_iterator", data := .fields #[.ref l, .int 0 0] }) [(h₁.objs.size, { cls := .type "list_iterator", data := .fields #[.ref l, .int 0 0] })] := N.push F _
  have hsz1 : s.heap.objs.size ≤ h₁.objs.size := Nat.le_trans F.above (Nat.le_of_lt (fr_lt F))
  clear F N
  try dsimp only
  k_steps
  obtain ⟨o0, ho0, hc0, _⟩ := id hl0
  obtain ⟨o29, h29, c29⟩ : ∃ o, (hd.heap_39 w.params).lookup 29 = some o ∧ o.cls = .type "object" := ⟨_, rfl, rfl⟩
  have g29 := X _ _ h29
  have hne : l0 ≠ 29 := fun q => by
    rw [q, g29] at ho0
    cases ho0
    rw [c29] at hc0
    exact absurd hc0 (by decide)
  (with_reducible rename Fr _ _ _ _ => F2)
  (with_reducible rename News _ _ _ _ => N2)
  refine kto_is (F2.keep _ _ ho0) (F2.keep _ _ g29) hne (by rw [hc0]; decide) ?_
  k_steps
  (with_reducible rename Fr _ _ _ _ => F3)
  (with_reducible rename News _ _ _ _ => N3)
  have hI3 := (N3 _ (.head _))
  refine wpAny_pyIter_listiter (l := l) (i := 0) ⟨_, hI3.1, rfl, rfl⟩ ?_
  have hl3 := Kept.lst F3.keep hl
  obtain ⟨ol, hol, _⟩ := id hl
  have hlL : l ≠ L := Nat.ne_of_lt (by rw [← eL]; exact Heap.lt_size hol)
  have hlI : l ≠ h₁.objs.size := Nat.ne_of_lt (Heap.lt_size (kk _ _ hol))
  have hlt0 := Heap.lt_size ho0
  have hL1 := Heap.lt_size (kk _ _ ho0)
  have bad : ∀ b, b < s.heap.objs.size → b ≠ h₁.objs.size ∧ b ≠ L := fun b hb => ⟨fun q => absurd (Nat.lt_of_lt_of_le hb hsz1) (by rw [q]; exact Nat.lt_irrefl _), Nat.ne_of_lt (by rw [← eL]; exact hb)⟩
  refine for_fold (J := FJ _ (fun i b => Inv i (.ref b)) s.heap h₁.objs.size L) (items := items.toArray) (ax := l) (i0 := 0) hh (by rfl) (by rfl) hI3.2.1 hlL hlI (Nat.zero_le _) ⟨_, hI3.1, rfl, rfl⟩ hl3 F3.ns (.intro _ _ (lm_self rfl) (hik _ _ _ _ (fun o e => F3.keep _ o e) hi0) F3.keep (bad _ hlt0).1 (bad _ hlt0).2) (FJ.stable hik fun b o q => bad b (Heap.lt_size q)) ?_ ?_
  · intro i v h4 d4 tk4 m4 hv hit4 hJ hn hk
    refine wp_gen2 fun Q2 E2 fin2 finE2 => hJ.elim fun u acc e hInv hK n1 n2 => ?_
    subst e
    have F4 : Fr s.heap L h4 _ := ⟨hn, hK, F3.above⟩
    have N4 : News s.heap L h4 [] := .nil
    obtain ⟨oL, esL, epL, hoL, hdL, _⟩ := id hn
    have hoL : h4.get? L = some oL := hoL
    obtain ⟨oI, hoI, hcI, _⟩ := id hit4
    clear F3 N3
    have fin : ∀ r h', Kept h4 h' → Inv (i + 1) r h' → ∃ b, r = .ref b ∧ Inv (i + 1) (.ref b) h' ∧ Kept s.heap h' ∧ b ≠ h₁.objs.size ∧ b ≠ L := by
      intro r h' hk' hI'
      obtain ⟨b, ws, rfl, ob, hob, hcb, nb, hdb⟩ := hil _ _ _ hI'
      refine ⟨b, rfl, hI', hK.trans hk', fun q => ?_, fun q => ?_⟩
      · rw [q, hk' _ _ hoI] at hob
        cases hob
        rw [hcI] at hcb
        exact absurd hcb (by decide)
      · rw [q, hk' _ _ hoL] at hob
        cases hob
        rw [hdL] at hdb
        cases hdb
    rcases hf with rfl | rfl
    all_goals (
      k_steps
      refine hstep i v (.ref acc) _ _ _ _ (by simp only [depth_deeper]) hh (by simpa using hv) hK hInv ?_
      intro r h5 d5 tk5 hk5 hI5
      obtain ⟨b, rfl, hI6, hK6, n3, n4⟩ := fin r h5 hk5 hI5
      refine wpAny_storeName_local (by rfl) (hn.keeps hk5) (fun h6 hn6 sb6 => ?_) (by rfl)
      try dsimp only
      refine wpAny_execs_nil (fin2.go _ _ ⟨rfl, h6, d5, _, _, rfl, fun a o ha e => sb6.extBut a o ha (hk5 a o e), hn6, .intro (some v) b lm_step (hik _ _ _ _ (fun o e => sb6.extBut b o n4 e) hI6) (fun a o e => sb6.extBut a o (bad a (Heap.lt_size e)).2 (hK6 a o e)) n3 n4⟩))
  · intro h' d tk' m' hn hJ hk
    refine hJ.elim fun u acc e hInv hK n1 n2 => ?_
    subst e
    have F5 : Fr s.heap L h' _ := ⟨hn, hK, F3.above⟩
    have N5 : News s.heap L h' [] := .nil
    clear F3 N3
    try dsimp only
    k_steps
    try dsimp only
    exact finT.go _ _ (hQ _ _ _ _ hK (by simpa using hInv))
end Mine
end

section
open PySem PySem.W PyProof.Rows
set_option Elab.async false
set_option maxRecDepth 100000
namespace Mine
noncomputable def Okn (k : Str) : Prop := k.length ≤ 1000 ∧ k ≠ Str.ofString "<string>"
theorem stepF_mem {ks : List Str} {n x : Str} (h : x ∈ stepF ks n) : x ∈ ks ∨ x = n := by
  unfold stepF at h
  split at h
  · exact .inl h
  · rcases List.mem_append.mp h with h | h
    · exact .inl (List.mem_filter.mp h).1
    · exact .inr (by simpa using h)
theorem stepF_length (ks : List Str) (n : Str) : (stepF ks n).length ≤ ks.length + 1 := by
  unfold stepF
  split
  · exact Nat.le_succ _
  · rw [List.length_append]
    exact Nat.add_le_add_right (List.length_filter_le _ _) 1
theorem foldF_ok : ∀ (ns ks : List Str), (∀ k ∈ ks, Okn k) → (∀ k ∈ ns, Okn k) → (∀ k ∈ ns.foldl stepF ks, Okn k) ∧ (ns.foldl stepF ks).length ≤ ks.length + ns.length
  | [], ks, h, _ => ⟨h, Nat.le_refl _⟩
  | n :: ns, ks, h, h' => by
    have q := foldF_ok ns (stepF ks n) (fun k hk => (stepF_mem hk).elim (h k) fun e => e ▸ h' n (.head _)) fun k hk => h' k (.tail _ hk)
    refine ⟨q.1, Nat.le_trans q.2 ?_⟩
    rw [List.length_cons, Nat.add_comm ns.length 1, ← Nat.add_assoc]
    exact Nat.add_le_add_right (stepF_length ks n) _

theorem small2 {l k m n c : Nat} (h : l ≤ k + m) (h' : m ≤ n) (hb : k + n < c) : l < c := Nat.lt_of_le_of_lt (Nat.le_trans h (Nat.add_le_add_left h' _)) hb
set_option pp.deepTerms false
set_option pp.deepTerms.threshold 6
set_option maxHeartbeats 4000000
theorem reduce_steps {w : World} {A : Around} {mg mb : Str → Option Value} {mean : ExcName → Option Value} 
    {s : Shared} {l l0 : Addr} {vs vs0 : List Value} {ns ks : List Str} {Q E : Value → Shared → Prop}
    (X : (hd.heap_39 w.params).In s.heap) (T : Top hd.view_39 LO mean mg mb s.heap) 
    (hl : s.heap.IsList l vs.toArray) (hs : StrsAre vs ns) (hl0 : s.heap.IsList l0 vs0.toArray) (hs0 : StrsAre vs0 ks) (hb : ks.length + ns.length < 800) (hks : ∀ k ∈ ks, Okn k) (hns : ∀ k ∈ ns, Okn k)
    (hd1 : A.depth + 30 < recursionLimit) (hh : A.handled = none)
    (hQ : ∀ b ws h' d' tk, Kept s.heap h' → h'.IsList b (List.toArray ws) → StrsAre ws (ns.foldl stepF ks) → Q (.ref b) { s with heap := h', drawn := d', toks := tk }) :
   wpAny (model PR w) A (call (.ref 37) [.ref 121, .ref l, .ref l0]) Q E s := by
  have hlen := StrsAre.length hs
  refine reduce_from (fun i v h => ∃ b ws, v = .ref b ∧ h.IsList b (List.toArray ws) ∧ StrsAre ws ((ns.take i).foldl stepF ks)) X T hl hl0 (ltl hd1 (by decide)) hh (.inl rfl) ⟨l0, vs0, rfl, hl0, hs0⟩ ?_ ?_ ?_ ?_
  · rintro i v h ⟨b, ws, rfl, a, _⟩
    exact ⟨b, _, rfl, a⟩
  · rintro i b h h' hk ⟨b', ws, e, a, c⟩
    cases e
    exact ⟨b, ws, rfl, a.at hk, c⟩
  · rintro i v acc s' Q' E' A' hA hA' hv hk ⟨b, ws, rfl, a, c⟩ hQ'
    obtain ⟨y, ty, rfl, hy⟩ := StrsAre.item hs i v hv
    have ok := foldF_ok (ns.take i) ks hks fun k hk => hns k (List.mem_of_mem_take hk)
    refine step_spec (X.keeps hk) (T.keeps hk) a c (small2 ok.2 (List.length_take_le' i ns) (Nat.lt_trans hb (by decide))) ok.1 (hns y (List.mem_of_getElem? hy)) (by rw [hA]; exact ltl (n := 21) hd1 (by decide)) hA' ?_
    intro b2 ws2 h2 d2 tk2 hk2 hl2 hs2
    refine hQ' _ h2 d2 tk2 hk2 ⟨b2, ws2, rfl, hl2, ?_⟩
    rw [List.take_succ, hy, List.foldl_append]
    exact hs2
  · rintro r h' d' tk hk ⟨b, ws, rfl, a, c⟩
    refine hQ b ws h' d' tk hk a ?_
    rw [List.take_of_length_le (Nat.le_of_eq hlen.symm)] at c
    exact c

theorem joined_spec {w : World} {A : Around} {mg mb : Str → Option Value} {mean : ExcName → Option Value} 
    {s : Shared} {l l0 : Addr} {vs vs0 : List Value} {ns ks : List Str} {Q E : Value → Shared → Prop}
    (X : (hd.heap_39 w.params).In s.heap) (T : Top hd.view_39 LO mean mg mb s.heap) 
    (hl : s.heap.IsList l vs.toArray) (hs : StrsAre vs ns) (hl0 : s.heap.IsList l0 vs0.toArray) (hs0 : StrsAre vs0 ks) (hb : ks.length + ns.length < 800) (hks : ∀ k ∈ ks, Okn k) (hns : ∀ k ∈ ns, Okn k)
    (hd1 : A.depth + 40 < recursionLimit) (hh : A.handled = none)
    (hQ : ∀ b ws h' d' tk, Kept s.heap h' → h'.IsList b (List.toArray ws) → StrsAre ws (ns.foldl stepF ks) → Q (.ref b) { s with heap := h', drawn := d', toks := tk }) :
   wpAny (model PR w) A (call (.ref 128) [.ref l0, .ref l]) Q E s := by
  refine' wpAny_call (enterP (h₀ := s.heap) (news := []) (Kept.refl _) (Nat.le_refl _) (fun _ h => nomatch h) X T ?k1 ?k2 ?k3 ?k4 ?k5 ?k6 ?k7 ?k8 ?k9 ?_)
  case k1 => k_is
  case k2 => k_is
  case k3 => exact lt0 hd1
  case k4 => exact BindsTo.of_eq rfl
  case k5 => exact locs rfl
  case k6 => rfl
  case k7 => rfl
  case k8 => rfl
  case k9 => decide
  intro L h₁ F N kk eL
  try dsimp only
  refine wp_gen2 fun Q1 E1 finT finE => ?_
  w_on
  k_steps
  refine reduce_steps (X.keeps kk) (T.keeps kk) (Kept.lst kk hl) hs (Kept.lst kk hl0) hs0 hb hks hns (ltd hd1 (by decide)) hh ?_
  intro b ws h' d' tk hk hl' hs'
  try dsimp only
  exact finT.go _ _ (hQ b ws h' d' tk (Kept.trans kk hk) hl' hs')
end Mine
end

section
open PySem PySem.W PyProof.Rows PyProof.V PySem.Calls PySem.Spec
set_option Elab.async false
set_option maxRecDepth 100000
namespace Mine
theorem st_canLayAll0 : ∀ ns : List Str, (∀ k ∈ ns, PyData.strOk k = true) → PyData.canLayAll0 (ns.map PyData.str) = true
  | [], _ => rfl
  | k :: r, h => by simp [PyData.canLayAll0, PyData.canLay0, st_canLayAll0 r (fun x hx => h x (.tail _ hx)), h k (.head _)]
theorem st_depthAll : ∀ ns : List Str, PyData.depthAll (ns.map PyData.str) = 0
  | [] => rfl
  | _ :: r => by simp [PyData.depthAll, PyData.depth, st_depthAll r]
theorem st_shaped (ns : List Str) (h : ∀ k ∈ ns, PyData.strOk k = true) : SeqAt.shaped (.list (ns.map PyData.str)) = true := by
  simp [SeqAt.shaped, PyData.canLay0, PyData.depth, st_canLayAll0 ns h, st_depthAll]
theorem st_sameAll : ∀ ns ms : List Str, PySem.Spec.sameAll (ns.map PyData.str) (ms.map PyData.str) = decide (ns = ms)
  | [], [] => by simp [PySem.Spec.sameAll]
  | [], _ :: _ => by simp [PySem.Spec.sameAll]
  | _ :: _, [] => by simp [PySem.Spec.sameAll]
  | a :: r, b :: t => by
    simp only [List.map_cons, PySem.Spec.sameAll, PySem.Spec.same, st_sameAll r t]
    rw [Bool.eq_iff_iff]
    simp only [Bool.and_eq_true, decide_eq_true_eq, beq_iff_eq, List.cons.injEq]
theorem st_same (ns ms : List Str) : PySem.Spec.same (.list (ns.map PyData.str)) (.list (ms.map PyData.str)) = decide (ns = ms) := by
  simp only [PySem.Spec.same]; exact st_sameAll ns ms
theorem st_carried {vs : List Value} {ns : List Str} (h : StrsAre vs ns) : CarriedAll vs (ns.map PyData.str) := by
  induction h with
  | nil => exact .nil
  | cons k t r ih => exact .cons (.str _ t) ih
section
variable {prog : Program} {w : World} {A : Around} {E : Value → Shared → Prop} {s : Shared} {a b : Addr} {xs ys : List Value} {ns ms : List Str} {Q : Value → Shared → Prop}
theorem eq_strs (ha : s.heap.IsList a xs.toArray) (hb : s.heap.IsList b ys.toArray) (hi : StrsAre xs ns) (hj : StrsAre ys ms) (o1 : ∀ k ∈ ns, PyData.strOk k = true) (o2 : ∀ k ∈ ms, PyData.strOk k = true) (hu : A.units + 64 < cLine) (h : Q (.bool (decide (ns = ms))) s) :
    wpAny (model prog w) A (compareOp .Eq (.ref a) (.ref b)) Q E s :=
  eq_dataH_same (reads_newData ha (st_carried hi)) (reads_newData hb (st_carried hj)) (st_shaped _ o1) (st_shaped _ o2) hu (SeqAt.noMix_of_shape (.list .str) rfl _ _ (list_map_has fun _ => rfl) (list_map_has fun _ => rfl)) (by rw [st_same]; exact h)
theorem ne_strs (ha : s.heap.IsList a xs.toArray) (hb : s.heap.IsList b ys.toArray) (hi : StrsAre xs ns) (hj : StrsAre ys ms) (o1 : ∀ k ∈ ns, PyData.strOk k = true) (o2 : ∀ k ∈ ms, PyData.strOk k = true) (hu : A.units + 64 < cLine) (h : Q (.bool (!decide (ns = ms))) s) :
    wpAny (model prog w) A (compareOp .NotEq (.ref a) (.ref b)) Q E s :=
  ne_dataH_same (reads_newData ha (st_carried hi)) (reads_newData hb (st_carried hj)) (st_shaped _ o1) (st_shaped _ o2) hu (SeqAt.noMix_of_shape (.list .str) rfl _ _ (list_map_has fun _ => rfl) (list_map_has fun _ => rfl)) (by rw [st_same]; exact h)
end
end Mine
end

section
open PySem PySem.W PyProof.Rows
set_option Elab.async false
set_option maxRecDepth 100000
namespace Mine
noncomputable def EvAt (h : Heap) (ev : Addr) (P : List (List Str)) : Prop :=
  ∃ as : List Addr, h.IsList ev (as.map Value.ref).toArray ∧ as.length = P.length ∧ ∀ (i : Nat) a p, as[i]? = some a → P[i]? = some p → ∃ ws, h.IsList a (List.toArray ws) ∧ StrsAre ws p
theorem EvAt.keeps {h h' : Heap} {ev : Addr} {P : List (List Str)} (x : EvAt h ev P) (k : Kept h h') : EvAt h' ev P := by
  obtain ⟨as, a, b, c⟩ := x
  exact ⟨as, k.lst a, b, fun i a p e1 e2 => let ⟨ws, q1, q2⟩ := c i a p e1 e2; ⟨ws, k.lst q1, q2⟩⟩
noncomputable def aboveF (P : List (List Str)) (ps : List Int) (k : Int) : List Int :=
  ps.filter fun j => decide (j ≠ k) && decide ((P.getD k.toNat []).take (P.getD j.toNat []).length = P.getD j.toNat [])
theorem aboveF_succ {P : List (List Str)} {ps : List Int} {k j : Int} {i : Nat} (hj : ps[i]? = some j) : aboveF P (ps.take (i + 1)) k = aboveF P (ps.take i) k ++ (if j ≠ k ∧ (P.getD k.toNat []).take (P.getD j.toNat []).length = P.getD j.toNat [] then [j] else []) := by
  unfold aboveF
  rw [List.take_succ, hj, List.filter_append]
  congr 1
  simp only [Option.toList_some, List.filter_cons, List.filter_nil]
  by_cases h : j ≠ k ∧ (P.getD k.toNat []).take (P.getD j.toNat []).length = P.getD j.toNat []
  · rw [if_pos h, if_pos (by simp only [Bool.and_eq_true, decide_eq_true_eq]; exact h)]
  · rw [if_neg h, if_neg (by simp only [Bool.and_eq_true, decide_eq_true_eq]; exact h)]
section
variable {prog : Program} {w : World} {A : Around} {E : Value → Shared → Prop} {s : Shared}
theorem item_list {value slice : PySem.Expr} {l : Addr} {vs : List Value} {k : Int} {u : Tok} {v : Value} {Q : Value → Shared → Prop}
    (hl : s.heap.IsList l vs.toArray) (h0 : 0 ≤ k) (hhi : k < 2 ^ 63) (hx : vs[k.toNat]? = some v) (h : Q v s)
    (hs : subscripted slice false (.ref l) (.int k u) = operate [.ref l, .int k u] (getItem (.ref l) (.int k u)) := by with_unfolding_all rfl) :
    wpAny (model prog w) A (subscriptTail value slice (.ref l) (.int k u)) Q E s :=
  tail_any hl.typeIs slot_list_getitem.lookup (wpAny_getItem_list hl h0 hhi (by simpa using hx) h) hs
end

theorem minN (a b : Nat) : ((min a b : Nat) : Int) = min (a : Int) b := by
  rcases Nat.le_total a b with h | h
  · rw [Nat.min_eq_left h, Int.min_eq_left (Int.ofNat_le.mpr h)]
  · rw [Nat.min_eq_right h, Int.min_eq_right (Int.ofNat_le.mpr h)]
theorem slice_take (wk : List Value) (n : Nat) : slicePick wk.toArray none (some (n : Int)) none = (wk.take n).toArray := by
  have e : sliceBounds none (some (n : Int)) none wk.toArray.size = (((0 : Nat) : Int), ((min n wk.toArray.size : Nat) : Int), 1) := by
    simp only [sliceBounds, Option.getD_none, show (1 : Int) > 0 by decide, if_true, if_neg (show ¬ ((n : Int) < 0) from Int.not_lt.mpr (Int.natCast_nonneg n))]
    congr 1
    congr 1
    rw [Int.max_eq_right (Int.le_min.mpr ⟨Int.natCast_nonneg _, Int.natCast_nonneg _⟩), minN]
  rw [kmk_pick_nat _ e]
  show ((wk.drop 0).take (min n wk.toArray.size - 0)).toArray = _
  rw [List.drop_zero, Nat.sub_zero, List.size_toArray, kmk_take_min]
section
variable {prog : Program} {w : World} {A : Around} {E : Value → Shared → Prop} {s : Shared}
theorem slice_plain {value slice : PySem.Expr} {l : Addr} {items : Array Value} {vl vu : Value} {lo hi : Option Int} {Q : Value → Shared → Prop}
    (hl : s.heap.IsList l items) (pl : IsPart vl lo) (pu : IsPart vu hi)
    (h : Q (.ref (s.heap.objs.size + 1)) { s with heap := (s.heap.push { cls := .type "slice", data := .fields #[vl, vu, .none] }).push { cls := .type "list", data := .seq (slicePick items lo hi none) } })
    (hs : subscripted slice false (.ref l) (.ref s.heap.objs.size) = operate [.ref s.heap.objs.size, .ref l] (getItem (.ref l) (.ref s.heap.objs.size)) := by with_unfolding_all rfl)
    (ht : ∀ r, letTemporaryGo value (.ref l) r = pure () := by intro _; with_unfolding_all rfl)
    (hsz : items.size ≤ sizeLine := by size_fits) :
    wpAny (model prog w) A (subscriptTail value slice (.ref l) (.ref s.heap.objs.size)) Q E { s with heap := s.heap.push { cls := .type "slice", data := .fields #[vl, vu, .none] } } := by
  refine subscriptTail_ops (Heap.IsList.typeIs (s := { s with heap := s.heap.push { cls := .type "slice", data := .fields #[vl, vu, .none] } }) (hl.push _)) list_getitem_lookup
    (wpAny_getItem_list_slice (hl.push _) (Heap.IsSliceOf.new ..) pl pu .none (by simp) ?_ hsz) hs ht
  show Q (.ref (s.heap.push _).objs.size) _
  rw [Heap.size_push]
  exact h
end
theorem strs_take {vs : List Value} {ns : List Str} (h : StrsAre vs ns) : ∀ n, StrsAre (vs.take n) (ns.take n) := by
  induction h with
  | nil => intro n; rw [List.take_nil, List.take_nil]; exact .nil
  | cons k t r ih =>
    intro n
    cases n with
    | zero => exact .nil
    | succ n => exact .cons _ _ (ih n)
local macro_rules | `(tactic| walk_at "eval ListComp") => `(tactic| (k_here; refine stop_here ?_))

set_option pp.deepTerms false
set_option pp.deepTerms.threshold 6
set_option maxHeartbeats 4000000
theorem above_spec {w : World} {A : Around} {mg mb : Str → Option Value} {mean : ExcName → Option Value} 
    {s : Shared} {l ev : Addr} {vs : List Value} {ps : List Int} {P : List (List Str)} {k : Int} {t : Tok} {Q E : Value → Shared → Prop}
    (X : (hd.heap_39 w.params).In s.heap) (T : Top hd.view_39 LO mean mg mb s.heap) 
    (hl : s.heap.IsList l vs.toArray) (hs : IntsAre vs ps) (hE : EvAt s.heap ev P) (hP : P.length < 1000) (hPl : ∀ p ∈ P, p.length < 1000 ∧ ∀ x ∈ p, PyData.strOk x = true) (hb : ps.length < 900) (hps : ∀ j ∈ ps, 0 ≤ j ∧ j < P.length) (hk : 0 ≤ k ∧ k < P.length)
    (hd1 : A.depth + 20 < recursionLimit) (hu : A.units + 200 < cLine) (hh : A.handled = none)
    (hQ : ∀ b ws h' d' tk, Kept s.heap h' → h'.IsList b (List.toArray ws) → IntsAre ws (aboveF P ps k) → Q (.ref b) { s with heap := h', drawn := d', toks := tk }) :
   wpAny (model PR w) A (call (.ref 116) [.ref l, .int k t, .ref ev]) Q E s := by
  refine' wpAny_call (enterC (h₀ := s.heap) (news := []) (Kept.refl _) (Nat.le_refl _) (fun _ h => nomatch h) X T ?k1 ?k2 ?k3 ?k4 ?k5 ?k6 ?k7 ?k8 ?k9 ?_)
  case k1 => k_is
  case k2 => k_is
  case k3 => exact lt0 hd1
  case k4 => exact BindsTo.of_eq rfl
  case k5 => exact rfl
  case k6 => decide +kernel
  case k7 => rfl
  case k8 => rfl
  case k9 => rfl
  intro L h₁ tk cells F N Y kk eL
  k_cells Y
  simp only [List.cons_append, List.nil_append] at N
  try dsimp only
  try k_fold
  refine wp_gen2 fun Q1 E1 finT finE => ?_
  w_on
  k_steps
  (with_reducible rename Fr _ _ _ _ => F1)
  (with_reducible rename News _ _ _ _ => N1)
  obtain ⟨as, ha1, ha2, ha3⟩ := id hE
  have hkn : k.toNat < as.length := tn hk.1 hk.2 ha2
  have hka : (as.map Value.ref)[k.toNat]? = some (.ref as[k.toNat]) := by simp [hkn]
  refine item_list (Kept.lst F1.keep ha1) hk.1 (j63 hk.2 hP) hka ?_
  k_steps
  (with_reducible rename Fr _ _ _ _ => F6)
  (with_reducible rename News _ _ _ _ => N6)
  show wpAny _ _ _ _ _ _
  rename_i h6 o6 d6
  have kk6 : Kept s.heap h6 := F6.keep
  have hlen := hs.length
  refine' comp_inv (ld := fun v m => m (Str.ofString "j") = some v) (by rfl) (by decide) (by rfl) (by decide) (by intro _ _; rfl) ?_
  walk1
  have hl6 := Kept.lst kk6 hl
  obtain ⟨ol6, hol6, _⟩ := id hl6
  have hll := Heap.lt_size hol6
  refine wpAny_pyIter_list hl6 ?_
  try dsimp only
  refine ⟨h6.objs.size, [h6.objs.size, l], vs.toArray.size, _, _, [], fun i ys h => IntsAre ys (aboveF P (ps.take i) k), rfl,
    Walks.list (by exact hh) _ l (Nat.ne_of_lt hll) vs.toArray, ?_, ⟨⟨_, Heap.get?_push_size _ rfl, rfl, rfl⟩, hl6.push _⟩, ?_, (fun b hb => nomatch hb), ⟨?_, ?_, ?_, ?_⟩, ?_⟩
  · rw [List.size_toArray, hlen]; exact szl (Nat.le_of_lt hb) (by decide)
  · intro b hb
    simp only [List.mem_cons, List.mem_nil_iff, or_false] at hb
    rw [Heap.size_push]
    rcases hb with rfl | rfl
    · exact Nat.lt_succ_self _
    · exact Nat.lt_succ_of_lt hll
  · exact .nil
  · exact fun _ _ _ _ _ hJ => hJ
  · intro i v h d tk E' Q' m hi hv hn hQ'
    exact wpAny_assign_Name (wpAny_storeName_local (by rfl) hn (fun h' hn' hs' => hQ' h' _ _ hn' (by simp) hs') (by rfl))
  · intro i v h d tk m ys E' hi hv hkp hsz hn hld hJ hyl
    refine wpAny_tests_one ?_
    obtain ⟨S2, eS⟩ : ∃ S2, S2 = (h6.push { cls := .type "list_iterator", data := .fields #[.ref l, .int 0 0] }).objs.size := ⟨_, rfl⟩
    rw [← eS] at hsz hn ⊢
    rw [Heap.size_push] at eS
    have kt : ∀ b o, h6.get? b = some o → h.get? b = some o := fun b o e => hkp b o (by simp) (Nat.ne_of_lt (Heap.lt_size e)) (Heap.get?_push_of_some _ e)
    have neS : ∀ a o, h6.get? a = some o → a ≠ S2 + 1 := fun a o e => by rw [eS]; exact Nat.ne_of_lt (Nat.lt_succ_of_lt (Nat.lt_succ_of_lt (Heap.lt_size e)))
    have hs8 : s.heap.objs.size ≤ S2 + 1 := by rw [eS]; exact Nat.le_trans F6.above (Nat.le_trans (Nat.le_of_lt (fr_lt F6)) (Nat.le_trans (Nat.le_succ _) (Nat.le_succ _)))
    have F7 : Fr s.heap (S2 + 1) h m := ⟨hn, fun b o e => kt b o (kk6 b o e), hs8⟩
    have N7 : News s.heap (S2 + 1) h [(L + 1 + 1 + 1, _), (L + 1 + 1, _), (L + 1, _)] := fun p hp => ⟨kt _ _ (N6 p hp).1, neS _ _ (N6 p hp).1, (N6 p hp).2.2⟩
    obtain ⟨j, tj, rfl, hj⟩ : ∃ j tj, v = .int j tj ∧ ps[i]? = some j := by
      have hi' : i < ps.length := by rw [← hlen]; simpa using hi
      obtain ⟨tj, e⟩ := IntsAre.int_at hs i v (by simpa using hv)
      exact ⟨_, tj, e, by simp [hi']⟩
    clear F6 N6
    k_steps
    · obtain ⟨hj0, hj1⟩ := hps j (List.mem_of_getElem? hj)
      have hjn : j.toNat < as.length := tn hj0 hj1 ha2
      have hja : (as.map Value.ref)[j.toNat]? = some (.ref as[j.toNat]) := by simp [hjn]
      refine item_list (Kept.lst F7.keep ha1) hj0 (j63 hj1 hP) hja ?_
      have hjP : j.toNat < P.length := tn hj0 hj1 rfl
      have hkP : k.toNat < P.length := tn hk.1 hk.2 rfl
      obtain ⟨wj, hwj, sj⟩ := ha3 j.toNat _ _ (List.getElem?_eq_getElem hjn) (List.getElem?_eq_getElem hjP)
      obtain ⟨wk, hwk, sk⟩ := ha3 k.toNat _ _ (List.getElem?_eq_getElem hkn) (List.getElem?_eq_getElem hkP)
      have hwj7 := Kept.lst F7.keep hwj
      have hwk7 := Kept.lst F7.keep hwk
      k_steps
      refine len_strsA hwj7 sj ?_ ?_
      · exact i63 (hPl _ (List.getElem_mem hjP)).1 (by decide)
      k_steps
      refine slice_plain (lo := none) (hi := some ((P[j.toNat].length : Nat) : Int)) hwk7 (by constructor) (by constructor) ?_ (by with_unfolding_all rfl) (by intro _; with_unfolding_all rfl) ?_
      · rw [slice_take]
        generalize hh8 : (h.push _).push _ = h8
        have k8 : Kept h h8 := by rw [← hh8]; exact fun b o e => Heap.get?_push_of_some _ (Heap.get?_push_of_some _ e)
        have l8 : h8.IsList (h.objs.size + 1) (wk.take P[j.toNat].length).toArray := by
          rw [← hh8, ← Heap.size_push h]
          exact ⟨_, Heap.get?_push_size _ rfl, rfl, _, rfl⟩
        have F8 := fr_kept F7 k8
        have N8 := news_kept N7 k8
        clear F7 N7
        try dsimp only
        walk1
        walk1
        refine wpAny_Name (wpAny_loadName_local (by rfl) (by rfl) F8.ns hld ?_) (by decide)
        refine item_list (Kept.lst F8.keep ha1) hj0 (j63 hj1 hP) hja ?_
        refine eq_strs (ns := P[k.toNat].take P[j.toNat].length) (ms := P[j.toNat]) l8 (Kept.lst F8.keep hwj) (strs_take sk _) sj (fun x hx => (hPl _ (List.getElem_mem hkP)).2 x (List.mem_of_mem_take hx)) (hPl _ (List.getElem_mem hjP)).2 (ltu hu (by decide)) ?_
        have hdk : P.getD k.toNat [] = P[k.toNat] := by simp [hkP]
        have hdj : P.getD j.toNat [] = P[j.toNat] := by simp [hjP]
        by_cases hc : P[k.toNat].take P[j.toNat].length = P[j.toNat]
        · rw [decide_eq_true hc]
          walk1
          rw [if_pos rfl]
          walk1
          rw [if_pos rfl]
          refine wpAny_Name (wpAny_loadName_local (by rfl) (by rfl) F8.ns hld ?_) (by decide)
          refine ⟨h8, _, _, rfl, fun b o _ e => k8 b o e, ?_⟩
          rw [aboveF_succ hj, hdk, hdj, if_pos ⟨by assumption, hc⟩]
          exact hJ.append (.cons _ _ .nil)
        · rw [decide_eq_false hc]
          walk1
          rw [if_neg Bool.false_ne_true]
          try rw [if_neg Bool.false_ne_true]
          refine ⟨h8, _, _, rfl, fun b o _ e => k8 b o e, ?_⟩
          rw [aboveF_succ hj, hdk, hdj, if_neg (fun q => hc q.2), List.append_nil]
          exact hJ
      · rw [List.size_toArray, StrsAre.length sk]; exact szl (Nat.le_of_lt (hPl _ (List.getElem_mem hkP)).1) (by decide)
    · rw [aboveF_succ hj, if_neg (fun q => q.1 (by assumption)), List.append_nil]
      exact hJ
  · intro h' d' tk ys hy hJ hyl hk
    refine finT.go _ _ (hQ _ ys h' d' tk (fun b o e => hk b o (by simp) (Nat.ne_of_lt (Heap.lt_size (kk6 _ _ e))) (Heap.get?_push_of_some _ (kk6 _ _ e))) hy ?_)
    rw [List.take_of_length_le (by rw [← hlen]; simp)] at hJ
    exact hJ
end Mine
end

section
open PySem PySem.W PyProof.Rows PyProof.V PySem.Calls PySem.Spec
set_option Elab.async false
set_option maxRecDepth 100000
namespace Mine
/-! exceptions that are caught in the frame that they rise in -/
noncomputable def ExcAt (h : Heap) (lo : Heap) (e : Addr) (cls c fl : Value) : Prop :=
  ∃ oe vs T oT ts, h.get? e = some oe ∧ oe.cls = cls ∧ oe.data = .fields vs ∧ vs[1]? = some (.ref T) ∧ vs[2]? = some c ∧ T ≠ e ∧ h.get? T = some oT ∧ oT.data = .fields ts ∧ ts[3]? = some fl ∧ lo.get? T = none ∧ lo.get? e = none
noncomputable def ExcNew (h : Heap) (lo : Heap) (e : Addr) (cls c : Value) : Prop :=
  ∃ oe vs, h.get? e = some oe ∧ oe.cls = cls ∧ oe.data = .fields vs ∧ vs[1]? = some .none ∧ vs[2]? = some c ∧ lo.get? e = none
theorem ExcAt.elim {P : Prop} {h lo : Heap} {e : Addr} {cls c fl : Value} (x : ExcAt h lo e cls c fl) (k : ∀ oe vs T oT ts, h.get? e = some oe → oe.cls = cls → oe.data = .fields vs → vs[1]? = some (.ref T) → vs[2]? = some c → T ≠ e → h.get? T = some oT → oT.data = .fields ts → ts[3]? = some fl → lo.get? T = none → lo.get? e = none → P) : P := by
  obtain ⟨oe, vs, T, oT, ts, a1, a2, a3, a4, a5, a6, a7, a8, a9, b1, b2⟩ := x
  exact k oe vs T oT ts a1 a2 a3 a4 a5 a6 a7 a8 a9 b1 b2
theorem ExcNew.elim {P : Prop} {h lo : Heap} {e : Addr} {cls c : Value} (x : ExcNew h lo e cls c) (k : ∀ oe vs, h.get? e = some oe → oe.cls = cls → oe.data = .fields vs → vs[1]? = some .none → vs[2]? = some c → lo.get? e = none → P) : P := by
  obtain ⟨oe, vs, a1, a2, a3, a4, a5, a6⟩ := x
  exact k oe vs a1 a2 a3 a4 a5 a6
structure KeptF (lo : Heap) (fs : List Addr) (h h' : Heap) : Prop where
  keep : ∀ b o, lo.get? b ≠ none → b ∉ fs → h.get? b = some o → h'.get? b = some o
  slots : h.UpToSlots h'
theorem KeptF.refl (lo : Heap) (fs : List Addr) (h : Heap) : KeptF lo fs h h := ⟨fun _ _ _ _ e => e, .refl h⟩
theorem KeptF.trans {lo : Heap} {fs : List Addr} {a b c : Heap} (x : KeptF lo fs a b) (y : KeptF lo fs b c) : KeptF lo fs a c :=
  ⟨fun p o h1 h2 e => y.keep p o h1 h2 (x.keep p o h1 h2 e), x.slots.trans y.slots⟩
theorem KeptF.of_kept {lo : Heap} {fs : List Addr} {a b : Heap} (k : ∀ b' o, a.get? b' = some o → b.get? b' = some o) : KeptF lo fs a b := ⟨fun p o _ _ e => k p o e, .of_keeps k⟩
theorem ExcAt.lt {h : Heap} {lo : Heap} {e : Addr} {cls c fl : Value} (x : ExcAt h lo e cls c fl) : e < h.objs.size := by
  obtain ⟨oe, _, _, _, _, he, _⟩ := x
  exact Heap.lt_size he
theorem ExcAt.type {s : Shared} {lo : Heap} {e : Addr} {X : String} {c fl : Value} (x : ExcAt s.heap lo e (.type X) c fl) : s.TypeIs (.ref e) X := by
  obtain ⟨oe, _, _, _, _, he, hc, _⟩ := x
  exact ⟨oe, he, hc⟩
theorem ExcNew.of {h h' : Heap} {e : Addr} {X : String} (x : Heap.NewExc h h' e X) : ExcNew h' h e (.type X) .none := by
  obtain ⟨ob, t, he, hc, hd⟩ := x.there
  exact ⟨ob, _, he, hc, hd, rfl, rfl, x.new⟩

section
variable {M : Model} {A : Around} {E : Value → Shared → Prop} {s : Shared} {base : Heap} {env : Env} {outer : List Env} {L e : Addr} {lo : Heap} {cls c fl : Value}
theorem note_new {Q : Unit → Shared → Prop} (hfr : A.frames = some (env :: outer)) (hl : s.heap.FunFrames base (env :: outer)) (hf : env.frame = some L) (hG : ∀ b, lo.get? b ≠ none → b < s.heap.objs.size) (x : ExcNew s.heap lo e cls c)
    (h : ∀ h', KeptF lo ((env :: outer).filterMap (·.frame)) s.heap h' → ExcAt h' lo e cls c (rawInt L) → Q () { s with heap := h' }) : wpAny M A (noteFrame (.ref e) env) Q E s := by
  refine x.elim fun oe vs he hc hd h1 h2 hlo => ?_
  have hsz : 1 < vs.size := (Array.getElem?_eq_some_iff.mp h1).1
  unfold noteFrame
  simp only [hf]
  refine wpAny_bind (wpAny_field he hd h1 ?_)
  rw [if_neg (by decide)]
  have hene : e ∉ (env :: outer).filterMap (·.frame) := fun hm => by
    obtain ⟨_, o, ho, hnf⟩ := hl.mem hm
    rw [he] at ho; cases ho; exact hnf vs hd
  refine wpAny_bind (wpAny_frameOf_fun hfr hl hf fun h₁ hs₁ => ?_)
  refine wpAny_bind (wpAny_entryPlaceOf fun pl hpl => ?_)
  unfold EntryCells.newEntry newFields
  refine wpAny_bind (wpAny_newObj_type ?_ (hpl.sizeOk5 _ _ _ _ _))
  have he₁ : h₁.get? e = some oe := (hs₁.2.1 e hene).trans he
  generalize hob : ({ cls := .type "traceback", data := .fields ([Value.none, .ref L, .none, rawInt L, .none] ++ (if pl.isEmpty then List.replicate 6 Value.none else pl)).toArray } : Obj) = ob
  have hob3 : ∃ ts, ob.data = .fields ts ∧ ts[3]? = some (rawInt L) := ⟨_, by rw [← hob], by simp⟩
  have hobf : ob.isFreed = false := by rw [← hob]; rfl
  have he₂ : (h₁.push ob).get? e = some oe := Heap.get?_push_of_some _ he₁
  refine wpAny_setField he₂ hd hsz (h _ ?_ ?_)
  · have hTe : h₁.objs.size ≠ e := Nat.ne_of_gt (Heap.lt_size he₁)
    constructor
    · intro b o hb hbf e1
      have hbe : b ≠ e := fun q => hb (q ▸ hlo)
      rw [Heap.get?_update_other _ _ (Ne.symm hbe)]
      exact Heap.get?_push_of_some _ ((hs₁.2.1 b hbf).trans e1)
    · intro b o hb hnf
      have hbe : b ≠ e := fun q => by rw [q, he] at hb; cases hb; exact hnf vs hd
      obtain ⟨sl, hs⟩ := hs₁.2.2 b o hb
      exact ⟨sl, by rw [Heap.get?_update_other _ _ (Ne.symm hbe)]; exact Heap.get?_push_of_some _ hs⟩
  · obtain ⟨ts, hd3, h3⟩ := hob3
    have hTe : h₁.objs.size ≠ e := Nat.ne_of_gt (Heap.lt_size he₁)
    have hd₃ := Obj.data_mapFields hd (·.setIfInBounds 1 (Value.ref h₁.objs.size))
    refine ⟨_, _, h₁.objs.size, ob, ts, Heap.get?_update_self _ he₂ (Obj.isFreed_of_fields hd₃), (Obj.cls_mapFields _ _).trans hc, hd₃, by simp [hsz], by rw [Array.getElem?_setIfInBounds_ne (by decide)]; exact h2, hTe,
      (Heap.get?_update_other _ _ (Ne.symm hTe)).trans (Heap.get?_push_size h₁ hobf), hd3, h3, ?_, hlo⟩
    cases q : lo.get? h₁.objs.size with
    | none => rfl
    | some o =>
      have := hG h₁.objs.size (by rw [q]; simp)
      rw [hs₁.1] at this
      exact absurd this (Nat.lt_irrefl _)
theorem note_again {Q : Unit → Shared → Prop} (hf : env.frame = some L) (x : ExcAt s.heap lo e cls c (rawInt L)) (h : Q () s) : wpAny M A (noteFrame (.ref e) env) Q E s := by
  refine x.elim fun oe vs T oT ts he hc hd h1 h2 hTe hT hdT h3 l1 l2 => ?_
  unfold noteFrame
  simp only [hf]
  refine wpAny_bind (wpAny_field he hd h1 ?_)
  rw [if_pos (show (Value.ref T != Value.none) = true from by simp)]
  refine wpAny_bind (wpAny_field hT hdT h3 ?_)
  rw [if_pos (show (rawInt L == rawInt L) = true from by simp)]
  exact wpAny_pure h
theorem flight {fs : List Addr} {fr : Option Addr} {Q : Unit → Shared → Prop} (x : ExcAt s.heap lo e cls c fl) 
    (h : ∀ h', KeptF lo fs s.heap h' → ExcAt h' lo e cls c (fr.elim .none fun f => rawInt f) → Q () { s with heap := h' }) : wpAny M A (setFlight (.ref e) fr) Q E s := by
  refine x.elim fun oe vs T oT ts he hc hd h1 h2 hTe hT hdT h3 l1 l2 => ?_
  have hsz3 : 3 < ts.size := (Array.getElem?_eq_some_iff.mp h3).1
  unfold setFlight
  refine wpAny_bind (wpAny_field he hd h1 ?_)
  rw [if_pos (show (Value.ref T != Value.none) = true from by simp)]
  refine wpAny_setField hT hdT hsz3 (h _ ?_ ?_)
  · constructor
    · intro b o hb _ e1
      rw [Heap.get?_update_other _ _ (show T ≠ b from fun q => hb (q ▸ l1))]
      exact e1
    · intro b o hb hnf
      have hbT : b ≠ T := fun q => by rw [q, hT] at hb; cases hb; exact hnf ts hdT
      exact ⟨o.slots, by rw [Heap.get?_update_other _ _ (Ne.symm hbT)]; exact hb⟩
  · exact ⟨oe, vs, T, _, _, (Heap.get?_update_other _ _ hTe).trans he, hc, hd, h1, h2, hTe, Heap.get?_update_self _ hT (Obj.isFreed_of_fields (Obj.data_mapFields hdT _)), Obj.data_mapFields hdT _, by simp [hsz3], l1, l2⟩
theorem pass_on {α : Type} {fs : List Addr} {what : String} {Q : α → Shared → Prop} (hf : env.frame = some L) (x : ExcAt s.heap lo e cls c fl)
    (h : ∀ h', KeptF lo fs s.heap h' → ExcAt h' lo e cls c (rawInt L) → E (.ref e) { s with heap := h' }) : wpAny M A (PySem.passOn what (.ref e) env : Sem α) Q E s := by
  obtain ⟨oe, vs, T, oT, ts, he, hc, hd, h1, r⟩ := id x
  unfold PySem.passOn
  refine wpAny_bind (wpAny_field he hd h1 ?_)
  rw [if_neg (by simp)]
  refine wpAny_bind (flight (fs := fs) x fun h' k x' => wpAny_throw (h h' k ?_))
  rw [hf] at x'
  exact x'
end
theorem entry_unchain : entryFor table "proto.unchain" = some Builtin.«proto.unchain» := entryFor_of_fast (by kernel_rfl)
theorem plain_unchain : plainId "proto.unchain" = true := by decide +kernel
section
variable {prog : Program} {w : World} {A : Around} {E : Value → Shared → Prop} {s : Shared} {L e e1 : Addr} {lo : Heap} {cls c fl : Value}
theorem raise_within {α : Type} {Q : α → Shared → Prop} (hh : A.handled = some (.ref e1)) (hne : e1 ≠ e) (x1 : ExcAt s.heap lo e1 cls .none fl) {cls2 c2 : Value} {lo2 : Heap} (x : ExcNew s.heap lo2 e cls2 c2)
    (h : ∀ h', (∀ b o, b ≠ e → s.heap.get? b = some o → h'.get? b = some o) → ExcNew h' lo2 e cls2 (.ref e1) → E (.ref e) { s with heap := h' }) : wpAny (model prog w) A (raiseNew (.ref e) : Sem α) Q E s := by
  refine x1.elim fun oe vs T oT ts he hc hd h1 h2 hTe hT hdT h3 l1 l2 => ?_
  obtain ⟨o, us, ho, hc2, hdo, u1, u2, l3⟩ := x
  have hsz : 2 < us.size := (Array.getElem?_eq_some_iff.mp u2).1
  unfold raiseNew
  refine wpAny_bind (wpAny_handled ?_)
  rw [hh]
  dsimp only
  rw [if_pos (show (Value.ref e1 != Value.ref e) = true from by simp [hne])]
  refine wpAny_bind (wpAny_holding (wpAny_runValue (codeAny_builtin entry_unchain ?_)))
  rw [Around.under_plainId plain_unchain _]
  show wpAny _ _ (field (.ref e1) 2 >>= _) _ _ _
  refine wpAny_bind (wpAny_field he hd h2 ?_)
  rw [if_pos (by rfl)]
  refine wpAny_bind (wpAny_pure (wpAny_pure ?_))
  dsimp only
  unfold updateField
  refine wpAny_bind ?_
  refine wpAny_bind (wpAny_load ho ?_)
  rw [hdo]
  dsimp only
  rw [if_pos hsz]
  refine wpAny_update ho (wpAny_throw (h _ (fun b o' hb e' => ?_) ?_))
  · rw [Heap.get?_update_other _ _ (Ne.symm hb)]; exact e'
  · have hd₃ := Obj.data_mapFields hdo (·.setIfInBounds 2 (Value.ref e1))
    exact ⟨_, _, Heap.get?_update_self _ ho (Obj.isFreed_of_fields hd₃), (Obj.cls_mapFields _ _).trans hc2, hd₃, by rw [Array.getElem?_setIfInBounds_ne (by decide)]; exact u1, by simp [hsz], l3⟩
end
end Mine
end

section
open PySem PySem.W PyProof.Rows PyProof.V PySem.Calls PySem.Spec
set_option Elab.async false
set_option maxRecDepth 100000
namespace Mine

section
variable {prog : Program} {w : World} {A : Around} {E : Value → Shared → Prop} {s : Shared} {e1 : Addr} {lo : Heap} {cls fl : Value}
theorem raiseWords_within {α : Type} {X msg : String} {Q : α → Shared → Prop} (hp : PlainExc X) (hh : A.handled = some (.ref e1)) (x1 : ExcAt s.heap lo e1 cls .none fl)
    (h : ∀ h' tk e, (∀ b o, s.heap.get? b = some o → h'.get? b = some o) → ExcNew h' s.heap e (.type X) (.ref e1) → E (.ref e) { s with heap := h', toks := tk }) :
    wpAny (model prog w) A (raiseErrorWords X msg : Sem α) Q E s := by
  unfold raiseErrorWords
  refine wpAny_bind (wpAny_mkText (wpAny_bind (wpAny_newExc_plain hp fun h' e M => ?_)))
  obtain ⟨k, n, t, he, _⟩ := M
  have x1' : ExcAt h' lo e1 cls .none fl := by
    obtain ⟨oe, vs, T, oT, ts, a, b, c, d, f, g, i, r⟩ := x1
    exact ⟨oe, vs, T, oT, ts, k _ _ a, b, c, d, f, g, k _ _ i, r⟩
  have hne : e1 ≠ e := fun q => by
    obtain ⟨oe, _, _, _, _, a, _⟩ := x1
    rw [q, n] at a; cases a
  refine raise_within (lo2 := s.heap) (c2 := .none) (cls2 := .type X) hh hne x1' ⟨_, _, he, rfl, rfl, rfl, rfl, n⟩ fun h2 k2 x2 => h h2 _ e (fun b o q => k2 b o (fun z => by rw [z, n] at q; cases q) (k b o q)) x2
theorem lo63 {k : Int} {n : Nat} (h : (n : Int) ≤ k) : -(2 ^ 63) ≤ k := Int.le_trans (show -(2 ^ 63) ≤ (0 : Int) by decide) (Int.le_trans (Int.natCast_nonneg n) h)
theorem item_out {value slice : PySem.Expr} {l : Addr} {vs : List Value} {k : Int} {u : Tok} {Q : Value → Shared → Prop} (hh : A.handled = none)
    (hl : s.heap.IsList l vs.toArray) (h0 : (vs.length : Int) ≤ k) (hhi : k < 2 ^ 63) (h : ∀ h' tk e, (∀ b o, s.heap.get? b = some o → h'.get? b = some o) → ExcNew h' s.heap e (.type "IndexError") .none → E (.ref e) { s with heap := h', toks := tk })
    (hs : subscripted slice false (.ref l) (.int k u) = operate [.ref l, .int k u] (getItem (.ref l) (.int k u)) := by with_unfolding_all rfl) :
    wpAny (model prog w) A (subscriptTail value slice (.ref l) (.int k u)) Q E s :=
  tail_any hl.typeIs slot_list_getitem.lookup (wpAny_getItem_list_out hh hl (.inr (by rw [List.size_toArray]; exact h0)) (lo63 h0) hhi fun h' tk e x => h h' tk e x.keeps (.of x)) hs
theorem item_out_within {value slice : PySem.Expr} {l : Addr} {vs : List Value} {k : Int} {u : Tok} {Q : Value → Shared → Prop} (hh : A.handled = some (.ref e1)) (x1 : ExcAt s.heap lo e1 cls .none fl)
    (hl : s.heap.IsList l vs.toArray) (h0 : (vs.length : Int) ≤ k) (hhi : k < 2 ^ 63) (h : ∀ h' tk e, (∀ b o, s.heap.get? b = some o → h'.get? b = some o) → ExcNew h' s.heap e (.type "IndexError") (.ref e1) → E (.ref e) { s with heap := h', toks := tk })
    (hs : subscripted slice false (.ref l) (.int k u) = operate [.ref l, .int k u] (getItem (.ref l) (.int k u)) := by with_unfolding_all rfl) :
    wpAny (model prog w) A (subscriptTail value slice (.ref l) (.int k u)) Q E s := by
  refine tail_any hl.typeIs slot_list_getitem.lookup ?_ hs
  obtain ⟨o, ho, hc, ne, hd⟩ := id hl
  unfold getItem
  try with_reducible refine wpAny_holding ?_
  first | refine wpAny_bind (wpAny_pure ?_) | skip
  refine wpAny_bind (wpAny_sequenceKey hl.typeIs (by decide) ?_)
  refine wpAny_bind (wpAny_callSpecial?_slot (name := Str.ofString "__getitem__") hl.typeIs slot_list_getitem
    (wpAny_call_entry slot_list_getitem hl.typeIs entry_list_getitem ?_ (args_list_getitem _ _)))
  show wpAny _ _ (Builtin.List.listSubscript? (.int k u) >>= _) _ _ s
  refine wpAny_bind (wpAny_listSubscript_int (fitsIndex_both (lo63 h0) hhi) ?_)
  obtain ⟨j, rfl⟩ : ∃ j : Nat, k = Int.ofNat j := ⟨k.toNat, (Int.toNat_of_nonneg (Int.le_trans (Int.natCast_nonneg _) h0)).symm⟩
  have hx : vs.toArray[j]? = none := Array.getElem?_eq_none (by rw [List.size_toArray]; exact Int.ofNat_le.mp h0)
  show wpAny _ _ ((seqItemAt l j >>= fun r => pure (r.map (j, ·))) >>= _) _ _ s
  refine wpAny_bind (wpAny_bind (wpAny_seqItemAt ho hd (wpAny_pure ?_)))
  rw [hx]
  have hA : A.in1.handled = some (.ref e1) := by simpa using hh
  first
    | exact wpAny_bind (wpAny_rule (raiseWords_within plainExc_IndexError hA x1 h))
    | exact wpAny_bind (wpAny_rule (wpAny_bind (raiseWords_within plainExc_IndexError hA x1 h)))
    | exact wpAny_bind (wpAny_bind (wpAny_rule (raiseWords_within plainExc_IndexError hA x1 h)))
    | exact wpAny_rule (raiseWords_within plainExc_IndexError hA x1 h)
end
section
variable {prog : Program} {w : World} {A : Around} {E : Value → Shared → Prop} {s : Shared} {env : Env}
theorem while_loop {R : Result → Shared → Prop} {test : PySem.Expr} {body orelse : List Stmt} (I : Nat → Shared → Prop)
    (turn : ∀ n s, I n s →
      wpAny (model prog w) A (PySem.isTrue test env (eval test env)) (fun b s₂ =>
        if b then wpAny (model prog w) A (execs body env) (fun f s₃ => Halt (match f with
            | .next | .cont => ∃ m, m < n ∧ I m s₃
            | .brk => R (.ok .next) s₃
            | .ret v => R (.ok (.ret v)) s₃)) (notedBy (model prog w) A env fun e s' => R (.error e) s') s₂
        else wpAny (model prog w) A (execs orelse env) (fun f s₃ => R (.ok f) s₃) (notedBy (model prog w) A env fun e s' => R (.error e) s') s₂)
        (notedBy (model prog w) A env fun e s' => R (.error e) s') s)
    (n : Nat) (h : I n s) : codeAny (model prog w) A (.whileLoop test body orelse env) R s := codeAny_whileLoop I turn n h
theorem while_once {test : PySem.Expr} {body : List Stmt} {pos : Pos} {Q : Flow → Shared → Prop} (hE : PassesOwn (model prog w) A env E)
    (h : wpAny (model prog w) A (PySem.isTrue test env (eval test env)) (fun b s₂ => Halt (b = false ∧ Q .next s₂)) E s) : wpAny (model prog w) A (exec (.While test body [] pos) env) Q E s := by
  refine wpAny_While (codeAny_whileLoop (fun _ s' => s' = s) (fun n s' e => ?_) 0 rfl)
  subst e
  refine wpAny_mono (wpAny_passesOwn hE h) (fun b s₂ hb => ?_) fun _ _ e => e
  obtain ⟨rfl, hq⟩ := hb
  rw [if_neg Bool.false_ne_true]
  exact wpAny_execs_nil hq
end
end Mine
end

section
open PySem PySem.W PyProof.Rows PyProof.V PySem.Calls PySem.Spec
set_option Elab.async false
set_option maxRecDepth 100000
namespace Mine
noncomputable abbrev frs (l : List Env) : List Addr := l.filterMap (·.frame)
section
variable {prog : Program} {w : World} {A : Around} {E : Value → Shared → Prop} {s : Shared} {env : Env} {outer : List Env} {base : Heap} {L : Addr}
theorem try_own {body orelse : List Stmt} {h₀ : ExceptHandler} {hs : List ExceptHandler} {pos : Pos} {Q : Flow → Shared → Prop} (hfr : A.frames = some (env :: outer)) (hf : env.frame = some L)
    (h : ∀ Eb : Value → Shared → Prop, PassesOwn (model prog w) A env Eb → (∀ hd, PassesOwnAt (model prog w) (A.mark hd) A env Eb) →
      (∀ lo e cls c s₁, ((s₁.heap.FunFrames base (env :: outer) ∧ (∀ b, lo.get? b ≠ none → b < s₁.heap.objs.size) ∧ ExcNew s₁.heap lo e cls c) ∨ ExcAt s₁.heap lo e cls c (rawInt L)) →
        (∀ h', KeptF lo (frs (env :: outer)) s₁.heap h' → ExcAt h' lo e cls c .none → wpAny (model prog w) A (handleBy (.ref e) env (h₀ :: hs)) Q E { s₁ with heap := h' }) → Eb (.ref e) s₁) →
      wpAny (model prog w) A (execs body env) (fun f s₁ => match f with | .next => wpAny (model prog w) A (execs orelse env) Q E s₁ | f => Q f s₁) Eb s) :
    wpAny (model prog w) A (exec (.Try body (h₀ :: hs) orelse [] pos) env) Q E s := by
  refine wpAny_Try_except (h _ .looking (fun hd => .looking) ?_)
  rintro lo e cls c s₁ (⟨hl, hG, x⟩ | x) k
  · refine note_new hfr hl hf hG x fun h1 k1 x1 => ?_
    exact flight (fs := frs (env :: outer)) x1 fun h2 k2 x2 => k h2 (k1.trans k2) x2
  · refine note_again hf x ?_
    exact flight (fs := frs (env :: outer)) x fun h2 k2 x2 => k h2 k2 x2
theorem fin_own {body : List Stmt} {f₀ : Stmt} {fs : List Stmt} {pos : Pos} {Q : Flow → Shared → Prop} (hfr : A.frames = some (env :: outer)) (hf : env.frame = some L)
    (h : ∀ Ef : Value → Shared → Prop, PassesOwn (model prog w) A env Ef →
      (∀ lo e cls c s₁, s₁.heap.FunFrames base (env :: outer) → (∀ b, lo.get? b ≠ none → b < s₁.heap.objs.size) → ExcNew s₁.heap lo e cls c →
        (∀ h', KeptF lo (frs (env :: outer)) s₁.heap h' → ExcAt h' lo e cls c .none → wpAny (model prog w) (A.mark (some (.ref e))) (execs (f₀ :: fs) env)
          (fun g s₂ => Halt (g = .next ∧ wpAny (model prog w) A (PySem.passOn "try.finally" (.ref e) env) Q E s₂)) (notedBy (model prog w) (A.mark (some (.ref e))) env (cameBackBy (model prog w) A env E)) { s₁ with heap := h' }) → Ef (.ref e) s₁) →
      wpAny (model prog w) A (execs body env) (fun f s₁ => Halt (f = .next ∧ wpAny (model prog w) A (execs (f₀ :: fs) env) (fun g s' => Halt (g = .next ∧ Q .next s')) (notedBy (model prog w) A env (cameBackBy (model prog w) A env E)) s₁)) Ef s) :
    wpAny (model prog w) A (exec (.Try body [] [] (f₀ :: fs) pos) env) Q E s := by
  refine wpAny_Try_finally (wpAny_mono (h _ .looking ?_) (fun f s₁ h₁ => ?_) fun _ _ e => e)
  · intro lo e cls c s₁ hl hG x k
    refine note_new hfr hl hf hG x fun h1 k1 x1 => ?_
    refine ⟨ref_ne_byPass e, note_again hf x1 ?_⟩
    refine flight (fs := frs (env :: outer)) x1 fun h2 k2 x2 => ?_
    refine wpAny_mono (k h2 (k1.trans k2) x2) (fun g s₂ hg => ?_) fun _ _ e => e
    obtain ⟨rfl, hg⟩ := hg
    exact hg
  · obtain ⟨rfl, h₁⟩ := h₁
    refine wpAny_execs_nil (wpAny_mono h₁ (fun g s₂ hg => ?_) fun _ _ e => e)
    obtain ⟨rfl, hg⟩ := hg
    exact hg
end
end Mine
end

section
open PySem
namespace Mine
noncomputable def slt (a b : Str) : Prop := a.cps.toList < b.cps.toList
theorem slt_irrefl (a : Str) : ¬ slt a a := by unfold slt; exact List.lt_irrefl _
theorem slt_trans {a b c : Str} (h : slt a b) (h' : slt b c) : slt a c := by unfold slt at *; exact List.lt_trans h h'
theorem slt_eq {a b : Str} (h : ¬ slt a b) (h' : ¬ slt b a) : a = b := by
  unfold slt at *
  have : a.cps.toList = b.cps.toList := List.le_antisymm h' h
  cases a; cases b
  simp only at this
  congr
  exact Array.toList_inj.mp this
theorem slt_ne {a b : Str} (h : slt a b) : a ≠ b := fun e => slt_irrefl b (e ▸ h)
structure SI (es as : List Str) (i j : Nat) (M U : List Str) : Prop where
  i_le : i ≤ es.length
  j_le : j ≤ as.length
  m : M = (es.take i).filter fun x => decide (x ∉ as)
  u : U = (as.take j).filter fun x => decide (x ∉ es)
  c1 : ∀ x ∈ es.take i, ∀ y ∈ as.drop j, slt x y
  c2 : ∀ y ∈ as.take j, ∀ x ∈ es.drop i, slt y x
theorem SI.swap {es as : List Str} {i j : Nat} {M U : List Str} (x : SI es as i j M U) : SI as es j i U M := ⟨x.j_le, x.i_le, x.u, x.m, x.c2, x.c1⟩
theorem SI.start (es as : List Str) : SI es as 0 0 [] [] := ⟨Nat.zero_le _, Nat.zero_le _, by simp, by simp, by simp, by simp⟩
theorem drop_cons {l : List Str} {i : Nat} {a : Str} (e : l[i]? = some a) : l.drop i = a :: l.drop (i + 1) := by
  obtain ⟨h, rfl⟩ := List.getElem?_eq_some_iff.mp e
  exact List.drop_eq_getElem_cons h
theorem rest_above {l : List Str} {i : Nat} {a : Str} (s : l.Pairwise slt) (e : l[i]? = some a) : ∀ y ∈ l.drop (i + 1), slt a y := by
  have := s.sublist (List.drop_sublist i l)
  rw [drop_cons e] at this
  exact (List.pairwise_cons.mp this).1
theorem SI.lt {es as : List Str} {i j : Nat} {M U : List Str} {e a : Str} (x : SI es as i j M U) (s2 : as.Pairwise slt) (he : es[i]? = some e) (ha : as[j]? = some a) (h : slt e a) : SI es as (i + 1) j (M ++ [e]) U := by
  have hi : i < es.length := (List.getElem?_eq_some_iff.mp he).1
  have up : ∀ y ∈ as.drop j, slt e y := by
    intro y hy
    rw [drop_cons ha] at hy
    rcases List.mem_cons.mp hy with rfl | hy
    · exact h
    · exact slt_trans h (rest_above s2 ha y hy)
  have hn : e ∉ as := by
    intro hm
    rw [← List.take_append_drop j as] at hm
    rcases List.mem_append.mp hm with hm | hm
    · exact slt_irrefl e (x.c2 e hm e (by rw [drop_cons he]; exact .head _))
    · exact slt_irrefl e (up e hm)
  refine ⟨hi, x.j_le, ?_, x.u, ?_, ?_⟩
  · rw [List.take_succ, he, List.filter_append, ← x.m]
    simp [hn]
  · intro y hy z hz
    rw [List.take_succ, he] at hy
    rcases List.mem_append.mp hy with hy | hy
    · exact x.c1 y hy z hz
    · simp at hy; subst hy; exact up z hz
  · intro y hy z hz
    exact x.c2 y hy z (by rw [drop_cons he]; exact .tail _ hz)
theorem SI.eq {es as : List Str} {i j : Nat} {M U : List Str} {e : Str} (x : SI es as i j M U) (s1 : es.Pairwise slt) (s2 : as.Pairwise slt) (he : es[i]? = some e) (ha : as[j]? = some e) : SI es as (i + 1) (j + 1) M U := by
  have hi : i < es.length := (List.getElem?_eq_some_iff.mp he).1
  have hj : j < as.length := (List.getElem?_eq_some_iff.mp ha).1
  refine ⟨hi, hj, ?_, ?_, ?_, ?_⟩
  · rw [List.take_succ, he, List.filter_append, ← x.m]
    simp [List.mem_of_getElem? ha]
  · rw [List.take_succ, ha, List.filter_append, ← x.u]
    simp [List.mem_of_getElem? he]
  · intro y hy z hz
    rw [List.take_succ, he] at hy
    rcases List.mem_append.mp hy with hy | hy
    · exact x.c1 y hy z (by rw [drop_cons ha]; exact .tail _ hz)
    · simp at hy; subst hy; exact rest_above s2 ha z hz
  · intro y hy z hz
    rw [List.take_succ, ha] at hy
    rcases List.mem_append.mp hy with hy | hy
    · exact x.c2 y hy z (by rw [drop_cons he]; exact .tail _ hz)
    · simp at hy; subst hy; exact rest_above s1 he z hz
theorem SI.last {es as : List Str} {i j : Nat} {M U : List Str} (x : SI es as i j M U) (h : i = es.length ∨ j = as.length) :
    M ++ es.drop i = es.filter (fun y => decide (y ∉ as)) ∧ U ++ as.drop j = as.filter (fun y => decide (y ∉ es)) := by
  have key : ∀ {es as : List Str} {i j : Nat} {M U : List Str}, SI es as i j M U → j = as.length → M ++ es.drop i = es.filter (fun y => decide (y ∉ as)) := by
    intro es as i j M U x h
    have : (es.drop i).filter (fun y => decide (y ∉ as)) = es.drop i := by
      rw [List.filter_eq_self]
      intro y hy
      simp only [decide_eq_true_eq]
      intro hm
      exact slt_irrefl y (x.c2 y (by rw [h, List.take_length]; exact hm) y hy)
    rw [x.m, ← this, ← List.filter_append, List.take_append_drop]
  have key2 : ∀ {es as : List Str} {i j : Nat} {M U : List Str}, SI es as i j M U → i = es.length → M ++ es.drop i = es.filter (fun y => decide (y ∉ as)) := by
    intro es as i j M U x h
    rw [x.m, h, List.take_length, List.drop_length, List.append_nil]
  rcases h with h | h
  · exact ⟨key2 x h, key x.swap h⟩
  · exact ⟨key x h, key2 x.swap h⟩
end Mine
end

section
open PySem PySem.W PyProof.Rows
set_option Elab.async false
set_option maxRecDepth 100000
namespace Mine
noncomputable def sm (mb : Str → Option Value) (ue ua : Option Value) (i j : Int) (ti tj : Tok) : Str → Option Value := fun y =>
  if y = Str.ofString "e" then ue else if y = Str.ofString "a" then ua else if y = Str.ofString "i" then some (.int i ti) else if y = Str.ofString "j" then some (.int j tj) else mb y
theorem sm_of {mb m : Str → Option Value} {i j : Int} {ti tj : Tok} (h1 : m (Str.ofString "i") = some (.int i ti)) (h2 : m (Str.ofString "j") = some (.int j tj))
    (h3 : ∀ y, y ≠ Str.ofString "e" → y ≠ Str.ofString "a" → y ≠ Str.ofString "i" → y ≠ Str.ofString "j" → m y = mb y) : m = sm mb (m (Str.ofString "e")) (m (Str.ofString "a")) i j ti tj := by
  funext y
  unfold sm
  by_cases e1 : y = Str.ofString "e"
  · rw [if_pos e1, e1]
  by_cases e2 : y = Str.ofString "a"
  · rw [if_neg e1, if_pos e2, e2]
  by_cases e3 : y = Str.ofString "i"
  · rw [if_neg e1, if_neg e2, if_pos e3, e3, h1]
  by_cases e4 : y = Str.ofString "j"
  · rw [if_neg e1, if_neg e2, if_neg e3, if_pos e4, e4, h2]
  rw [if_neg e1, if_neg e2, if_neg e3, if_neg e4]
  exact h3 y e1 e2 e3 e4
noncomputable def sm0 (l1 l2 mi un : Addr) : Str → Option Value := fun y =>
  if y = Str.ofString "unexpected" then some (.ref un) else if y = Str.ofString "missing" then some (.ref mi) else if y = Str.ofString "expected" then some (.ref l1) else if y = Str.ofString "actual" then some (.ref l2) else none
theorem fr_sm {h₀ h : Heap} {L : Addr} {m mb : Str → Option Value} {i j : Int} {ti tj : Tok} (F : Fr h₀ L h m) (h1 : m (Str.ofString "i") = some (.int i ti)) (h2 : m (Str.ofString "j") = some (.int j tj)) (he : m (Str.ofString "e") = none) (ha : m (Str.ofString "a") = none)
    (h3 : ∀ y, y ≠ Str.ofString "e" → y ≠ Str.ofString "a" → y ≠ Str.ofString "i" → y ≠ Str.ofString "j" → m y = mb y) : Fr h₀ L h (sm mb none none i j ti tj) := by
  have e := sm_of (mb := mb) h1 h2 h3
  rw [he, ha] at e
  exact e ▸ F
theorem lookup2 {y a b : Str} {u v : Value} (h1 : y ≠ a) (h2 : y ≠ b) : List.lookup y [(b, v), (a, u)] = none := by
  have e1 : (y == a) = false := by simpa using h1
  have e2 : (y == b) = false := by simpa using h2
  simp [List.lookup, e1, e2]
theorem sm_e {mb : Str → Option Value} {ue ua : Option Value} {i j : Int} {ti tj : Tok} {v : Value} : (fun y => if y = Str.ofString "e" then some v else sm mb ue ua i j ti tj y) = sm mb (some v) ua i j ti tj := by
  funext y
  unfold sm
  by_cases e1 : y = Str.ofString "e"
  · rw [if_pos e1, if_pos e1]
  · rw [if_neg e1, if_neg e1, if_neg e1]
theorem sm_a {mb : Str → Option Value} {ue ua : Option Value} {i j : Int} {ti tj : Tok} {v : Value} : (fun y => if y = Str.ofString "a" then some v else sm mb ue ua i j ti tj y) = sm mb ue (some v) i j ti tj := by
  funext y
  unfold sm
  by_cases e1 : y = Str.ofString "a"
  · subst e1; rfl
  · simp only [if_neg e1]
theorem sm_i {mb : Str → Option Value} {ue ua : Option Value} {i j k : Int} {ti tj t : Tok} : (fun y => if y = Str.ofString "i" then some (.int k t) else sm mb ue ua i j ti tj y) = sm mb ue ua k j t tj := by
  funext y
  unfold sm
  by_cases e1 : y = Str.ofString "i"
  · subst e1; rfl
  · simp only [if_neg e1]
theorem sm_j {mb : Str → Option Value} {ue ua : Option Value} {i j k : Int} {ti tj t : Tok} : (fun y => if y = Str.ofString "j" then some (.int k t) else sm mb ue ua i j ti tj y) = sm mb ue ua i k ti t := by
  funext y
  unfold sm
  by_cases e1 : y = Str.ofString "j"
  · subst e1; rfl
  · simp only [if_neg e1]
theorem sm_ia {mb : Str → Option Value} {ue ua : Option Value} {i j k : Int} {ti tj t : Tok} {v : Value} : (fun y => if y = Str.ofString "i" then some (.int k t) else if y = Str.ofString "a" then some v else sm mb ue ua i j ti tj y) = sm mb ue (some v) k j t tj := by
  funext y
  unfold sm
  by_cases e1 : y = Str.ofString "i"
  · subst e1; rfl
  by_cases e2 : y = Str.ofString "a"
  · subst e2; rfl
  simp only [if_neg e1, if_neg e2]
theorem passes_noted {M : Model} {A : Around} {env : Env} {K : Value → Shared → Prop} : PassesOwn M A env (notedBy M A env K) := PassesOwn.looking
theorem news_sub {h₀ h : Heap} {L : Addr} {l l' : List (Addr × Obj)} (N : News h₀ L h l) (k : ∀ p ∈ l', p ∈ l) : News h₀ L h l' := fun p hp => N p (k p hp)
theorem excAt_mk {h lo : Heap} {e T : Addr} {cls c fl : Value} {oe oT : Obj} {vs ts : Array Value} (a1 : h.get? e = some oe) (a2 : oe.cls = cls) (a3 : oe.data = .fields vs) (a4 : vs[1]? = some (.ref T)) (a5 : vs[2]? = some c) (a6 : T ≠ e) (a7 : h.get? T = some oT) (a8 : oT.data = .fields ts)
    (a9 : ts[3]? = some fl) (b1 : lo.get? T = none) (b2 : lo.get? e = none) : ExcAt h lo e cls c fl := ⟨oe, vs, T, oT, ts, a1, a2, a3, a4, a5, a6, a7, a8, a9, b1, b2⟩
theorem kept_ne {B h : Heap} (k : ∀ b o, B.get? b = some o → h.get? b = some o) : ∀ b o, B.get? b = some o → h.get? b ≠ none := fun b o q => by rw [k b o q]; simp
theorem ne_none {h : Heap} {a : Addr} {o : Obj} (e : h.get? a = some o) : h.get? a ≠ none := by rw [e]; simp
theorem fr_apart {B h : Heap} {L : Addr} {m : Str → Option Value} (F : Fr B L h m) : ∀ q, h.get? q = none → B.get? q = none ∧ q ≠ L := by
  intro q hq
  constructor
  · cases z : B.get? q with
    | none => rfl
    | some o => rw [F.keep q o z] at hq; cases hq
  · intro z
    obtain ⟨oL, esL, epL, hoL, hdL, _⟩ := id F.ns
    rw [z, hoL] at hq; cases hq
theorem fr_map {h₀ h : Heap} {L : Addr} {m m' : Str → Option Value} (F : Fr h₀ L h m) (e : m = m') : Fr h₀ L h m' := e ▸ F
theorem hide_kept {h : Heap} {a : Addr} : Kept (h.hide a) h := fun _ _ e => Heap.of_hide e
theorem filt_le {es M : List Str} {i : Nat} {p : Str → Bool} (h : M = (es.take i).filter p) : M.length ≤ es.length := by
  rw [h]; exact Nat.le_trans (List.length_filter_le _ _) (by rw [List.length_take]; exact Nat.min_le_right _ _)
theorem slice_drop (wk : List Value) (n : Nat) : slicePick wk.toArray (some (n : Int)) none none = (wk.drop n).toArray := by
  have e : sliceBounds (some (n : Int)) none none wk.toArray.size = (((min n wk.toArray.size : Nat) : Int), ((wk.toArray.size : Nat) : Int), 1) := by
    simp only [sliceBounds, Option.getD_none, show (1 : Int) > 0 by decide, if_true, if_neg (show ¬ ((n : Int) < 0) from Int.not_lt.mpr (Int.natCast_nonneg n))]
    congr 1
    rw [Int.max_eq_right (Int.le_min.mpr ⟨Int.natCast_nonneg _, Int.natCast_nonneg _⟩), minN]
  rw [kmk_pick_nat _ e]
  show ((wk.drop (min n wk.toArray.size)).take (wk.toArray.size - min n wk.toArray.size)).toArray = _
  rw [List.size_toArray, kmk_drop_min, List.take_of_length_le (by rw [List.length_drop]; exact Nat.sub_le_sub_left (Nat.min_le_left _ _) _)]
theorem strs_drop {vs : List Value} {ns : List Str} (h : StrsAre vs ns) : ∀ n, StrsAre (vs.drop n) (ns.drop n) := by
  induction h with
  | nil => intro n; rw [List.drop_nil, List.drop_nil]; exact .nil
  | cons k t r ih =>
    intro n
    cases n with
    | zero => exact .cons _ _ r
    | succ n => exact ih n
theorem kf_fr {G B h h' : Heap} {L L0 : Addr} {m : Str → Option Value} (k : KeptF G [L, L0] h h') (F : Fr B L h m) (hBG : ∀ b o, B.get? b = some o → G.get? b ≠ none) (nB : B.get? L0 = none) : Fr B L h' m :=
  ⟨k.slots.ns F.ns, fun b o q => k.keep b o (hBG b o q) (by simp only [List.mem_cons, List.mem_nil_iff, or_false]; exact fun z => z.elim (fun z => by rw [z, none_below F.above] at q; cases q) (fun z => by rw [z, nB] at q; cases q)) (F.keep b o q), F.above⟩
theorem kf_news {G B h h' : Heap} {L L0 un mi : Addr} {a b o : Obj} (k : KeptF G [L, L0] h h') (N : News B L h [(un, a), (mi, b), (L0, o)]) (g1 : G.get? un ≠ none) (g2 : G.get? mi ≠ none) (n1 : un ≠ L0) (n2 : mi ≠ L0) (hnf : ∀ vs, o.data ≠ .fields vs) :
    ∃ sl, News B L h' [(un, a), (mi, b), (L0, { o with slots := sl })] := by
  obtain ⟨sl, hsl⟩ := k.slots L0 o (N _ (.tail _ (.tail _ (.head _)))).1 hnf
  refine ⟨sl, fun p hp => ?_⟩
  simp only [List.mem_cons, List.mem_nil_iff, or_false] at hp
  rcases hp with rfl | rfl | rfl
  · have := N _ (.head _); exact ⟨k.keep _ _ g1 (by simp [this.2.1, n1]) this.1, this.2⟩
  · have := N _ (.tail _ (.head _)); exact ⟨k.keep _ _ g2 (by simp [this.2.1, n2]) this.1, this.2⟩
  · have := N _ (.tail _ (.tail _ (.head _))); exact ⟨hsl, this.2⟩
noncomputable def WJ (s : Shared) (B : Heap) (L l1 l2 mi un L0 : Addr) (o0 : Obj) (es as : List Str) (n : Nat) (s' : Shared) : Prop := ∃ h tk ue ua i j ti tj vM vU nM nU M U, s' = { s with heap := h, toks := tk } ∧ Fr B L h (sm (sm0 l1 l2 mi un) ue ua ((i : Nat) : Int) ((j : Nat) : Int) ti tj) ∧ News B L h [(un, listOf (List.toArray vU) nU), (mi, listOf (List.toArray vM) nM), (L0, o0)] ∧ StrsAre vM M ∧ StrsAre vU U ∧ SI es as i j M U ∧ n = es.length + as.length - (i + j)
theorem WJ.intro {s : Shared} {B : Heap} {L l1 l2 mi un L0 : Addr} {o0 : Obj} {es as : List Str} {n : Nat} {s' : Shared} (h : Heap) (tk : Nat) (ue : Option Value) (ua : Option Value) (i : Nat) (j : Nat) (ti : Tok) (tj : Tok) (vM : List Value) (vU : List Value) (nM : Nat) (nU : Nat) (M : List Str) (U : List Str) (a0 : s' = { s with heap := h, toks := tk }) (a1 : Fr B L h (sm (sm0 l1 l2 mi un) ue ua ((i : Nat) : Int) ((j : Nat) : Int) ti tj)) (a2 : News B L h [(un, listOf (List.toArray vU) nU), (mi, listOf (List.toArray vM) nM), (L0, o0)]) (a3 : StrsAre vM M) (a4 : StrsAre vU U) (a5 : SI es as i j M U) (a6 : n = es.length + as.length - (i + j)) : WJ s B L l1 l2 mi un L0 o0 es as n s' :=
  ⟨h, tk, ue, ua, i, j, ti, tj, vM, vU, nM, nU, M, U, a0, a1, a2, a3, a4, a5, a6⟩
theorem WJ.elim {P : Prop} {s : Shared} {B : Heap} {L l1 l2 mi un L0 : Addr} {o0 : Obj} {es as : List Str} {n : Nat} {s' : Shared} (x : WJ s B L l1 l2 mi un L0 o0 es as n s') (k : ∀ (h : Heap) (tk : Nat) (ue : Option Value) (ua : Option Value) (i : Nat) (j : Nat) (ti : Tok) (tj : Tok) (vM : List Value) (vU : List Value) (nM : Nat) (nU : Nat) (M : List Str) (U : List Str), s' = { s with heap := h, toks := tk } → Fr B L h (sm (sm0 l1 l2 mi un) ue ua ((i : Nat) : Int) ((j : Nat) : Int) ti tj) → News B L h [(un, listOf (List.toArray vU) nU), (mi, listOf (List.toArray vM) nM), (L0, o0)] → StrsAre vM M → StrsAre vU U → SI es as i j M U → n = es.length + as.length - (i + j) → P) : P := by
  obtain ⟨h, tk, ue, ua, i, j, ti, tj, vM, vU, nM, nU, M, U, a0, a1, a2, a3, a4, a5, a6⟩ := x
  exact k h tk ue ua i j ti tj vM vU nM nU M U a0 a1 a2 a3 a4 a5 a6
local macro_rules | `(tactic| walk_at "exec Try cons nil") => `(tactic| (k_here; refine stop_here ?_))
local macro_rules | `(tactic| walk_at "exec While Compare") => `(tactic| (k_here; refine stop_here ?_))
local macro_rules | `(tactic| walk_at "exec While Compare cons nil") => `(tactic| (k_here; refine stop_here ?_))
local macro_rules | `(tactic| walk_at "call builtin:list.append") => `(tactic| (k_here; refine stop_here ?_))
local macro_rules | `(tactic| walk_at "subscriptTail Name Name ref int") => `(tactic| (k_here; refine stop_here ?_))
local macro_rules | `(tactic| walk_at "subscriptTail") => `(tactic| (k_here; (with_reducible show wpAny _ _ (subscriptTail _ (Expr.Name _ _) _ _) _ _ _); refine stop_here ?_))
local macro_rules | `(tactic| walk_at "exec Try") => `(tactic| (k_here; refine stop_here ?_))
local macro_rules | `(tactic| walk_at "exec While Constant cons nil") => `(tactic| (k_here; refine stop_here ?_))
set_option pp.deepTerms false
set_option pp.deepTerms.threshold 6
set_option maxHeartbeats 4000000
theorem sld_spec {w : World} {A : Around} {mg mb : Str → Option Value} {mean : ExcName → Option Value} {B₀ : Heap} {env0 : Env} {L0 : Addr} {o0 : Obj}
    {s : Shared} {l1 l2 : Addr} {vs1 vs2 : List Value} {es as : List Str} {Q E : Value → Shared → Prop}
    (X : (hd.heap_39 w.params).In B₀) (T : Top hd.view_39 LO mean mg mb B₀) (hB₀ : B₀.get? L0 = none) (kB₀ : Kept B₀ s.heap)
    (hA : A.frames = some [env0]) (hk0 : env0.scope.kind ≠ .module) (hf0 : env0.frame = some L0) (ho0 : s.heap.get? L0 = some o0) (hnf0 : ∀ vs, o0.data ≠ .fields vs)
    (hl1 : s.heap.IsList l1 vs1.toArray) (hs1 : StrsAre vs1 es) (hl2 : s.heap.IsList l2 vs2.toArray) (hs2 : StrsAre vs2 as) (hb : es.length < 900 ∧ as.length < 900)
    (hf1 : l1 ≠ L0) (hf2 : l2 ≠ L0) (p1 : es.Pairwise slt) (p2 : as.Pairwise slt)
    (hd1 : A.depth + 20 < recursionLimit) (hu : A.units + 200 < cLine) (hh : A.handled = none)
    (hQ : ∀ b m1 m2 ws1 ws2 h' tk, (∀ c o, c ≠ L0 → s.heap.get? c = some o → h'.get? c = some o) → (∃ sl, h'.get? L0 = some { o0 with slots := sl }) → IsTup h' b #[.ref m1, .ref m2] → h'.IsList m1 (List.toArray ws1) → h'.IsList m2 (List.toArray ws2) →
      StrsAre ws1 (es.filter fun x => decide (x ∉ as)) → StrsAre ws2 (as.filter fun x => decide (x ∉ es)) → s.heap.get? m1 = none → s.heap.get? m2 = none → s.heap.get? b = none → Q (.ref b) { s with heap := h', toks := tk }) :
   wpAny (model PR w) A (call (.ref 28) [.ref l1, .ref l2]) Q E s := by
  obtain ⟨B, eB⟩ : ∃ B, B = s.heap.hide L0 := ⟨_, rfl⟩
  have kB : Kept B s.heap := by rw [eB]; exact hide_kept
  have inB : ∀ b o, b ≠ L0 → s.heap.get? b = some o → B.get? b = some o := fun b o hb e => by rw [eB]; exact hideAll_get [L0] e (by simpa using hb)
  have nB : B.get? L0 = none := by rw [eB]; exact hideAll_none [L0] (by simp)
  have baseB : Kept B₀ B := fun b o e => inB b o (fun q => by rw [q, hB₀] at e; cases e) (kB₀ b o e)
  have XB := X.keeps baseB
  have TB := T.keeps baseB
  obtain ⟨q1, hq1, r1⟩ := id hl1
  obtain ⟨q2, hq2, r2⟩ := id hl2
  have hl1B : B.IsList l1 vs1.toArray := ⟨q1, inB _ _ hf1 hq1, r1⟩
  have hl2B : B.IsList l2 vs2.toArray := ⟨q2, inB _ _ hf2 hq2, r2⟩
  refine' wpAny_call (enterP (h₀ := B) (news := [(L0, o0)]) kB (by rw [eB, Heap.hide_size]; exact Nat.le_refl _) (fun q hq => by simp only [List.mem_singleton] at hq; subst hq; exact ⟨ho0, nB⟩) XB TB ?k1 ?k2 ?k3 ?k4 ?k5 ?k6 ?k7 ?k8 ?k9 ?_)
  case k1 => k_is
  case k2 => k_is
  case k3 => exact lt0 hd1
  case k4 => exact BindsTo.of_eq rfl
  case k5 => exact locs rfl
  case k6 => rfl
  case k7 => rfl
  case k8 => rfl
  case k9 => decide
  intro L h₁ F N kk eL
  try dsimp only
  refine wp_gen2 fun Q1 E1 finT finE => ?_
  w_on
  k_steps
  (with_reducible rename Fr _ _ _ _ => F1)
  (with_reducible rename News _ _ _ _ => N1)
  rename_i mi hx3 lm hx2 un hx1 lu hx0
  obtain ⟨ti0, tj0, F1'⟩ : ∃ ti tj, Fr B L hx0 (sm (sm0 l1 l2 mi un) none none (0 : Nat) (0 : Nat) ti tj) := by
    refine' ⟨_, _, fr_sm F1 rfl rfl rfl rfl fun y e1 e2 e3 e4 => ?_⟩
    unfold sm0
    by_cases e5 : y = Str.ofString "unexpected"
    · subst e5; rfl
    by_cases e6 : y = Str.ofString "missing"
    · subst e6; rfl
    by_cases e7 : y = Str.ofString "expected"
    · subst e7; rfl
    by_cases e8 : y = Str.ofString "actual"
    · subst e8; rfl
    rw [if_neg e5, if_neg e6, if_neg e4, if_neg e3, if_neg e5, if_neg e6, if_neg e7, if_neg e8]
    exact lookup2 e7 e8
  show wpAny _ _ (exec (.While _ _ _ _) _) _ _ _
  refine wpAny_While (while_loop (WJ s B L l1 l2 mi un L0 o0 es as)
    ?turn (es.length + as.length) ?start)
  case start =>
    exact WJ.intro _ _ none none 0 0 _ _ [] [] _ _ [] [] rfl F1' N1 .nil .nil (.start _ _) (by simp)
  case turn =>
    intro n s' hw
    refine hw.elim fun h tk ue ua i j ti tj vM vU nM nU M U ew1 F2 N2 sM sU hS ew2 => ?_
    subst ew1
    subst ew2
    clear hw
    clear F1 N1 F1'
    k_steps
    show wpAny _ _ (exec (.Try _ _ _ _ _) _) _ _ _
    refine try_own (base := B) (outer := [env0]) (L := L) (Around.frames_deeper hA) rfl ?_
    intro Eb pe pa ex12
    have ex : ∀ (lo hP h' : Heap) (tk' : Nat) (e : Addr) (c : Value) sl0 ue ua (i j : Nat) ti tj vM vU nM nU M U, Fr B L hP (sm (sm0 l1 l2 mi un) ue ua i j ti tj) → News B L hP [(un, listOf (List.toArray vU) nU), (mi, listOf (List.toArray vM) nM), (L0, { o0 with slots := sl0 })] →
        StrsAre vM M → StrsAre vU U → SI es as i j M U → (i = es.length ∨ j = as.length) → (∀ b o, B.get? b = some o → lo.get? b ≠ none) → lo.get? un ≠ none → lo.get? mi ≠ none →
        KeptF lo [L, L0] hP h' → (((∀ b, lo.get? b ≠ none → b < h'.objs.size) ∧ ExcNew h' lo e (.type "IndexError") c) ∨ ExcAt h' lo e (.type "IndexError") c (rawInt L)) → Eb (.ref e) { s with heap := h', toks := tk' } := by
      intro lo hP h' tk' e c sl0 ue ua i j ti tj vM vU nM nU M U F N sM sU hS hend hBG g1 g2 kf hx
      clear F2 N2
      have hnf1 : ∀ vs, ({ o0 with slots := sl0 } : Obj).data ≠ .fields vs := hnf0
      refine ex12 lo e (.type "IndexError") c _ ?_ (fun h2 k2 x2 => ?_)
      · rcases hx with ⟨hG, hx⟩ | hx
        · refine .inl ⟨⟨by simp [envOf], ?_, ⟨hk0, ?_, trivial⟩⟩, hG, hx⟩
          · obtain ⟨oL, esL, epL, hoL, hdL, _⟩ := kf.slots.ns F.ns
            exact ⟨L, oL, rfl, none_below F.above, hoL, fun vs q => by rw [hdL] at q; cases q⟩
          · obtain ⟨sl, e⟩ := kf.slots L0 _ (N _ (.tail _ (.tail _ (.head _)))).1 hnf1
            exact ⟨L0, _, hf0, nB, e, hnf1⟩
        · exact .inr hx
      have k3 : KeptF lo [L, L0] hP h2 := kf.trans (by
        have := k2
        simp only [frs, List.filterMap_cons, List.filterMap_nil, hf0] at this
        exact this)
      have F3 := kf_fr k3 F hBG nB
      obtain ⟨sl, N3⟩ := kf_news k3 N g1 g2 (Nat.ne_of_gt lu.2) (Nat.ne_of_gt lm) hnf1
      clear F N
      refine wpAny_handleBy_builtin (X := "IndexError") (T := "IndexError") (b := true) PySem.F.isExc_IndexError PySem.F.notTuple_IndexError PySem.F.self_IndexError ?_
      try dsimp only
      k_steps
      · exact x2.type
      refine flight (fs := [L, L0]) x2 fun h4 k4 x4 => ?_
      have F4 := kf_fr k4 F3 hBG nB
      obtain ⟨sl4, N4⟩ := kf_news k4 N3 g1 g2 (Nat.ne_of_gt lu.2) (Nat.ne_of_gt lm) hnf0
      clear F3 N3
      have lM := StrsAre.length sM
      have lU := StrsAre.length sU
      have lv1 := StrsAre.length hs1
      have lv2 := StrsAre.length hs2
      have hMl := filt_le hS.m
      have hUl := filt_le hS.u
      have lmi : mi < h4.objs.size := Heap.lt_size (N4 _ (.tail _ (.head _))).1
      have lun : un < h4.objs.size := Heap.lt_size (N4 _ (.head _)).1
      k_steps
      (with_reducible rename Fr _ _ _ _ => F5)
      (with_reducible rename News _ _ _ _ => N5)
      rw [slice_drop] at N5
      have b5 := (N5 _ (.head _)).1
      refine extend_in (ys := vM) (own := [_, _]) (rest := [_]) F5 N5 ?_ ?_ b5 ?_ ?_
      · exact in2 (Nat.ne_of_gt (Nat.lt_succ_of_lt lmi)) (Nat.ne_of_gt lu.1)
      · exact in1 (Nat.ne_of_lt lm)
      · intro h6 n6 F6 N6
        have N7 : News B L h6 [(un, listOf (List.toArray vU) nU), (mi, listOf (List.toArray (vM ++ vs1.drop i)) n6), (L0, { o0 with slots := sl4 })] := fun p hp => N6 p (.tail _ (by exact hp))
        clear F5 N5 N6
        have lmi : mi < h6.objs.size := Heap.lt_size (N7 _ (.tail _ (.head _))).1
        have lun : un < h6.objs.size := Heap.lt_size (N7 _ (.head _)).1
        k_steps
        (with_reducible rename Fr _ _ _ _ => F8)
        (with_reducible rename News _ _ _ _ => N8)
        rw [slice_drop] at N8
        have b8 := (N8 _ (.head _)).1
        refine extend_in (ys := vU) (own := [_]) (rest := [_, _]) F8 N8 ?_ ?_ b8 ?_ ?_
        · exact in1 (Nat.ne_of_gt (Nat.lt_succ_of_lt lun))
        · exact in2 (Nat.ne_of_lt lu.1) (Nat.ne_of_lt lu.2)
        · intro h9 n9 F9 N9
          have Na : News B L h9 [(un, listOf (List.toArray (vU ++ vs2.drop j)) n9), (mi, listOf (List.toArray (vM ++ vs1.drop i)) n6), (L0, { o0 with slots := sl4 })] := fun p hp => N9 p (.tail _ (by exact hp))
          clear F8 N8 N9
          have lmi : mi < h9.objs.size := Heap.lt_size (Na _ (.tail _ (.head _))).1
          have lun : un < h9.objs.size := Heap.lt_size (Na _ (.head _)).1
          k_steps
          show wpAny _ _ (execs _ _) _ _ _
          k_steps
          (with_reducible rename Fr _ _ _ _ => Fb)
          (with_reducible rename News _ _ _ _ => Nb)
          refine finT.go _ _ ?_
          obtain ⟨e1, e2⟩ := hS.last hend
          have hB : ∀ q, B.get? q = none → q ≠ L0 → s.heap.get? q = none := fun q e1 e2 => by
            cases e3 : s.heap.get? q with
            | none => rfl
            | some o => rw [inB q o e2 e3] at e1; cases e1
          refine hQ _ mi un (vM ++ vs1.drop i) (vU ++ vs2.drop j) _ _ (fun c o hc q => Fb.keep c o (inB c o hc q)) ⟨sl4, (Nb _ (.tail _ (.tail _ (.tail _ (.head _))))).1⟩ ⟨_, (Nb _ (.head _)).1, rfl, _, rfl⟩
            ⟨_, (Nb _ (.tail _ (.tail _ (.head _)))).1, rfl, _, rfl⟩ ⟨_, (Nb _ (.tail _ (.head _))).1, rfl, _, rfl⟩ ?_ ?_ (hB _ (Nb _ (.tail _ (.tail _ (.head _)))).2.2 (Nat.ne_of_gt lm)) (hB _ (Nb _ (.tail _ (.head _))).2.2 (Nat.ne_of_gt lu.2)) (hB _ (Nb _ (.head _)).2.2 (by (with_reducible rename _ ∧ _ ∧ _ => lD); exact Nat.ne_of_gt lD.2.2))
          · rw [← e1]; exact strsAre_append sM (strs_drop hs1 i)
          · rw [← e2]; exact strsAre_append sU (strs_drop hs2 j)
        · simp only [List.size_toArray, List.length_drop]; exact szd lU lv2 hUl hb.2
      · simp only [List.size_toArray, List.length_drop]; exact szd lM lv1 hMl hb.1
    clear ex12
    have ex0 : ∀ (hP h' : Heap) (tk' : Nat) (e : Addr) (c : Value) sl0 ue ua (i j : Nat) ti tj vM vU nM nU M U, Fr B L hP (sm (sm0 l1 l2 mi un) ue ua i j ti tj) → News B L hP [(un, listOf (List.toArray vU) nU), (mi, listOf (List.toArray vM) nM), (L0, { o0 with slots := sl0 })] →
        StrsAre vM M → StrsAre vU U → SI es as i j M U → (i = es.length ∨ j = as.length) → Kept hP h' → ExcNew h' hP e (.type "IndexError") c → Eb (.ref e) { s with heap := h', toks := tk' } := by
      intro hP h' tk' e c sl0 ue ua i j ti tj vM vU nM nU M U F N sM sU hS hend k x
      exact ex hP hP h' tk' e c sl0 ue ua i j ti tj vM vU nM nU M U F N sM sU hS hend (fun b o q => by rw [F.keep b o q]; simp) (by rw [(N _ (.head _)).1]; simp) (by rw [(N _ (.tail _ (.head _))).1]; simp)
        (.of_kept k) (.inl ⟨fun b hb => by
          cases q : hP.get? b with
          | none => exact absurd q hb
          | some o => exact Heap.lt_size (k b o q), x⟩)
    have ex : Stop _ := ex
    have ex0 : Stop _ := ex0
    have hv1 := StrsAre.length hs1
    have hv2 := StrsAre.length hs2
    have hl1h := Kept.lst F2.keep hl1B
    have hl2h := Kept.lst F2.keep hl2B
    have hil := hS.i_le
    have hjl := hS.j_le
    have hb1 : es.length < 10000 := Nat.lt_trans hb.1 (by decide)
    have hb2 : as.length < 10000 := Nat.lt_trans hb.2 (by decide)
    refine wp_gen fun Q1 fin => ?_
    have fin : Stop _ := fin
    k_steps
    by_cases hi : i < es.length
    · obtain ⟨ev, te, ee, hev⟩ := StrsAre.item hs1 i (vs1[i]'(lt_eq hi hv1)) (List.getElem?_eq_getElem _)
      show wpAny _ _ _ _ _ _
      refine item_list (v := .str ev te) hl1h (Int.natCast_nonneg _) (i63 hi hb1) (by rw [← ee]; simp) ?_
      clear hl1h hl2h
      k_steps
      (with_reducible rename Fr _ _ _ _ => F6)
      (with_reducible rename News _ _ _ _ => N6)
      rw [sm_e] at F6
      have hl1h := Kept.lst F6.keep hl1B
      have hl2h := Kept.lst F6.keep hl2B
      by_cases hj : j < as.length
      · obtain ⟨av, ta, ea, hav⟩ := StrsAre.item hs2 j (vs2[j]'(lt_eq hj hv2)) (List.getElem?_eq_getElem _)
        show wpAny _ _ _ _ _ _
        refine item_list (v := .str av ta) hl2h (Int.natCast_nonneg _) (i63 hj hb2) (by rw [← ea]; simp) ?_
        clear hl1h hl2h
        have hij : i + j < es.length + as.length := Nat.add_lt_add hi hj
        have lM := StrsAre.length sM
        have lU := StrsAre.length sU
        have hMl := filt_le hS.m
        have hUl := filt_le hS.u
        k_steps
        · (with_reducible rename _ < _ => hlt)
          (with_reducible rename Fr _ _ _ _ => F7)
          (with_reducible rename News _ _ _ _ => N7)
          rw [sm_a] at F7
          show wpAny _ _ (call _ [.ref mi, .str ev te]) _ _ _
          have hS' := hS.lt p2 hev hav hlt
          refine append_in (own := [_]) (rest := [_]) (ys := vM) F7 N7 ?_ ?_ ?_ ?_
          · exact in1 (Nat.ne_of_gt lu.1)
          · exact in1 (Nat.ne_of_lt lm)
          · intro h8 F8 N8
            have N9 : News B L h8 [(un, listOf (List.toArray vU) nU), (mi, listOf (List.toArray (vM ++ [Value.str ev te])) (nM + 1)), (L0, o0)] := N8
            have sM' : StrsAre (vM ++ [Value.str ev te]) (M ++ [ev]) := strsAre_append sM (.cons _ _ .nil)
            clear F7 N7 N8
            k_steps
            (with_reducible rename Fr _ _ _ _ => Fa)
            (with_reducible rename News _ _ _ _ => Na)
            rw [sm_i] at Fa
            show wpAny _ _ (exec (.While _ _ _ _) _) _ _ _
            refine while_once pe ?_
            k_steps
            have hl1a := Kept.lst Fa.keep hl1B
            by_cases hi2 : i + 1 < es.length
            · obtain ⟨ew, tw, ee2, hew⟩ := StrsAre.item hs1 (i + 1) (vs1[i + 1]'(lt_eq hi2 hv1)) (List.getElem?_eq_getElem _)
              show wpAny _ _ _ _ _ _
              refine item_list (v := .str ew tw) hl1a (i0s i) (i63s hi hb1) (by rw [← ee2]; simp) ?_
              have hne : slt ev ew := rest_above p1 hev ew (by rw [drop_cons hew]; exact .head _)
              have hne2 : (ew == ev) = false := by simpa using fun q => slt_ne hne q.symm
              k_steps
              refine ⟨hne2, ?_⟩
              k_steps
              unfold Stop at fin
              refine fin .next _ ?_
              k_steps
              exact ⟨es.length + as.length - (i + 1 + j), mdec (Nat.add_lt_add_right (Nat.lt_succ_self i) j) hij, WJ.intro _ _ (some (.str ev te)) (some (.str av ta)) (i + 1) j _ tj _ vU _ nU _ U rfl Fa Na sM' sU hS' rfl⟩
            · show wpAny _ _ _ _ _ _
              refine item_out hh hl1a (out1 hv1 hi2) (i63s hi hb1) fun h' tk' e k x => ?_
              unfold Stop at ex0
              exact ex0 _ h' tk' e _ o0.slots (some (.str ev te)) (some (.str av ta)) (i + 1) j _ tj _ vU _ nU _ U Fa Na sM' sU hS' (.inl (Nat.le_antisymm hi (Nat.le_of_not_lt hi2))) k x
          · rw [lM]; exact szl (Nat.le_trans hMl (Nat.le_of_lt hb.1)) (by decide)
        · (with_reducible rename _ < _ => hlt)
          (with_reducible rename Fr _ _ _ _ => F7)
          (with_reducible rename News _ _ _ _ => N7)
          rw [sm_a] at F7
          show wpAny _ _ (call _ [.ref un, .str av ta]) _ _ _
          have hS' := (hS.swap.lt p1 hav hev hlt).swap
          refine append_in (own := []) (rest := [_, _]) (ys := vU) F7 N7 ?_ ?_ ?_ ?_
          · exact fun _ hp => nomatch hp
          · exact in2 (Nat.ne_of_lt lu.1) (Nat.ne_of_lt lu.2)
          · intro h8 F8 N8
            have N9 : News B L h8 [(un, listOf (List.toArray (vU ++ [Value.str av ta])) (nU + 1)), (mi, listOf (List.toArray vM) nM), (L0, o0)] := N8
            have sM' : StrsAre (vU ++ [Value.str av ta]) (U ++ [av]) := strsAre_append sU (.cons _ _ .nil)
            clear F7 N7 N8
            k_steps
            (with_reducible rename Fr _ _ _ _ => Fa)
            (with_reducible rename News _ _ _ _ => Na)
            rw [sm_j] at Fa
            show wpAny _ _ (exec (.While _ _ _ _) _) _ _ _
            refine while_once pe ?_
            k_steps
            have hl1a := Kept.lst Fa.keep hl2B
            by_cases hi2 : j + 1 < as.length
            · obtain ⟨ew, tw, ee2, hew⟩ := StrsAre.item hs2 (j + 1) (vs2[j + 1]'(lt_eq hi2 hv2)) (List.getElem?_eq_getElem _)
              show wpAny _ _ _ _ _ _
              refine item_list (v := .str ew tw) hl1a (i0s j) (i63s hj hb2) (by rw [← ee2]; simp) ?_
              have hne : slt av ew := rest_above p2 hav ew (by rw [drop_cons hew]; exact .head _)
              have hne2 : (ew == av) = false := by simpa using fun q => slt_ne hne q.symm
              k_steps
              refine ⟨hne2, ?_⟩
              k_steps
              unfold Stop at fin
              refine fin .next _ ?_
              k_steps
              exact ⟨es.length + as.length - (i + (j + 1)), mdec (Nat.lt_succ_self (i + j)) hij, WJ.intro _ _ (some (.str ev te)) (some (.str av ta)) i (j + 1) ti _ vM _ nM _ M _ rfl Fa Na sM sM' hS' rfl⟩
            · show wpAny _ _ _ _ _ _
              refine item_out hh hl1a (out1 hv2 hi2) (i63s hj hb2) fun h' tk' e k x => ?_
              unfold Stop at ex0
              exact ex0 _ h' tk' e _ o0.slots (some (.str ev te)) (some (.str av ta)) i (j + 1) ti _ vM _ nM _ M _ Fa Na sM sM' hS' (.inr (Nat.le_antisymm hj (Nat.le_of_not_lt hi2))) k x
          · rw [lU]; exact szl (Nat.le_trans hUl (Nat.le_of_lt hb.2)) (by decide)
        · (with_reducible rename ¬ (av.cps.toList < ev.cps.toList) => hn1)
          (with_reducible rename ¬ (ev.cps.toList < av.cps.toList) => hn2)
          (with_reducible rename Fr _ _ _ _ => F7)
          (with_reducible rename News _ _ _ _ => N7)
          have hea : ev = av := slt_eq hn2 hn1
          rw [sm_ia] at F7
          have hS' := hS.eq p1 p2 hev (hea ▸ hav)
          show wpAny _ _ (exec (.Try _ _ _ _ _) _) _ _ _
          refine fin_own (base := B) (outer := [env0]) (L := L) (Around.frames_deeper hA) rfl ?_
          intro Ef pf exf
          have exf : Stop _ := exf
          k_steps
          show wpAny _ _ (exec (.While _ _ _ _) _) _ _ _
          refine while_once pf ?_
          k_steps
          have hl1a := Kept.lst F7.keep hl1B
          by_cases hi2 : i + 1 < es.length
          · obtain ⟨ew, tw, ee2, hew⟩ := StrsAre.item hs1 (i + 1) (vs1[i + 1]'(lt_eq hi2 hv1)) (List.getElem?_eq_getElem _)
            show wpAny _ _ _ _ _ _
            refine item_list (v := .str ew tw) hl1a (i0s i) (i63s hi hb1) (by rw [← ee2]; simp) ?_
            have hne : slt ev ew := rest_above p1 hev ew (by rw [drop_cons hew]; exact .head _)
            have hne2 : (ew == ev) = false := by simpa using fun q => slt_ne hne q.symm
            k_steps
            refine ⟨hne2, ?_⟩
            k_steps
            refine ⟨rfl, ?_⟩
            k_steps
            (with_reducible rename Fr _ _ _ _ => Fa)
            (with_reducible rename News _ _ _ _ => Na)
            rw [sm_j] at Fa
            show wpAny _ _ (exec (.While _ _ _ _) _) _ _ _
            refine while_once passes_noted ?_
            k_steps
            have hl2a := Kept.lst Fa.keep hl2B
            by_cases hj2 : j + 1 < as.length
            · obtain ⟨aw, tx, ea2, haw⟩ := StrsAre.item hs2 (j + 1) (vs2[j + 1]'(lt_eq hj2 hv2)) (List.getElem?_eq_getElem _)
              show wpAny _ _ _ _ _ _
              refine item_list (v := .str aw tx) hl2a (i0s j) (i63s hj hb2) (by rw [← ea2]; simp) ?_
              have hna : slt av aw := rest_above p2 hav aw (by rw [drop_cons haw]; exact .head _)
              have hna2 : (aw == av) = false := by simpa using fun q => slt_ne hna q.symm
              k_steps
              refine ⟨hna2, ?_⟩
              k_steps
              refine ⟨rfl, ?_⟩
              k_steps
              unfold Stop at fin
              refine fin .next _ ?_
              k_steps
              exact ⟨es.length + as.length - (i + 1 + (j + 1)), mdec (Nat.add_lt_add (Nat.lt_succ_self i) (Nat.lt_succ_self j)) hij, WJ.intro _ _ (some (.str ev te)) (some (.str av ta)) (i + 1) (j + 1) _ _ vM vU nM nU M U rfl Fa Na sM sU hS' rfl⟩
            · show wpAny _ _ _ _ _ _
              refine item_out hh hl2a (out1 hv2 hj2) (i63s hj hb2) fun h' tk' e k x => ?_
              unfold Stop at ex0
              exact pe _ _ (ex0 _ h' tk' e _ o0.slots (some (.str ev te)) (some (.str av ta)) (i + 1) (j + 1) _ _ vM vU nM nU M U Fa Na sM sU hS' (.inr (Nat.le_antisymm hj (Nat.le_of_not_lt hj2))) k x)
          · show wpAny _ _ _ _ _ _
            refine item_out hh hl1a (out1 hv1 hi2) (i63s hi hb1) fun h' tk' e k x => ?_
            unfold Stop at exf
            have hBG := kept_ne F7.keep
            have g1 := ne_none (N7 _ (.head _)).1
            have g2 := ne_none (N7 _ (.tail _ (.head _))).1
            have frB := fr_apart F7
            obtain ⟨oL, esL, epL, hoL, hdL, _⟩ := id F7.ns
            refine exf _ e (.type "IndexError") .none _ ⟨by simp [envOf], ⟨L, oL, rfl, none_below F7.above, k _ _ hoL, fun vs q => by rw [hdL] at q; cases q⟩, hk0, ⟨L0, o0, hf0, nB, k _ _ (N7 _ (.tail _ (.tail _ (.head _)))).1, hnf0⟩, trivial⟩ (fun b hb => ?_) x (fun h2 k2 x2 => ?_)
            · dsimp only at hb
              revert hb
              generalize hq : Heap.get? _ b = q
              intro hb
              cases q with
              | none => exact absurd rfl hb
              | some o => exact Heap.lt_size (k b o hq)
            have k3 : KeptF _ [L, L0] _ h2 := (KeptF.of_kept k).trans (by
              have := k2
              simp only [frs, List.filterMap_cons, List.filterMap_nil, hf0] at this
              exact this)
            have F8 := kf_fr k3 F7 hBG nB
            obtain ⟨sl, N8⟩ := kf_news k3 N7 g1 g2 (Nat.ne_of_gt lu.2) (Nat.ne_of_gt lm) hnf0
            refine x2.elim fun oe ws T' oT ts he hc hd' e1 e2 hTe hT hdT e3 z1 z2 => ?_
            have N9 : News B L h2 [(un, listOf (List.toArray vU) nU), (mi, listOf (List.toArray vM) nM), (L0, { o0 with slots := sl }), (e, oe), (T', oT)] := fun p hp => by
              simp only [List.mem_cons, List.mem_nil_iff, or_false] at hp
              rcases hp with rfl | rfl | rfl | rfl | rfl
              · exact N8 _ (.head _)
              · exact N8 _ (.tail _ (.head _))
              · exact N8 _ (.tail _ (.tail _ (.head _)))
              · exact ⟨he, (frB _ z2).2, (frB _ z2).1⟩
              · exact ⟨hT, (frB _ z1).2, (frB _ z1).1⟩
            clear F7 N7 N8
            k_steps
            (with_reducible rename Fr _ _ _ _ => Fa)
            (with_reducible rename News _ _ _ _ => Na)
            rw [sm_j] at Fa
            have N3 := news_sub (l' := [(un, listOf (List.toArray vU) nU), (mi, listOf (List.toArray vM) nM), (L0, { o0 with slots := sl })]) Na (fun p hp => by
              simp only [List.mem_cons, List.mem_nil_iff, or_false] at hp
              rcases hp with rfl | rfl | rfl <;> simp)
            have xa := excAt_mk (Na _ (.tail _ (.tail _ (.tail _ (.head _))))).1 hc hd' e1 e2 hTe (Na _ (.tail _ (.tail _ (.tail _ (.tail _ (.head _)))))).1 hdT e3 z1 z2
            show wpAny _ _ (exec (.While _ _ _ _) _) _ _ _
            refine while_once passes_noted ?_
            k_steps
            have hl2a := Kept.lst Fa.keep hl2B
            by_cases hj2 : j + 1 < as.length
            · obtain ⟨aw, tx, ea2, haw⟩ := StrsAre.item hs2 (j + 1) (vs2[j + 1]'(lt_eq hj2 hv2)) (List.getElem?_eq_getElem _)
              show wpAny _ _ _ _ _ _
              refine item_list (v := .str aw tx) hl2a (i0s j) (i63s hj hb2) (by rw [← ea2]; simp) ?_
              have hna : slt av aw := rest_above p2 hav aw (by rw [drop_cons haw]; exact .head _)
              have hna2 : (aw == av) = false := by simpa using fun q => slt_ne hna q.symm
              k_steps
              refine ⟨hna2, ?_⟩
              k_steps
              refine ⟨rfl, ?_⟩
              refine pass_on (fs := [L, L0]) rfl xa fun h5 k5 x5 => ?_
              unfold Stop at ex
              exact ex _ _ h5 _ e _ sl (some (.str ev te)) (some (.str av ta)) (i + 1) (j + 1) _ _ vM vU nM nU M U Fa N3 sM sU hS' (.inl (Nat.le_antisymm hi (Nat.le_of_not_lt hi2))) hBG g1 g2 k5 (.inr x5)
            · show wpAny _ _ _ _ _ _
              refine item_out_within (lo := _) (cls := .type "IndexError") (fl := .none) rfl xa hl2a (out1 hv2 hj2) (i63s hj hb2) fun h' tk' e k x => ?_
              unfold Stop at ex0
              exact pa _ _ _ (ex0 _ h' tk' e _ sl (some (.str ev te)) (some (.str av ta)) (i + 1) (j + 1) _ _ vM vU nM nU M U Fa N3 sM sU hS' (.inr (Nat.le_antisymm hj (Nat.le_of_not_lt hj2))) k x)
      · show wpAny _ _ _ _ _ _
        refine item_out hh hl2h (out0 hv2 hj) (i63e hjl hb2) fun h' tk' e k x => ?_
        unfold Stop at ex0
        exact ex0 _ h' tk' e _ o0.slots (some (.str ev te)) ua i j ti tj vM vU nM nU M U F6 N6 sM sU hS (.inr (Nat.le_antisymm hjl (Nat.le_of_not_lt hj))) k x
    · show wpAny _ _ _ _ _ _
      refine item_out hh hl1h (out0 hv1 hi) (i63e hil hb1) fun h' tk' e k x => ?_
      unfold Stop at ex0
      exact ex0 h h' tk' e _ o0.slots ue ua i j ti tj vM vU nM nU M U F2 N2 sM sU hS (.inl (Nat.le_antisymm hil (Nat.le_of_not_lt hi))) k x
end Mine
end

section
open PySem PySem.W PyProof.Rows
set_option Elab.async false
set_option maxRecDepth 100000
namespace Mine
noncomputable def RB (n0 : Str) (ns' : List Str) (i : Nat) (b : Addr) (h : Heap) : Prop := ∃ ws, h.IsList b (List.toArray ws) ∧ StrsAre ws (((n0 :: ns').take i).foldl stepF [])
theorem RB.stable {n0 : Str} {ns' : List Str} (i : Nat) (b : Addr) (h h' : Heap) (hk : ∀ o, h.get? b = some o → h'.get? b = some o) (x : RB n0 ns' i b h) : RB n0 ns' i b h' :=
  x.elim fun ws y => ⟨ws, y.1.at hk, y.2⟩
section
variable {prog : Program} {w : World} {A : Around} {E : Value → Shared → Prop} {s : Shared} {env : Env}
theorem try_calm {body orelse : List Stmt} {h₀ : ExceptHandler} {hs : List ExceptHandler} {pos : Pos} {Q : Flow → Shared → Prop}
    (h : wpAny (model prog w) A (execs body env) (fun f s₁ => match f with | .next => wpAny (model prog w) A (execs orelse env) Q E s₁ | f => Q f s₁) (fun _ _ => False) s) :
    wpAny (model prog w) A (exec (.Try body (h₀ :: hs) orelse [] pos) env) Q E s :=
  wpAny_Try_except (wpAny_mono h (fun _ _ x => x) fun _ _ x => x.elim)
end
local macro_rules | `(tactic| walk_at "exec Try") => `(tactic| (k_here; refine stop_here ?_))
local macro_rules | `(tactic| walk_at "call builtin:next") => `(tactic| (k_here; refine stop_here ?_))
local macro_rules | `(tactic| walk_at "call builtin:iter") => `(tactic| (k_here; refine stop_here ?_))
local macro_rules | `(tactic| walk_at "exec For Name Name cons nil") => `(tactic| (k_here; refine wpAny_For ?_ (by intro _; with_unfolding_all rfl)))
set_option pp.deepTerms false
set_option pp.deepTerms.threshold 6
set_option maxHeartbeats 4000000
theorem reduce_first {w : World} {A : Around} {mg mb : Str → Option Value} {mean : ExcName → Option Value} 
    {s : Shared} {l : Addr} {ns : List Str} {Q E : Value → Shared → Prop} 
    (X : (hd.heap_39 w.params).In s.heap) (T : Top hd.view_39 LO mean mg mb s.heap) 
    (hE : EvAt s.heap l (ns.map fun n => [n])) (hne : ns ≠ []) (hb : ns.length < 700) (hns : ∀ k ∈ ns, Okn k)
    (hd1 : A.depth + 60 < recursionLimit) (hh : A.handled = none)
    (hQ : ∀ b ws h' d' tk, Kept s.heap h' → h'.IsList b (List.toArray ws) → StrsAre ws (ns.foldl stepF []) → Q (.ref b) { s with heap := h', drawn := d', toks := tk }) :
   wpAny (model PR w) A (call (.ref 37) [.ref 128, .ref l]) Q E s := by
  obtain ⟨as, hl, hlen, hit⟩ := hE
  rw [List.length_map] at hlen
  refine' wpAny_call (enterP (h₀ := s.heap) (news := []) (Kept.refl _) (Nat.le_refl _) (fun _ h => nomatch h) X T ?k1 ?k2 ?k3 ?k4 ?k5 ?k6 ?k7 ?k8 ?k9 ?_)
  case k1 => k_is
  case k2 => k_is
  case k3 => exact lt0 hd1
  case k4 => first | exact BindsTo.of_eq rfl | exact binds_K X rfl (by k_is) rfl rfl rfl
  case k5 => exact locs rfl
  case k6 => rfl
  case k7 => rfl
  case k8 => rfl
  case k9 => decide
  intro L h₁ F N kk eL
  try dsimp only
  refine wp_gen2 fun Q1 E1 finT finE => ?_
  w_on
  k_steps
  show wpAny _ _ _ _ _ _
  refine iter_list (Kept.lst F.keep hl) ?_
  have F1 := F.push { cls := .type "list_iterator", data := .fields #[.ref l, .int 0 0] }
  have N1 : News s.heap L (h₁.push { cls := .type "list_iterator", data := .fields #[.ref l, .int 0 0] }) [(h₁.objs.size, { cls := .type "list_iterator", data := .fields #[.ref l, .int 0 0] })] := N.push F _
  have hsz1 : s.heap.objs.size ≤ h₁.objs.size := Nat.le_trans F.above (Nat.le_of_lt (fr_lt F))
  clear F N
  try dsimp only
  k_steps
  (with_reducible rename Fr _ _ _ _ => F2)
  (with_reducible rename News _ _ _ _ => N2)
  show wpAny _ _ (exec (.Try _ _ _ _ _) _) _ _ _
  refine try_calm ?_
  k_steps
  show wpAny _ _ _ _ _ _
  obtain ⟨n0, ns', rfl⟩ : ∃ n0 ns', ns = n0 :: ns' := by
    cases ns with
    | nil => exact absurd rfl hne
    | cons a b => exact ⟨a, b, rfl⟩
  have h0 : 0 < as.length := by rw [hlen]; simp
  have hI2 := N2 _ (.head _)
  obtain ⟨w0, hw0, sw0⟩ := hit 0 as[0] [n0] (List.getElem?_eq_getElem h0) rfl
  refine next_list (l := l) (i := 0) (items := (as.map Value.ref).toArray) (x := .ref as[0]) ⟨_, hI2.1, rfl, rfl⟩ (Kept.lst F2.keep hl) (by simp [h0]) fun h3 it3 sb3 => ?_
  have nI : s.heap.get? h₁.objs.size = none := none_below hsz1
  have F3 : Fr s.heap L h3 _ := ⟨F2.ns.sameBut sb3 (Ne.symm hI2.2.1), fun b o e => sb3.extBut b o (fun q => by rw [q, nI] at e; cases e) (F2.keep b o e), F2.above⟩
  obtain ⟨oI, hoI, cI, dI⟩ := id it3
  have N3 : News s.heap L h3 [(h₁.objs.size, oI)] := fun p hp => by
    simp only [List.mem_singleton] at hp
    subst hp
    exact ⟨hoI, hI2.2⟩
  clear F2 N2
  k_steps
  (with_reducible rename Fr _ _ _ _ => F4)
  (with_reducible rename News _ _ _ _ => N4)
  refine wpAny_pyIter_listiter (l := l) (i := 1) ⟨_, (N4 _ (.head _)).1, cI, dI⟩ ?_
  have hI3 := N4 _ (.head _)
  have hl3 := Kept.lst F4.keep hl
  obtain ⟨ol, hol, _⟩ := id hl
  have hlL : l ≠ L := Nat.ne_of_lt (by rw [← eL]; exact Heap.lt_size hol)
  have hlI : l ≠ h₁.objs.size := Nat.ne_of_lt (Heap.lt_size (kk _ _ hol))
  have bad : ∀ b, b < s.heap.objs.size → b ≠ h₁.objs.size ∧ b ≠ L := fun b hb => ⟨fun q => absurd (Nat.lt_of_lt_of_le hb hsz1) (by rw [q]; exact Nat.lt_irrefl _), Nat.ne_of_lt (by rw [← eL]; exact hb)⟩
  obtain ⟨ow0, how0, _⟩ := id hw0
  have hsN : (as.map Value.ref).toArray.size = (n0 :: ns').length := by simp [hlen]
  refine for_fold (J := FJ _ (fun i b h => RB n0 ns' i b h) s.heap h₁.objs.size L) (items := (as.map Value.ref).toArray) (ax := l) (i0 := 1) hh (by rfl) (by rfl) hI3.2.1 hlL hlI (by rw [hsN]; simp) ⟨_, hI3.1, cI, dI⟩ hl3 F4.ns
    (.intro _ _ (lm_self rfl) ⟨w0, Kept.lst F4.keep hw0, sw0⟩ F4.keep (bad _ (Heap.lt_size how0)).1 (bad _ (Heap.lt_size how0)).2) (FJ.stable RB.stable fun b o q => bad b (Heap.lt_size q)) ?_ ?_
  · intro i v h5 d5 tk5 m5 hv hit5 hJ hn hk
    refine wp_gen2 fun Q2 E2 fin2 finE2 => hJ.elim fun u acc e hB hK n1 n2 => hB.elim fun ws hB => ?_
    have hacc := hB.1
    have hsacc := hB.2
    clear hB
    subst e
    have F5 : Fr s.heap L h5 _ := ⟨hn, hK, F4.above⟩
    have N5 : News s.heap L h5 [] := .nil
    obtain ⟨oL, esL, epL, hoL, hdL, _⟩ := id hn
    have hoL : h5.get? L = some oL := hoL
    obtain ⟨oJ, hoJ, hcJ, _⟩ := id hit5
    clear F4 N4
    obtain ⟨hi, hvi⟩ := Array.getElem?_eq_some_iff.mp hv
    have hi1 : i < as.length := by simpa using hi
    have hi2 : i < (n0 :: ns').length := by rw [← hlen]; exact hi1
    have hvr : v = .ref as[i] := by rw [← hvi]; simp
    subst hvr
    obtain ⟨wi, hwi, swi⟩ := hit i as[i] [(n0 :: ns')[i]] (List.getElem?_eq_getElem hi1) (by rw [List.getElem?_map, List.getElem?_eq_getElem hi2]; rfl)
    have ok := foldF_ok ((n0 :: ns').take i) [] (fun _ h => nomatch h) fun k hk => hns k (List.mem_of_mem_take hk)
    have hl5 := ok.2
    have htl := List.length_take_le i (n0 :: ns')
    simp only [List.length_nil, Nat.zero_add] at hl5
    k_steps
    refine joined_spec (X.keeps hK) (T.keeps hK) (Kept.lst hK hwi) swi hacc hsacc (fold1 hl5 htl hi2 hb) ok.1 (in1 (hns _ (List.getElem_mem hi2))) (ltd hd1 (by decide)) hh ?_
    intro b ws2 h6 d6 tk6 hk6 hl6 hs6
    refine wpAny_storeName_local (by rfl) (hn.keeps hk6) (fun h7 hn7 sb7 => ?_) (by rfl)
    try dsimp only
    obtain ⟨ob, hob, hcb, nb, hdb⟩ := id hl6
    have nb1 : b ≠ h₁.objs.size := fun q => by
      rw [q, hk6 _ _ hoJ] at hob
      cases hob
      rw [hcJ] at hcb
      exact absurd hcb (by decide)
    have nb2 : b ≠ L := fun q => by
      rw [q, hk6 _ _ hoL] at hob
      cases hob
      rw [hdL] at hdb
      cases hdb
    refine wpAny_execs_nil (fin2.go _ _ ⟨rfl, h7, d6, _, _, rfl, fun a o ha e => sb7.extBut a o ha (hk6 a o e), hn7, .intro (some (.ref as[i])) b lm_step ⟨ws2, hl6.at fun o e => sb7.extBut b o nb2 e, ?_⟩ (fun a o e => sb7.extBut a o (bad a (Heap.lt_size e)).2 (hk6 a o (hK a o e))) nb1 nb2⟩)
    rw [List.take_succ, List.getElem?_eq_getElem hi2, List.foldl_append]
    exact hs6
  · intro h' d tk' m' hn hJ hk
    refine hJ.elim fun u acc e hB hK n1 n2 => hB.elim fun ws hB => ?_
    have hacc := hB.1
    have hsacc := hB.2
    clear hB
    subst e
    have F5 : Fr s.heap L h' _ := ⟨hn, hK, F4.above⟩
    have N5 : News s.heap L h' [] := .nil
    clear F4 N4
    try dsimp only
    k_steps
    try dsimp only
    refine finT.go _ _ (hQ _ ws _ _ _ hK hacc ?_)
    rw [hsN, List.take_length] at hsacc
    exact hsacc
end Mine
end

section
open PySem PySem.W PyProof.Rows PyProof.V PySem.Calls PySem.Spec
set_option Elab.async false
set_option maxRecDepth 100000
namespace Mine
section
variable {M : Model} {A : Around} {E : Value → Shared → Prop} {s : Shared} {base : Heap} {env : Env} {outer : List Env} {L e : Addr} {lo : Heap} {cls c fl : Value}
theorem stop_exc {α : Type} {Q : α → Shared → Prop} (hh : A.handled = none)
    (hE : ∀ e h', (∀ b o, s.heap.get? b = some o → h'.get? b = some o) → ExcNew h' s.heap e (.type "StopIteration") .none → E (.ref e) { s with heap := h' }) :
    wpAny M A (newExc (.type "StopIteration") [] >>= fun x => raiseNew x) Q E s := by
  refine wpAny_bind ?_
  simp only [newExc, newTuple]
  refine wpAny_bind (wpAny_newObj_type ?_ (by size_fits))
  refine wpAny_bind (m := firstArgMember _ _) (wpAny_of_eq (a := Value.none) (by first | rfl | (simp only [firstArgMember]; rfl)) ?_)
  refine wpAny_newObj_type ?_ (by size_fits)
  simp only [raiseNew]
  refine wpAny_bind (wpAny_handled ?_)
  rw [hh]
  refine wpAny_bind (wpAny_pure (wpAny_throw ?_))
  refine hE _ _ (fun b o e => Heap.get?_push_of_some _ (Heap.get?_push_of_some _ e)) ⟨_, _, Heap.get?_push_size _ rfl, rfl, rfl, ?_, ?_, Heap.get?_none_of_le (by simp)⟩
  · rfl
  · rfl
theorem note_on {Q : Unit → Shared → Prop} (hfr : A.frames = some (env :: outer)) (hl : s.heap.FunFrames base (env :: outer)) (hf : env.frame = some L) (hG : ∀ b, lo.get? b ≠ none → b < s.heap.objs.size) (x : ExcAt s.heap lo e cls c .none)
    (h : ∀ h', KeptF lo ((env :: outer).filterMap (·.frame)) s.heap h' → ExcAt h' lo e cls c (rawInt L) → Q () { s with heap := h' }) : wpAny M A (noteFrame (.ref e) env) Q E s := by
  refine x.elim fun oe vs T oT ts he hc hd h1 h2 hTe hT hdT h3 l1 l2 => ?_
  have hsz : 1 < vs.size := (Array.getElem?_eq_some_iff.mp h1).1
  have hsz3 : 3 < ts.size := (Array.getElem?_eq_some_iff.mp h3).1
  unfold noteFrame
  simp only [hf]
  refine wpAny_bind (wpAny_field he hd h1 ?_)
  rw [if_pos (show (Value.ref T != Value.none) = true from by simp)]
  refine wpAny_bind (wpAny_field hT hdT h3 ?_)
  rw [if_neg (show ¬ ((Value.none == rawInt L) = true) from by simp [rawInt])]
  refine wpAny_bind (wpAny_setField hT hdT hsz3 ?_)
  have other : ∀ b, b ≠ T → (s.heap.update T (Obj.mapFields (·.setIfInBounds 3 Value.none))).get? b = s.heap.get? b := fun b hb => Heap.get?_update_other _ _ (Ne.symm hb)
  have hl0 : (s.heap.update T (Obj.mapFields (·.setIfInBounds 3 Value.none))).FunFrames base (env :: outer) := hl.of_keeps fun b o hb hnf => ⟨o, (other b fun q => by rw [q, hT] at hb; cases hb; exact hnf ts hdT).trans hb, rfl⟩
  have he0 := (other e (Ne.symm hTe)).trans he
  have hene : e ∉ (env :: outer).filterMap (·.frame) := fun hm => by
    obtain ⟨_, o, ho, hnf⟩ := hl0.mem hm
    rw [he0] at ho; cases ho; exact hnf vs hd
  have k0 : KeptF lo ((env :: outer).filterMap (·.frame)) s.heap (s.heap.update T (Obj.mapFields (·.setIfInBounds 3 Value.none))) := by
    constructor
    · intro b o hb _ e1
      rw [other b (fun q => hb (q ▸ l1))]; exact e1
    · intro b o hb hnf
      exact ⟨o.slots, (other b fun q => by rw [q, hT] at hb; cases hb; exact hnf ts hdT).trans hb⟩
  have hsz0 : (s.heap.update T (Obj.mapFields (·.setIfInBounds 3 Value.none))).objs.size = s.heap.objs.size := by simp
  generalize s.heap.update T (Obj.mapFields (·.setIfInBounds 3 Value.none)) = h₀ at hl0 he0 k0 hsz0 ⊢
  refine wpAny_bind (wpAny_frameOf_fun (s := { s with heap := h₀ }) hfr hl0 hf fun h₁ hs₁ => ?_)
  refine wpAny_bind (wpAny_entryPlaceOf fun pl hpl => ?_)
  unfold EntryCells.newEntry newFields
  refine wpAny_bind (wpAny_newObj_type ?_ (hpl.sizeOk5 _ _ _ _ _))
  have he₁ : h₁.get? e = some oe := (hs₁.2.1 e hene).trans he0
  generalize hob : ({ cls := .type "traceback", data := .fields ([Value.ref T, .ref L, .none, rawInt L, .none] ++ (if pl.isEmpty then List.replicate 6 Value.none else pl)).toArray } : Obj) = ob
  have hob3 : ∃ ts, ob.data = .fields ts ∧ ts[3]? = some (rawInt L) := ⟨_, by rw [← hob], by simp⟩
  have hobf : ob.isFreed = false := by rw [← hob]; rfl
  have he₂ : (h₁.push ob).get? e = some oe := Heap.get?_push_of_some _ he₁
  refine wpAny_setField he₂ hd hsz (h _ (k0.trans ?_) ?_)
  · constructor
    · intro b o hb hbf e1
      have hbe : b ≠ e := fun q => hb (q ▸ l2)
      rw [Heap.get?_update_other _ _ (Ne.symm hbe)]
      exact Heap.get?_push_of_some _ ((hs₁.2.1 b hbf).trans e1)
    · intro b o hb hnf
      have hbe : b ≠ e := fun q => by rw [q, he0] at hb; cases hb; exact hnf vs hd
      obtain ⟨sl, hs⟩ := hs₁.2.2 b o hb
      exact ⟨sl, by rw [Heap.get?_update_other _ _ (Ne.symm hbe)]; exact Heap.get?_push_of_some _ hs⟩
  · obtain ⟨us, hd3, h3'⟩ := hob3
    have hTe' : h₁.objs.size ≠ e := Nat.ne_of_gt (Heap.lt_size he₁)
    have hd₃ := Obj.data_mapFields hd (·.setIfInBounds 1 (Value.ref h₁.objs.size))
    refine ⟨_, _, h₁.objs.size, ob, us, Heap.get?_update_self _ he₂ (Obj.isFreed_of_fields hd₃), (Obj.cls_mapFields _ _).trans hc, hd₃, by simp [hsz], by rw [Array.getElem?_setIfInBounds_ne (by decide)]; exact h2, hTe',
      (Heap.get?_update_other _ _ (Ne.symm hTe')).trans (Heap.get?_push_size h₁ hobf), hd3, h3', ?_, l2⟩
    cases q : lo.get? h₁.objs.size with
    | none => rfl
    | some o =>
      have := hG h₁.objs.size (by rw [q]; simp)
      rw [hs₁.1] at this
      dsimp only at this
      rw [hsz0] at this
      exact absurd this (Nat.lt_irrefl _)
end
section
variable {prog : Program} {w : World} {A : Around} {E : Value → Shared → Prop} {s : Shared} {env : Env} {e1 : Addr} {lo : Heap} {cls fl : Value}
theorem next_end {it l : Addr} {items : Array Value} {i : Nat} {Q : Value → Shared → Prop} (hh : A.handled = none) (hit : s.heap.IsListIter it l i) (hl : s.heap.IsList l items) (hx : items[i]? = none)
    (hE : ∀ e h', (∀ b o, b ≠ it → s.heap.get? b = some o → h'.get? b = some o) → ExcNew h' s.heap e (.type "StopIteration") .none → it < h'.objs.size → E (.ref e) { s with heap := h' }) :
    wpAny (model prog w) A (call (.builtin "next") [.ref it]) Q E s := by
  obtain ⟨o, ho, hc, hd⟩ := id hit
  obtain ⟨ol, hol, _, nl, hdl⟩ := hl
  refine call_function_entry (by decide +kernel) (by decide +kernel) kdk_entry_next (kdk_args_next _) ?_
  unfold Builtin.«next»
  refine wpAny_bind (m := someArgs "next" 1 2 _) (wpAny_of_eq (a := [Value.ref it]) (by first | rfl | kernel_rfl!) ?_)
  refine wpAny_bind (m := specialOf (.ref it) "__next__") (wpAny_specialOf hit.typeIs slot_listiter_next.lookup ?_)
  show wpAny _ _ (callSpecial? (.ref it) "__next__" >>= _) _ _ _
  refine wpAny_bind (wpAny_callSpecial?_slot (name := Str.ofString "__next__") hit.typeIs slot_listiter_next
    (wpAny_call_entry slot_listiter_next hit.typeIs entry_listiter_next ?_ (args_listiter_next _)))
  show wpAny _ _ (field (.ref it) 0 >>= _) _ _ s
  refine wpAny_bind (wpAny_field ho hd (x := .ref l) rfl ?_)
  show wpAny _ _ (if (Value.ref l == Value.none) = true then _ else _) _ _ s
  rw [if_neg (show ¬ ((Value.ref l == Value.none) = true) from Bool.false_ne_true)]
  show wpAny _ _ (field (.ref it) 1 >>= _) _ _ s
  refine wpAny_bind (wpAny_field ho hd (x := .int i 0) rfl ?_)
  show wpAny _ _ (seqItems? (.ref l) >>= _) _ _ s
  refine wpAny_bind (wpAny_seqItems hol hdl ?_)
  simp only [Int.toNat_natCast, hx]
  refine wpAny_bind (wpAny_rule ?_)
  refine wpAny_bind (wpAny_setField (i := 0) ho hd (by simp) ?_)
  unfold Builtin.SmallTypes.stopIteration
  refine stop_exc (by simpa using hh) fun e h' k x => ?_
  refine x.elim fun oe vs q1 q2 q3 q4 q5 q6 => ?_
  refine hE e h' (fun b o hb q => k b o ((Heap.get?_update_ne _ _ _ _ hb).trans q)) ⟨oe, vs, q1, q2, q3, q4, q5, ?_⟩ (Heap.lt_size (k _ _ (Heap.get?_update_self _ ho (Obj.isFreed_of_fields (Obj.data_mapFields hd _)))))
  by_cases hei : e = it
  · rw [hei, Heap.get?_update_self _ ho (Obj.isFreed_of_fields (Obj.data_mapFields hd _))] at q6; cases q6
  · exact (Heap.get?_update_ne _ _ _ _ hei).symm.trans q6
end
section
variable {prog : Program} {w : World} {A : Around} {E : Value → Shared → Prop} {s : Shared} {env : Env} {e1 : Addr} {lo : Heap} {cls fl : Value}
theorem raiseStmt_none {X : String} (F : ExcRaiseFacts X) {x c : Sem Value} {Q : Flow → Shared → Prop} (hh : A.handled = some (.ref e1))
    (h : wpAny (model prog w) A x (fun v s₁ => ∃ e t G, v = .ref e ∧ G.get? e = none ∧ (∀ b o, G.get? b = some o → s₁.heap.get? b = some o) ∧ s₁.heap.get? e = some { cls := .type X, data := .fields #[.ref t, .none, .none, .none, .bool false, .none] } ∧ ExcAt G lo e1 cls .none fl ∧ wpAny (model prog w) A c (fun cv s₂ => cv = .none ∧ s₂ = s₁) E s₁ ∧
      ∀ h' lo2, lo2.get? e = none → (∀ b o, b ≠ e → s₁.heap.get? b = some o → h'.get? b = some o) → ExcNew h' lo2 e (.type X) (.ref e1) → E (.ref e) { s₁ with heap := h' }) E s) :
    wpAny (model prog w) A (raiseStmt env (some x) (some c)) Q E s := by
  unfold raiseStmt
  refine wpAny_bind (wpAny_mono h (fun v s₁ h₁ => ?_) fun _ _ x => x)
  obtain ⟨e, t, G, rfl, hG, hGk, he, x1, hc, hE⟩ := h₁
  dsimp only
  refine wpAny_bind (wpAny_holding (wpAny_mono hc (fun cv s₂ h₂ => wpAny_bind (wpAny_pure ?_)) fun _ _ x => x))
  obtain ⟨rfl, rfl⟩ := h₂
  obtain ⟨hp, g, d, tk, os⟩ := s₂
  have hsub := F.isExc
  have hmeta := F.plainMeta
  repeat (first | refine wpAny_loadPart he ?_ | wp_step)
  refine x1.elim fun oe vs T oT ts q1 q2 q3 q4 q5 q6 q7 q8 q9 q10 q11 => ?_
  have ne1 : e1 ≠ e := fun q => by rw [q, hG] at q1; cases q1
  have neT : T ≠ e := fun q => by rw [q, hG] at q7; cases q7
  have up : ∀ b, b ≠ e → ((hp.update e (Obj.mapFields fun x => x.setIfInBounds 3 Value.none)).update e (Obj.mapFields fun x => x.setIfInBounds 4 (Value.bool true))).get? b = hp.get? b := fun b hb => by
    rw [Heap.get?_update_ne _ _ _ _ hb, Heap.get?_update_ne _ _ _ _ hb]
  have he1 := Heap.get?_update_self (Obj.mapFields fun x => x.setIfInBounds 3 Value.none) he rfl
  have he2 := Heap.get?_update_self (Obj.mapFields fun x => x.setIfInBounds 4 (Value.bool true)) he1 rfl
  refine raise_within (lo := lo) (cls := cls) (fl := fl) (lo2 := G) (cls2 := .type X) (c2 := .none) hh ne1 ⟨oe, vs, T, oT, ts, (up _ ne1).trans (hGk _ _ q1), q2, q3, q4, q5, q6, (up _ neT).trans (hGk _ _ q7), q8, q9, q10, q11⟩ ⟨_, _, he2, rfl, rfl, rfl, rfl, hG⟩ fun h' k x => ?_
  exact hE h' G hG (fun b o hb q => k b o hb ((up b hb).trans q)) x
theorem raise_call_none {X newId initId : String} (F : ExcCallFacts X newId initId) (G : ExcRaiseFacts X) {x : Str} {np cpos pos np2 : Pos} {kk : Nat} {args : List PySem.Expr} {Q : Flow → Shared → Prop}
    (hh : A.handled = some (.ref e1)) (hplain : (backTo cpos (starEach args env)).any (·.1) = false)
    (h : wpAny (model prog w) A (eval (.Name x np) env) (fun f s₁ => f = .type X ∧ wpAny (model prog w) A (evalArgs (.type X) true (backTo cpos (starEach args env)) [])
      (fun a s₂ => Halt (a.kw = [] ∧ a.pos.length ≤ sizeLine ∧ ExcAt s₂.heap lo e1 cls .none fl ∧ ∀ h' e, (∀ b o, s₂.heap.get? b = some o → h'.get? b = some o) → ExcNew h' s₂.heap e (.type X) (.ref e1) → E (.ref e) { s₂ with heap := h' })) E s₁) E s) :
    wpAny (model prog w) A (exec (.Raise (some (.Call (.Name x np) args [] cpos)) (some (.Constant .none kk np2)) pos) env) Q E s := by
  rw [arm_exec_Raise]
  show wpAny (model prog w) A (do standAt pos; raiseStmt env (some (do let v ← eval (.Call (.Name x np) args [] cpos) env; standAt pos; pure v)) (some (do let v ← eval (.Constant .none kk np2) env; standAt pos; pure v))) Q E s
  refine wpAny_bind (wpAny_standAt (raiseStmt_none (lo := lo) (cls := cls) (fl := fl) G hh (wpAny_bind (wpAny_Call_ofName (wpAny_mono h (fun f s₁ h₁ => ?_) fun _ _ x => x)))))
  obtain ⟨rfl, h₁⟩ := h₁
  refine callWith_excType hplain (wpAny_mono h₁ (fun a s₂ h₂ => ?_) fun _ _ x => x)
  obtain ⟨apos, akw⟩ := a
  obtain ⟨hkw, hlen, x1, h₂⟩ := h₂
  obtain rfl : akw = [] := hkw
  obtain ⟨hp, g, d, tk, os⟩ := s₂
  refine wpAny_call_exc F (hrest := hlen) fun h' e hm => wpAny_bind (wpAny_standAt (wpAny_pure ?_))
  obtain ⟨t, ht, _, _⟩ := hm.there
  refine ⟨e, t, hp, rfl, hm.new, hm.keeps, ht, x1, ?_, fun h2 lo2 n2 k2 x2 => ?_⟩
  · exact wpAny_bind (wpAny_Constant_none (wpAny_bind (wpAny_standAt (wpAny_pure ⟨rfl, rfl⟩))))
  · obtain ⟨oe, vs, q1, q2, q3, q4, q5, q6⟩ := x2
    exact h₂ h2 e (fun b o q => k2 b o (fun z => by rw [z, hm.new] at q; cases q) (hm.keeps b o q)) ⟨oe, vs, q1, q2, q3, q4, q5, hm.new⟩
end
section
variable {prog : Program} {w : World} {A : Around} {E : Value → Shared → Prop} {s : Shared} {env : Env} {outer : List Env} {base : Heap} {L : Addr}
theorem try_called {body orelse : List Stmt} {h₀ : ExceptHandler} {hs : List ExceptHandler} {pos : Pos} {Q : Flow → Shared → Prop} (hfr : A.frames = some (env :: outer)) (hf : env.frame = some L)
    (h : ∀ Eb : Value → Shared → Prop,
      (∀ lo e cls c s₁, s₁.heap.FunFrames base (env :: outer) → (∀ b, lo.get? b ≠ none → b < s₁.heap.objs.size) → ExcAt s₁.heap lo e cls c .none →
        (∀ h', KeptF lo (frs (env :: outer)) s₁.heap h' → ExcAt h' lo e cls c .none → wpAny (model prog w) A (handleBy (.ref e) env (h₀ :: hs)) Q E { s₁ with heap := h' }) → Eb (.ref e) s₁) →
      wpAny (model prog w) A (execs body env) (fun f s₁ => match f with | .next => wpAny (model prog w) A (execs orelse env) Q E s₁ | f => Q f s₁) Eb s) :
    wpAny (model prog w) A (exec (.Try body (h₀ :: hs) orelse [] pos) env) Q E s := by
  refine wpAny_Try_except (h _ ?_)
  rintro lo e cls c s₁ hl hG x k
  refine note_on hfr hl hf hG x fun h1 k1 x1 => ?_
  exact flight (fs := frs (env :: outer)) x1 fun h2 k2 x2 => k h2 (k1.trans k2) x2
theorem leave_new {lo : Heap} {e : Addr} {cls c : Value} {Q : Unit → Shared → Prop} (hfr : A.frames = some (env :: outer)) (hf : env.frame = some L) (hl : s.heap.FunFrames base (env :: outer)) (hG : ∀ b, lo.get? b ≠ none → b < s.heap.objs.size) (x : ExcNew s.heap lo e cls c)
    (h : ∀ h', KeptF lo (frs (env :: outer)) s.heap h' → ExcAt h' lo e cls c .none → Q () { s with heap := h' }) : wpAny (model prog w) A (leaving env (.ref e)) Q E s := by
  unfold leaving
  refine wpAny_bind (note_new hfr hl hf hG x fun h1 k1 x1 => ?_)
  exact flight (fs := frs (env :: outer)) x1 fun h2 k2 x2 => h h2 (k1.trans k2) x2
end
end Mine
end

section
open PySem PySem.W PyProof.Rows
set_option Elab.async false
set_option maxRecDepth 100000
namespace Mine
local macro_rules | `(tactic| walk_at "no such key") => `(tactic| skip)
theorem isExc_SI : isSubtype (.type "StopIteration") (.type "BaseException") = pure true := by rw [isSubtype_type]; kernel_rfl
theorem notTuple_SI : isSubtype (.type ((Manifest.find? "StopIteration").elim "type" fun x => x.metatype)) (.type "tuple") = pure false := by
  rw [show ((Manifest.find? "StopIteration").elim "type" fun x => x.metatype) = "type" from by kernel_rfl, isSubtype_type]; kernel_rfl
theorem self_SI : isSubtype (.type "StopIteration") (.type "StopIteration") = pure true := by rw [isSubtype_type]; kernel_rfl
theorem lt_of_but {h h' : Heap} {i : Addr} (k : ∀ b o, b ≠ i → h.get? b = some o → h'.get? b = some o) (hi : i < h'.objs.size) : ∀ b, h.get? b ≠ none → b < h'.objs.size := fun b hb => by
  by_cases e : b = i
  · rw [e]; exact hi
  · cases q : h.get? b with
    | none => exact absurd q hb
    | some o => exact Heap.lt_size (k b o e q)
local macro_rules | `(tactic| walk_at "exec Try") => `(tactic| (k_here; refine stop_here ?_))
local macro_rules | `(tactic| walk_at "exec Raise") => `(tactic| (k_here; refine stop_here ?_))
local macro_rules | `(tactic| walk_at "call builtin:next") => `(tactic| (k_here; refine stop_here ?_))
local macro_rules | `(tactic| walk_at "call builtin:iter") => `(tactic| (k_here; refine stop_here ?_))
set_option pp.deepTerms false
set_option pp.deepTerms.threshold 6
set_option maxHeartbeats 4000000
theorem reduce_none {w : World} {A : Around} {mg mb : Str → Option Value} {mean : ExcName → Option Value} {B₀ : Heap} {env0 : Env} {L0 : Addr} {o0 : Obj}
    {s : Shared} {l : Addr} {Q E : Value → Shared → Prop}
    (X : (hd.heap_39 w.params).In B₀) (T : Top hd.view_39 LO mean mg mb B₀) (hB₀ : B₀.get? L0 = none) (kB₀ : Kept B₀ s.heap)
    (hA : A.frames = some [env0]) (hk0 : env0.scope.kind ≠ .module) (hf0 : env0.frame = some L0) (ho0 : s.heap.get? L0 = some o0) (hnf0 : ∀ vs, o0.data ≠ .fields vs)
    (hl : s.heap.IsList l #[]) (hf1 : l ≠ L0)
    (hd1 : A.depth + 20 < recursionLimit) (hh : A.handled = none)
    (hE : ∀ e c h' tk, (∀ c o, c ≠ L0 → s.heap.get? c = some o → h'.get? c = some o) → (∃ sl, h'.get? L0 = some { o0 with slots := sl }) → ExcAt h' s.heap e (.type "TypeError") c .none → E (.ref e) { s with heap := h', toks := tk }) :
   wpAny (model PR w) A (call (.ref 37) [.ref 128, .ref l]) Q E s := by
  obtain ⟨B, eB⟩ : ∃ B, B = s.heap.hide L0 := ⟨_, rfl⟩
  have kB : Kept B s.heap := by rw [eB]; exact hide_kept
  have inB : ∀ b o, b ≠ L0 → s.heap.get? b = some o → B.get? b = some o := fun b o hb e => by rw [eB]; exact hideAll_get [L0] e (by simpa using hb)
  have nB : B.get? L0 = none := by rw [eB]; exact hideAll_none [L0] (by simp)
  have baseB : Kept B₀ B := fun b o e => inB b o (fun q => by rw [q, hB₀] at e; cases e) (kB₀ b o e)
  have XB := X.keeps baseB
  have TB := T.keeps baseB
  obtain ⟨q1, hq1, r1⟩ := id hl
  have hlB : B.IsList l #[] := ⟨q1, inB _ _ hf1 hq1, r1⟩
  refine' wpAny_call (enterP (h₀ := B) (news := [(L0, o0)]) kB (by rw [eB, Heap.hide_size]; exact Nat.le_refl _) (fun q hq => by simp only [List.mem_singleton] at hq; subst hq; exact ⟨ho0, nB⟩) XB TB ?k1 ?k2 ?k3 ?k4 ?k5 ?k6 ?k7 ?k8 ?k9 ?_)
  case k1 => k_is
  case k2 => k_is
  case k3 => exact lt0 hd1
  case k4 => first | exact BindsTo.of_eq rfl | exact binds_K (XB.keeps kB) rfl (by k_is) rfl rfl rfl
  case k5 => exact locs rfl
  case k6 => rfl
  case k7 => rfl
  case k8 => rfl
  case k9 => decide
  intro L h₁ F N kk eL
  dsimp only
  refine wp_gen fun Q1 finQ => ?_
  w_on
  k_steps
  show wpAny _ _ _ _ _ _
  refine iter_list (Kept.lst F.keep hlB) ?_
  have F1 := F.push { cls := .type "list_iterator", data := .fields #[.ref l, .int 0 0] }
  have N1 : News B L (h₁.push { cls := .type "list_iterator", data := .fields #[.ref l, .int 0 0] }) [(h₁.objs.size, { cls := .type "list_iterator", data := .fields #[.ref l, .int 0 0] }), (L0, o0)] := N.push F _
  have hLI : L0 ≠ h₁.objs.size := Nat.ne_of_lt (Heap.lt_size (kk _ _ ho0))
  clear F N
  dsimp only
  k_steps
  (with_reducible rename Fr _ _ _ _ => F2)
  (with_reducible rename News _ _ _ _ => N2)
  rename_i hP
  show wpAny _ _ (exec (.Try _ _ _ _ _) _) _ _ _
  refine try_own (base := B) (outer := [env0]) (L := L) (Around.frames_deeper hA) rfl ?_
  intro Eb pe pa ex12
  have ex12 : Stop _ := ex12
  k_steps
  show wpAny _ _ _ _ _ _
  have hI2 := N2 _ (.head _)
  refine next_end (l := l) (i := 0) (items := #[]) hh ⟨_, hI2.1, rfl, rfl⟩ (Kept.lst F2.keep hlB) rfl fun e h3 k3 x3 lI3 => ?_
  unfold Stop at ex12
  have hBG := kept_ne F2.keep
  obtain ⟨oL, esL, epL, hoL, hdL, _⟩ := id F2.ns
  have hL0 := N2 _ (.tail _ (.head _))
  have hLn : ∀ vs, oL.data ≠ .fields vs := fun vs q => by rw [hdL] at q; cases q
  have nI : B.get? h₁.objs.size = none := hI2.2.2
  refine ex12 _ e (.type "StopIteration") .none _ (.inl ⟨⟨by simp [envOf], ⟨L, oL, rfl, none_below F2.above, k3 _ _ (Ne.symm hI2.2.1) hoL, hLn⟩, hk0, ⟨L0, o0, hf0, nB, k3 _ _ hLI hL0.1, hnf0⟩, trivial⟩, lt_of_but k3 ?_, x3⟩) (fun h4 k4 x4 => ?_)
  · exact lI3
  have k4' : KeptF hP [L, L0] h3 h4 := by
    have := k4
    simp only [frs, List.filterMap_cons, List.filterMap_nil, hf0] at this
    exact this
  have F3 := fr_but F2 (Ne.symm hI2.2.1) nI k3
  have F4 := kf_fr k4' F3 hBG nB
  obtain ⟨sl4, hsl4⟩ := k4'.slots L0 o0 (k3 _ _ hLI hL0.1) hnf0
  have frB := fr_apart F2
  refine x4.elim fun oe ws T' oT ts he hc hd' e1 e2 hTe hT hdT e3 z1 z2 => ?_
  have nL0 : ∀ q, hP.get? q = none → q ≠ L0 := fun q hq z => by rw [z, hL0.1] at hq; cases hq
  have N4 : News B L h4 [(L0, { o0 with slots := sl4 }), (e, oe), (T', oT)] := fun p hp => by
    simp only [List.mem_cons, List.mem_nil_iff, or_false] at hp
    rcases hp with rfl | rfl | rfl
    · exact ⟨hsl4, hL0.2⟩
    · exact ⟨he, (frB _ z2).2, (frB _ z2).1⟩
    · exact ⟨hT, (frB _ z1).2, (frB _ z1).1⟩
  clear F2 N2 F3
  refine wpAny_handleBy_builtin (X := "StopIteration") (T := "StopIteration") (b := true) isExc_SI notTuple_SI self_SI ?_
  dsimp only
  k_steps
  · exact x4.type
  (with_reducible rename Fr _ _ _ _ => F4)
  (with_reducible rename News _ _ _ _ => N4)
  refine flight (fs := [L, L0]) x4 fun h5 k5 x5 => ?_
  have F5 := kf_fr k5 F4 hBG nB
  obtain ⟨sl5, hsl5⟩ := k5.slots L0 _ hsl4 hnf0
  refine x5.elim fun oe5 ws5 T5 oT5 ts5 he5 hc5 hd5 e15 e25 hTe5 hT5 hdT5 e35 z15 z25 => ?_
  have N5 : News B L h5 [(L0, { o0 with slots := sl5 }), (e, oe5), (T5, oT5)] := fun p hp => by
    simp only [List.mem_cons, List.mem_nil_iff, or_false] at hp
    rcases hp with rfl | rfl | rfl
    · exact ⟨hsl5, hL0.2⟩
    · exact ⟨he5, (frB _ z25).2, (frB _ z25).1⟩
    · exact ⟨hT5, (frB _ z15).2, (frB _ z15).1⟩
  clear F4 N4
  k_steps
  show wpAny _ _ (exec (.Raise _ _ _) _) _ _ _
  refine raise_call_none (lo := hP) (cls := .type "StopIteration") (fl := .none) (e1 := e) PySem.F.excCall_TypeError PySem.F.excRaise_TypeError rfl rfl ?_
  k_steps
  refine PySem.Calls.evalArgs_plain ?_
  refine PySem.Calls.spliced_cons ?_
  rw [if_neg Bool.false_ne_true]
  k_steps
  refine ⟨rfl, (show 1 ≤ sizeLine by decide), x5, fun h6 e2' k6 x6 => ?_⟩
  obtain ⟨oL5, esL5, epL5, hoL5, hdL5, _⟩ := id F5.ns
  refine PassesOwnAt.leaving _ _ (leave_new (base := B) (outer := [env0]) (L := L) (Around.frames_deeper hA) rfl
    ⟨by simp [envOf], ⟨L, oL5, rfl, none_below F5.above, k6 _ _ hoL5, fun vs q => by rw [hdL5] at q; cases q⟩, hk0, ⟨L0, _, hf0, nB, k6 _ _ (N5 _ (.head _)).1, hnf0⟩, trivial⟩ (fun b hb => ?_) x6 fun h7 k7 x7 => ?_)
  · cases q : h5.get? b with
    | none => exact absurd q hb
    | some o => exact Heap.lt_size (k6 b o q)
  have k7' : KeptF h5 [L, L0] h6 h7 := by
    have := k7
    simp only [frs, List.filterMap_cons, List.filterMap_nil, hf0] at this
    exact this
  obtain ⟨sl7, hsl7⟩ := k7'.slots L0 _ (k6 _ _ (N5 _ (.head _)).1) hnf0
  have kall : ∀ c o, c ≠ L0 → s.heap.get? c = some o → h5.get? c = some o ∧ h7.get? c = some o := fun c o hc q => by
    have hB := inB c o hc q
    have h5c := F5.keep c o hB
    refine ⟨h5c, k7'.keep c o (by rw [h5c]; simp) ?_ (k6 _ _ h5c)⟩
    simp only [List.mem_cons, List.mem_nil_iff, or_false]
    exact fun z => z.elim (fun z => by rw [z, none_below F5.above] at hB; cases hB) hc
  refine hE e2' (.ref e) h7 _ (fun c o hc q => (kall c o hc q).2) ⟨sl7, hsl7⟩ ?_
  have nn : ∀ q, h5.get? q = none → s.heap.get? q = none := fun q hq => by
    cases z : s.heap.get? q with
    | none => rfl
    | some o =>
      by_cases hc : q = L0
      · rw [hc, (N5 _ (.head _)).1] at hq; cases hq
      · rw [(kall q o hc z).1] at hq; cases hq
  obtain ⟨a1, a2, a3, a4, a5, a6, a7, a8, a9, a10, a11, a12, a13, a14, a15, a16⟩ := x7
  exact ⟨a1, a2, a3, a4, a5, a6, a7, a8, a9, a10, a11, a12, a13, a14, nn _ a15, nn _ a16⟩
end Mine
end

section
open PySem PySem.W PyProof.Rows PyProof.V PySem.Calls PySem.Spec
set_option Elab.async false
set_option maxRecDepth 100000
namespace Mine
section
variable {prog : Program} {w : World} {A : Around} {E : Value → Shared → Prop} {s : Shared} {env : Env}
noncomputable def GenI (s : Shared) (n : Nat) (St J : Nat → Heap → Prop) (k : Nat) (s' : Shared) : Prop := ∃ h' d tk i, s' = { s with heap := h', drawn := d, toks := tk } ∧ St i h' ∧ J i h' ∧ i ≤ n ∧ k = n + 1 - i
theorem GenI.intro {n : Nat} {St J : Nat → Heap → Prop} (h' : Heap) (d : Drawn) (tk i : Nat) (a : St i h') (b : J i h') (c : i ≤ n) : GenI s n St J (n + 1 - i) { s with heap := h', drawn := d, toks := tk } := ⟨h', d, tk, i, rfl, a, b, c, rfl⟩
theorem GenI.elim {n k : Nat} {St J : Nat → Heap → Prop} {s' : Shared} {C : Prop} (x : GenI s n St J k s') (f : ∀ h' d tk i, s' = { s with heap := h', drawn := d, toks := tk } → k = n + 1 - i → St i h' → J i h' → i ≤ n → C) : C := by
  obtain ⟨h', d, tk, i, e1, a, b, c, e2⟩ := x
  exact f h' d tk i e1 e2 a b c
theorem for_gen {R : Result → Shared → Prop} {target : PySem.Expr} {body : List Stmt} {I : Addr} {fp : List Addr} {n : Nat} {P : Nat → Value → Prop} {St : Nat → Heap → Prop} (J : Nat → Heap → Prop)
    (W : Walks prog w A I fp [I] n P St) (hst : St 0 s.heap) (h0 : J 0 s.heap)
    (stab : ∀ i h h', (∀ b o, b ≠ I → h.get? b = some o → h'.get? b = some o) → J i h → J i h')
    (turn : ∀ i v h d tk (Q1 : Flow → Shared → Prop) (E1 : Value → Shared → Prop), (∀ h₂ d₂ tk₂, (∀ b ∈ fp, ∀ o, h.get? b = some o → h₂.get? b = some o) → J (i + 1) h₂ → Q1 .next { s with heap := h₂, drawn := d₂, toks := tk₂ }) →
      i < n → P i v → St (i + 1) h → J i h → wpAny (model prog w) A (assign target env v) (fun _ s₁ => wpAny (model prog w) A (execs body env) Q1 E1 s₁) E1 { s with heap := h, drawn := d, toks := tk })
    (done : ∀ h d tk, J n h → R (.ok .next) { s with heap := h, drawn := d, toks := tk })
    (ht : ∀ it v, letOwnedTupleGo target it v = pure () := by intro _ _; rfl) :
    codeAny (model prog w) A (.forLoop target (.ref I) body [] env) R s := by
  refine codeAny_forLoop
    (GenI s n St J) ?_ (n + 1) (.intro s.heap s.drawn s.toks 0 hst h0 (Nat.zero_le _)) (ht (.ref I))
  intro k s' x
  refine x.elim fun h' d tk i e1 e2 st hJ hi => ?_
  subst e1 e2
  rcases Nat.lt_or_ge i n with hlt | hge
  · refine W.item i _ _ _ hlt st fun v h₁ tk₁ hv st₁ hk₁ => ?_
    dsimp only
    refine wpAny_mono (turn i v h₁ d tk₁ (fun f s₂ => f = .next ∧ ∃ h₂ d₂ tk₂, s₂ = { s with heap := h₂, drawn := d₂, toks := tk₂ } ∧ (∀ b ∈ fp, ∀ o, h₁.get? b = some o → h₂.get? b = some o) ∧ J (i + 1) h₂) _ (fun h₂ d₂ tk₂ a b => ⟨rfl, h₂, d₂, tk₂, rfl, a, b⟩) hlt hv st₁ (stab _ _ _ (fun b o hb e => hk₁ b o (by simp [hb]) e) hJ)) (fun _ s₁ h₁' => wpAny_mono h₁' (fun f s₂ h₂ => ?_) fun _ _ e => e) fun _ _ e => e
    obtain ⟨rfl, h₂', d₂, tk₂, rfl, hfp, hJ₂⟩ := h₂
    exact ⟨n + 1 - (i + 1), nlt hlt, .intro h₂' d₂ tk₂ (i + 1) (W.frame _ _ _ st₁ hfp) hJ₂ hlt⟩
  · have hin : i = n := Nat.le_antisymm hi hge
    subst hin
    refine W.done _ _ _ st fun h₁ tk₁ hk₁ => wpAny_execs_nil ?_
    exact done h₁ d tk₁ (stab _ _ _ (fun b o hb e => hk₁ b o (by simp [hb]) e) hJ)
theorem add_plain {l b : Addr} {vs ws : List Value} {Q : Value → Shared → Prop} (hl : s.heap.IsList l vs.toArray) (hb : s.heap.IsList b ws.toArray)
    (h : Q (.ref s.heap.objs.size) { s with heap := s.heap.push { cls := .type "list", data := .seq (vs ++ ws).toArray } }) (hsz : vs.length + ws.length ≤ sizeLine := by size_fits) :
    wpAny (model prog w) A (binaryOp .Add (.ref l) (.ref b)) Q E s := by
  obtain ⟨⟨cls, dd, data, sl⟩, ho, hc, n, hd⟩ := id hl
  obtain ⟨⟨cls2, dd2, data2, sl2⟩, ho2, hc2, n2, hd2⟩ := id hb
  simp only at hc hd hc2 hd2
  subst hc hd hc2 hd2
  have e : vs.toArray ++ ws.toArray = (vs ++ ws).toArray := by simp
  refine concat_meets ⟨_, ho, rfl⟩ ⟨_, ho2, rfl⟩ noFill_list_add seq_list_add PySem.F.slot_list_add PySem.F.entry_list_add (PySem.F.args_list_add_2 _ _) (list_addW l b vs.toArray ws.toArray n n2 dd dd2 sl sl2 (by simpa using hsz)) ⟨ho, ho2, ?_⟩
  rw [e]
  exact h
theorem new_list {M : Model} {items : List Value} {Q : Value → Shared → Prop} (h : ∀ a h', (∀ b o, s.heap.get? b = some o → h'.get? b = some o) → h'.IsList a items.toArray → s.heap.objs.size ≤ a → a < h'.objs.size → Q (.ref a) { s with heap := h' })
    (hsz : items.length ≤ sizeLine := by size_fits) : wpAny M A (newList items) Q E s :=
  wpAny_newList (h _ _ (fun _ _ e => Heap.get?_push_of_some _ e) ⟨_, Heap.get?_push_size _ rfl, rfl, _, rfl⟩ (Nat.le_refl _) (by rw [Heap.size_push]; exact Nat.lt_succ_self _)) hsz
theorem new_tuple {M : Model} {items : List Value} {Q : Value → Shared → Prop} (h : ∀ a h', (∀ b o, s.heap.get? b = some o → h'.get? b = some o) → IsTup h' a items.toArray → s.heap.objs.size ≤ a → a < h'.objs.size → Q (.ref a) { s with heap := h' })
    (hsz : items.length ≤ sizeLine := by size_fits) : wpAny M A (newTuple items) Q E s :=
  wpAny_newTuple (h _ _ (fun _ _ e => Heap.get?_push_of_some _ e) ⟨_, Heap.get?_push_size _ rfl, rfl, _, rfl⟩ (Nat.le_refl _) (by rw [Heap.size_push]; exact Nat.lt_succ_self _)) hsz
theorem add_new {l b : Addr} {vs ws : List Value} {Q : Value → Shared → Prop} (hl : s.heap.IsList l vs.toArray) (hb : s.heap.IsList b ws.toArray)
    (h : ∀ a h', (∀ b o, s.heap.get? b = some o → h'.get? b = some o) → h'.IsList a (vs ++ ws).toArray → s.heap.objs.size ≤ a → a < h'.objs.size → Q (.ref a) { s with heap := h' }) (hsz : vs.length + ws.length ≤ sizeLine := by size_fits) :
    wpAny (model prog w) A (binaryOp .Add (.ref l) (.ref b)) Q E s :=
  add_plain hl hb (h _ _ (fun _ _ e => Heap.get?_push_of_some _ e) ⟨_, Heap.get?_push_size _ rfl, rfl, _, rfl⟩ (Nat.le_refl _) (by rw [Heap.size_push]; exact Nat.lt_succ_self _)) hsz
end
section
variable {prog : Program} {w : World} {A : Around} {E : Value → Shared → Prop} {env : Env}
structure CompH (prog : Program) (w : World) (A : Around) (env : Env) (scope : Scope) (cl : List (Str × Addr)) (target elt : PySem.Expr) (ifs : List PySem.Expr) (ld : Value → (Str → Option Value) → Prop) (P : Nat → Value → Prop) (wr : List Addr) (J : Nat → List Value → Heap → Prop) (I : Addr) (n : Nat) (s₂ : Shared) : Prop where
  start : J 0 [] s₂.heap
  stable : ∀ i ys h h', (∀ b o, b ≠ I → b ≠ s₂.heap.objs.size → b ≠ s₂.heap.objs.size + 1 → h.get? b = some o → h'.get? b = some o) → J i ys h → J i ys h'
  bind : ∀ i v h d tk E' (Q : Unit → Shared → Prop) m, i < n → P i v → h.Ns (s₂.heap.objs.size + 1) m →
    (∀ h' tk' m', h'.Ns (s₂.heap.objs.size + 1) m' → ld v m' → Heap.SameBut (s₂.heap.objs.size + 1) h h' → Q () { s₂ with heap := h', drawn := d, toks := tk' }) →
    wpAny (model prog w) A (assign target (compEnvC scope cl (s₂.heap.objs.size + 1) env) v) Q E' { s₂ with heap := h, drawn := d, toks := tk }
  turn : ∀ i v h d tk m ys E', i < n → P i v → (∀ b o, b ∉ wr → b ≠ I → s₂.heap.get? b = some o → h.get? b = some o) → s₂.heap.objs.size + 2 ≤ h.objs.size → h.Ns (s₂.heap.objs.size + 1) m → ld v m → J i ys h → ys.length ≤ i →
    wpAny (model prog w) A (tests ifs (compEnvC scope cl (s₂.heap.objs.size + 1) env)) (fun ok s₄ => Halt (if ok = true then
        wpAny (model prog w) A (eval elt (compEnvC scope cl (s₂.heap.objs.size + 1) env)) (fun y s₅ => Halt (TEnd wr s₂ h (J (i + 1) (ys ++ [y])) s₅)) E' s₄
      else TEnd wr s₂ h (J (i + 1) ys) s₄)) E' { s₂ with heap := h, drawn := d, toks := tk }
theorem CompH.ok {scope : Scope} {cl : List (Str × Addr)} {target elt : PySem.Expr} {ifs : List PySem.Expr} {ld : Value → (Str → Option Value) → Prop} {P : Nat → Value → Prop} {wr : List Addr} {J : Nat → List Value → Heap → Prop} {I : Addr} {n : Nat} {s₂ : Shared}
    (x : CompH prog w A env scope cl target elt ifs ld P wr J I n s₂) : CompOk prog w A env scope cl target elt ifs ld P wr J I n s₂ := ⟨x.start, x.stable, x.bind, x.turn⟩
end
end Mine
end

section
open PySem PySem.W PyProof.Rows
set_option Elab.async false
set_option maxRecDepth 100000
namespace Mine
local macro_rules | `(tactic| walk_at "no such key") => `(tactic| skip)
noncomputable def pStep (P : List (List Str)) (k : Nat) : List (List Str) := P ++ [P.getD k [] ++ [Str.ofString "a"], P.getD k [] ++ [Str.ofString "ab"]]
noncomputable def pUp (i : Nat) : List (List Str) := (List.range i).foldl pStep [[Str.ofString "a"], [Str.ofString "ab"]]
theorem pUp_succ (i : Nat) : pUp (i + 1) = pStep (pUp i) i := by unfold pUp; rw [List.range_succ, List.foldl_append]; rfl
theorem pUp_length (i : Nat) : (pUp i).length = 2 + 2 * i := by
  induction i with
  | zero => rfl
  | succ i ih => rw [pUp_succ]; unfold pStep; rw [List.length_append, ih]; exact Nat.add_assoc 2 (2 * i) 2
theorem sz7 {a b : Nat} (e : a = b) (h : b ≤ 7) : a + 1 ≤ sizeLine := szl (Nat.add_le_add_right (e ▸ h) 1) (by decide)
theorem szE {as : List Addr} {i : Nat} (e : as.length = 2 + 2 * i) (h : i < 6) : (as.map Value.ref).length + 2 ≤ sizeLine := by
  rw [List.length_map, e]
  exact szl (Nat.add_le_add_right (Nat.add_le_add_left (Nat.mul_le_mul_left 2 (Nat.le_of_lt h)) 2) 2) (by decide)
theorem pUp_len : ∀ i, i ≤ 6 → ∀ p ∈ pUp i, p.length ≤ 7 := by decide +kernel
noncomputable def evm (u : Option Value) (ev : Addr) : Str → Option Value := fun y => if y = Str.ofString "k" then u else if y = Str.ofString "every" then some (.ref ev) else none
theorem evm_k {u v : Option Value} {ev : Addr} : (fun y => if y = Str.ofString "k" then v else evm u ev y) = evm v ev := by
  funext y
  unfold evm
  by_cases e : y = Str.ofString "k" <;> simp [e]
theorem evm_e {u : Option Value} {ev ew : Addr} : (fun y => if y = Str.ofString "every" then some (.ref ew) else evm u ev y) = evm u ew := by
  funext y
  unfold evm
  by_cases e : y = Str.ofString "k"
  · subst e; rfl
  by_cases e2 : y = Str.ofString "every"
  · subst e2; rfl
  simp [e, e2]
noncomputable def EvA (h : Heap) (as : List Addr) (P : List (List Str)) : Prop := as.length = P.length ∧ ∀ (i : Nat) a p, as[i]? = some a → P[i]? = some p → ∃ ws, h.IsList a (List.toArray ws) ∧ StrsAre ws p
theorem EvA.of {h h' : Heap} {as : List Addr} {P : List (List Str)} (x : EvA h as P) (k : ∀ a ∈ as, ∀ o, h.get? a = some o → h'.get? a = some o) : EvA h' as P :=
  ⟨x.1, fun i a p e1 e2 => let ⟨ws, q1, q2⟩ := x.2 i a p e1 e2; ⟨ws, q1.at fun o e => k a (List.mem_of_getElem? e1) o e, q2⟩⟩
theorem EvA.add {h : Heap} {as bs : List Addr} {P R : List (List Str)} (x : EvA h as P) (y : EvA h bs R) : EvA h (as ++ bs) (P ++ R) := by
  refine ⟨by simp [x.1, y.1], fun i a p e1 e2 => ?_⟩
  rcases Nat.lt_or_ge i as.length with hlt | hge
  · rw [List.getElem?_append_left hlt] at e1
    rw [List.getElem?_append_left (by rw [← x.1]; exact hlt)] at e2
    exact x.2 i a p e1 e2
  · rw [List.getElem?_append_right hge] at e1
    rw [List.getElem?_append_right (by rw [← x.1]; exact hge), ← x.1] at e2
    exact y.2 _ a p e1 e2
theorem EvA.two {h : Heap} {a b : Addr} {p q : List Str} {us vs : List Value} (h1 : h.IsList a us.toArray) (h2 : h.IsList b vs.toArray) (s1 : StrsAre us p) (s2 : StrsAre vs q) : EvA h [a, b] [p, q] := by
  refine ⟨rfl, fun i x y e1 e2 => ?_⟩
  match i with
  | 0 => simp at e1 e2; subst e1; subst e2; exact ⟨us, h1, s1⟩
  | 1 => simp at e1 e2; subst e1; subst e2; exact ⟨vs, h2, s2⟩
  | i + 2 => simp at e1
theorem neN {a b : Nat} (h : b < a) : (a : Addr) ≠ b := Nat.ne_of_gt h
theorem noneN {h : Heap} {a : Nat} (ha : h.objs.size ≤ a) : h.get? a = none := none_below ha
theorem aboveN {h₀ h : Heap} {L : Addr} {m : Str → Option Value} (F : Fr h₀ L h m) : @LE.le Nat _ h₀.objs.size L := F.above
theorem lst_of {h₀ h : Heap} {L a : Addr} {its : Array Value} {n : Nat} (x : h.get? a = some (W.listOf its n) ∧ a ≠ L ∧ h₀.get? a = none) : ∃ v : List Value, h.IsList a its ∧ a < h.objs.size := ⟨[], ⟨_, x.1, rfl, n, rfl⟩, Heap.lt_size x.1⟩
theorem fr_map' {h₀ h : Heap} {L : Addr} {m m' : Str → Option Value} (F : Fr h₀ L h m) (e : m = m') : Fr h₀ L h m' := e ▸ F
noncomputable def JV (B : Heap) (L I : Addr) (i : Nat) (h : Heap) : Prop := ∃ u ev as, Fr B L h (evm u ev) ∧ h.IsList ev (List.toArray (as.map Value.ref)) ∧ EvA h as (pUp i) ∧ B.get? ev = none ∧ ∀ a ∈ ev :: as, a ≠ I ∧ a ≠ L
local macro_rules | `(tactic| walk_at "exec For Name Call cons nil") => `(tactic| (k_here; refine wpAny_For ?_ (by intro _; with_unfolding_all rfl)))
local macro_rules | `(tactic| walk_at "newList") => `(tactic| (k_here; refine stop_here ?_))
local macro_rules | `(tactic| walk_at "subscriptTail Name Name ref int") => `(tactic| (k_here; refine stop_here ?_))
local macro_rules | `(tactic| walk_at "pyIter ref") => `(tactic| (k_here; refine stop_here ?_))
local macro_rules | `(tactic| walk_at "binaryOp Add ref ref") => `(tactic| (k_here; refine stop_here ?_))
set_option pp.deepTerms false
set_option pp.deepTerms.threshold 6
set_option maxHeartbeats 4000000
theorem every_spec {w : World} {A : Around} {mg mb : Str → Option Value} {mean : ExcName → Option Value} 
    {s : Shared} {Q E : Value → Shared → Prop} 
    (X : (hd.heap_39 w.params).In s.heap) (T : Top hd.view_39 LO mean mg mb s.heap) 
    (hd1 : A.depth + 20 < recursionLimit) (hh : A.handled = none)
    (hQ : ∀ ev h' d' tk, Kept s.heap h' → EvAt h' ev (pUp 6) → s.heap.get? ev = none → Q (.ref ev) { s with heap := h', drawn := d', toks := tk }) :
   wpAny (model PR w) A (call (.ref 111) []) Q E s := by
  refine' wpAny_call (enterP (h₀ := s.heap) (news := []) (Kept.refl _) (Nat.le_refl _) (fun _ h => nomatch h) X T ?k1 ?k2 ?k3 ?k4 ?k5 ?k6 ?k7 ?k8 ?k9 ?_)
  case k1 => k_is
  case k2 => k_is
  case k3 => exact lt0 hd1
  case k4 => first | exact BindsTo.of_eq rfl | exact binds_K X rfl (by k_is) rfl rfl rfl
  case k5 => exact locs rfl
  case k6 => rfl
  case k7 => rfl
  case k8 => rfl
  case k9 => decide
  intro L h₁ F N kk eL
  try dsimp only
  refine wp_gen2 fun Q1 E1 finT finE => ?_
  w_on
  k_steps
  show wpAny _ _ _ _ _ _
  refine new_list fun a1 g1 k1 l1 b1 c1 => ?_
  have hLl : Stop (h₁.objs.size > L) := fr_lt F
  have F1 := fr_kept F k1
  clear F N
  dsimp only at k1 b1 c1
  k_steps
  show wpAny _ _ _ _ _ _
  refine new_list fun a2 g2 k2 l2 b2 c2 => ?_
  have F2 := fr_kept F1 k2
  clear F1
  dsimp only at k2 b2 c2
  k_steps
  show wpAny _ _ _ _ _ _
  refine new_list fun a3 g3 k3 l3 b3 c3 => ?_
  have F3 := fr_kept F2 k3
  dsimp only at k3 b3 c3
  have hg1 : h₁.objs.size ≤ a1 := b1
  have hg2 : g1.objs.size ≤ a2 := b2
  have hg3 : g2.objs.size ≤ a3 := b3
  obtain ⟨o1, ho1, r1⟩ := Kept.lst k3 (Kept.lst k2 l1)
  obtain ⟨o2, ho2, r2⟩ := Kept.lst k3 l2
  obtain ⟨o3, ho3, r3⟩ := l3
  have hsz := aboveN F3
  unfold Stop at hLl
  have u2 := Nat.le_trans (Nat.le_trans hg1 (Nat.le_of_lt c1)) hg2
  have u3 := Nat.le_trans (Nat.le_trans u2 (Nat.le_of_lt c2)) hg3
  have N3 : News s.heap L g3 [(a3, o3), (a2, o2), (a1, o1)] := fun p hp => by
    simp only [List.mem_cons, List.mem_nil_iff, or_false] at hp
    rcases hp with rfl | rfl | rfl
    · exact ⟨ho3, neN (Nat.lt_of_lt_of_le hLl u3), noneN (Nat.le_trans hsz (Nat.le_trans (Nat.le_of_lt hLl) u3))⟩
    · exact ⟨ho2, neN (Nat.lt_of_lt_of_le hLl u2), noneN (Nat.le_trans hsz (Nat.le_trans (Nat.le_of_lt hLl) u2))⟩
    · exact ⟨ho1, neN (Nat.lt_of_lt_of_le hLl hg1), noneN (Nat.le_trans hsz (Nat.le_trans (Nat.le_of_lt hLl) hg1))⟩
  clear F2
  k_steps
  rename_i hR tkR t1 u1 v1 rR F2 N2 kR
  show wpAny _ _ _ _ _ _
  refine wpAny_pyIter_range rR (by decide +kernel) ?_
  try dsimp only
  have hL2 := fr_lt F2
  have he0 : hR.IsList a3 _ := ⟨o3, (N2 _ (.head _)).1, r3⟩
  have he1 : hR.IsList a2 _ := ⟨o2, (N2 _ (.tail _ (.head _))).1, r2⟩
  have he2 : hR.IsList a1 _ := ⟨o1, (N2 _ (.tail _ (.tail _ (.head _)))).1, r1⟩
  have n0 := Heap.lt_size (N2 _ (.head _)).1
  have n1 := Heap.lt_size (N2 _ (.tail _ (.head _))).1
  have n2 := Heap.lt_size (N2 _ (.tail _ (.tail _ (.head _)))).1
  have kp : Kept hR (hR.push { cls := .type "range_iterator", data := .fields #[rawInt 0, rawInt (Builtin.Range.rangeSize 0 6 1), rawInt 1] }) := fun b o e => Heap.get?_push_of_some _ e
  have F3' := fr_kept F2 kp
  refine for_gen (n := 6) (fp := [hR.objs.size]) (P := fun i v => ∃ t, v = .int (0 + (i : Int)) t) (St := fun i h => IsRangeIter h hR.objs.size (0 + (i : Nat) * 1) (((6 : Nat) : Int) - (i : Nat)) 1) (J := JV s.heap L hR.objs.size) (LCg.range_walks (A := A.deeper _) (I := hR.objs.size) (by exact hh) 0 6) (Heap.get?_push_size _ rfl) ⟨none, _, [_, _], fr_map' F3' ?_, Kept.lst kp he0, EvA.two (Kept.lst kp he2) (Kept.lst kp he1) ?_ ?_, (N2 _ (.head _)).2.2, ?_⟩ ?_ ?_ ?_
  · funext y
    unfold evm
    by_cases q1 : y = Str.ofString "k"
    · subst q1; rfl
    by_cases q2 : y = Str.ofString "every"
    · subst q2; rfl
    rw [if_neg q2, if_neg q1, if_neg q2]
    rfl
  · exact .cons _ _ .nil
  · exact .cons _ _ .nil
  · intro a ha
    simp only [List.mem_cons, List.mem_nil_iff, or_false] at ha
    rcases ha with rfl | rfl | rfl
    · exact ⟨Nat.ne_of_lt n0, (N2 _ (.head _)).2.1⟩
    · exact ⟨Nat.ne_of_lt n2, (N2 _ (.tail _ (.tail _ (.head _)))).2.1⟩
    · exact ⟨Nat.ne_of_lt n1, (N2 _ (.tail _ (.head _))).2.1⟩
  · rintro i h h' k ⟨u, ev, as, F, hl, hE, hn, hne⟩
    refine ⟨u, ev, as, fr_but F (Nat.ne_of_lt hL2) (none_below (Nat.le_trans F2.above (Nat.le_of_lt hL2))) k, hl.at fun o e => k ev o (hne ev (.head _)).1 e, hE.of fun a ha o e => k a o (hne a (.tail _ ha)).1 e, hn, hne⟩
  · rintro i v h d tk Q2 E2 fin2 hi ⟨tv, rfl⟩ st ⟨u, ev, as, F, hl, hE, hn, hne⟩
    have fin2 : Stop _ := fin2
    clear F2 N2 F3'
    refine wpAny_assign_Name (wpAny_storeName_local (by rfl) F.ns (fun h2 hn2 sb2 => ?_) (by rfl))
    rw [evm_k] at hn2
    have F4 : Fr s.heap L h2 (evm _ ev) := ⟨hn2, fun b o e => sb2.extBut b o (Nat.ne_of_lt (Nat.lt_of_lt_of_le (Heap.lt_size e) F.above)) (F.keep b o e), F.above⟩
    have N4 : News s.heap L h2 [] := .nil
    clear F
    have nR : hR.objs.size ≠ L := Nat.ne_of_gt hL2
    have hPl := pUp_length i
    have hil : i < as.length := by rw [hE.1, hPl]; exact lt22 i
    have hip : i < (pUp i).length := by rw [hPl]; exact lt22 i
    obtain ⟨wi, hwi, swi⟩ := hE.2 i as[i] (pUp i)[i] (List.getElem?_eq_getElem hil) (List.getElem?_eq_getElem hip)
    have hai := hne as[i] (.tail _ (List.getElem_mem hil))
    have hl2 := hl.at fun o e => sb2.extBut ev o (hne ev (.head _)).2 e
    have hwi2 := hwi.at fun o e => sb2.extBut as[i] o hai.2 e
    have hE2 := hE.of fun a ha o e => sb2.extBut a o (hne a (.tail _ ha)).2 e
    have hsl := StrsAre.length swi
    have hlp := pUp_len i (Nat.le_of_lt hi) _ (List.getElem_mem hip)
    have hat : (as.map Value.ref)[(0 + (i : Int)).toNat]? = some (.ref as[i]) := by simp [hil]
    try dsimp only
    k_steps
    show wpAny _ _ _ _ _ _
    refine item_list hl2 (zz0 i) (zz63 hi (by decide)) hat ?_
    k_steps
    show wpAny _ _ _ _ _ _
    refine new_list fun x1 y1 m1 q1 s1 z1 => ?_
    have F5 := fr_kept F4 m1
    clear F4 N4
    k_steps
    show wpAny _ _ _ _ _ _
    refine add_new (Kept.lst m1 hwi2) q1 (fun x2 y2 m2 q2 s2 z2 => ?_) (sz7 hsl hlp)
    have F6 := fr_kept F5 m2
    clear F5
    k_steps
    show wpAny _ _ _ _ _ _
    refine item_list (Kept.lst m2 (Kept.lst m1 hl2)) (zz0 i) (zz63 hi (by decide)) hat ?_
    k_steps
    show wpAny _ _ _ _ _ _
    refine new_list fun x3 y3 m3 q3 s3 z3 => ?_
    have F7 := fr_kept F6 m3
    clear F6
    k_steps
    show wpAny _ _ _ _ _ _
    refine add_new (Kept.lst m3 (Kept.lst m2 (Kept.lst m1 hwi2))) q3 (fun x4 y4 m4 q4 s4 z4 => ?_) (sz7 hsl hlp)
    have F8 := fr_kept F7 m4
    clear F7
    k_steps
    show wpAny _ _ _ _ _ _
    refine new_list fun x5 y5 m5 q5 s5 z5 => ?_
    have F9 := fr_kept F8 m5
    clear F8
    k_steps
    show wpAny _ _ _ _ _ _
    have mA : Kept h2 y5 := Kept.trans m1 (Kept.trans m2 (Kept.trans m3 (Kept.trans m4 m5)))
    refine add_new (vs := as.map Value.ref) (ws := [Value.ref x2, Value.ref x4]) (Kept.lst mA hl2) q5 (fun x6 y6 m6 q6 s6 z6 => ?_) (szE (hE.1.trans hPl) hi)
    have Fa := fr_kept F9 m6
    clear F9
    dsimp only at m1 m2 m3 m4 m5 m6 s1 s2 s3 s4 s5 s6 z1 z2 z3 z4 z5 z6
    refine wpAny_storeName_local (by rfl) Fa.ns (fun h7 hn7 sb7 => ?_) (by rfl)
    rw [evm_e] at hn7
    have hLh' : Stop (h2.objs.size > L) := by
      obtain ⟨oL, esL, epL, hoL, hdL, _⟩ := id hn2
      exact Heap.lt_size hoL
    have hIh' : Stop (hR.objs.size < h2.objs.size) := Heap.lt_size (sb2.extBut _ _ nR st)
    have mB : Kept h2 y6 := Kept.trans mA m6
    have g1 : h2.objs.size ≤ x1 := s1
    have g2 : y1.objs.size ≤ x2 := s2
    have g3 : y2.objs.size ≤ x3 := s3
    have g4 : y3.objs.size ≤ x4 := s4
    have g5 : y4.objs.size ≤ x5 := s5
    have g6 : y5.objs.size ≤ x6 := s6
    have hsa := aboveN Fa
    k_steps
    have hsa := aboveN Fa
    have hLh : h2.objs.size > L := hLh'
    have hIh : hR.objs.size < h2.objs.size := hIh'
    have t2 := Nat.le_trans (Nat.le_trans g1 (Nat.le_of_lt z1)) g2
    have t3 := Nat.le_trans (Nat.le_trans t2 (Nat.le_of_lt z2)) g3
    have t4 := Nat.le_trans (Nat.le_trans t3 (Nat.le_of_lt z3)) g4
    have t5 := Nat.le_trans (Nat.le_trans t4 (Nat.le_of_lt z4)) g5
    have t6 := Nat.le_trans (Nat.le_trans t5 (Nat.le_of_lt z5)) g6
    refine fin2.go h7 _ _ ?_ ⟨_, x6, as ++ [x2, x4], ⟨hn7, fun b o e => sb7.extBut b o (Nat.ne_of_lt (Nat.lt_of_lt_of_le (Heap.lt_size e) hsa)) (Fa.keep b o e), hsa⟩, ?_, ?_, noneN (Nat.le_trans hsa (Nat.le_trans (Nat.le_of_lt hLh) t6)), ?_⟩
    · intro b hb o e
      simp only [List.mem_singleton] at hb
      subst hb
      exact sb7.extBut _ o nR (mB _ _ (sb2.extBut _ o nR e))
    · rw [List.map_append]
      exact q6.at fun o e => sb7.extBut x6 o (neN (Nat.lt_of_lt_of_le hLh t6)) e
    · rw [pUp_succ]
      unfold pStep
      refine EvA.add ((hE2.of fun a ha o e => mB a o e).of fun a ha o e => sb7.extBut a o (hne a (.tail _ ha)).2 e) ?_
      have hgd : (pUp i).getD i [] = (pUp i)[i] := by simp [hip]
      rw [hgd]
      exact EvA.two ((Kept.lst (Kept.trans m3 (Kept.trans m4 (Kept.trans m5 m6))) q2).at fun o e => sb7.extBut x2 o (neN (Nat.lt_of_lt_of_le hLh t2)) e)
        ((Kept.lst (Kept.trans m5 m6) q4).at fun o e => sb7.extBut x4 o (neN (Nat.lt_of_lt_of_le hLh t4)) e) (strsAre_append swi (.cons _ _ .nil)) (strsAre_append swi (.cons _ _ .nil))
    · intro a ha
      simp only [List.mem_cons, List.mem_append, List.mem_nil_iff, or_false] at ha
      rcases ha with rfl | ha | rfl | rfl
      · exact ⟨neN (Nat.lt_of_lt_of_le hIh t6), neN (Nat.lt_of_lt_of_le hLh t6)⟩
      · exact hne a (.tail _ ha)
      · exact ⟨neN (Nat.lt_of_lt_of_le hIh t2), neN (Nat.lt_of_lt_of_le hLh t2)⟩
      · exact ⟨neN (Nat.lt_of_lt_of_le hIh t4), neN (Nat.lt_of_lt_of_le hLh t4)⟩
  · rintro h d tk ⟨u, ev, as, F, hl, hE, hn, hne⟩
    clear F2 N2 F3'
    have N : News s.heap L h [] := .nil
    try dsimp only
    k_steps
    try dsimp only
    exact finT.go _ _ (hQ ev h d _ F.keep ⟨as, hl, hE.1, hE.2⟩ hn)
end Mine
end

section
open PySem PySem.W PyProof.Rows
set_option Elab.async false
set_option maxRecDepth 100000
namespace Mine
theorem mem_slicePick {items : Array Value} {lo hi st : Option Int} {v : Value} (h : v ∈ (slicePick items lo hi st).toList) : v ∈ items.toList := by
  unfold slicePick at h
  simp only [List.mem_filterMap] at h
  obtain ⟨i, _, e⟩ := h
  exact Array.mem_toList_iff.mpr (Array.mem_of_getElem? e)
theorem ints_any : ∀ (vs : List Value), (∀ v ∈ vs, ∃ a t, v = .int a t) → ∃ ns, IntsAre vs ns
  | [], _ => ⟨[], .nil⟩
  | v :: r, h => by
    obtain ⟨a, t, rfl⟩ := h v (.head _)
    obtain ⟨ns, hn⟩ := ints_any r fun v hv => h v (.tail _ hv)
    exact ⟨a :: ns, .cons _ _ hn⟩
theorem ints_mem {vs : List Value} {ns : List Int} (h : IntsAre vs ns) : ∀ v ∈ vs, ∃ a t, v = .int a t ∧ a ∈ ns := by
  induction h with
  | nil => intro v hv; cases hv
  | cons a t r ih =>
    intro v hv
    rcases List.mem_cons.mp hv with rfl | hv
    · exact ⟨a, t, rfl, .head _⟩
    · obtain ⟨b, u, e, hb⟩ := ih v hv
      exact ⟨b, u, e, .tail _ hb⟩
theorem dl_end {a s : Int} {k : Nat} (h : 0 ≤ a ∧ a ≤ 1000) (h1 : 0 ≤ s) (h2 : s ≤ 1000000 * k) (hk : (k : Int) ≤ 63) : 0 ≤ a + s ∧ a + s ≤ 10 ^ 9 :=
  ⟨Int.add_nonneg h.1 h1, Int.le_trans (Int.add_le_add h.2 (Int.le_trans h2 (Int.mul_le_mul_of_nonneg_left hk (by decide)))) (by decide)⟩
theorem sum_bound : ∀ (ks : List Int), (∀ x ∈ ks, 0 ≤ x ∧ x ≤ 1000000) → 0 ≤ ks.sum ∧ ks.sum ≤ 1000000 * ks.length
  | [], _ => by simp
  | k :: r, h => by
    have a := sum_bound r fun x hx => h x (.tail _ hx)
    have b := h k (.head _)
    rw [List.sum_cons]
    refine ⟨Int.add_nonneg b.1 a.1, ?_⟩
    show k + r.sum ≤ 1000000 * ((r.length : Int) + 1)
    rw [Int.mul_add, Int.mul_one, Int.add_comm]
    exact Int.add_le_add a.2 b.2
section
variable {prog : Program} {w : World} {A : Around} {E : Value → Shared → Prop} {s : Shared} {env : Env}
theorem sum_plain {l : Addr} {vs : List Value} {ns : List Int} {Q : Value → Shared → Prop} (hh : A.handled = none) (hl : s.heap.IsList l vs.toArray) (hi : IntsAre vs ns)
    (h : ∀ h' tk t', (∀ b o, s.heap.get? b = some o → h'.get? b = some o) → Q (.int ns.sum t') { s with heap := h', toks := tk }) :
    wpAny (model prog w) A (call (.builtin "sum") [.ref l]) Q E s := by
  have hall := hi.allInts
  obtain ⟨xs, e⟩ := hall.items
  rw [e] at hl
  refine sum_intListG hh hl fun h' tk t' hk => ?_
  have := h h' tk t' hk
  rw [preSum_eq, List.take_of_length_le (by simp)]
  have e2 : ns = numsOf (intItems xs).toList := by rw [← e]; exact (hi.numsOf).symm
  rw [e2, nums_intItems] at this
  exact this
theorem slice3_plain {ops : List Value} {value slice : PySem.Expr} {l : Addr} {items : Array Value} {vl vu vk : Value} {lo hi st : Option Int} {Q : Value → Shared → Prop}
    (hl : s.heap.IsList l items) (pl : IsPart vl lo) (pu : IsPart vu hi) (pk : IsPart vk st) (h0 : st ≠ some 0)
    (h : Q (.ref (s.heap.objs.size + 1)) { s with heap := (s.heap.push { cls := .type "slice", data := .fields #[vl, vu, vk] }).push { cls := .type "list", data := .seq (slicePick items lo hi st) } })
    (hs : subscripted slice false (.ref l) (.ref s.heap.objs.size) = operate ops (getItem (.ref l) (.ref s.heap.objs.size)))
    (ht : ∀ r, letTemporaryGo value (.ref l) r = pure ())
    (hsz : items.size ≤ sizeLine := by size_fits) :
    wpAny (model prog w) A (subscriptTail value slice (.ref l) (.ref s.heap.objs.size)) Q E { s with heap := s.heap.push { cls := .type "slice", data := .fields #[vl, vu, vk] } } := by
  refine subscriptTail_ops (Heap.IsList.typeIs (s := { s with heap := s.heap.push { cls := .type "slice", data := .fields #[vl, vu, vk] } }) (hl.push _)) list_getitem_lookup
    (wpAny_getItem_list_slice (hl.push _) (Heap.IsSliceOf.new ..) pl pu pk h0 ?_ hsz) hs ht
  show Q (.ref (s.heap.push _).objs.size) _
  rw [Heap.size_push]
  exact h
theorem tests_nil {Q : Bool → Shared → Prop} (h : Q true s) : wpAny (model prog w) A (tests [] env) Q E s := by
  show wpAny _ _ (forIn ([] : List PySem.Expr) true _) _ _ _
  rw [List.forIn_nil]
  exact wpAny_pure h
end
local macro_rules | `(tactic| walk_at "pyIter ref") => `(tactic| (k_here; refine stop_here ?_))
local macro_rules | `(tactic| walk_at "eval ListComp") => `(tactic| (k_here; refine stop_here ?_))
local macro_rules | `(tactic| walk_at "subscriptTail Name Name ref int") => `(tactic| (k_here; refine stop_here ?_))
local macro_rules | `(tactic| walk_at "subscriptTail Name Slice ref ref") => `(tactic| (k_here; refine stop_here ?_))
local macro_rules | `(tactic| walk_at "call builtin:sum") => `(tactic| (k_here; refine stop_here ?_))
set_option pp.deepTerms false
set_option pp.deepTerms.threshold 6
set_option maxHeartbeats 4000000
theorem dealt_spec {w : World} {A : Around} {mg mb : Str → Option Value} {mean : ExcName → Option Value} 
    {s : Shared} {l ls : Addr} {vs us : List Value} {ns ms : List Int} {Q E : Value → Shared → Prop} 
    (X : (hd.heap_39 w.params).In s.heap) (T : Top hd.view_39 LO mean mg mb s.heap) 
    (hl : s.heap.IsList l vs.toArray) (hs : IntsAre vs ns) (hn : ns.length ≤ 63) (hls : s.heap.IsList ls us.toArray) (hus : IntsAre us ms) (hms : ms.length = 7) (hmb : ∀ x ∈ ms, 0 ≤ x ∧ x ≤ 1000)
    (hd1 : A.depth + 20 < recursionLimit) (hh : A.handled = none)
    (hQ : ∀ b ws ks h' d' tk, Kept s.heap h' → h'.IsList b (List.toArray ws) → IntsAre ws ks → ks.length ≤ 7 → (∀ x ∈ ks, 0 ≤ x ∧ x ≤ 10 ^ 9) → Q (.ref b) { s with heap := h', drawn := d', toks := tk }) :
   wpAny (model PR w) A (call (.ref 104) [.ref l, .ref ls]) Q E s := by
  refine' wpAny_call (enterC (h₀ := s.heap) (news := []) (Kept.refl _) (Nat.le_refl _) (fun _ h => nomatch h) X T ?k1 ?k2 ?k3 ?k4 ?k5 ?k6 ?k7 ?k8 ?k9 ?_)
  case k1 => k_is
  case k2 => k_is
  case k3 => exact lt0 hd1
  case k4 => exact BindsTo.of_eq rfl
  case k5 => exact rfl
  case k6 => decide +kernel
  case k7 => rfl
  case k8 => rfl
  case k9 => rfl
  have hus' : Stop (IntsAre us ms) := hus
  have hs' : Stop (IntsAre vs ns) := hs
  intro L h₁ tk cells F N Y kk eL
  k_cells Y
  simp only [List.cons_append, List.nil_append] at N
  try dsimp only
  try k_fold
  refine wp_gen2 fun Q1 E1 finT finE => ?_
  w_on
  k_steps
  show wpAny _ _ _ _ _ _
  refine' comp_inv (ld := fun v m => m (Str.ofString "k") = some v) (by rfl) (by decide) (by rfl) (by decide) (by intro _ _; rfl) ?_
  k_steps
  rename_i hR tkR t1 u1 v1 rR F2 N2 kR
  show wpAny _ _ _ _ _ _
  rw [hms] at rR
  refine wpAny_pyIter_range rR (by decide +kernel) ?_
  try dsimp only
  have kp : Kept hR (hR.push { cls := .type "range_iterator", data := .fields #[rawInt 0, rawInt (Builtin.Range.rangeSize 0 ((7 : Nat) : Int) 1), rawInt 1] }) := fun b o e => Heap.get?_push_of_some _ e
  unfold Stop at hus' hs'
  have ulen := IntsAre.length hus'
  have vlen := IntsAre.length hs'
  refine ⟨hR.objs.size, [hR.objs.size], 7, fun i v => ∃ t, v = .int (0 + (i : Int)) t, fun i h => IsRangeIter h hR.objs.size (0 + (i : Nat) * 1) (((7 : Nat) : Int) - (i : Nat)) 1, [], fun i ys h => ∃ ks, IntsAre ys ks ∧ ks.length ≤ i ∧ ∀ x ∈ ks, 0 ≤ x ∧ x ≤ 10 ^ 9, rfl,
    LCg.range_walks (A := A.deeper _) (I := hR.objs.size) (by exact hh) 0 7, by decide, Heap.get?_push_size _ rfl, ?_, (fun b hb => nomatch hb), CompH.ok ⟨?_, ?_, ?_, ?_⟩, ?_⟩
  · intro b hb
    simp only [List.mem_singleton] at hb
    rw [hb, Heap.size_push]
    exact Nat.lt_succ_self _
  · exact ⟨[], .nil, by simp, fun x hx => nomatch hx⟩
  · exact fun _ _ _ _ _ hJ => hJ
  · intro i v h d tk E' Q' m hi hv hn hQ'
    exact wpAny_assign_Name (wpAny_storeName_local (by rfl) hn (fun h' hn' hs' => hQ' h' _ _ hn' (by simp) hs') (by rfl))
  · intro i v h d tk m ys E' hi hv hkp hsz hnn hld hJ hyl
    refine tests_nil ?_
    rw [if_pos rfl]
    show wpAny _ _ _ _ _ _
    obtain ⟨S2, eS⟩ : ∃ S2, S2 = (hR.push { cls := .type "range_iterator", data := .fields #[rawInt 0, rawInt (Builtin.Range.rangeSize 0 ((7 : Nat) : Int) 1), rawInt 1] }).objs.size := ⟨_, rfl⟩
    rw [← eS] at hsz hnn ⊢
    rw [Heap.size_push] at eS
    have kt : ∀ b o, hR.get? b = some o → h.get? b = some o := fun b o e => hkp b o (by simp) (Nat.ne_of_lt (Heap.lt_size e)) (kp b o e)
    have neS : ∀ a o, hR.get? a = some o → a ≠ S2 + 1 := fun a o e => by rw [eS]; exact Nat.ne_of_lt (Nat.lt_succ_of_lt (Nat.lt_succ_of_lt (Heap.lt_size e)))
    have hs8 : s.heap.objs.size ≤ S2 + 1 := by rw [eS]; exact Nat.le_trans F2.above (Nat.le_trans (Nat.le_of_lt (fr_lt F2)) (Nat.le_trans (Nat.le_succ _) (Nat.le_succ _)))
    have F7 : Fr s.heap (S2 + 1) h m := ⟨hnn, fun b o e => kt b o (F2.keep b o e), hs8⟩
    have N7 : News s.heap (S2 + 1) h [(L + 1 + 1 + 1, _), (L + 1 + 1, _), (L + 1, _)] := fun p hp => ⟨kt _ _ (N2 p hp).1, neS _ _ (N2 p hp).1, (N2 p hp).2.2⟩
    clear F2 N2
    obtain ⟨tv, rfl⟩ := hv
    have hil : i < us.length := by rw [ulen, hms]; exact hi
    obtain ⟨a0, ta, ea, ha0⟩ := ints_mem hus' us[i] (List.getElem_mem hil)
    have hat : us[(0 + (i : Int)).toNat]? = some (.int a0 ta) := by rw [← ea]; simp [hil]
    k_steps
    show wpAny _ _ _ _ _ _
    refine item_list (Kept.lst F7.keep hls) (zz0 i) (zz63 hi (by decide)) hat ?_
    k_steps
    show wpAny _ _ _ _ _ _
    refine' comp_inv (ld := fun v m => m (Str.ofString "x") = some v) (by rfl) (by decide) (by rfl) (by decide) (by intro _ _; rfl) ?_
    k_steps
    show wpAny _ _ _ _ _ _
    have hl7 := Kept.lst F7.keep hl
    refine slice3_plain (lo := some (0 + (i : Int))) (hi := some 63) (st := some ((ms.length : Nat) : Int)) hl7 (by constructor) (by constructor) (by constructor) (by rw [hms]; decide) ?_ (by with_unfolding_all rfl) (by intro _; with_unfolding_all rfl) (by rw [List.size_toArray, IntsAre.length hs]; exact szl hn (by decide))
    try dsimp only
    generalize hh8 : (h.push _).push _ = h8
    have k8 : Kept h h8 := by rw [← hh8]; exact fun b o e => Heap.get?_push_of_some _ (Heap.get?_push_of_some _ e)
    obtain ⟨zs, l8, hzs⟩ : ∃ zs : List Value, h8.IsList (h.objs.size + 1) zs.toArray ∧ (∀ v ∈ zs, v ∈ vs) ∧ zs.length ≤ vs.length := by
      refine ⟨(slicePick vs.toArray (some (0 + (i : Int))) (some 63) (some ((ms.length : Nat) : Int))).toList, ?_, fun v hv => by simpa using mem_slicePick hv, ?_⟩
      · rw [← hh8, ← Heap.size_push h]
        exact ⟨_, Heap.get?_push_size _ rfl, rfl, 0, by simp⟩
      · have := slicePick_size_le vs.toArray (some (0 + (i : Int))) (some 63) (some ((ms.length : Nat) : Int))
        simpa using this
    have F8 := fr_kept F7 k8
    have N8 := news_kept N7 k8
    clear F7 N7
    obtain ⟨zn, hzn⟩ := ints_any zs fun v hv => let ⟨a, t, e, _⟩ := ints_mem hs' v (hzs.1 v hv); ⟨a, t, e⟩
    have zlen := IntsAre.length hzn
    show wpAny _ _ (pyIter _) _ _ _
    refine wpAny_pyIter_list l8 ?_
    have hl8 : h.objs.size + 1 < h8.objs.size := by
      obtain ⟨o, ho, _⟩ := l8
      exact Heap.lt_size ho
    refine ⟨h8.objs.size, [h8.objs.size, h.objs.size + 1], zs.toArray.size, _, _, [], fun i ys h => ∃ ks, IntsAre ys ks ∧ ∀ x ∈ ks, 0 ≤ x ∧ x ≤ 1000000, rfl,
      Walks.list (by exact hh) _ _ (Nat.ne_of_lt hl8) zs.toArray, ?_, ⟨⟨_, Heap.get?_push_size _ rfl, rfl, rfl⟩, l8.push _⟩, ?_, (fun b hb => nomatch hb), CompH.ok ⟨?_, ?_, ?_, ?_⟩, ?_⟩
    · rw [List.size_toArray]; exact szl (Nat.le_trans hzs.2 (by rw [IntsAre.length hs]; exact hn)) (by decide)
    · intro b hb
      simp only [List.mem_cons, List.mem_nil_iff, or_false] at hb
      rw [Heap.size_push]
      rcases hb with rfl | rfl
      · exact Nat.lt_succ_self _
      · exact Nat.lt_succ_of_lt hl8
    · exact ⟨[], .nil, fun x hx => nomatch hx⟩
    · exact fun _ _ _ _ _ hJ => hJ
    · intro i v h d tk E' Q' m hi hv hn hQ'
      exact wpAny_assign_Name (wpAny_storeName_local (by rfl) hn (fun h' hn' hs' => hQ' h' _ _ hn' (by simp) hs') (by rfl))
    · intro i2 v h9 d9 tk9 m9 ys9 E9 hi9 hv9 hkp9 hsz9 hn9 hld9 hJ9 hyl9
      refine tests_nil ?_
      rw [if_pos rfl]
      show wpAny _ _ _ _ _ _
      obtain ⟨S9, eS9⟩ : ∃ S9, S9 = (h8.push { cls := .type "list_iterator", data := .fields #[.ref (h.objs.size + 1), .int 0 0] }).objs.size := ⟨_, rfl⟩
      rw [← eS9] at hsz9 hn9 ⊢
      rw [Heap.size_push] at eS9
      have kt9 : Kept h8 h9 := fun b o e => hkp9 b o (by simp) (Nat.ne_of_lt (Heap.lt_size e)) (Heap.get?_push_of_some _ e)
      have F9 : Fr s.heap (S9 + 1) h9 m9 := ⟨hn9, fun b o e => kt9 b o (F8.keep b o e), by rw [eS9]; exact Nat.le_trans F8.above (Nat.le_trans (Nat.le_of_lt (fr_lt F8)) (Nat.le_trans (Nat.le_succ _) (Nat.le_succ _)))⟩
      have N9 : News s.heap (S9 + 1) h9 [] := .nil
      clear F8 N8
      obtain ⟨a1, ta1, rfl, ha1⟩ := ints_mem hzn v (by simpa using Array.mem_toList_iff.mpr (Array.mem_of_getElem? hv9))
      k_steps
      obtain ⟨ks, h1, h2⟩ := hJ9
      refine ⟨h9, d9, _, rfl, fun b o _ e => e, ks ++ [_], h1.append (.cons _ _ .nil), fun x hx => ?_⟩
      rcases List.mem_append.mp hx with hx | hx
      · exact h2 x hx
      · simp only [List.mem_singleton] at hx
        rw [hx, show ((10 : Int) ^ Int.toNat 6) = 1000000 from by decide, Int.fmod_eq_emod_of_nonneg a1 (by decide)]
        exact ⟨Int.emod_nonneg _ (by decide), Int.le_of_lt (Int.emod_lt_of_pos _ (by decide))⟩
    · intro h9 d9 tk9 ys9 hy9 hJ9 hyl9 hk9
      obtain ⟨ks, h1, h2⟩ := hJ9
      have k9 : Kept h8 h9 := fun b o e => hk9 b o (by simp) (Nat.ne_of_lt (Heap.lt_size e)) (Heap.get?_push_of_some _ e)
      have F9 := fr_kept F8 k9
      have N9 := news_kept N8 k9
      clear F8 N8
      k_steps
      show wpAny _ _ _ _ _ _
      refine sum_plain hh hy9 h1 fun ha tka ta' ka => ?_
      have Fa := fr_kept F9 ka
      have Na := news_kept N9 ka
      clear F9 N9
      obtain ⟨sb1, sb2⟩ := sum_bound ks h2
      k_steps
      obtain ⟨ks2, h12, h13, h22⟩ := hJ
      refine ⟨ha, d9, _, rfl, fun b o _ e => ka b o (k9 b o (k8 b o e)), ks2 ++ [_], h12.append (.cons _ _ .nil), by rw [List.length_append]; exact Nat.add_le_add_right h13 1, fun x hx => ?_⟩
      rcases List.mem_append.mp hx with hx | hx
      · exact h22 x hx
      · simp only [List.mem_singleton] at hx
        have hm0 := hmb a0 ha0
        have klen := IntsAre.length h1
        have hy9' : ys9.length ≤ zs.length := by simpa using hyl9
        have hk63 : (ks.length : Int) ≤ 63 := Int.ofNat_le.mpr (klen ▸ Nat.le_trans hy9' (Nat.le_trans hzs.2 (IntsAre.length hs ▸ hn)))
        rw [hx]
        exact dl_end hm0 sb1 sb2 hk63
  · intro h' d' tk ys hy hJ hyl hk
    obtain ⟨ks, h1, h2, h3⟩ := hJ
    exact finT.go _ _ (hQ _ ys ks h' d' tk (fun b o e => hk b o (by simp) (Nat.ne_of_lt (Heap.lt_size (F2.keep _ _ e))) (kp _ _ (F2.keep _ _ e))) hy h1 h2 h3)
end Mine
end

section
open PySem PySem.W PyProof.Rows
set_option Elab.async false
set_option maxRecDepth 100000
namespace Mine
noncomputable def W14 : List Str := [Str.ofString "a", Str.ofString "ab", Str.ofString "a.a", Str.ofString "a.ab", Str.ofString "ab.a", Str.ofString "ab.ab", Str.ofString "a.a.a", Str.ofString "a.a.ab", Str.ofString "a.ab.a", Str.ofString "a.ab.ab", Str.ofString "ab.a.a", Str.ofString "ab.a.ab", Str.ofString "ab.ab.a", Str.ofString "ab.ab.ab"]
noncomputable def lv (a b : Str) : Bool := decide (b = a) || Txt.startswith b (a ++ Str.ofString ".")
noncomputable def wd (k : Nat) : Str := W14.getD k (Str.ofString "")
noncomputable def lt14 : List (List Bool) := (List.range 14).map fun i => (List.range 14).map fun j => lv (wd i) (wd j)
noncomputable def tb (i j : Nat) : Bool := ((match i with
  | 0 => [true, false, true, true, false, false, true, true, true, true, false, false, false, false]
  | 1 => [false, true, false, false, true, true, false, false, false, false, true, true, true, true]
  | 2 => [false, false, true, false, false, false, true, true, false, false, false, false, false, false]
  | 3 => [false, false, false, true, false, false, false, false, true, true, false, false, false, false]
  | 4 => [false, false, false, false, true, false, false, false, false, false, true, true, false, false]
  | 5 => [false, false, false, false, false, true, false, false, false, false, false, false, true, true]
  | _ => []) : List Bool).getD j (decide (i = j))
theorem tb_lv : ∀ i, i < 14 → ∀ j, j < 14 → lv (wd i) (wd j) = tb i j := by decide +kernel
theorem tb_trans : ∀ i, i < 14 → ∀ j, j < 14 → ∀ k, k < 14 → tb i j = true → tb j k = true → tb i k = true := by decide +kernel
theorem tb_anti : ∀ i, i < 14 → ∀ j, j < 14 → tb i j = true → tb j i = true → i = j := by decide +kernel
theorem wd_inj : ∀ i, i < 14 → ∀ j, j < 14 → wd i = wd j → i = j := by decide +kernel
theorem W14_at : W14 = (List.range 14).map wd := by decide +kernel
theorem tb_path : ∀ i, i < 14 → ∀ j, j < 14 → decide (((pUp 6).getD j []).take ((pUp 6).getD i []).length = (pUp 6).getD i []) = tb i j := by decide +kernel

theorem mem_W14 {x : Str} : x ∈ W14 ↔ ∃ i, i < 14 ∧ x = wd i := by
  rw [W14_at, List.mem_map]
  constructor
  · rintro ⟨i, hi, rfl⟩; exact ⟨i, List.mem_range.mp hi, rfl⟩
  · rintro ⟨i, hi, rfl⟩; exact ⟨i, List.mem_range.mpr hi, rfl⟩
theorem lv_refl (x : Str) : lv x x = true := by unfold lv; simp
theorem lv_trans {x y z : Str} (hx : x ∈ W14) (hy : y ∈ W14) (hz : z ∈ W14) (h1 : lv x y = true) (h2 : lv y z = true) : lv x z = true := by
  obtain ⟨i, hi, rfl⟩ := mem_W14.mp hx
  obtain ⟨j, hj, rfl⟩ := mem_W14.mp hy
  obtain ⟨k, hk, rfl⟩ := mem_W14.mp hz
  rw [tb_lv i hi j hj] at h1
  rw [tb_lv j hj k hk] at h2
  rw [tb_lv i hi k hk]
  exact tb_trans i hi j hj k hk h1 h2
theorem lv_anti {x y : Str} (hx : x ∈ W14) (hy : y ∈ W14) (h1 : lv x y = true) (h2 : lv y x = true) : x = y := by
  obtain ⟨i, hi, rfl⟩ := mem_W14.mp hx
  obtain ⟨j, hj, rfl⟩ := mem_W14.mp hy
  rw [tb_lv i hi j hj] at h1
  rw [tb_lv j hj i hi] at h2
  rw [tb_anti i hi j hj h1 h2]
theorem cov_iff {ks : List Str} {n : Str} : cov ks n = true ↔ ∃ m ∈ ks, lv m n = true := by
  unfold cov lv
  rw [List.any_eq_true]
theorem cov_one {m n : Str} : cov [m] n = lv m n := by
  unfold cov lv
  simp
noncomputable def Mn (l : List Str) (x : Str) : Prop := x ∈ l ∧ ∀ y ∈ l, lv y x = true → y = x
structure Anti (R : List Str) : Prop where
  nd : R.Nodup
  ap : ∀ x ∈ R, ∀ y ∈ R, lv x y = true → x = y
theorem step_anti {ks : List Str} {n : Str} (h : Anti ks) : Anti (stepF ks n) := by
  unfold stepF
  split
  · exact h
  · rename_i hc
    have hc' : ∀ m ∈ ks, lv m n = false := fun m hm => by
      cases e : lv m n with
      | false => rfl
      | true => exact absurd (cov_iff.mpr ⟨m, hm, e⟩) hc
    constructor
    · refine List.nodup_append.mpr ⟨h.nd.filter _, List.nodup_cons.mpr ⟨by simp, .nil⟩, fun a ha b hb => ?_⟩
      simp only [List.mem_singleton] at hb
      subst hb
      intro e
      subst e
      have := hc' a (List.mem_filter.mp ha).1
      rw [lv_refl] at this
      cases this
    · intro x hx y hy hl
      rcases List.mem_append.mp hx with hx | hx <;> rcases List.mem_append.mp hy with hy | hy
      · exact h.ap x (List.mem_filter.mp hx).1 y (List.mem_filter.mp hy).1 hl
      · simp only [List.mem_singleton] at hy
        subst hy
        rw [hc' x (List.mem_filter.mp hx).1] at hl
        cases hl
      · simp only [List.mem_singleton] at hx
        subst hx
        have := (List.mem_filter.mp hy).2
        rw [cov_one, hl] at this
        cases this
      · simp only [List.mem_singleton] at hx hy
        rw [hx, hy]
theorem step_cover {ks : List Str} {n x : Str} (h : x ∈ ks ∨ x = n) : ∃ r ∈ stepF ks n, lv r x = true := by
  unfold stepF
  split
  · rename_i hc
    rcases h with h | rfl
    · exact ⟨x, h, lv_refl x⟩
    · exact cov_iff.mp hc
  · rcases h with h | rfl
    · cases e : lv n x with
      | true => exact ⟨n, List.mem_append_right _ (by simp), e⟩
      | false => exact ⟨x, List.mem_append_left _ (List.mem_filter.mpr ⟨h, by rw [cov_one, e]; rfl⟩), lv_refl x⟩
    · exact ⟨x, List.mem_append_right _ (by simp), lv_refl x⟩
theorem fold_all : ∀ (ns ks : List Str), Anti ks → (∀ x ∈ ks, x ∈ W14) → (∀ x ∈ ns, x ∈ W14) →
    Anti (ns.foldl stepF ks) ∧ (∀ x ∈ ns.foldl stepF ks, x ∈ ks ∨ x ∈ ns) ∧ (∀ x, x ∈ ks ∨ x ∈ ns → ∃ r ∈ ns.foldl stepF ks, lv r x = true)
  | [], ks, h, _, _ => ⟨h, fun x hx => .inl hx, fun x hx => ⟨x, hx.resolve_right (by simp), lv_refl x⟩⟩
  | n :: ns, ks, h, hk, hn => by
    have hk' : ∀ x ∈ stepF ks n, x ∈ W14 := fun x hx => (stepF_mem hx).elim (hk x) fun e => e ▸ hn n (.head _)
    have hn' : ∀ x ∈ ns, x ∈ W14 := fun x hx => hn x (.tail _ hx)
    obtain ⟨i1, i2, i3⟩ := fold_all ns (stepF ks n) (step_anti h) hk' hn'
    refine ⟨i1, fun x hx => ?_, fun x hx => ?_⟩
    · rcases i2 x hx with q | q
      · rcases stepF_mem q with q | q
        · exact .inl q
        · exact .inr (q ▸ .head _)
      · exact .inr (.tail _ q)
    · have hxW : x ∈ W14 := hx.elim (hk x) (hn x)
      have : (x ∈ ks ∨ x = n) ∨ x ∈ ns := by
        rcases hx with q | q
        · exact .inl (.inl q)
        · rcases List.mem_cons.mp q with q | q
          · exact .inl (.inr q)
          · exact .inr q
      rcases this with q | q
      · obtain ⟨r', hr', l'⟩ := step_cover (n := n) q
        obtain ⟨r, hr, l⟩ := i3 r' (.inl hr')
        have hrW : r ∈ W14 := (i2 r hr).elim (hk' r) (hn' r)
        exact ⟨r, hr, lv_trans hrW (hk' r' hr') hxW l l'⟩
      · exact i3 x (.inr q)
theorem anti_nil : Anti [] := ⟨.nil, fun x hx => nomatch hx⟩
theorem fold_min {ns : List Str} (hn : ∀ x ∈ ns, x ∈ W14) (x : Str) : x ∈ ns.foldl stepF [] ↔ Mn ns x := by
  obtain ⟨i1, i2, i3⟩ := fold_all ns [] anti_nil (fun x hx => nomatch hx) hn
  have sub : ∀ r ∈ ns.foldl stepF [], r ∈ ns := fun r hr => (i2 r hr).elim (fun h => nomatch h) id
  constructor
  · intro hx
    refine ⟨sub x hx, fun y hy hl => ?_⟩
    obtain ⟨r, hr, l⟩ := i3 y (.inr hy)
    have hry : lv r x = true := lv_trans (hn r (sub r hr)) (hn y hy) (hn x (sub x hx)) l hl
    have e := i1.ap r hr x hx hry
    subst e
    exact (lv_anti (hn r (sub r hr)) (hn y hy) l hl).symm
  · rintro ⟨hx, hm⟩
    obtain ⟨r, hr, l⟩ := i3 x (.inr hx)
    exact hm r (sub r hr) l ▸ hr
theorem fold_nodup {ns : List Str} (hn : ∀ x ∈ ns, x ∈ W14) : (ns.foldl stepF []).Nodup := (fold_all ns [] anti_nil (fun x hx => nomatch hx) hn).1.nd

/-! sorted lists of texts -/
theorem rising_pw : ∀ (l : List Str) (p : Str), risingS p l = true → (∀ x ∈ l, ¬ slt x p) ∧ l.Pairwise (fun a b => ¬ slt b a)
  | [], p, _ => ⟨by simp, List.Pairwise.nil⟩
  | x :: r, p, h => by
    simp only [risingS, Bool.and_eq_true, Bool.not_eq_true'] at h
    obtain ⟨h1, h2⟩ := h
    rw [ltCps_eq] at h1
    have hxp : ¬ slt x p := by unfold slt; exact of_decide_eq_false h1
    obtain ⟨i1, i2⟩ := rising_pw r x h2
    refine ⟨fun y hy => ?_, List.pairwise_cons.mpr ⟨i1, i2⟩⟩
    rcases List.mem_cons.mp hy with rfl | hy
    · exact hxp
    · intro hyp
      have h3 := i1 y hy
      by_cases e : slt x y
      · exact hxp (slt_trans e hyp)
      · exact hxp (slt_eq e h3 ▸ hyp)
theorem sorted_pw {l : List Str} (h : sortedS l = true) : l.Pairwise (fun a b => ¬ slt b a) := by
  cases l with
  | nil => exact .nil
  | cons x r =>
    obtain ⟨i1, i2⟩ := rising_pw r x h
    exact List.pairwise_cons.mpr ⟨i1, i2⟩
theorem sorted_same {a b : List Str} (ha : sortedS a = true) (hb : sortedS b = true) (p : a.Perm b) : a = b :=
  p.eq_of_pairwise (fun x y _ _ h1 h2 => slt_eq h2 h1) (sorted_pw ha) (sorted_pw hb)
theorem sorted_strict {a : List Str} (ha : sortedS a = true) (hn : a.Nodup) : a.Pairwise slt := by
  refine (List.Pairwise.and (sorted_pw ha) hn).imp fun {x y} h => ?_
  by_cases e : slt x y
  · exact e
  · exact absurd (slt_eq e h.1) h.2
theorem perm_of_mem {a b : List Str} (ha : a.Nodup) (hb : b.Nodup) (h : ∀ x, x ∈ a ↔ x ∈ b) : a.Perm b := (List.perm_ext_iff_of_nodup ha hb).mpr h

theorem cov_fold {ns : List Str} (hn : ∀ x ∈ ns, x ∈ W14) {x : Str} (hx : x ∈ W14) : cov ns x = true ↔ ∃ r, Mn ns r ∧ lv r x = true := by
  obtain ⟨i1, i2, i3⟩ := fold_all ns [] anti_nil (fun x hx => nomatch hx) hn
  constructor
  · intro h
    obtain ⟨m, hm, l⟩ := cov_iff.mp h
    obtain ⟨r, hr, l'⟩ := i3 m (.inr hm)
    have hmr := (fold_min hn r).mp hr
    exact ⟨r, hmr, lv_trans (hn r hmr.1) (hn m hm) hx l' l⟩
  · rintro ⟨r, hr, l⟩
    exact cov_iff.mpr ⟨r, hr.1, l⟩
theorem mn_anti {ns : List Str} {a b : Str} (ha : Mn ns a) (hb : Mn ns b) (h : lv a b = true) : a = b := hb.2 a ha.1 h
theorem told_of {n1 n2 d1 d2 : List Str} (h1 : ∀ x, x ∈ d1 ↔ Mn n1 x) (h2 : ∀ x, x ∈ d2 ↔ Mn n2 x) (x : Str) :
    x ∈ d1.filter (fun y => decide (y ∉ d2)) ++ d2.filter (fun y => decide (y ∉ d1)) ↔ (Mn n1 x ∧ ¬ Mn n2 x) ∨ (Mn n2 x ∧ ¬ Mn n1 x) := by
  simp only [List.mem_append, List.mem_filter, decide_eq_true_eq, h1, h2]
theorem edge_iff {n1 n2 t : List Str} (w1 : ∀ x ∈ n1, x ∈ W14) (w2 : ∀ x ∈ n2, x ∈ W14) (ht : ∀ x, x ∈ t ↔ (Mn n1 x ∧ ¬ Mn n2 x) ∨ (Mn n2 x ∧ ¬ Mn n1 x)) {x : Str} (hx : x ∈ W14) :
    Mn t x ↔ cov n1 x ≠ cov n2 x ∧ ∀ y ∈ W14, cov n1 y ≠ cov n2 y → lv y x = true → y = x := by
  -- one side, for either order of the two
  have one : ∀ {n1 n2 t : List Str}, (∀ x ∈ n1, x ∈ W14) → (∀ x ∈ n2, x ∈ W14) → (∀ x, x ∈ t ↔ (Mn n1 x ∧ ¬ Mn n2 x) ∨ (Mn n2 x ∧ ¬ Mn n1 x)) → ∀ {x : Str}, x ∈ W14 → Mn t x → Mn n1 x → ¬ Mn n2 x →
      cov n1 x = true ∧ cov n2 x = false ∧ ∀ y ∈ W14, cov n1 y ≠ cov n2 y → lv y x = true → y = x := by
    intro n1 n2 t w1 w2 ht x hx hm h1 h2
    have c1 : cov n1 x = true := (cov_fold w1 hx).mpr ⟨x, h1, lv_refl x⟩
    have c2 : cov n2 x = false := by
      cases e : cov n2 x with
      | false => rfl
      | true =>
        obtain ⟨a, ha, l⟩ := (cov_fold w2 hx).mp e
        by_cases h3 : Mn n1 a
        · have := mn_anti h3 h1 l
          subst this
          exact absurd ha h2
        · have := hm.2 a ((ht a).mpr (.inr ⟨ha, h3⟩)) l
          subst this
          exact absurd ha h2
    refine ⟨c1, c2, fun y hy hd l => ?_⟩
    have y2 : cov n2 y = false := by
      cases e : cov n2 y with
      | false => rfl
      | true =>
        obtain ⟨a, ha, l'⟩ := (cov_fold w2 hy).mp e
        have : cov n2 x = true := (cov_fold w2 hx).mpr ⟨a, ha, lv_trans (w2 a ha.1) hy hx l' l⟩
        rw [c2] at this; cases this
    have y1 : cov n1 y = true := by
      cases e : cov n1 y with
      | true => rfl
      | false => rw [e, y2] at hd; exact absurd rfl hd
    obtain ⟨a, ha, l'⟩ := (cov_fold w1 hy).mp y1
    have e := mn_anti ha h1 (lv_trans (w1 a ha.1) hy hx l' l)
    subst e
    exact lv_anti hy hx l l'
  have back : ∀ {n1 n2 t : List Str}, (∀ x ∈ n1, x ∈ W14) → (∀ x ∈ n2, x ∈ W14) → (∀ x, x ∈ t ↔ (Mn n1 x ∧ ¬ Mn n2 x) ∨ (Mn n2 x ∧ ¬ Mn n1 x)) → ∀ {x : Str}, x ∈ W14 → cov n1 x = true → cov n2 x = false →
      (∀ y ∈ W14, cov n1 y ≠ cov n2 y → lv y x = true → y = x) → Mn t x := by
    intro n1 n2 t w1 w2 ht x hx c1 c2 hm
    obtain ⟨a, ha, l⟩ := (cov_fold w1 hx).mp c1
    have haW := w1 a ha.1
    have ca1 : cov n1 a = true := (cov_fold w1 haW).mpr ⟨a, ha, lv_refl a⟩
    have up2 : ∀ b ∈ W14, lv b x = true → cov n2 b = false := fun b hb lb => by
      cases e : cov n2 b with
      | false => rfl
      | true =>
        obtain ⟨r, hr, l'⟩ := (cov_fold w2 hb).mp e
        have : cov n2 x = true := (cov_fold w2 hx).mpr ⟨r, hr, lv_trans (w2 r hr.1) hb hx l' lb⟩
        rw [c2] at this; cases this
    have e := hm a haW (by rw [ca1, up2 a haW l]; simp) l
    subst e
    have n2a : ∀ b, Mn n2 b → lv b a = true → False := fun b hb lb => by
      have := up2 b (w2 b hb.1) lb
      rw [(cov_fold w2 (w2 b hb.1)).mpr ⟨b, hb, lv_refl b⟩] at this
      cases this
    refine ⟨(ht a).mpr (.inl ⟨ha, fun h => n2a a h (lv_refl a)⟩), fun y hy l => ?_⟩
    rcases (ht y).mp hy with ⟨q, _⟩ | ⟨q, _⟩
    · exact mn_anti q ha l
    · exact absurd l fun l => n2a y q l
  have ht' : ∀ x, x ∈ t ↔ (Mn n2 x ∧ ¬ Mn n1 x) ∨ (Mn n1 x ∧ ¬ Mn n2 x) := fun x => (ht x).trans Or.comm
  constructor
  · intro h
    rcases (ht x).mp h.1 with ⟨q1, q2⟩ | ⟨q1, q2⟩
    · obtain ⟨a, b, c⟩ := one w1 w2 ht hx h q1 q2
      exact ⟨by rw [a, b]; simp, c⟩
    · obtain ⟨a, b, c⟩ := one w2 w1 ht' hx h q1 q2
      exact ⟨by rw [a, b]; simp, fun y hy hd => c y hy (Ne.symm hd)⟩
  · rintro ⟨hd, hm⟩
    cases e1 : cov n1 x with
    | true =>
      have e2 : cov n2 x = false := by
        cases e2 : cov n2 x with
        | false => rfl
        | true => rw [e1, e2] at hd; exact absurd rfl hd
      exact back w1 w2 ht hx e1 e2 hm
    | false =>
      have e2 : cov n2 x = true := by
        cases e2 : cov n2 x with
        | true => rfl
        | false => rw [e1, e2] at hd; exact absurd rfl hd
      exact back w2 w1 ht' hx e2 e1 fun y hy hd => hm y hy (Ne.symm hd)
theorem edge_side {n1 n2 t : List Str} (w1 : ∀ x ∈ n1, x ∈ W14) (w2 : ∀ x ∈ n2, x ∈ W14) (ht : ∀ x, x ∈ t ↔ (Mn n1 x ∧ ¬ Mn n2 x) ∨ (Mn n2 x ∧ ¬ Mn n1 x)) {x : Str} (hx : x ∈ W14) (hm : Mn t x) :
    (Mn n1 x ∧ ¬ Mn n2 x) ↔ cov n1 x = true := by
  have he := ((edge_iff w1 w2 ht hx).mp hm).1
  constructor
  · rintro ⟨q, _⟩
    exact (cov_fold w1 hx).mpr ⟨x, q, lv_refl x⟩
  · intro c
    rcases (ht x).mp hm.1 with q | ⟨q, _⟩
    · exact q
    · have : cov n2 x = true := (cov_fold w2 hx).mpr ⟨x, q, lv_refl x⟩
      rw [c, this] at he
      exact absurd rfl he
end Mine
end

section
open PySem PySem.W PyProof.Rows
set_option Elab.async false
set_option maxRecDepth 100000
namespace Mine
noncomputable def OkP (ps : List Int) : Prop := ∀ j ∈ ps, 0 ≤ j ∧ j < 14
noncomputable def nms (ps : List Int) : List Str := ps.map fun k => wd k.toNat
theorem wd_W14 {k : Nat} (h : k < 14) : wd k ∈ W14 := mem_W14.mpr ⟨k, h, rfl⟩
theorem nat14 {j : Int} (h : 0 ≤ j ∧ j < 14) : j.toNat < 14 := (Int.toNat_lt h.1).mpr h.2
theorem back14 {j : Int} {k : Nat} (h : 0 ≤ j ∧ j < 14) (e : j.toNat = k) : j = (k : Int) := e ▸ (Int.toNat_of_nonneg h.1).symm
theorem nms_W14 {ps : List Int} (h : OkP ps) : ∀ x ∈ nms ps, x ∈ W14 := by
  intro x hx
  obtain ⟨k, hk, rfl⟩ := List.mem_map.mp hx
  exact wd_W14 (nat14 (h k hk))
theorem mem_nms {ps : List Int} (h : OkP ps) {k : Nat} (hk : k < 14) : wd k ∈ nms ps ↔ (k : Int) ∈ ps := by
  constructor
  · intro hx
    obtain ⟨j, hj, e⟩ := List.mem_map.mp hx
    exact back14 (h j hj) (wd_inj j.toNat (nat14 (h j hj)) k hk e) ▸ hj
  · intro hx
    exact List.mem_map.mpr ⟨k, hx, rfl⟩
theorem above_mem {ps : List Int} (h : OkP ps) {k : Nat} (hk : k < 14) {j : Int} : j ∈ aboveF (pUp 6) ps k ↔ j ∈ ps ∧ j ≠ k ∧ lv (wd j.toNat) (wd k) = true := by
  unfold aboveF
  rw [List.mem_filter]
  constructor
  · rintro ⟨hj, q⟩
    have hb := h j hj
    simp only [Bool.and_eq_true] at q
    refine ⟨hj, of_decide_eq_true q.1, ?_⟩
    rw [tb_lv j.toNat (nat14 hb) k hk, ← tb_path j.toNat (nat14 hb) k hk]
    simpa using q.2
  · rintro ⟨hj, n, l⟩
    have hb := h j hj
    refine ⟨hj, ?_⟩
    rw [tb_lv j.toNat (nat14 hb) k hk, ← tb_path j.toNat (nat14 hb) k hk] at l
    simp only [Bool.and_eq_true]
    exact ⟨decide_eq_true n, by simpa using l⟩
theorem above_nil {ps : List Int} (h : OkP ps) {k : Nat} (hk : k < 14) : aboveF (pUp 6) ps k = [] ↔ ∀ y ∈ nms ps, lv y (wd k) = true → y = wd k := by
  constructor
  · intro e y hy l
    obtain ⟨j, hj, rfl⟩ := List.mem_map.mp hy
    by_cases q : j = k
    · subst q; simp
    · have : j ∈ aboveF (pUp 6) ps k := (above_mem h hk).mpr ⟨hj, q, l⟩
      rw [e] at this; cases this
  · intro q
    rw [List.eq_nil_iff_forall_not_mem]
    intro j hj
    obtain ⟨a, b, c⟩ := (above_mem h hk).mp hj
    have e := q _ (List.mem_map.mpr ⟨j, a, rfl⟩) c
    exact b (back14 (h j a) (wd_inj j.toNat (nat14 (h j a)) k hk e))
noncomputable def dueP (ps : List Int) : List Nat := (List.range 14).filter fun k => decide ((k : Int) ∈ ps) && decide (aboveF (pUp 6) ps k = [])
theorem map_wd_nodup {l : List Nat} (hl : l.Nodup) (h : ∀ k ∈ l, k < 14) : (l.map wd).Nodup := by
  rw [List.Nodup, List.pairwise_map]
  exact hl.imp_of_mem fun {a b} ha hb ne e => ne (wd_inj a (h a ha) b (h b hb) e)
theorem due_nodup (ps : List Int) : ((dueP ps).map wd).Nodup :=
  map_wd_nodup (List.nodup_range.filter _) fun k hk => List.mem_range.mp (List.mem_filter.mp hk).1
theorem due_mem {ps : List Int} (h : OkP ps) (x : Str) : x ∈ (dueP ps).map wd ↔ Mn (nms ps) x := by
  constructor
  · intro hx
    obtain ⟨k, hk, rfl⟩ := List.mem_map.mp hx
    obtain ⟨h1, h2⟩ := List.mem_filter.mp hk
    simp only [Bool.and_eq_true, decide_eq_true_eq] at h2
    have hk14 := List.mem_range.mp h1
    exact ⟨(mem_nms h hk14).mpr h2.1, (above_nil h hk14).mp h2.2⟩
  · rintro ⟨hx, hm⟩
    obtain ⟨k, hk, rfl⟩ := mem_W14.mp (nms_W14 h x hx)
    refine List.mem_map.mpr ⟨k, List.mem_filter.mpr ⟨List.mem_range.mpr hk, ?_⟩, rfl⟩
    simp only [Bool.and_eq_true, decide_eq_true_eq]
    exact ⟨(mem_nms h hk).mp hx, (above_nil h hk).mpr hm⟩
theorem due_fold {ps : List Int} (h : OkP ps) : ((nms ps).foldl stepF []).Perm ((dueP ps).map wd) :=
  perm_of_mem (fold_nodup (nms_W14 h)) (due_nodup ps) fun x => (fold_min (nms_W14 h) x).trans (due_mem h x).symm
theorem due_fold_rev {ps : List Int} (h : OkP ps) : ((nms ps).reverse.foldl stepF []).Perm ((dueP ps).map wd) := by
  have hw : ∀ x ∈ (nms ps).reverse, x ∈ W14 := fun x hx => nms_W14 h x (List.mem_reverse.mp hx)
  refine perm_of_mem (fold_nodup hw) (due_nodup ps) fun x => (fold_min hw x).trans (Iff.trans ?_ (due_mem h x).symm)
  unfold Mn
  simp only [List.mem_reverse]
noncomputable def cp (ps : List Int) (k : Nat) : Bool := decide ((k : Int) ∈ ps) || decide (aboveF (pUp 6) ps k ≠ [])
theorem cov_cp {ps : List Int} (h : OkP ps) {k : Nat} (hk : k < 14) : cov (nms ps) (wd k) = cp ps k := by
  rw [Bool.eq_iff_iff, cov_iff]
  unfold cp
  simp only [Bool.or_eq_true, decide_eq_true_eq]
  constructor
  · rintro ⟨y, hy, l⟩
    by_cases q : aboveF (pUp 6) ps k = []
    · have := (above_nil h hk).mp q y hy l
      exact .inl ((mem_nms h hk).mp (this ▸ hy))
    · exact .inr q
  · rintro (q | q)
    · exact ⟨wd k, (mem_nms h hk).mpr q, lv_refl _⟩
    · obtain ⟨j, hj⟩ := List.exists_mem_of_ne_nil _ q
      obtain ⟨a, b, c⟩ := (above_mem h hk).mp hj
      exact ⟨_, List.mem_map.mpr ⟨j, a, rfl⟩, c⟩
noncomputable def unl (p1 p2 : List Int) : List Nat := (List.range 14).filter fun k => cp p1 k != cp p2 k
theorem unl_lt {p1 p2 : List Int} {k : Nat} (h : k ∈ unl p1 p2) : k < 14 := List.mem_range.mp (List.mem_filter.mp h).1
noncomputable def unlI (p1 p2 : List Int) : List Int := (unl p1 p2).map fun (k : Nat) => (k : Int)
theorem unlI_ok (p1 p2 : List Int) : OkP (unlI p1 p2) := by
  intro j hj
  obtain ⟨k, hk, rfl⟩ := List.mem_map.mp hj
  exact ⟨Int.natCast_nonneg k, Int.ofNat_lt.mpr (unl_lt hk)⟩
noncomputable def lst (p1 p2 : List Int) : List Nat := (unl p1 p2).filter fun k => decide (aboveF (pUp 6) (unlI p1 p2) k = [])
theorem lst_lt {p1 p2 : List Int} {k : Nat} (h : k ∈ lst p1 p2) : k < 14 := unl_lt (List.mem_filter.mp h).1
theorem lst_nodup (p1 p2 : List Int) : ((lst p1 p2).map wd).Nodup := map_wd_nodup ((List.nodup_range.filter _).filter _) fun k hk => lst_lt hk
theorem mem_unl {p1 p2 : List Int} (h1 : OkP p1) (h2 : OkP p2) {k : Nat} (hk : k < 14) : k ∈ unl p1 p2 ↔ cov (nms p1) (wd k) ≠ cov (nms p2) (wd k) := by
  rw [cov_cp h1 hk, cov_cp h2 hk]
  unfold unl
  rw [List.mem_filter, List.mem_range]
  simp [hk]
theorem mem_unl_word {p1 p2 : List Int} (h1 : OkP p1) (h2 : OkP p2) (x : Str) : x ∈ nms (unlI p1 p2) ↔ x ∈ W14 ∧ cov (nms p1) x ≠ cov (nms p2) x := by
  constructor
  · intro hx
    obtain ⟨k, hk, rfl⟩ := mem_W14.mp (nms_W14 (unlI_ok p1 p2) x hx)
    refine ⟨wd_W14 hk, (mem_unl h1 h2 hk).mp ?_⟩
    have := (mem_nms (unlI_ok p1 p2) hk).mp hx
    obtain ⟨j, hj, e⟩ := List.mem_map.mp this
    exact Int.ofNat.inj e ▸ hj
  · rintro ⟨hx, hd⟩
    obtain ⟨k, hk, rfl⟩ := mem_W14.mp hx
    exact (mem_nms (unlI_ok p1 p2) hk).mpr (List.mem_map.mpr ⟨k, (mem_unl h1 h2 hk).mpr hd, rfl⟩)
theorem mem_lst {p1 p2 t : List Int} (h1 : OkP p1) (h2 : OkP p2) {t : List Str} (ht : ∀ x, x ∈ t ↔ (Mn (nms p1) x ∧ ¬ Mn (nms p2) x) ∨ (Mn (nms p2) x ∧ ¬ Mn (nms p1) x)) (x : Str) : x ∈ (lst p1 p2).map wd ↔ Mn t x := by
  have key : ∀ k, k < 14 → (k ∈ lst p1 p2 ↔ Mn t (wd k)) := by
    intro k hk
    rw [edge_iff (nms_W14 h1) (nms_W14 h2) ht (wd_W14 hk)]
    unfold lst
    rw [List.mem_filter, mem_unl h1 h2 hk]
    refine and_congr Iff.rfl ?_
    rw [decide_eq_true_eq, above_nil (unlI_ok p1 p2) hk]
    constructor
    · intro q y hy hd l
      exact q y ((mem_unl_word h1 h2 y).mpr ⟨hy, hd⟩) l
    · intro q y hy l
      obtain ⟨a, b⟩ := (mem_unl_word h1 h2 y).mp hy
      exact q y a b l
  constructor
  · intro hx
    obtain ⟨k, hk, rfl⟩ := List.mem_map.mp hx
    exact (key k (lst_lt hk)).mp hk
  · intro hm
    have hxW : x ∈ W14 := by
      rcases (ht x).mp hm.1 with ⟨q, _⟩ | ⟨q, _⟩
      · exact nms_W14 h1 x q.1
      · exact nms_W14 h2 x q.1
    obtain ⟨k, hk, rfl⟩ := mem_W14.mp hxW
    exact List.mem_map.mpr ⟨k, (key k hk).mpr hm, rfl⟩
end Mine
end

section
open PySem PySem.W PyProof.Rows PyProof.V PySem.Calls PySem.Spec
set_option Elab.async false
set_option maxRecDepth 100000
namespace Mine
/-! the law's own frame: its locals at L, its six cells behind it -/
noncomputable def Out (L a : Addr) : Prop := a ≠ L ∧ a ≠ L + 1 ∧ a ≠ L + 2 ∧ a ≠ L + 3 ∧ a ≠ L + 4 ∧ a ≠ L + 5 ∧ a ≠ L + 6
noncomputable def KL (L : Addr) (h h' : Heap) : Prop := ∀ b o, Out L b → h.get? b = some o → h'.get? b = some o
theorem KL.refl (L : Addr) (h : Heap) : KL L h h := fun _ _ _ e => e
theorem KL.trans {L : Addr} {a b c : Heap} (x : KL L a b) (y : KL L b c) : KL L a c := fun p o q e => y p o q (x p o q e)
theorem KL.of {L : Addr} {h h' : Heap} (k : ∀ b o, h.get? b = some o → h'.get? b = some o) : KL L h h' := fun b o _ e => k b o e
theorem KL.but {L a : Addr} {h h' : Heap} (k : Heap.SameBut a h h') (ha : ¬ Out L a) : KL L h h' := fun b o q e => k.extBut b o (fun z => ha (z ▸ q)) e
structure LawS (base : Heap) (L : Addr) (h : Heap) (m : Str → Option Value) (c1 c2 c3 c4 c5 c6 : Option Value) : Prop where
  F : Fr base L h m
  k1 : h.IsCell (L + 1) c1
  k2 : h.IsCell (L + 2) c2
  k3 : h.IsCell (L + 3) c3
  k4 : h.IsCell (L + 4) c4
  k5 : h.IsCell (L + 5) c5
  k6 : h.IsCell (L + 6) c6
theorem cell_at {h h' : Heap} {c : Addr} {v : Option Value} (x : h.IsCell c v) (k : ∀ o, h.get? c = some o → h'.get? c = some o) : h'.IsCell c v := let ⟨o, ho, hd⟩ := x; ⟨o, k o ho, hd⟩
section
variable {base h h' : Heap} {L : Addr} {m : Str → Option Value} {c1 c2 c3 c4 c5 c6 : Option Value}
theorem LawS.keeps (S : LawS base L h m c1 c2 c3 c4 c5 c6) (k : ∀ b o, h.get? b = some o → h'.get? b = some o) : LawS base L h' m c1 c2 c3 c4 c5 c6 :=
  ⟨⟨S.F.ns.keeps k, fun b o e => k b o (S.F.keep b o e), S.F.above⟩, cell_at S.k1 fun o e => k _ o e, cell_at S.k2 fun o e => k _ o e, cell_at S.k3 fun o e => k _ o e, cell_at S.k4 fun o e => k _ o e, cell_at S.k5 fun o e => k _ o e, cell_at S.k6 fun o e => k _ o e⟩
theorem LawS.slots (S : LawS base L h m c1 c2 c3 c4 c5 c6) (k : ∀ b o, b ≠ L → h.get? b = some o → h'.get? b = some o) (hs : ∃ o sl, h.get? L = some o ∧ h'.get? L = some { o with slots := sl }) : LawS base L h' m c1 c2 c3 c4 c5 c6 := by
  have ne : ∀ i : Nat, 0 < i → L + i ≠ L := fun i hi => Nat.ne_of_gt (Nat.lt_add_of_pos_right hi)
  have hns : h'.Ns L m := by
    obtain ⟨o, sl, ho, ho'⟩ := hs
    obtain ⟨oL, es, ep, hoL, hd, r⟩ := S.F.ns
    have ho2 : h.get? L = some oL := hoL
    rw [ho] at ho2
    cases ho2
    exact ⟨_, es, ep, ho', hd, r⟩
  exact ⟨⟨hns, fun b o e => k b o (Nat.ne_of_lt (Nat.lt_of_lt_of_le (Heap.lt_size e) S.F.above)) (S.F.keep b o e), S.F.above⟩, cell_at S.k1 fun o e => k _ o (ne 1 (by decide)) e, cell_at S.k2 fun o e => k _ o (ne 2 (by decide)) e, cell_at S.k3 fun o e => k _ o (ne 3 (by decide)) e,
    cell_at S.k4 fun o e => k _ o (ne 4 (by decide)) e, cell_at S.k5 fun o e => k _ o (ne 5 (by decide)) e, cell_at S.k6 fun o e => k _ o (ne 6 (by decide)) e⟩
theorem LawS.out (S : LawS base L h m c1 c2 c3 c4 c5 c6) {a : Addr} {o : Obj} (e : h.get? a = some o) (n1 : ∀ v, o.data ≠ .cell v) (n2 : ∀ oL, h.get? L = some oL → o.data ≠ oL.data) : Out L a := by
  have cl : ∀ {c : Addr} {v : Option Value}, h.IsCell c v → a ≠ c := fun {c v} x q => by
    obtain ⟨oc, hc, hd⟩ := x
    rw [q, hc] at e
    cases e
    exact n1 v hd
  refine ⟨fun q => ?_, cl S.k1, cl S.k2, cl S.k3, cl S.k4, cl S.k5, cl S.k6⟩
  rw [q] at e
  exact n2 o e rfl
theorem LawS.out_seq (S : LawS base L h m c1 c2 c3 c4 c5 c6) {a : Addr} {o : Obj} {its : Array Value} {n : Nat} (e : h.get? a = some o) (hd : o.data = .seq its n) : Out L a := by
  refine S.out e (fun v q => by rw [hd] at q; cases q) fun oL hL q => ?_
  obtain ⟨o2, es, ep, ho2, hd2, r⟩ := S.F.ns
  have ho3 : h.get? L = some o2 := ho2
  rw [hL] at ho3
  cases ho3
  rw [hd, hd2] at q
  cases q
theorem LawS.out_list (S : LawS base L h m c1 c2 c3 c4 c5 c6) {a : Addr} {its : Array Value} (x : h.IsList a its) : Out L a := by
  obtain ⟨o, ho, _, n, hd⟩ := x
  exact S.out_seq ho hd
theorem LawS.out_new (S : LawS base L h m c1 c2 c3 c4 c5 c6) {a : Addr} (ha : h.objs.size ≤ a) : Out L a := by
  have cl : ∀ {c : Addr} {v : Option Value}, h.IsCell c v → a ≠ c := fun {c v} x => by
    obtain ⟨oc, hc, _⟩ := x
    exact Nat.ne_of_gt (Nat.lt_of_lt_of_le (Heap.lt_size hc) ha)
  obtain ⟨o2, es, ep, ho2, hd2, r⟩ := S.F.ns
  exact ⟨Nat.ne_of_gt (Nat.lt_of_lt_of_le (Heap.lt_size ho2) ha), cl S.k1, cl S.k2, cl S.k3, cl S.k4, cl S.k5, cl S.k6⟩
theorem LawS.loc {x : Str} {v : Value} (S : LawS base L h m c1 c2 c3 c4 c5 c6) (hn : h'.Ns L (fun y => if y = x then some v else m y)) (sb : Heap.SameBut L h h') : LawS base L h' (fun y => if y = x then some v else m y) c1 c2 c3 c4 c5 c6 := by
  have ne : ∀ i : Nat, 0 < i → L + i ≠ L := fun i hi => Nat.ne_of_gt (Nat.lt_add_of_pos_right hi)
  exact ⟨⟨hn, fun b o e => sb.extBut b o (Nat.ne_of_lt (Nat.lt_of_lt_of_le (Heap.lt_size e) S.F.above)) (S.F.keep b o e), S.F.above⟩, cell_at S.k1 fun o e => sb.extBut _ o (ne 1 (by decide)) e, cell_at S.k2 fun o e => sb.extBut _ o (ne 2 (by decide)) e, cell_at S.k3 fun o e => sb.extBut _ o (ne 3 (by decide)) e,
    cell_at S.k4 fun o e => sb.extBut _ o (ne 4 (by decide)) e, cell_at S.k5 fun o e => sb.extBut _ o (ne 5 (by decide)) e, cell_at S.k6 fun o e => sb.extBut _ o (ne 6 (by decide)) e⟩
theorem LawS.opn {P : Prop} (S : LawS base L h m c1 c2 c3 c4 c5 c6) (k : ∀ o1 o2 o3 o4 o5 o6, News base L h [(L + 6, o6), (L + 5, o5), (L + 4, o4), (L + 3, o3), (L + 2, o2), (L + 1, o1)] →
    o1.data = .cell c1 → o2.data = .cell c2 → o3.data = .cell c3 → o4.data = .cell c4 → o5.data = .cell c5 → o6.data = .cell c6 → P) : P := by
  obtain ⟨o1, a1, d1⟩ := S.k1
  obtain ⟨o2, a2, d2⟩ := S.k2
  obtain ⟨o3, a3, d3⟩ := S.k3
  obtain ⟨o4, a4, d4⟩ := S.k4
  obtain ⟨o5, a5, d5⟩ := S.k5
  obtain ⟨o6, a6, d6⟩ := S.k6
  have nn : ∀ i : Nat, base.get? (L + i) = none := fun i => by
    cases q : base.get? (L + i) with
    | none => rfl
    | some o => exact absurd (Heap.lt_size q) (Nat.not_lt.mpr (Nat.le_trans S.F.above (Nat.le_add_right _ _)))
  have ne : ∀ i : Nat, 0 < i → L + i ≠ L := fun i hi => Nat.ne_of_gt (Nat.lt_add_of_pos_right hi)
  refine k o1 o2 o3 o4 o5 o6 (fun p hp => ?_) d1 d2 d3 d4 d5 d6
  simp only [List.mem_cons, List.mem_nil_iff, or_false] at hp
  rcases hp with rfl | rfl | rfl | rfl | rfl | rfl
  · exact ⟨a6, ne 6 (by decide), nn 6⟩
  · exact ⟨a5, ne 5 (by decide), nn 5⟩
  · exact ⟨a4, ne 4 (by decide), nn 4⟩
  · exact ⟨a3, ne 3 (by decide), nn 3⟩
  · exact ⟨a2, ne 2 (by decide), nn 2⟩
  · exact ⟨a1, ne 1 (by decide), nn 1⟩
theorem nout0 {L : Addr} : ¬ Out L (L + 0) := fun q => q.1 rfl
theorem nout1 {L : Addr} : ¬ Out L (L + 1) := fun q => q.2.1 rfl
theorem nout2 {L : Addr} : ¬ Out L (L + 2) := fun q => q.2.2.1 rfl
theorem nout3 {L : Addr} : ¬ Out L (L + 3) := fun q => q.2.2.2.1 rfl
theorem nout4 {L : Addr} : ¬ Out L (L + 4) := fun q => q.2.2.2.2.1 rfl
theorem nout5 {L : Addr} : ¬ Out L (L + 5) := fun q => q.2.2.2.2.2.1 rfl
theorem nout6 {L : Addr} : ¬ Out L (L + 6) := fun q => q.2.2.2.2.2.2 rfl
theorem LawS.cel (i : Nat) {v : Value} (S : LawS base L h m c1 c2 c3 c4 c5 c6) (hi : 0 < i) (hv : h'.IsCell (L + i) (some v)) (sb : Heap.SameBut (L + i) h h') :
    LawS base L h' m (if i = 1 then some v else c1) (if i = 2 then some v else c2) (if i = 3 then some v else c3) (if i = 4 then some v else c4) (if i = 5 then some v else c5) (if i = 6 then some v else c6) := by
  have cl : ∀ (j : Nat) (c : Option Value), h.IsCell (L + j) c → h'.IsCell (L + j) (if i = j then some v else c) := fun j c x => by
    by_cases e : i = j
    · rw [if_pos e, ← e]; exact hv
    · rw [if_neg e]; exact cell_at x fun o q => sb.extBut _ o (fun z => e (Nat.add_left_cancel z).symm) q
  refine ⟨⟨S.F.ns.at' fun o e => sb.extBut L o (Nat.ne_of_lt (Nat.lt_add_of_pos_right hi)) e, fun b o e => sb.extBut b o ?_ (S.F.keep b o e), S.F.above⟩, cl 1 _ S.k1, cl 2 _ S.k2, cl 3 _ S.k3, cl 4 _ S.k4, cl 5 _ S.k5, cl 6 _ S.k6⟩
  exact Nat.ne_of_lt (Nat.lt_of_lt_of_le (Heap.lt_size e) (Nat.le_trans S.F.above (Nat.le_add_right _ _)))
end
end Mine
end

section
open PySem PySem.W PyProof.Rows PyProof.V PySem.Calls PySem.Spec
set_option Elab.async false
set_option maxRecDepth 100000
namespace Mine
end Mine
end

section
open PySem PySem.W PyProof.Rows PyProof.V PySem.Calls PySem.Spec
set_option Elab.async false
set_option maxRecDepth 100000
namespace Mine
section
variable {prog : Program} {w : World} {A : Around} {E : Value → Shared → Prop} {env : Env}
noncomputable def Src (prog : Program) (w : World) (A : Around) (target iter : PySem.Expr) (env : Env) (E : Value → Shared → Prop) (s : Shared) (n : Nat) (P : Nat → Value → Prop) (wr : List Addr) : Prop :=
  ∀ Q : Value → Shared → Prop, (∀ h₂ tk I fp St, Walks prog w A I fp [I] n P St → (∀ i v (s' : Shared) (Q' : Unit → Shared → Prop) (E' : Value → Shared → Prop), St i s'.heap → Q' () s' → wpAny (model prog w) A (letOwnedTupleGo target (.ref I) v) Q' E' s') →
    St 0 h₂ → (∀ b ∈ fp, b < h₂.objs.size) → (∀ b ∈ wr, b ∉ fp ∧ b < h₂.objs.size) → Kept s.heap h₂ → s.heap.objs.size ≤ I → Q (.ref I) { s with heap := h₂, toks := tk }) →
    wpAny (model prog w) A (eval iter env) (fun xv s₁ => wpAny (model prog w) A (pyIter xv) Q E s₁) E s
theorem src_list {target iter : PySem.Expr} {s : Shared} {items : List Value} {wr : List Addr} (hh : A.handled = none) (hwr : ∀ b ∈ wr, b < s.heap.objs.size)
    (hiter : ∀ Q' : Value → Shared → Prop, (∀ h₁ tk l, Kept s.heap h₁ → s.heap.objs.size ≤ h₁.objs.size → h₁.IsList l items.toArray → l ∉ wr → Q' (.ref l) { s with heap := h₁, toks := tk }) → wpAny (model prog w) A (eval iter env) Q' E s) :
    Src prog w A target iter env E s items.length (fun i v => items[i]? = some v) wr := by
  intro Q hQ
  refine hiter _ fun h₁ tk l k₁ z₁ hl hlw => ?_
  obtain ⟨ol, hol, _⟩ := id hl
  have hll := Heap.lt_size hol
  have W : Walks prog w A h₁.objs.size [h₁.objs.size, l] [h₁.objs.size] items.toArray.size (fun i v => items.toArray[i]? = some v) (fun i h => h.IsListIter h₁.objs.size l i ∧ h.IsList l items.toArray) := Walks.list (prog := prog) (w := w) hh h₁.objs.size l (Nat.ne_of_lt hll) items.toArray
  simp only [List.size_toArray, List.getElem?_toArray] at W
  refine wpAny_pyIter_list hl (hQ _ tk h₁.objs.size [h₁.objs.size, l] _ W (fun i v s' Q' E' st q => letGo_listiter st.1 q) ⟨⟨_, Heap.get?_push_size _ rfl, rfl, rfl⟩, hl.push _⟩ ?_ ?_ (fun b o e => Heap.get?_push_of_some _ (k₁ b o e)) ?_)
  · intro b hb
    simp only [List.mem_cons, List.mem_nil_iff, or_false] at hb
    rw [Heap.size_push]
    rcases hb with rfl | rfl
    · exact Nat.lt_succ_self _
    · exact Nat.lt_succ_of_lt hll
  · intro b hb
    have h1 := Nat.lt_of_lt_of_le (hwr b hb) z₁
    refine ⟨?_, by rw [Heap.size_push]; exact Nat.lt_succ_of_lt h1⟩
    simp only [List.mem_cons, List.mem_nil_iff, or_false]
    rintro (q | q)
    · exact Nat.ne_of_lt h1 q
    · exact hlw (q ▸ hb)
  · exact z₁
theorem src_tuple {target iter : PySem.Expr} {s : Shared} {items : List Value} {wr : List Addr} (hh : A.handled = none) (hwr : ∀ b ∈ wr, b < s.heap.objs.size)
    (hiter : ∀ Q' : Value → Shared → Prop, (∀ h₁ tk l, Kept s.heap h₁ → s.heap.objs.size ≤ h₁.objs.size → IsTup h₁ l items.toArray → l ∉ wr → Q' (.ref l) { s with heap := h₁, toks := tk }) → wpAny (model prog w) A (eval iter env) Q' E s) :
    Src prog w A target iter env E s items.length (fun i v => items[i]? = some v) wr := by
  intro Q hQ
  refine hiter _ fun h₁ tk l k₁ z₁ hl hlw => ?_
  obtain ⟨ol, hol, _⟩ := id hl
  have hll := Heap.lt_size hol
  have W : Walks prog w A h₁.objs.size [h₁.objs.size, l] [h₁.objs.size] items.toArray.size (fun i v => items.toArray[i]? = some v) (fun i h => h.IsTupleIter h₁.objs.size l i ∧ h.IsTuple l items.toArray) := Walks.tuple (prog := prog) (w := w) hh h₁.objs.size l (Nat.ne_of_lt hll) items.toArray
  simp only [List.size_toArray, List.getElem?_toArray] at W
  refine wpAny_pyIter_tuple hl (hQ _ tk h₁.objs.size [h₁.objs.size, l] _ W (fun i v s' Q' E' st q => letGo_tupleiter st.1 q) ⟨⟨_, Heap.get?_push_size _ rfl, rfl, rfl⟩, IsTup.push hl _⟩ ?_ ?_ (fun b o e => Heap.get?_push_of_some _ (k₁ b o e)) ?_)
  · intro b hb
    simp only [List.mem_cons, List.mem_nil_iff, or_false] at hb
    rw [Heap.size_push]
    rcases hb with rfl | rfl
    · exact Nat.lt_succ_self _
    · exact Nat.lt_succ_of_lt hll
  · intro b hb
    have h1 := Nat.lt_of_lt_of_le (hwr b hb) z₁
    refine ⟨?_, by rw [Heap.size_push]; exact Nat.lt_succ_of_lt h1⟩
    simp only [List.mem_cons, List.mem_nil_iff, or_false]
    rintro (q | q)
    · exact Nat.ne_of_lt h1 q
    · exact hlw (q ▸ hb)
  · exact z₁

theorem letGo_rangeiter {target : PySem.Expr} {I : Addr} {x left step : Int} {v : Value} {Q' : Unit → Shared → Prop} {s' : Shared} (hit : IsRangeIter s'.heap I x left step) (h : Q' () s') :
    wpAny (model prog w) A (letOwnedTupleGo target (.ref I) v) Q' E s' := by
  have ho : s'.heap.get? I = some _ := hit
  unfold letOwnedTupleGo
  cases target <;> first
    | exact wpAny_pure h
    | (cases v <;> first
        | exact wpAny_pure h
        | (refine wpAny_bind (wpAny_load ho ?_)
           exact wpAny_pure h))
theorem src_range {target iter : PySem.Expr} {s : Shared} {n : Nat} {wr : List Addr} (hh : A.handled = none) (hwr : ∀ b ∈ wr, b < s.heap.objs.size) (hsm : Builtin.Range.small 0 (n : Int) 1 = true) (hrs : Builtin.Range.rangeSize 0 (n : Int) 1 = (n : Int))
    (hiter : ∀ Q' : Value → Shared → Prop, (∀ r h₁ tk t u v, Kept s.heap h₁ → s.heap.objs.size ≤ h₁.objs.size → IsRange h₁ r 0 (n : Int) 1 t u v → Q' (.ref r) { s with heap := h₁, toks := tk }) → wpAny (model prog w) A (eval iter env) Q' E s) :
    Src prog w A target iter env E s n (fun i v => ∃ t, v = .int (0 + (i : Int)) t) wr := by
  intro Q hQ
  refine hiter _ fun r h₁ tk t u v k₁ z₁ hr => wpAny_pyIter_range hr hsm ?_
  rw [hrs]
  have st0 : IsRangeIter (h₁.push { cls := .type "range_iterator", data := .fields #[rawInt 0, rawInt (n : Int), rawInt 1] }) h₁.objs.size (0 + ((0 : Nat) : Int) * 1) ((n : Int) - ((0 : Nat) : Int)) 1 := by
    have := Heap.get?_push_size h₁ (o := { cls := .type "range_iterator", data := .fields #[rawInt 0, rawInt (n : Int), rawInt 1] }) rfl
    simpa using this
  refine hQ _ tk h₁.objs.size [h₁.objs.size] _ (LCg.range_walks (I := h₁.objs.size) hh 0 n) (fun i v s' Q' E' st q => letGo_rangeiter st q) st0 ?_ ?_ (fun b o e => Heap.get?_push_of_some _ (k₁ b o e)) z₁
  · intro b hb
    simp only [List.mem_singleton] at hb
    rw [hb, Heap.size_push]
    exact Nat.lt_succ_self _
  · intro b hb
    have h1 := Nat.lt_of_lt_of_le (hwr b hb) z₁
    refine ⟨?_, by rw [Heap.size_push]; exact Nat.lt_succ_of_lt h1⟩
    simp only [List.mem_singleton]
    exact Nat.ne_of_lt h1
noncomputable def Binds (prog : Program) (w : World) (A : Around) (env : Env) (scope : Scope) (cl : List (Str × Addr)) (target : PySem.Expr) (ld : Value → (Str → Option Value) → Prop) (P : Nat → Value → Prop) (wr : List Addr) (s : Shared) : Prop :=
  ∀ C i v h d tk E' (Q : Unit → Shared → Prop) m, P i v → (∀ b o, b ∉ wr → s.heap.get? b = some o → h.get? b = some o) → h.Ns C m →
    (∀ h' tk' m', h'.Ns C m' → ld v m' → (∀ b o, b ≠ C → h.get? b = some o → h'.get? b = some o) → Q () { s with heap := h', drawn := d, toks := tk' }) →
    wpAny (model prog w) A (assign target (compEnvC scope cl C env) v) Q E' { s with heap := h, drawn := d, toks := tk }
theorem binds_name {x : Str} {px : Pos} {scope : Scope} {cl : List (Str × Addr)} {P : Nat → Value → Prop} {wr : List Addr} {s : Shared}
    (hx : ∀ C, (compEnvC scope cl C env).kindOf x = some .local)
    (hp : ∀ C, ((compEnvC scope cl C env).scope.kind == .class || ((compEnvC scope cl C env).scope.kind == .module && (compEnvC scope cl C env).locals != (compEnvC scope cl C env).globals)) = false)
    (hloc : ∀ C, (compEnvC scope cl C env).locals = C) : Binds prog w A env scope cl (.Name x px) (fun v m => m x = some v) P wr s := by
  intro C i v h d tk E' Q m _ _ hn hQ
  refine wpAny_assign_Name (wpAny_storeName_local (hx _) (by rw [hloc]; exact hn) (fun h' hn' hs' => ?_) (hp _))
  rw [hloc] at hn' hs'
  exact hQ h' _ _ hn' (by simp) fun b o hb e => hs'.extBut b o hb e
theorem binds_pair {x y : Str} {px py tp : Pos} {kk : Nat} {scope : Scope} {cl : List (Str × Addr)} {P : Nat → Value → Prop} {wr : List Addr} {s : Shared} (hh : A.handled = none) (hxy : x ≠ y)
    (hP : ∀ i v, P i v → ∃ t p q, v = .ref t ∧ IsTup s.heap t #[p, q] ∧ t ∉ wr)
    (hx : ∀ C, (compEnvC scope cl C env).kindOf x = some .local) (hy : ∀ C, (compEnvC scope cl C env).kindOf y = some .local)
    (hp : ∀ C, ((compEnvC scope cl C env).scope.kind == .class || ((compEnvC scope cl C env).scope.kind == .module && (compEnvC scope cl C env).locals != (compEnvC scope cl C env).globals)) = false)
    (hloc : ∀ C, (compEnvC scope cl C env).locals = C) : Binds prog w A env scope cl (.Tuple [.Name x px, .Name y py] kk tp) (fun v m => ∀ t p q, v = .ref t → IsTup s.heap t #[p, q] → m x = some p ∧ m y = some q) P wr s := by
  intro C i v h d tk E' Q m hv hk hn hQ
  obtain ⟨t, p, q, rfl, ht, htw⟩ := hP i v hv
  obtain ⟨o, ho, r⟩ := id ht
  refine kcp_assign (x := p) (y := q) hh ⟨o, hk t o htw ho, r⟩ (hx _) (hy _) (hp _) (by rw [hloc]; exact hn) fun h' tk' hn' k' => ?_
  rw [hloc] at hn' k'
  refine hQ h' tk' _ hn' (fun t' p' q' e1 e2 => ?_) fun b o hb e => k' b o hb e
  cases e1
  obtain ⟨o2, ho2, _, n2, hd2⟩ := e2
  obtain ⟨o3, ho3, _, n3, hd3⟩ := ht
  rw [ho2] at ho3
  cases ho3
  rw [hd2] at hd3
  injection hd3 with e3 e4
  simp only [Array.mk.injEq, List.cons.injEq, and_true] at e3
  obtain ⟨rfl, rfl⟩ := e3
  exact ⟨by simp [hxy], by simp⟩
noncomputable abbrev Turn (prog : Program) (w : World) (A : Around) (env : Env) (scope : Scope) (cl : List (Str × Addr)) (elt : PySem.Expr) (ifs : List PySem.Expr) (J : Nat → List Value → Heap → Prop) (wr : List Addr) (s : Shared) (C : Addr) (i : Nat) (ys : List Value) (h : Heap) (d : Drawn) (tk : Nat) (E' : Value → Shared → Prop) : Prop :=
  wpAny (model prog w) A (tests ifs (compEnvC scope cl C env)) (fun ok s₄ => Halt (if ok = true then
      wpAny (model prog w) A (eval elt (compEnvC scope cl C env)) (fun y s₅ => Halt (TEnd wr s h (J (i + 1) (ys ++ [y])) s₅)) E' s₄
    else TEnd wr s h (J (i + 1) ys) s₄)) E' { s with heap := h, drawn := d, toks := tk }
theorem comp_law {s : Shared} {elt target iter : PySem.Expr} {ifs : List PySem.Expr} {scope : Scope} {cl : List (Str × Addr)} {pos : Pos} {Q : Value → Shared → Prop} {n : Nat} {P : Nat → Value → Prop} {wr : List Addr} (ld : Value → (Str → Option Value) → Prop) (J : Nat → Nat → List Value → Heap → Prop)
    (hclos : closureFor scope env = pure cl) (hcell : ∀ y ∈ scope.names, y.2 ≠ .cell) (hkind : scope.kind = .function)
    (hnames : ∀ y ∈ scope.names, y.2 = .local → scope.names.lookup y.1 = some .local)
    (src : Src prog w A target iter env E s n P wr) (hsz : n ≤ sizeLine) (J0 : ∀ N h, (∀ b o, s.heap.get? b = some o → h.get? b = some o) → J N 0 [] h)
    (Js : ∀ N i ys h h', (∀ b o, b < s.heap.objs.size ∨ N ≤ b → h.get? b = some o → h'.get? b = some o) → J N i ys h → J N i ys h')
    (hb : Binds prog w A env scope cl target ld P wr s)
    (turn : ∀ N C i v h d tk m ys E', i < n → P i v → (∀ b o, b ∉ wr → s.heap.get? b = some o → h.get? b = some o) → N ≤ h.objs.size → N = C + 1 → s.heap.objs.size ≤ C → h.Ns C m → ld v m → J N i ys h → ys.length ≤ i → Turn prog w A env scope cl elt ifs (J N) wr s C i ys h d tk E')
    (hQ : ∀ N D h' d' tk (ys : List Value), h'.IsList D ys.toArray → J N n ys h' → ys.length ≤ n → s.heap.objs.size ≤ D → D < N → (∀ b o, b ∉ wr → s.heap.get? b = some o → h'.get? b = some o) → Q (.ref D) { s with heap := h', drawn := d', toks := tk })
    (hs : ∀ v, foldedSetIterable iter env v = pure v := by intro _; rfl) :
    wpAny (model prog w) A (eval (.ListComp elt [⟨target, iter, ifs, 0⟩] scope pos) env) Q E s := by
  rw [eval_ListComp]
  refine wpAny_comprehension_free (use := none) rfl hs hclos hkind hnames (wpAny_mono (src (fun it s₂ => wpAny (model prog w) A (newList []) (fun acc s₃ =>
      wpAny (model prog w) A (newFunctionEnv scope env.globals cl [] env.qual none .none (some env)) (fun cenv s₄ =>
        codeAny (model prog w) A (.compStart (.ListComp elt [⟨target, iter, ifs, 0⟩] scope pos) 0 it acc { cenv with scope := relabel scope env }) (compPost (model prog w) A E none Q acc cenv.locals) s₄) E s₃) E s₂) ?_) (fun _ _ e => e) fun _ _ e => e)
  intro h₂ tk₂ I fp St W go st0 hfp hwr k₂ hI
  have hIlt : I < h₂.objs.size := hfp I (W.sub I (by simp))
  have z₂ : s.heap.objs.size ≤ h₂.objs.size := Nat.le_trans hI (Nat.le_of_lt hIlt)
  have neI : ∀ b o, s.heap.get? b = some o → b ≠ I := fun b o e => Nat.ne_of_lt (Nat.lt_of_lt_of_le (Heap.lt_size e) hI)
  refine comp_core (s₂ := { s with heap := h₂, toks := tk₂ }) (J := J (h₂.objs.size + 2)) (RR := fun acc C => compPost (model prog w) A E none Q acc C) ld hcell hkind W hsz st0 hfp hwr ⟨?_, ?_, ?_, ?_⟩ ?_
  · exact J0 _ _ k₂
  · intro i ys h h' k hJ
    refine Js _ i ys h h' (fun b o hb e => k b o ?_ ?_ ?_ e) hJ
    all_goals ((try dsimp only); intro q; subst q; rcases hb with hb | hb)
    · exact absurd hI (Nat.not_le.mpr hb)
    · exact absurd (Nat.lt_of_lt_of_le (Nat.lt_of_lt_of_le hIlt (Nat.le_add_right _ 2)) hb) (Nat.lt_irrefl _)
    · exact absurd z₂ (Nat.not_le.mpr hb)
    · exact absurd hb (Nat.not_le.mpr (Nat.lt_add_of_pos_right (by decide)))
    · exact absurd (Nat.le_trans z₂ (Nat.le_succ _)) (Nat.not_le.mpr hb)
    · exact absurd hb (Nat.not_le.mpr (Nat.lt_succ_self _))
  · intro i v h d tk E' Q' m hi hv st hk hn hQ'
    refine go _ v _ _ _ st (hb _ i v h d tk E' Q' m hv (fun b o b1 e => hk b o b1 (neI b o e) (k₂ b o e)) hn hQ')
  · intro i v h d tk m ys E' hi hv hk hsz' hn hld hJ hyl
    exact turn _ _ i v h d tk m ys E' hi hv (fun b o b1 e => hk b o b1 (neI b o e) (k₂ b o e)) hsz' rfl (Nat.le_trans z₂ (Nat.le_succ _)) hn hld hJ hyl
  · intro h' d' tk m ys hn hl hJ hyl hk
    refine ⟨m, hn, fun h₃ sb₃ => ?_⟩
    have hneC : ∀ b o, s.heap.get? b = some o → b ≠ h₂.objs.size + 1 := fun b o e => Nat.ne_of_lt (Nat.lt_succ_of_lt (Nat.lt_of_lt_of_le (Heap.lt_size e) z₂))
    refine hQ (h₂.objs.size + 2) h₂.objs.size h₃ d' tk ys (hl.at fun o e => sb₃.extBut _ o (Nat.ne_of_lt (Nat.lt_succ_self _)) e) (Js _ _ _ _ _ (fun b o hb e => sb₃.extBut b o ?_ e) hJ) hyl z₂ (Nat.lt_add_of_pos_right (by decide)) fun b o b1 e => sb₃.extBut b o (hneC b o e) (hk b o b1 (neI b o e) (k₂ b o e))
    dsimp only
    intro q; subst q
    rcases hb with hb | hb
    · exact absurd (Nat.le_trans z₂ (Nat.le_succ _)) (Nat.not_le.mpr hb)
    · exact absurd hb (Nat.not_le.mpr (Nat.lt_succ_self _))
theorem assign_law {s : Shared} {elt target iter : PySem.Expr} {ifs : List PySem.Expr} {scope : Scope} {cl : List (Str × Addr)} {pos spos py : Pos} {y : Str} {Q : Flow → Shared → Prop} {n : Nat} {P : Nat → Value → Prop} {mL : Str → Option Value} (ld : Value → (Str → Option Value) → Prop) (J : Nat → Nat → List Value → Heap → Prop)
    (hsw : swapsWith (.ListComp elt [⟨target, iter, ifs, 0⟩] scope pos) (some (.Name y py)) spos.line env = pure true)
    (hclos : closureFor scope env = pure cl) (hcell : ∀ y ∈ scope.names, y.2 ≠ .cell) (hkind : scope.kind = .function)
    (hnames : ∀ y ∈ scope.names, y.2 = .local → scope.names.lookup y.1 = some .local)
    (hy : env.kindOf y = some .local) (hp : (env.scope.kind == .class || (env.scope.kind == .module && env.locals != env.globals)) = false) (hnL : s.heap.Ns env.locals mL)
    (src : Src prog w A target iter env E s n P []) (hsz : n ≤ sizeLine) (J0 : ∀ N h, (∀ b o, s.heap.get? b = some o → h.get? b = some o) → J N 0 [] h)
    (Js : ∀ N i ys h h', (∀ b o, N ≤ b → h.get? b = some o → h'.get? b = some o) → J N i ys h → J N i ys h')
    (hb : Binds prog w A env scope cl target ld P [] s)
    (turn : ∀ N C i v h d tk m ys E', i < n → P i v → (∀ b o, s.heap.get? b = some o → h.get? b = some o) → N ≤ h.objs.size → N = C + 1 → s.heap.objs.size ≤ C → h.Ns C m → ld v m → J N i ys h → ys.length ≤ i → Turn prog w A env scope cl elt ifs (J N) [] s C i ys h d tk E')
    (hQ : ∀ N D h' d' tk (ys : List Value), h'.IsList D ys.toArray → J N n ys h' → ys.length ≤ n → s.heap.objs.size ≤ D → D < N → h'.Ns env.locals (fun z => if z = y then some (.ref D) else mL z) → (∀ b o, b ≠ env.locals → s.heap.get? b = some o → h'.get? b = some o) → Q .next { s with heap := h', drawn := d', toks := tk })
    (hs : ∀ v, foldedSetIterable iter env v = pure v := by intro _; rfl) :
    wpAny (model prog w) A (exec (.Assign [.Name y py] (.ListComp elt [⟨target, iter, ifs, 0⟩] scope pos) spos) env) Q E s := by
  rw [exec_Assign_Name_used _ _ _ _ hsw]
  refine wpAny_bind (wpAny_standAt (wpAny_bind ?_))
  show wpAny _ A (do let _ ← comprehension (.ListComp elt [⟨target, iter, ifs, 0⟩] scope pos) scope env _ (newList []) false (eval iter env) (some (assign (.Name y py) env))) _ _ s
  refine wpAny_bind (wpAny_mono (wpAny_comprehension_free (use := some (assign (.Name y py) env)) (Q := fun _ s' => Q .next s') rfl hs hclos hkind hnames (wpAny_mono (src (fun it s₂ => wpAny (model prog w) A (newList []) (fun acc s₃ =>
      wpAny (model prog w) A (newFunctionEnv scope env.globals cl [] env.qual none .none (some env)) (fun cenv s₄ =>
        codeAny (model prog w) A (.compStart (.ListComp elt [⟨target, iter, ifs, 0⟩] scope pos) 0 it acc { cenv with scope := relabel scope env }) (compPost (model prog w) A E (some (assign (.Name y py) env)) (fun _ s' => Q .next s') acc cenv.locals) s₄) E s₃) E s₂) ?_) (fun _ _ e => e) fun _ _ e => e)) (fun _ s' hq => wpAny_pure (wpAny_pure hq)) fun _ _ e => e)
  intro h₂ tk₂ I fp St W go st0 hfp hwr k₂ hI
  have hIlt : I < h₂.objs.size := hfp I (W.sub I (by simp))
  have z₂ : s.heap.objs.size ≤ h₂.objs.size := Nat.le_trans hI (Nat.le_of_lt hIlt)
  have neI : ∀ b o, s.heap.get? b = some o → b ≠ I := fun b o e => Nat.ne_of_lt (Nat.lt_of_lt_of_le (Heap.lt_size e) hI)
  refine comp_core (s₂ := { s with heap := h₂, toks := tk₂ }) (J := J (h₂.objs.size + 2)) (RR := fun acc C => compPost (model prog w) A E (some (assign (.Name y py) env)) (fun _ s' => Q .next s') acc C) ld hcell hkind W hsz st0 hfp hwr ⟨?_, ?_, ?_, ?_⟩ ?_
  · exact J0 _ _ k₂
  · intro i ys h h' k hJ
    refine Js _ i ys h h' (fun b o hb e => k b o ?_ ?_ ?_ e) hJ
    all_goals ((try dsimp only); intro q; subst q)
    · exact absurd (Nat.lt_of_lt_of_le (Nat.lt_of_lt_of_le hIlt (Nat.le_add_right _ 2)) hb) (Nat.lt_irrefl _)
    · exact absurd hb (Nat.not_le.mpr (Nat.lt_add_of_pos_right (by decide)))
    · exact absurd hb (Nat.not_le.mpr (Nat.lt_succ_self _))
  · intro i v h d tk E' Q' m hi hv st hk hn hQ'
    refine go _ v _ _ _ st (hb _ i v h d tk E' Q' m hv (fun b o b1 e => hk b o b1 (neI b o e) (k₂ b o e)) hn hQ')
  · intro i v h d tk m ys E' hi hv hk hsz' hn hld hJ hyl
    exact turn _ _ i v h d tk m ys E' hi hv (fun b o e => hk b o (by simp) (neI b o e) (k₂ b o e)) hsz' rfl (Nat.le_trans z₂ (Nat.le_succ _)) hn hld hJ hyl
  · intro h' d' tk m ys hn hl hJ hyl hk
    dsimp only at hn hl hk
    have hLs : env.locals < s.heap.objs.size := by
      obtain ⟨o, _, _, ho, _⟩ := hnL
      exact Heap.lt_size ho
    have hL2 : env.locals < h₂.objs.size := Nat.lt_of_lt_of_le hLs z₂
    have hLC : env.locals ≠ h₂.objs.size + 1 := Nat.ne_of_lt (Nat.lt_succ_of_lt hL2)
    have kk : ∀ b o, s.heap.get? b = some o → h'.get? b = some o := fun b o e => hk b o (by simp) (neI b o e) (k₂ b o e)
    show wpAny _ A (assign (.Name y py) env (.ref h₂.objs.size)) _ _ _
    refine wpAny_assign_Name (wpAny_storeName_local hy (hnL.at' fun o e => kk _ o e) (fun h₃ hn₃ hs₃ => ?_) hp)
    refine ⟨m, hn.sameBut hs₃ (Ne.symm hLC), fun h₄ hs₄ => ?_⟩
    have hneC : ∀ b o, s.heap.get? b = some o → b ≠ h₂.objs.size + 1 := fun b o e => Nat.ne_of_lt (Nat.lt_succ_of_lt (Nat.lt_of_lt_of_le (Heap.lt_size e) z₂))
    refine hQ (h₂.objs.size + 2) h₂.objs.size h₄ d' _ ys (hl.at fun o e => hs₄.extBut _ o (Nat.ne_of_lt (Nat.lt_succ_self _)) (hs₃.extBut _ o (Nat.ne_of_gt hL2) e)) (Js _ _ _ _ _ (fun b o hb e => hs₄.extBut b o ?_ (hs₃.extBut b o ?_ e)) hJ) hyl z₂ (Nat.lt_add_of_pos_right (by decide)) (hn₃.sameBut hs₄ hLC) fun b o b1 e => hs₄.extBut b o (hneC b o e) (hs₃.extBut b o b1 (kk b o e))
    · intro q; subst q
      exact absurd hb (Nat.not_le.mpr (Nat.lt_succ_self _))
    · intro q; subst q
      exact absurd (Nat.lt_of_lt_of_le (Nat.lt_of_lt_of_le hL2 (Nat.le_add_right _ 2)) hb) (Nat.lt_irrefl _)
end
end Mine
end

section
open PySem PySem.W PyProof.Rows Mine
local macro_rules | `(tactic| walk_at "call ref") => `(tactic| (k_here; refine stop_here ?_))
local macro_rules | `(tactic| walk_at "newList") => `(tactic| (k_here; refine stop_here ?_))
local macro_rules | `(tactic| walk_at "storeName") => `(tactic| (k_here; refine stop_here ?_))
local macro_rules | `(tactic| walk_at "newTuple") => `(tactic| (k_here; refine stop_here ?_))
local macro_rules | `(tactic| walk_at "eval ListComp") => `(tactic| (k_here; refine stop_here ?_))
local macro_rules | `(tactic| walk_at "exec Assign cons ListComp") => `(tactic| (k_here; refine stop_here ?_))
local macro_rules | `(tactic| walk_at "subscriptTail Name Name ref int") => `(tactic| (k_here; refine stop_here ?_))
local macro_rules | `(tactic| walk_at "subscriptTail Name Constant ref int") => `(tactic| (k_here; refine stop_here ?_))
local macro_rules | `(tactic| walk_at "subscriptTail Name Slice ref ref") => `(tactic| (k_here; refine stop_here ?_))
local macro_rules | `(tactic| walk_at "compareOp NotEq ref ref") => `(tactic| (k_here; refine stop_here ?_))
local macro_rules | `(tactic| walk_at "compareOp Eq ref ref") => `(tactic| (k_here; refine stop_here ?_))
local macro_rules | `(tactic| walk_at "compareOp In str ref") => `(tactic| (k_here; refine stop_here ?_))
local macro_rules | `(tactic| walk_at "compareOp NotIn str ref") => `(tactic| (k_here; refine stop_here ?_))
local macro_rules | `(tactic| walk_at "call builtin:sorted") => `(tactic| (k_here; refine stop_here ?_))
local macro_rules | `(tactic| walk_at "call builtin:str.join") => `(tactic| (k_here; refine stop_here ?_))
local macro_rules | `(tactic| walk_at "call builtin:list.append") => `(tactic| (k_here; refine stop_here ?_))
local macro_rules | `(tactic| walk_at "pyIter ref") => `(tactic| (k_here; refine stop_here ?_))
local macro_rules | `(tactic| walk_at "exec Try") => `(tactic| (k_here; refine stop_here ?_))
local macro_rules | `(tactic| walk_at "binaryOp Add ref ref") => `(tactic| (k_here; refine stop_here ?_))
local macro_rules | `(tactic| walk_at "exec For Name Call cons nil") => `(tactic| (k_here; refine wpAny_For ?_ (by intro _; with_unfolding_all rfl)))
local macro_rules | `(tactic| walk_at "exec For Name List cons nil") => `(tactic| (k_here; refine wpAny_For ?_ (by intro _; with_unfolding_all rfl)))
section
open PySem PySem.W PyProof.Rows
set_option Elab.async false
set_option maxRecDepth 100000
namespace Mine
noncomputable def lawFd (p : Params) : FuncData := match (hd.heap_39 p).lookup 133 with
  | some o => (match o.data with | .func fd => fd | _ => default)
  | none => default
noncomputable def lawBody (p : Params) : List Stmt := match (lawFd p).body with | .stmts b => b | _ => []
noncomputable abbrev lawEnv (p : Params) (L fa : Addr) (cd : Value) : Env := envOfC (Str.ofString "law") (lawFd p).scope L fa cd
theorem join_wd : ∀ k, k < 14 → Txt.join (Str.ofString ".") ((pUp 6).getD k []) = wd k := by decide +kernel
theorem pUp6_ok : ∀ p ∈ pUp 6, ((p.map (·.length)).sum + p.length ≤ 100 ∧ p.length < 1000) ∧ ∀ x ∈ p, PyData.strOk x = true := by decide +kernel
noncomputable def WdAt (h : Heap) (a : Addr) : Prop := ∃ ws, h.IsList a (List.toArray ws) ∧ StrsAre ws W14
set_option pp.deepTerms false
set_option pp.deepTerms.threshold 6
set_option maxHeartbeats 4000000
theorem part_a1 {w : World} {A : Around} {mg mb : Str → Option Value} {mean : ExcName → Option Value} {base : Heap} {L fa : Addr} {cd : Value} {m : Str → Option Value}
    {s : Shared} {Q : Flow → Shared → Prop} {E : Value → Shared → Prop} 
    (X : (hd.heap_39 w.params).In base) (T : Top hd.view_39 LO mean mg mb base) (S : LawS base L s.heap m none none none none none none)
    (hd1 : A.depth + 100 < recursionLimit) (hh : A.handled = none)
    (hQ : ∀ h d tk ev wa, LawS base L h m (some (.ref ev)) (some (.ref wa)) none none none none → EvAt h ev (pUp 6) → WdAt h wa → wpAny (model PR w) A (execs ((lawBody w.params).drop 2) (lawEnv w.params L fa cd)) Q E { s with heap := h, drawn := d, toks := tk }) :
    wpAny (model PR w) A (execs (lawBody w.params) (lawEnv w.params L fa cd)) Q E s := by
  with_unfolding_all show wpAny _ _ (execs (_ :: _) (envOfC _ (Scope.mk _ _ _ _ _) _ _ _)) _ _ _
  refine S.opn fun o1 o2 o3 o4 o5 o6 N d1 d2 d3 d4 d5 d6 => ?_
  have F := S.F
  w_on
  k_steps
  show wpAny _ _ (call _ []) _ _ _
  refine every_spec (X.keeps F.keep) (T.keeps F.keep) (ltl hd1 (by decide)) hh ?_
  intro ev h1 d1' tk1 k1 hE hev
  have S1 := S.keeps k1
  clear S F N o1 o2 o3 o4 o5 o6 d1 d2 d3 d4 d5 d6
  show wpAny _ _ (storeName _ _ _) _ _ _
  refine wpAny_storeName_cell rfl rfl (c := L + 1) rfl S1.k1 fun h2 hv2 sb2 => ?_
  have S2 := S1.cel 1 (by decide) hv2 sb2
  have kl2 : KL L h1 h2 := .but sb2 nout1
  obtain ⟨as, ha1, ha2, ha3⟩ := hE
  have hE2 : EvAt h2 ev (pUp 6) := ⟨as, ha1.at fun o e => kl2 ev o (S1.out_list ha1) e, ha2, fun i a p e1 e2 => let ⟨ws, q1, q2⟩ := ha3 i a p e1 e2; ⟨ws, q1.at fun o e => kl2 a o (S1.out_list q1) e, q2⟩⟩
  clear ha1 ha2 ha3 S1 sb2 hv2
  obtain ⟨as, ha1, ha2, ha3⟩ := hE2
  refine S2.opn fun o1 o2 o3 o4 o5 o6 N d1 d2 d3 d4 d5 d6 => ?_
  have F := S2.F
  have p14 : (pUp 6).length = 14 := pUp_length 6
  k_steps
  show wpAny _ _ (exec _ _) _ _ _
  refine wpAny_Assign_Name ?_ (by rfl)
  refine comp_law (n := (as.map Value.ref).length) (P := fun i v => (as.map Value.ref)[i]? = some v) (wr := []) (ld := fun v m => m (Str.ofString "path") = some v) (J := fun _ i ys _ => StrsAre ys (W14.take i)) (cl := []) (by rfl) (by decide) (by rfl) (by decide) ?src (by rw [List.length_map, ha2, p14]; decide) (fun _ _ _ => .nil) (fun _ _ _ _ _ _ hJ => hJ) (binds_name (fun _ => by rfl) (fun _ => by rfl) (fun _ => rfl)) ?turn ?hQ
  case src =>
    refine src_list hh (by intro b hb; cases hb) fun Q' hq => ?_
    k_steps
    exact hq _ _ _ (Kept.refl _) (Nat.le_refl _) ha1 (by simp)
  case turn =>
    intro N' C i v h d tk m' ys E' hi0 hv hk0 hsz hC0 hC2 hn hm hJ hyl
    have hk : ∀ b o, h2.get? b = some o → h.get? b = some o := fun b o e => hk0 b o (by simp) e
    have hC : L < h2.objs.size := fr_lt S2.F
    refine tests_nil ?_
    rw [if_pos rfl]
    show wpAny _ _ _ _ _ _
    have F7 : Fr base C h m' := ⟨hn, fun b o e => hk b o (S2.F.keep b o e), Nat.le_trans S2.F.above (Nat.le_trans (Nat.le_of_lt hC) hC2)⟩
    have N7 : News base C h [] := .nil
    have hi : i < as.length := by
      rcases Nat.lt_or_ge i as.length with q | q
      · exact q
      · rw [List.getElem?_eq_none (by simpa using q)] at hv; cases hv
    have hi14 : i < 14 := by rw [ha2, p14] at hi; exact hi
    have hip : i < (pUp 6).length := by rw [p14]; exact hi14
    have hvr : v = .ref as[i] := by
      rw [List.getElem?_map, List.getElem?_eq_getElem hi] at hv
      simpa using hv.symm
    subst hvr
    obtain ⟨wi, hwi, swi⟩ := ha3 i as[i] (pUp 6)[i] (List.getElem?_eq_getElem hi) (List.getElem?_eq_getElem hip)
    have hok := pUp6_ok _ (List.getElem_mem hip)
    clear F N
    k_steps
    show wpAny _ _ (call _ [_, _]) _ _ _
    refine join_listW (hwi.at fun o e => hk _ o e) (by simpa using swi) (by decide) (Nat.le_trans hok.1.1 (by decide)) fun t' k => ?_
    refine TEnd.intro h _ _ (fun b o _ e => e) ?_
    have e1 : W14.take (i + 1) = W14.take i ++ [wd i] := by
      rw [List.take_succ]
      congr 1
      rw [W14_at]
      simp [hi14]
    have e2 : Txt.join (Str.ofString ".") (pUp 6)[i] = wd i := by
      have := join_wd i hi14
      rw [List.getD_eq_getElem?_getD, List.getElem?_eq_getElem hip] at this
      exact this
    show StrsAre _ (W14.take (i + 1))
    rw [e1, e2]
    exact strsAre_append hJ (.cons _ _ .nil)
  case hQ =>
    intro N3 D3 h3 d3' tk3 ys hy hJ hyl hsD hDN hk0
    have hk3 : ∀ b o, h2.get? b = some o → h3.get? b = some o := fun b o e => hk0 b o (by simp) e
    have S3 := S2.keeps hk3
    clear F N
    show wpAny _ _ (storeName _ _ _) _ _ _
    refine wpAny_storeName_cell rfl rfl (c := L + 2) rfl S3.k2 fun h4 hv4 sb4 => ?_
    have S4 := S3.cel 2 (by decide) hv4 sb4
    have kl4 : KL L h3 h4 := .but sb4 nout2
    have hEv : EvAt h4 ev (pUp 6) := ⟨as, (ha1.at fun o e => hk3 _ o e).at fun o e => kl4 ev o (S2.out_list ha1) e, ha2, fun i a p e1 e2 => let ⟨ws, q1, q2⟩ := ha3 i a p e1 e2; ⟨ws, (q1.at fun o e => hk3 _ o e).at fun o e => kl4 a o (S2.out_list q1) e, q2⟩⟩
    have hW : WdAt h4 D3 := ⟨ys, hy.at fun o e => kl4 _ o (S3.out_list hy) e, by
      have : W14.take (as.map Value.ref).length = W14 := List.take_of_length_le (by simp [ha2, p14]; decide)
      rw [← this]; exact hJ⟩
    exact hQ h4 _ _ ev _ S4 hEv hW
end Mine
end

section
open PySem PySem.W PyProof.Rows
set_option Elab.async false
set_option maxRecDepth 100000
namespace Mine
theorem c14 {k : Nat} (h : k < 14) : ((k : Nat) : Int) < 14 := by omega
theorem z14 {k : Nat} (h : k < 14) : 0 ≤ 0 + ((k : Nat) : Int) ∧ 0 + ((k : Nat) : Int) < 14 := by omega
theorem z63 {k : Nat} (h : k < 14) : 0 + ((k : Nat) : Int) < 2 ^ 63 := by omega
theorem ztn (k : Nat) : (0 + ((k : Nat) : Int)).toNat = k := by rw [Int.zero_add, Int.toNat_natCast]
theorem fm14 (a : Int) : 0 ≤ a.fmod 14 ∧ a.fmod 14 < 14 := by
  rw [Int.fmod_eq_emod_of_nonneg a (b := 14) (by decide)]
  exact ⟨Int.emod_nonneg _ (by decide), Int.emod_lt_of_pos _ (by decide)⟩
noncomputable def Gd (L : Addr) (h : Heap) (φ : Heap → Prop) : Prop := ∀ h', KL L h h' → φ h'
section
variable {base h h' : Heap} {L : Addr} {m m' : Str → Option Value} {c1 c2 c3 c4 c5 c6 : Option Value} {φ ψ : Heap → Prop}
theorem Gd.mono (g : Gd L h φ) (k : KL L h h') : Gd L h' φ := fun h'' k' => g h'' (k.trans k')
theorem Gd.keeps (g : Gd L h φ) (k : ∀ b o, h.get? b = some o → h'.get? b = some o) : Gd L h' φ := g.mono (.of k)
theorem Gd.now (g : Gd L h φ) : φ h := g h (.refl L h)
theorem Gd.and (g : Gd L h φ) (g' : Gd L h ψ) : Gd L h (fun h => φ h ∧ ψ h) := fun h' k => ⟨g h' k, g' h' k⟩
theorem Gd.imp (g : Gd L h φ) (i : ∀ h, φ h → ψ h) : Gd L h ψ := fun h' k => i h' (g h' k)
theorem LawS.put (S : LawS base L h m c1 c2 c3 c4 c5 c6) (hn : h'.Ns L m') (k : ∀ b o, b ≠ L → h.get? b = some o → h'.get? b = some o) : LawS base L h' m' c1 c2 c3 c4 c5 c6 := by
  have ne : ∀ i : Nat, 0 < i → L + i ≠ L := fun i hi => Nat.ne_of_gt (Nat.lt_add_of_pos_right hi)
  exact ⟨⟨hn, fun b o e => k b o (Nat.ne_of_lt (Nat.lt_of_lt_of_le (Heap.lt_size e) S.F.above)) (S.F.keep b o e), S.F.above⟩, cell_at S.k1 fun o e => k _ o (ne 1 (by decide)) e, cell_at S.k2 fun o e => k _ o (ne 2 (by decide)) e, cell_at S.k3 fun o e => k _ o (ne 3 (by decide)) e,
    cell_at S.k4 fun o e => k _ o (ne 4 (by decide)) e, cell_at S.k5 fun o e => k _ o (ne 5 (by decide)) e, cell_at S.k6 fun o e => k _ o (ne 6 (by decide)) e⟩
theorem KL.butL (k : ∀ b o, b ≠ L → h.get? b = some o → h'.get? b = some o) : KL L h h' := fun b o q e => k b o q.1 e
theorem LawS.lt (S : LawS base L h m c1 c2 c3 c4 c5 c6) : L + 6 < h.objs.size := by
  obtain ⟨o, ho, _⟩ := S.k6
  exact Heap.lt_size ho
theorem LawS.ext (S : LawS base L h m c1 c2 c3 c4 c5 c6) (e : ∀ y, m y = m' y) : LawS base L h m' c1 c2 c3 c4 c5 c6 := (funext e : m = m') ▸ S
theorem out_gt {a : Addr} (h : L + 6 < a) : Out L a :=
  ⟨fun q => absurd h (Nat.not_lt.mpr (q ▸ Nat.le_add_right _ _)), fun q => absurd h (Nat.not_lt.mpr (q ▸ Nat.add_le_add_left (by decide) _)), fun q => absurd h (Nat.not_lt.mpr (q ▸ Nat.add_le_add_left (by decide) _)), fun q => absurd h (Nat.not_lt.mpr (q ▸ Nat.add_le_add_left (by decide) _)),
   fun q => absurd h (Nat.not_lt.mpr (q ▸ Nat.add_le_add_left (by decide) _)), fun q => absurd h (Nat.not_lt.mpr (q ▸ Nat.add_le_add_left (by decide) _)), fun q => absurd h (Nat.not_lt.mpr (q ▸ Nat.le_refl _))⟩
end
noncomputable def PlAt (h : Heap) (a : Addr) (ps : List Int) : Prop := ∃ vs, h.IsList a (List.toArray vs) ∧ IntsAre vs ps
noncomputable def StAt (h : Heap) (a : Addr) (ns : List Str) : Prop := ∃ vs, h.IsList a (List.toArray vs) ∧ StrsAre vs ns
section
variable {base h h' : Heap} {L : Addr} {m : Str → Option Value} {c1 c2 c3 c4 c5 c6 : Option Value}
theorem LawS.gList (S : LawS base L h m c1 c2 c3 c4 c5 c6) {a : Addr} {its : Array Value} (x : h.IsList a its) : Gd L h (fun h => h.IsList a its) := fun h' k => x.at fun o e => k a o (S.out_list x) e
theorem LawS.gTup (S : LawS base L h m c1 c2 c3 c4 c5 c6) {a : Addr} {its : Array Value} (x : IsTup h a its) : Gd L h (fun h => IsTup h a its) := fun h' k => by
  obtain ⟨o, ho, hc, n, hd⟩ := x
  exact ⟨o, k a o (S.out_seq ho hd) ho, hc, n, hd⟩
theorem LawS.gPl (S : LawS base L h m c1 c2 c3 c4 c5 c6) {a : Addr} {ps : List Int} (x : PlAt h a ps) : Gd L h (fun h => PlAt h a ps) := fun h' k => let ⟨vs, q, r⟩ := x; ⟨vs, S.gList q h' k, r⟩
theorem LawS.gSt (S : LawS base L h m c1 c2 c3 c4 c5 c6) {a : Addr} {ns : List Str} (x : StAt h a ns) : Gd L h (fun h => StAt h a ns) := fun h' k => let ⟨vs, q, r⟩ := x; ⟨vs, S.gList q h' k, r⟩
theorem LawS.gEv (S : LawS base L h m c1 c2 c3 c4 c5 c6) {ev : Addr} {P : List (List Str)} (x : EvAt h ev P) : Gd L h (fun h => EvAt h ev P) := fun h' k => by
  obtain ⟨as, ha1, ha2, ha3⟩ := x
  exact ⟨as, ha1.at fun o e => k ev o (S.out_list ha1) e, ha2, fun i a p e1 e2 => let ⟨ws, q1, q2⟩ := ha3 i a p e1 e2; ⟨ws, q1.at fun o e => k a o (S.out_list q1) e, q2⟩⟩
theorem LawS.gWd (S : LawS base L h m c1 c2 c3 c4 c5 c6) {a : Addr} (x : WdAt h a) : Gd L h (fun h => WdAt h a) := fun h' k => let ⟨vs, q, r⟩ := x; ⟨vs, S.gList q h' k, r⟩
noncomputable def Co (ev wa : Addr) (h : Heap) : Prop := EvAt h ev (pUp 6) ∧ WdAt h wa
theorem LawS.in_ {w : World} (S : LawS base L h m c1 c2 c3 c4 c5 c6) (X : (hd.heap_39 w.params).In base) : (hd.heap_39 w.params).In h := X.keeps S.F.keep
theorem LawS.top {mg mb : Str → Option Value} {mean : ExcName → Option Value} (S : LawS base L h m c1 c2 c3 c4 c5 c6) (T : Top hd.view_39 LO mean mg mb base) : Top hd.view_39 LO mean mg mb h := T.keeps S.F.keep
end
end Mine
end

section
open PySem PySem.W PyProof.Rows
set_option Elab.async false
set_option maxRecDepth 100000
namespace Mine
noncomputable def KX (L : Addr) (xs : List Addr) (h h' : Heap) : Prop := ∀ b o, Out L b → b ∉ xs → h.get? b = some o → h'.get? b = some o
noncomputable def Gx (L : Addr) (xs : List Addr) (h : Heap) (φ : Heap → Prop) : Prop := ∀ h', KX L xs h h' → φ h'
section
variable {base h h' : Heap} {L : Addr} {xs : List Addr} {m m' : Str → Option Value} {c1 c2 c3 c4 c5 c6 : Option Value} {φ ψ : Heap → Prop}
theorem KX.refl (L : Addr) (xs : List Addr) (h : Heap) : KX L xs h h := fun _ _ _ _ e => e
theorem KX.trans {a b c : Heap} (x : KX L xs a b) (y : KX L xs b c) : KX L xs a c := fun p o q r e => y p o q r (x p o q r e)
theorem KX.ofKL (k : KL L h h') : KX L xs h h' := fun b o q _ e => k b o q e
theorem KX.of (k : ∀ b o, h.get? b = some o → h'.get? b = some o) : KX L xs h h' := fun b o _ _ e => k b o e
theorem KX.but {x : Addr} (k : ∀ b o, b ≠ x → h.get? b = some o → h'.get? b = some o) (hx : x ∈ xs) : KX L xs h h' := fun b o _ r e => k b o (fun q => r (q ▸ hx)) e
theorem Gx.mono (g : Gx L xs h φ) (k : KX L xs h h') : Gx L xs h' φ := fun h'' k' => g h'' (k.trans k')
theorem Gx.kl (g : Gx L xs h φ) (k : KL L h h') : Gx L xs h' φ := g.mono (.ofKL k)
theorem Gx.keeps (g : Gx L xs h φ) (k : ∀ b o, h.get? b = some o → h'.get? b = some o) : Gx L xs h' φ := g.mono (.of k)
theorem Gx.now (g : Gx L xs h φ) : φ h := g h (.refl L xs h)
theorem Gx.and (g : Gx L xs h φ) (g' : Gx L xs h ψ) : Gx L xs h (fun h => φ h ∧ ψ h) := fun h' k => ⟨g h' k, g' h' k⟩
theorem Gx.imp (g : Gx L xs h φ) (i : ∀ h, φ h → ψ h) : Gx L xs h ψ := fun h' k => i h' (g h' k)
theorem Gx.gd (g : Gx L xs h φ) : Gd L h φ := fun h' k => g h' (.ofKL k)
theorem Gd.gx (g : Gd L h φ) : Gx L [] h φ := fun h' k => g h' fun b o q e => k b o q (nomatch ·) e
theorem Gx.fresh {x : Addr} (g : Gx L xs h φ) (hx : h.get? x = none) (k : ∀ b o, h.get? b = some o → h'.get? b = some o) : Gx L (x :: xs) h' φ := fun h'' k' => g h'' fun b o q r e => k' b o q (List.not_mem_cons_of_ne_of_not_mem (fun z => nomatch (z ▸ e).symm.trans hx) r) (k b o e)
theorem LawS.xList (S : LawS base L h m c1 c2 c3 c4 c5 c6) {a : Addr} {its : Array Value} (x : h.IsList a its) (hx : a ∉ xs) : Gx L xs h (fun h => h.IsList a its) := fun h' k => x.at fun o e => k a o (S.out_list x) hx e
theorem LawS.xTup (S : LawS base L h m c1 c2 c3 c4 c5 c6) {a : Addr} {its : Array Value} (x : IsTup h a its) (hx : a ∉ xs) : Gx L xs h (fun h => IsTup h a its) := fun h' k => by
  obtain ⟨o, ho, hc, n, hd⟩ := x
  exact ⟨o, k a o (S.out_seq ho hd) hx ho, hc, n, hd⟩
theorem LawS.xSt (S : LawS base L h m c1 c2 c3 c4 c5 c6) {a : Addr} {ns : List Str} (x : StAt h a ns) (hx : a ∉ xs) : Gx L xs h (fun h => StAt h a ns) := fun h' k => let ⟨vs, q, r⟩ := x; ⟨vs, S.xList q hx h' k, r⟩
theorem LawS.xPl (S : LawS base L h m c1 c2 c3 c4 c5 c6) {a : Addr} {ps : List Int} (x : PlAt h a ps) (hx : a ∉ xs) : Gx L xs h (fun h => PlAt h a ps) := fun h' k => let ⟨vs, q, r⟩ := x; ⟨vs, S.xList q hx h' k, r⟩
end
theorem out_lt {b L : Addr} (h : b < L) : Out L b :=
  have k : ∀ n, b ≠ L + n := fun n => Nat.ne_of_lt (Nat.lt_of_lt_of_le h (Nat.le_add_right L n))
  ⟨k 0, k 1, k 2, k 3, k 4, k 5, k 6⟩
theorem out_notin {b L : Addr} (q : Out L b) : b ∉ [L, L + 6, L + 5, L + 4, L + 3, L + 2, L + 1] := by
  intro h
  obtain ⟨q0, q1, q2, q3, q4, q5, q6⟩ := q
  cases h with
  | head => exact q0 rfl
  | tail _ h => cases h with
    | head => exact q6 rfl
    | tail _ h => cases h with
      | head => exact q5 rfl
      | tail _ h => cases h with
        | head => exact q4 rfl
        | tail _ h => cases h with
          | head => exact q3 rfl
          | tail _ h => cases h with
            | head => exact q2 rfl
            | tail _ h => exact absurd h (List.not_mem_cons_of_ne_of_not_mem q1 (nomatch ·))
theorem LawS.rebased {P : Prop} {base h : Heap} {L : Addr} {m : Str → Option Value} {c1 c2 c3 c4 c5 c6 : Option Value} (S : LawS base L h m c1 c2 c3 c4 c5 c6) (k : ∀ B o1 o2 o3 o4 o5 o6, Kept base B →
    Kept B h →
    B.objs.size = h.objs.size →
    KL L h B →
    ((∀ (h' : Heap) (C : Addr) (m' : Str → Option Value), h'.Ns C m' → (∀ b o, h.get? b = some o → h'.get? b = some o) → h.objs.size ≤ C → Fr B C h' m' ∧ News B C h' [(L + 6, o6), (L + 5, o5), (L + 4, o4), (L + 3, o3), (L + 2, o2), (L + 1, o1)])) →
    o1.data = .cell c1 →
    o2.data = .cell c2 →
    o3.data = .cell c3 →
    o4.data = .cell c4 →
    o5.data = .cell c5 →
    o6.data = .cell c6 → P) : P := by
  refine S.opn fun o1 o2 o3 o4 o5 o6 N d1 d2 d3 d4 d5 d6 => ?_
  have hz := hideAll_size [L, L + 6, L + 5, L + 4, L + 3, L + 2, L + 1] h
  have hnone : ∀ b ∈ [L, L + 6, L + 5, L + 4, L + 3, L + 2, L + 1], (hideAll h [L, L + 6, L + 5, L + 4, L + 3, L + 2, L + 1]).get? b = none := fun b hb => hideAll_none _ hb
  have hof : ∀ b o, (hideAll h [L, L + 6, L + 5, L + 4, L + 3, L + 2, L + 1]).get? b = some o → h.get? b = some o := fun b o e => of_hideAll _ e
  have hget : ∀ b o, h.get? b = some o → b ∉ [L, L + 6, L + 5, L + 4, L + 3, L + 2, L + 1] → (hideAll h [L, L + 6, L + 5, L + 4, L + 3, L + 2, L + 1]).get? b = some o := fun b o e hb => hideAll_get _ e hb
  refine k (hideAll h [L, L + 6, L + 5, L + 4, L + 3, L + 2, L + 1]) o1 o2 o3 o4 o5 o6 ?_ hof hz ?_ ?_ d1 d2 d3 d4 d5 d6
  · intro b o e
    refine hget b o (S.F.keep b o e) ?_
    have hb := Nat.lt_of_lt_of_le (Heap.lt_size e) S.F.above
    exact out_notin (out_lt hb)
  · intro b o q e
    refine hget b o e ?_
    exact out_notin q
  · intro h' C m' hn k hC
    refine ⟨⟨hn, fun b o e => k b o (hof b o e), by rw [hz]; exact hC⟩, fun p hp => ⟨k _ _ (N p hp).1, Nat.ne_of_lt (Nat.lt_of_lt_of_le (Heap.lt_size (N p hp).1) hC), hnone _ (.tail _ (List.mem_map_of_mem (f := Prod.fst) hp))⟩⟩
section
variable {prog : Program} {w : World} {A : Around} {E : Value → Shared → Prop} {s : Shared}
theorem sorted_st {l : Addr} {ss : List Str} {Q : Value → Shared → Prop} (x : StAt s.heap l ss) (h64 : ss.length < 64)
    (h : ∀ D h' (ss' : List Str), (∀ b o, s.heap.get? b = some o → h'.get? b = some o) → StAt h' D ss' → ss'.Perm ss → sortedS ss' = true → s.heap.objs.size ≤ D → Q (.ref D) { s with heap := h' }) :
    wpAny (model prog w) A (call (.builtin "sorted") [.ref l]) Q E s := by
  obtain ⟨vs, hl, hS⟩ := x
  have e1 := StrsAre.length hS
  refine sorted_strs hl hS (by omega) fun out ss' a1 a2 a3 => ?_
  obtain ⟨e, he⟩ := sortedAll_at s.heap vs out
  exact h _ _ ss' (fun _ _ => sortedAll_old) ⟨out.toList, ⟨_, he, rfl, _, rfl⟩, a1⟩ a2 a3 (Nat.le_succ _)
end
section
variable {A : Around} {E : Value → Shared → Prop} {s : Shared}
theorem new_plain {M : Model} {items : List Value} {Q : Value → Shared → Prop} (h : ∀ a h', (∀ b o, s.heap.get? b = some o → h'.get? b = some o) → h'.PlainList a items.toArray → s.heap.objs.size ≤ a → a < h'.objs.size → Q (.ref a) { s with heap := h' })
    (hsz : items.length ≤ sizeLine := by size_fits) : wpAny M A (newList items) Q E s :=
  wpAny_newList (h _ _ (fun _ _ e => Heap.get?_push_of_some _ e) ⟨_, Heap.get?_push_size _ rfl⟩ (Nat.le_refl _) (by rw [Heap.size_push]; exact Nat.lt_succ_self _)) hsz
end
end Mine
end

section
open PySem PySem.W PyProof.Rows
set_option Elab.async false
set_option maxRecDepth 100000
namespace Mine
noncomputable def JP (i : Nat) (ys : List Value) : Prop := ∃ ps, IntsAre ys ps ∧ OkP ps ∧ ps.length ≤ i
set_option pp.deepTerms false
set_option pp.deepTerms.threshold 6
set_option maxHeartbeats 4000000
theorem part_a2 {w : World} {A : Around} {mg mb : Str → Option Value} {mean : ExcName → Option Value} {base : Heap} {L fa : Addr} {cd : Value} {m : Str → Option Value}
    {s : Shared} {l ev wa : Addr} {vs : List Value} {ns : List Int} {Q : Flow → Shared → Prop} {E : Value → Shared → Prop} 
    (X : (hd.heap_39 w.params).In base) (T : Top hd.view_39 LO mean mg mb base) (S : LawS base L s.heap m (some (.ref ev)) (some (.ref wa)) none none none none)
    (G : Gd L s.heap (Co ev wa)) (hm : m (Str.ofString "script") = some (.ref l)) (hl : base.IsList l vs.toArray) (hs : IntsAre vs ns) (hn : ns.length ≤ 63)
    (hd1 : A.depth + 100 < recursionLimit) (hh : A.handled = none)
    (hQ : ∀ h d tk dr a1 a2 ou p1 p2, LawS base L h (fun y => if y = Str.ofString "other" then some (.ref a2) else if y = Str.ofString "one" then some (.ref a1) else if y = Str.ofString "drawn" then some (.ref dr) else m y) (some (.ref ev)) (some (.ref wa)) (some (.ref ou)) none none none →
      Gx L [ou] h (fun h => Co ev wa h ∧ PlAt h a1 p1 ∧ PlAt h a2 p2) → h.PlainList ou #[] → base.get? ou = none → OkP p1 → OkP p2 → p1.length ≤ 7 → p2.length ≤ 7 → wpAny (model PR w) A (execs ((lawBody w.params).drop 6) (lawEnv w.params L fa cd)) Q E { s with heap := h, drawn := d, toks := tk }) :
    wpAny (model PR w) A (execs ((lawBody w.params).drop 2) (lawEnv w.params L fa cd)) Q E s := by
  with_unfolding_all show wpAny _ _ (execs (_ :: _) (envOfC _ (Scope.mk _ _ _ _ _) _ _ _)) _ _ _
  refine S.opn fun o1 o2 o3 o4 o5 o6 N d1 d2 d3 d4 d5 d6 => ?_
  have F := S.F
  w_on
  k_steps
  refine wpAny_Name (wpAny_loadName_local (by rfl) (by rfl) F.ns hm ?_) (by decide)
  k_steps
  show wpAny _ _ (newList _) _ _ _
  refine new_list (fun ls h1 k1 hls b1 c1 => ?_) (show 7 ≤ sizeLine by decide)
  have S1 := S.keeps k1
  have G1 := G.keeps k1
  clear F N o1 o2 o3 o4 o5 o6 d1 d2 d3 d4 d5 d6
  refine S1.opn fun o1 o2 o3 o4 o5 o6 N d1 d2 d3 d4 d5 d6 => ?_
  have F := S1.F
  k_steps
  show wpAny _ _ (call _ [_, _]) _ _ _
  refine dealt_spec (ms := [7, 14, 2, 32, 5, 26, 25]) (X.keeps F.keep) (T.keeps F.keep) (Kept.lst F.keep hl) hs hn hls (.cons _ _ (.cons _ _ (.cons _ _ (.cons _ _ (.cons _ _ (.cons _ _ (.cons _ _ .nil))))))) rfl (by decide) (ltl hd1 (by decide)) hh ?_
  intro dr wsd ks h2 d2' tk2 k2 hdr hks kl kb
  have S2 := S1.keeps k2
  have G2 := G1.keeps k2
  clear F N o1 o2 o3 o4 o5 o6 d1 d2 d3 d4 d5 d6
  show wpAny _ _ (storeName _ _ _) _ _ _
  refine wpAny_storeName_local (by rfl) S2.F.ns (fun h3 hn3 sb3 => ?_) (by rfl)
  have S3 := S2.loc hn3 sb3
  have kl3 : KL L h2 h3 := .but sb3 nout0
  have G3 := (G2.and (S2.gList hdr)).mono kl3
  clear S S1 S2 G G1 G2 hn3 sb3
  refine S3.opn fun o1 o2 o3 o4 o5 o6 N d1 d2 d3 d4 d5 d6 => ?_
  have F := S3.F
  have klen := IntsAre.length hks
  k_steps
  show wpAny _ _ _ _ _ _
  refine assign_law (n := wsd.length) (P := fun i v => wsd[i]? = some v) (ld := fun v m => m (Str.ofString "number") = some v) (J := fun _ i ys _ => JP i ys) (cl := []) (by rfl) (by rfl) (by decide) (by rfl) (by decide) (by rfl) (by rfl) S3.F.ns ?src4 (szl (Nat.le_trans (Nat.le_of_eq klen) kl) (by decide)) (fun _ _ _ => ⟨[], .nil, (by intro j hj; cases hj), Nat.le_refl _⟩) (fun _ _ _ _ _ _ hJ => hJ) (binds_name (fun _ => by rfl) (fun _ => by rfl) (fun _ => rfl)) ?turn4 ?hQ4
  case src4 =>
    refine src_list hh (by intro b hb; cases hb) fun Q' hq => ?_
    k_steps
    exact hq _ _ _ (Kept.refl _) (Nat.le_refl _) G3.now.2 (by simp)
  case turn4 =>
    intro N' C i v h d tk m' ys E' hi hv hk hsz hC hC2 hn' hm' hJ hyl
    have F7 : Fr h3 C h m' := ⟨hn', hk, hC2⟩
    have N7 : News h3 C h [] := .nil
    obtain ⟨a0, ta0, rfl, ha0⟩ := ints_mem hks v (List.mem_of_getElem? hv)
    obtain ⟨ps, q1, q2, q3⟩ := hJ
    clear F N
    refine wpAny_tests_one ?_
    refine wp_gen fun Q1 fin => ?_
    have fin : Stop _ := fin
    k_steps
    refine fin.go _ _ ?_
    show (if _ then _ else _)
    split
    · k_steps
      refine TEnd.intro h d _ (fun b o _ e => e) ⟨ps ++ [a0.fmod 14], q1.append (.cons _ _ .nil), fun j hj => ?_, by rw [List.length_append]; exact Nat.add_le_add_right q3 1⟩
      rcases List.mem_append.mp hj with hj | hj
      · exact q2 j hj
      · simp only [List.mem_singleton] at hj
        rw [hj]
        exact fm14 a0
    · exact TEnd.intro h d _ (fun b o _ e => e) ⟨ps, q1, q2, Nat.le_succ_of_le q3⟩
  case hQ4 =>
    intro N' D4 h4' d4' tk4' ys4 hD4 hJ4 hyl4 hsD4 hDN4 hnL4 hkL4
    obtain ⟨p4, q14, q24, q34⟩ := hJ4
    have S4 := S3.put hnL4 hkL4
    have G4 := ((G3).mono (KL.butL hkL4)).and (S4.gPl ⟨ys4, hD4, q14⟩)
    clear F N o1 o2 o3 o4 o5 o6 d1 d2 d3 d4 d5 d6 S3 G3 hnL4 hkL4
    refine S4.opn fun o1 o2 o3 o4 o5 o6 N d1 d2 d3 d4 d5 d6 => ?_
    have F := S4.F
    k_steps
    show wpAny _ _ _ _ _ _
    refine assign_law (n := wsd.length) (P := fun i v => wsd[i]? = some v) (ld := fun v m => m (Str.ofString "number") = some v) (J := fun _ i ys _ => JP i ys) (cl := []) (by rfl) (by rfl) (by decide) (by rfl) (by decide) (by rfl) (by rfl) S4.F.ns ?src5 (szl (Nat.le_trans (Nat.le_of_eq klen) kl) (by decide)) (fun _ _ _ => ⟨[], .nil, (by intro j hj; cases hj), Nat.le_refl _⟩) (fun _ _ _ _ _ _ hJ => hJ) (binds_name (fun _ => by rfl) (fun _ => by rfl) (fun _ => rfl)) ?turn5 ?hQ5
    case src5 =>
      refine src_list hh (by intro b hb; cases hb) fun Q' hq => ?_
      k_steps
      exact hq _ _ _ (Kept.refl _) (Nat.le_refl _) G4.now.1.2 (by simp)
    case turn5 =>
      intro N' C i v h d tk m' ys E' hi hv hk hsz hC hC2 hn' hm' hJ hyl
      have F7 : Fr h4' C h m' := ⟨hn', hk, hC2⟩
      have N7 : News h4' C h [] := .nil
      obtain ⟨a0, ta0, rfl, ha0⟩ := ints_mem hks v (List.mem_of_getElem? hv)
      obtain ⟨ps, q1, q2, q3⟩ := hJ
      clear F N
      refine wpAny_tests_one ?_
      refine wp_gen fun Q1 fin => ?_
      have fin : Stop _ := fin
      k_steps
      refine fin.go _ _ ?_
      show (if _ then _ else _)
      split
      · k_steps
        refine TEnd.intro h d _ (fun b o _ e => e) ⟨ps ++ [a0.fmod 14], q1.append (.cons _ _ .nil), fun j hj => ?_, by rw [List.length_append]; exact Nat.add_le_add_right q3 1⟩
        rcases List.mem_append.mp hj with hj | hj
        · exact q2 j hj
        · simp only [List.mem_singleton] at hj
          rw [hj]
          exact fm14 a0
      · exact TEnd.intro h d _ (fun b o _ e => e) ⟨ps, q1, q2, Nat.le_succ_of_le q3⟩
    case hQ5 =>
      intro N' D5 h5' d5' tk5' ys5 hD5 hJ5 hyl5 hsD5 hDN5 hnL5 hkL5
      obtain ⟨p5, q15, q25, q35⟩ := hJ5
      have S5 := S4.put hnL5 hkL5
      have G5 := ((G4).mono (KL.butL hkL5)).and (S5.gPl ⟨ys5, hD5, q15⟩)
      clear F N o1 o2 o3 o4 o5 o6 d1 d2 d3 d4 d5 d6 S4 G4 hnL5 hkL5
      refine S5.opn fun o1 o2 o3 o4 o5 o6 N d1 d2 d3 d4 d5 d6 => ?_
      have F := S5.F
      k_steps
      show wpAny _ _ (newList _) _ _ _
      refine new_plain (fun ou h6 k6 hou b6 c6 => ?_)
      have S6 := S5.keeps k6
      have G6 := G5.gx.fresh (noneN b6) k6
      show wpAny _ _ (storeName _ _ _) _ _ _
      refine wpAny_storeName_cell rfl rfl (c := L + 3) rfl S6.k3 fun h7 hv7 sb7 => ?_
      have S7 := S6.cel 3 (by decide) hv7 sb7
      have kl7 : KL L h6 h7 := .but sb7 nout3
      have hou7 := hou.at fun o e => kl7 ou o (S6.out_list hou.isList) e
      exact hQ h7 _ _ dr D4 D5 ou p4 p5 S7 ((G6.kl kl7).imp fun h q => ⟨q.1.1.1, q.1.2, q.2⟩) hou7 (fresh_none S5.F.keep b6) q24 q25 (Nat.le_trans q34 (Nat.le_trans (Nat.le_of_eq klen) kl)) (Nat.le_trans q35 (Nat.le_trans (Nat.le_of_eq klen) kl))
end Mine
end

section
open PySem PySem.W PyProof.Rows
set_option Elab.async false
set_option maxRecDepth 100000
namespace Mine
noncomputable def dueT (ps : List Int) (k : Nat) : Bool := decide ((k : Int) ∈ ps) && decide (aboveF (pUp 6) ps k = [])
noncomputable def forB (p : Params) : List Stmt := match (lawBody p).drop 6 with | .For _ _ b _ _ :: _ => b | _ => []
theorem strs_at {vs : List Value} {ns : List Str} (h : StrsAre vs ns) : ∀ {i : Nat} {x : Str}, ns[i]? = some x → ∃ t, vs[i]? = some (.str x t) := by
  induction h with
  | nil => intro i x e; cases e
  | cons k t r ih =>
    intro i x e
    cases i with
    | zero => cases e; exact ⟨t, rfl⟩
    | succ i => exact ih e
theorem word_at {ws : List Value} (sws : StrsAre ws W14) {j : Int} (h0 : 0 ≤ j) (h1 : j < 14) : ∃ t, ws[j.toNat]? = some (.str (wd j.toNat) t) := by
  refine strs_at sws ?_
  rw [W14_at, List.getElem?_map, List.getElem?_range (nat14 ⟨h0, h1⟩)]
  rfl
theorem nms_succ {ps : List Int} {i : Nat} {j : Int} (h : ps[i]? = some j) : nms (ps.take (i + 1)) = nms (ps.take i) ++ [wd j.toNat] := by
  rw [List.take_succ, h]
  simp [nms]
theorem pUp6_ok2 : ∀ p ∈ pUp 6, p.length < 1000 ∧ ∀ x ∈ p, PyData.strOk x = true := fun p hp => ⟨(pUp6_ok p hp).1.2, (pUp6_ok p hp).2⟩
theorem above_law {w : World} {A : Around} {mg mb : Str → Option Value} {mean : ExcName → Option Value} 
    {s : Shared} {l ev : Addr} {ps : List Int} {k : Int} {t : Tok} {Q E : Value → Shared → Prop}
    (X : (hd.heap_39 w.params).In s.heap) (T : Top hd.view_39 LO mean mg mb s.heap) 
    (hl : PlAt s.heap l ps) (hE : EvAt s.heap ev (pUp 6)) (hp : OkP ps) (hb : ps.length ≤ 14) (hk : 0 ≤ k ∧ k < 14)
    (hd1 : A.depth + 20 < recursionLimit) (hu : A.units + 200 < cLine) (hh : A.handled = none)
    (hQ : ∀ b h' d' tk, Kept s.heap h' → PlAt h' b (aboveF (pUp 6) ps k) → Q (.ref b) { s with heap := h', drawn := d', toks := tk }) :
   wpAny (model PR w) A (call (.ref 116) [.ref l, .int k t, .ref ev]) Q E s := by
  obtain ⟨vs, hvs, ivs⟩ := hl
  have e14 : (pUp 6).length = 14 := pUp_length 6
  refine above_spec X T hvs ivs hE (by rw [e14]; decide) pUp6_ok2 (Nat.lt_of_le_of_lt hb (by decide)) (fun j hj => by rw [e14]; exact hp j hj) (by rw [e14]; exact hk) hd1 hu hh fun b ws h' d' tk k' hb' hi' => hQ b h' d' tk k' ⟨ws, hb', hi'⟩
theorem any_mem {ps : List Int} {k : Int} : (ps.any fun x => x == k) = decide (k ∈ ps) := by
  rw [Bool.eq_iff_iff]
  simp
theorem dueT_succ {ps : List Int} {i : Nat} : ((List.range (i + 1)).filter (dueT ps)).map wd = ((List.range i).filter (dueT ps)).map wd ++ (if dueT ps i then [wd i] else []) := by
  rw [List.range_succ, List.filter_append, List.map_append]
  congr 1
  by_cases h : dueT ps i = true
  · simp [h]
  · simp [h]
set_option pp.deepTerms false
set_option pp.deepTerms.threshold 6
set_option maxHeartbeats 4000000
theorem body_b1 {w : World} {A : Around} {mg mb : Str → Option Value} {mean : ExcName → Option Value} {base : Heap} {L fa : Addr} {cd : Value} {m : Str → Option Value}
    {s : Shared} {ev wa ou a : Addr} {ps : List Int} {Q : Flow → Shared → Prop} {E : Value → Shared → Prop} 
    (X : (hd.heap_39 w.params).In base) (T : Top hd.view_39 LO mean mg mb base) (S : LawS base L s.heap m (some (.ref ev)) (some (.ref wa)) (some (.ref ou)) (some (.ref a)) none none)
    (G : Gd L s.heap (fun h => Co ev wa h ∧ PlAt h a ps)) (hp : OkP ps) (hp7 : ps.length ≤ 7)
    (hd1 : A.depth + 100 < recursionLimit) (hu : A.units + 1000 < cLine) (hh : A.handled = none)
    (hQ : ∀ h d tk nm du due, LawS base L h (fun y => if y = Str.ofString "due" then some (.ref du) else if y = Str.ofString "names" then some (.ref nm) else m y) (some (.ref ev)) (some (.ref wa)) (some (.ref ou)) (some (.ref a)) none none →
      KL L s.heap h → StAt h nm (nms ps) → StAt h du due → due.Perm ((dueP ps).map wd) → sortedS due = true → s.heap.objs.size ≤ nm → s.heap.objs.size ≤ du →
      wpAny (model PR w) A (execs ((forB w.params).drop 2) (lawEnv w.params L fa cd)) Q E { s with heap := h, drawn := d, toks := tk }) :
    wpAny (model PR w) A (execs (forB w.params) (lawEnv w.params L fa cd)) Q E s := by
  with_unfolding_all show wpAny _ _ (execs (_ :: _) (envOfC _ (Scope.mk _ _ _ _ _) _ _ _)) _ _ _
  refine S.opn fun o1 o2 o3 o4 o5 o6 N d1 d2 d3 d4 d5 d6 => ?_
  have F := S.F
  obtain ⟨vs, hvs, ivs⟩ := G.now.2
  have hlen := IntsAre.length ivs
  w_on
  k_steps
  show wpAny _ _ _ _ _ _
  refine assign_law (n := vs.length) (P := fun i v => vs[i]? = some v) (ld := fun v m => m (Str.ofString "k") = some v) (J := fun _ i ys _ => StrsAre ys (nms (ps.take i))) (cl := [(Str.ofString "words", L + 2)]) (by rfl) (by rfl) (by decide) (by rfl) (by decide) (by rfl) (by rfl) S.F.ns ?src1 (szl (Nat.le_trans (Nat.le_of_eq hlen) hp7) (by decide)) (fun _ _ _ => .nil) (fun _ _ _ _ _ _ hJ => hJ) (binds_name (fun _ => by rfl) (fun _ => by rfl) (fun _ => rfl)) ?turn1 ?hQ1
  case src1 =>
    refine src_list hh (by intro b hb; cases hb) fun Q' hq => ?_
    k_steps
    exact hq _ _ _ (Kept.refl _) (Nat.le_refl _) hvs (by simp)
  case turn1 =>
    intro N' C i v h d tk m' ys E' hi hv hk hsz hC hC2 hn' hm' hJ hyl
    refine S.rebased fun B z1 z2 z3 z4 z5 z6 kB kB' zB klB nB e1 e2 e3 e4 e5 e6 => ?_
    obtain ⟨F7, N7⟩ := nB h C m' hn' hk hC2
    obtain ⟨j, tj, rfl, hj⟩ : ∃ j tj, v = .int j tj ∧ ps[i]? = some j := by
      have hi' : i < ps.length := by rw [← hlen]; exact hi
      obtain ⟨tj, e⟩ := IntsAre.int_at ivs i v hv
      exact ⟨_, tj, e, by simp [hi']⟩
    obtain ⟨ws, hws, sws⟩ := (G B klB).1.2
    clear F N
    refine tests_nil ?_
    rw [if_pos rfl]
    show wpAny _ _ _ _ _ _
    k_steps
    show wpAny _ _ _ _ _ _
    obtain ⟨hj0, hj1⟩ := hp j (List.mem_of_getElem? hj)
    obtain ⟨tw, hat⟩ := word_at sws hj0 hj1
    refine item_list (Kept.lst F7.keep hws) hj0 (Int.lt_trans hj1 (by decide)) hat ?_
    refine TEnd.intro h d _ (fun b o _ e => e) ?_
    show StrsAre _ (nms (ps.take (i + 1)))
    rw [nms_succ hj]
    exact strsAre_append hJ (.cons _ _ .nil)
  case hQ1 =>
    intro N1 nm h1 d1' tk1 ys1 hD1 hJ1 hyl1 hsD1 hDN1 hnL1 hkL1
    have S1 := S.put hnL1 hkL1
    have kl1 : KL L s.heap h1 := KL.butL hkL1
    have hnm : StAt h1 nm (nms ps) := ⟨ys1, hD1, by rw [List.take_of_length_le (Nat.le_of_eq hlen.symm)] at hJ1; exact hJ1⟩
    have G1 := (G.mono kl1).and (S1.gSt hnm)
    clear F N o1 o2 o3 o4 o5 o6 d1 d2 d3 d4 d5 d6 hnL1 hkL1 hD1 hJ1
    refine S1.opn fun o1 o2 o3 o4 o5 o6 N d1 d2 d3 d4 d5 d6 => ?_
    have F := S1.F
    k_steps
    show wpAny _ _ _ _ _ _
    refine comp_law (n := 14) (P := fun i v => ∃ t, v = .int (0 + (i : Int)) t) (wr := []) (ld := fun v m => m (Str.ofString "k") = some v) (J := fun _ i ys _ => StrsAre ys (((List.range i).filter (dueT ps)).map wd)) (cl := [(Str.ofString "words", L + 2), (Str.ofString "places", L + 4), (Str.ofString "every", L + 1)]) (by rfl) (by decide) (by rfl) (by decide) ?src2 (by decide) (fun _ _ _ => .nil) (fun _ _ _ _ _ _ hJ => hJ) (binds_name (fun _ => by rfl) (fun _ => by rfl) (fun _ => rfl)) ?turn2 ?hQ2
    case src2 =>
      refine src_range hh (by intro b hb; cases hb) (by decide +kernel) (by decide +kernel) fun Q' hq => ?_
      k_steps
      exact hq _ _ _ _ _ _ (by assumption) (Nat.le_of_lt (Heap.lt_size (by assumption))) (by assumption)
    case turn2 =>
      intro N' C i v h d tk m' ys E' hi hv hk hsz hC hC2 hn' hm' hJ hyl
      refine S1.rebased fun B z1 z2 z3 z4 z5 z6 kB kB' zB klB nB e1 e2 e3 e4 e5 e6 => ?_
      obtain ⟨F7, N7⟩ := nB h C m' hn' (fun b o e => hk b o (by simp) e) hC2
      obtain ⟨tv, rfl⟩ := hv
      have hmk : Stop (m' (Str.ofString "k") = some (.int (0 + (i : Int)) tv)) := hm'
      have XB := X.keeps kB
      have TB := T.keeps kB
      obtain ⟨vs, hvs, ivs⟩ := (G1 B klB).1.2
      obtain ⟨ws, hws, sws⟩ := (G1 B klB).1.1.2
      clear F N
      refine wpAny_tests_one ?_
      refine wp_gen fun Q1 fin => ?_
      have fin : Stop _ := fin
      k_steps
      · have hany : (ps.any fun x => x == 0 + (i : Int)) = true := by assumption
        rw [any_mem] at hany
        show wpAny _ _ (call _ [_, _, _]) _ _ _
        refine above_law (XB.keeps F7.keep) (TB.keeps F7.keep) ⟨vs, Kept.lst F7.keep hvs, ivs⟩ ((G1 B klB).1.1.1.keeps F7.keep) hp (Nat.le_trans hp7 (by decide)) (z14 hi) (ltl hd1 (by decide)) (ltl hu (by decide)) hh ?_
        intro b8 h8 d8 tk8 k8 hb8
        have F8 := fr_kept F7 k8
        have N8 := news_kept N7 k8
        clear F7 N7
        k_steps
        show wpAny _ _ (newList _) _ _ _
        refine new_list (fun b9 h9 k9 hb9 g9 c9 => ?_)
        have F9 := fr_kept F8 k9
        have N9 := news_kept N8 k9
        clear F8 N8
        k_steps
        show wpAny _ _ (compareOp _ _ _) _ _ _
        obtain ⟨w8, l8, i8⟩ := hb8
        refine ke_eq_ints (Kept.lst k9 l8) hb9 i8 .nil (ltl hu (by decide)) ?_
        have k89 : ∀ b o, h.get? b = some o → h9.get? b = some o := fun b o e => k9 b o (k8 b o e)
        by_cases hc : aboveF (pUp 6) ps (0 + (i : Int)) = []
        · rw [decide_eq_true hc]
          k_steps
          refine fin.go _ _ ?_
          show (if _ then _ else _)
          rw [if_pos rfl]
          show wpAny _ _ _ _ _ _
          k_steps
          refine wpAny_Name (wpAny_loadName_local (by rfl) (by rfl) F9.ns hmk ?_) (by decide)
          obtain ⟨tw, hat⟩ := word_at (j := 0 + (i : Int)) sws (z14 hi).1 (z14 hi).2
          refine item_list (Kept.lst F9.keep hws) (z14 hi).1 (z63 hi) hat ?_
          refine TEnd.intro h9 _ _ (fun b o _ e => k89 b o e) ?_
          show StrsAre _ _
          have e0 : (0 + (i : Int)).toNat = i := ztn i
          rw [Int.zero_add] at hany hc
          rw [dueT_succ, if_pos (by unfold dueT; rw [hany, decide_eq_true hc]; rfl), e0]
          exact strsAre_append hJ (.cons _ _ .nil)
        · rw [decide_eq_false hc]
          k_steps
          refine fin.go _ _ ?_
          show (if _ then _ else _)
          rw [if_neg Bool.false_ne_true]
          refine TEnd.intro h9 _ _ (fun b o _ e => k89 b o e) ?_
          show StrsAre _ _
          rw [Int.zero_add] at hc
          rw [dueT_succ, if_neg (by unfold dueT; rw [decide_eq_false hc]; simp), List.append_nil]
          exact hJ
      · have hany : (ps.any fun x => x == 0 + (i : Int)) = false := by assumption
        rw [any_mem] at hany
        refine fin.go _ _ ?_
        show Exists _
        refine ⟨h, d, _, rfl, fun b o _ e => e, ?_⟩
        show StrsAre _ _
        rw [dueT_succ, if_neg, List.append_nil]
        · exact hJ
        · unfold dueT
          rw [Int.zero_add] at hany
          rw [hany]
          simp
    case hQ2 =>
      intro N2 D2 h2 d2' tk2 ys2 hD2 hJ2 hyl2 hsD2 hDN2 hk2
      have k2 : ∀ b o, h1.get? b = some o → h2.get? b = some o := fun b o e => hk2 b o (by simp) e
      have S2 := S1.keeps k2
      have G2 := G1.keeps k2
      clear F N o1 o2 o3 o4 o5 o6 d1 d2 d3 d4 d5 d6
      refine S2.opn fun o1 o2 o3 o4 o5 o6 N d1 d2 d3 d4 d5 d6 => ?_
      have F := S2.F
      k_steps
      show wpAny _ _ (call _ [_]) _ _ _
      have hln : (((List.range 14).filter (dueT ps)).map wd).length < 64 := by
        rw [List.length_map]
        exact Nat.lt_of_le_of_lt (List.length_filter_le _ _) (by simp)
      refine sorted_st ⟨ys2, hD2, hJ2⟩ hln fun du h3 due k3 hdu pdu sdu zdu => ?_
      have S3 := S2.keeps k3
      have G3 := G2.keeps k3
      show wpAny _ _ (storeName _ _ _) _ _ _
      refine wpAny_storeName_local (by rfl) S3.F.ns (fun h4 hn4 sb4 => ?_) (by rfl)
      have S4 := S3.loc hn4 sb4
      have kl4 : KL L h3 h4 := .but sb4 nout0
      have k13 : KL L h1 h3 := .of fun b o e => k3 b o (k2 b o e)
      have sz1 : @LE.le Nat _ s.heap.objs.size nm := hsD1
      have sz2 : @LE.le Nat _ s.heap.objs.size du := by
        have q1 : @LT.lt Nat _ nm h1.objs.size := by
          obtain ⟨vn, ⟨on, hon, _⟩, _⟩ := G1.now.2
          exact Heap.lt_size hon
        have q2 : @LE.le Nat _ h1.objs.size D2 := hsD2
        have q3 : @LT.lt Nat _ D2 h2.objs.size := by
          obtain ⟨od, hod, _⟩ := hD2
          exact Heap.lt_size hod
        have q4 : @LE.le Nat _ h2.objs.size du := zdu
        exact Nat.le_trans sz1 (Nat.le_trans (Nat.le_of_lt q1) (Nat.le_trans q2 (Nat.le_trans (Nat.le_of_lt q3) q4)))
      exact hQ h4 _ _ nm du due S4 ((kl1.trans k13).trans kl4) ((G3.mono kl4).now.2) ((S3.gSt hdu) h4 kl4) pdu sdu sz1 sz2
end Mine
end

section
open PySem PySem.W PyProof.Rows
set_option Elab.async false
set_option maxRecDepth 100000
namespace Mine
theorem W14_ok : ∀ x ∈ W14, (x.length ≤ 1000 ∧ x ≠ Str.ofString "<string>") ∧ PyData.strOk x = true := by decide +kernel
theorem strs_rev {vs : List Value} {ns : List Str} (h : StrsAre vs ns) : StrsAre vs.reverse ns.reverse := by
  induction h with
  | nil => exact .nil
  | cons k t r ih => simp only [List.reverse_cons]; exact strsAre_append ih (.cons _ _ .nil)
theorem nms_okn {ps : List Int} (hp : OkP ps) : ∀ k ∈ nms ps, Okn k := fun k hk => (W14_ok k (nms_W14 hp k hk)).1
theorem nms_len (ps : List Int) : (nms ps).length = ps.length := by simp [nms]
theorem perm_ok {a b : List Str} (p : a.Perm b) (h : ∀ x ∈ b, x ∈ W14) : ∀ x ∈ a, PyData.strOk x = true := fun x hx => (W14_ok x (h x (p.mem_iff.mp hx))).2
theorem dueW (ps : List Int) : ∀ x ∈ (dueP ps).map wd, x ∈ W14 := fun x hx => by
  obtain ⟨k, hk, rfl⟩ := List.mem_map.mp hx
  exact wd_W14 (List.mem_range.mp (List.mem_filter.mp hk).1)
theorem due_len (ps : List Int) : ((dueP ps).map wd).length < 64 := by
  rw [List.length_map]
  exact Nat.lt_of_le_of_lt (List.length_filter_le _ _) (by simp)
set_option pp.deepTerms false
set_option pp.deepTerms.threshold 6
set_option maxHeartbeats 4000000
theorem body_b2 {w : World} {A : Around} {mg mb : Str → Option Value} {mean : ExcName → Option Value} {base : Heap} {L fa : Addr} {cd : Value} {m : Str → Option Value}
    {s : Shared} {nm du : Addr} {due : List Str} {ps : List Int} {c1 c2 c3 c4 c5 c6 : Option Value} {Q : Flow → Shared → Prop} {E : Value → Shared → Prop} 
    (X : (hd.heap_39 w.params).In base) (T : Top hd.view_39 LO mean mg mb base) (S : LawS base L s.heap m c1 c2 c3 c4 c5 c6)
    (hn : m (Str.ofString "names") = some (.ref nm)) (hdu : m (Str.ofString "due") = some (.ref du))
    (G : Gd L s.heap (fun h => StAt h nm (nms ps) ∧ StAt h du due)) (hp : OkP ps) (hp7 : ps.length ≤ 7) (pdu : due.Perm ((dueP ps).map wd)) (sdu : sortedS due = true)
    (hd1 : A.depth + 100 < recursionLimit) (hu : A.units + 1000 < cLine) (hh : A.handled = none)
    (hQ : ∀ h d tk, Kept s.heap h → 
      wpAny (model PR w) A (execs ((forB w.params).drop 3) (lawEnv w.params L fa cd)) Q E { s with heap := h, drawn := d, toks := tk }) :
    wpAny (model PR w) A (execs ((forB w.params).drop 2) (lawEnv w.params L fa cd)) Q E s := by
  with_unfolding_all show wpAny _ _ (execs (_ :: _) (envOfC _ (Scope.mk _ _ _ _ _) _ _ _)) _ _ _
  refine S.opn fun o1 o2 o3 o4 o5 o6 N d1 d2 d3 d4 d5 d6 => ?_
  have F := S.F
  have hn' : Stop (m (Str.ofString "names") = some (.ref nm)) := hn
  have hdu' : Stop (m (Str.ofString "due") = some (.ref du)) := hdu
  w_on
  k_steps
  refine wpAny_Name (wpAny_loadName_local (by rfl) (by rfl) F.ns hn' ?_) (by decide)
  k_steps
  show wpAny _ _ (newList _) _ _ _
  refine new_list (fun l0 h1 k1 hl0 b1 c1 => ?_)
  have S1 := S.keeps k1
  have G1 := G.keeps k1
  clear F N o1 o2 o3 o4 o5 o6 d1 d2 d3 d4 d5 d6
  refine S1.opn fun o1 o2 o3 o4 o5 o6 N d1 d2 d3 d4 d5 d6 => ?_
  have F := S1.F
  k_steps
  show wpAny _ _ (call _ [_, _, _]) _ _ _
  obtain ⟨vn, hvn, svn⟩ := G1.now.1
  have hlen := nms_len ps
  refine reduce_steps (ks := []) (X.keeps F.keep) (T.keeps F.keep) hvn svn hl0 .nil (nil_lt (hlen ▸ hp7) (by decide)) (fun _ hk => nomatch hk) (nms_okn hp) (ltl hd1 (by decide)) hh ?_
  intro b2 ws2 h2 d2' tk2 k2 hb2 sb2
  have S2 := S1.keeps k2
  have G2 := G1.keeps k2
  clear F N o1 o2 o3 o4 o5 o6 d1 d2 d3 d4 d5 d6
  refine S2.opn fun o1 o2 o3 o4 o5 o6 N d1 d2 d3 d4 d5 d6 => ?_
  have F := S2.F
  k_steps
  show wpAny _ _ (call _ [_]) _ _ _
  have p1 := due_fold hp
  have dl := due_len ps
  refine sorted_st ⟨ws2, hb2, sb2⟩ (by rw [p1.length_eq]; exact dl) fun b3 h3 ss3 k3 hb3 pb3 sb3 z3 => ?_
  have S3 := S2.keeps k3
  have G3 := G2.keeps k3
  clear F N o1 o2 o3 o4 o5 o6 d1 d2 d3 d4 d5 d6
  refine S3.opn fun o1 o2 o3 o4 o5 o6 N d1 d2 d3 d4 d5 d6 => ?_
  have F := S3.F
  k_steps
  refine wpAny_Name (wpAny_loadName_local (by rfl) (by rfl) F.ns hdu' ?_) (by decide)
  k_steps
  show wpAny _ _ (compareOp _ _ _) _ _ _
  have e3 : ss3 = due := sorted_same sb3 sdu ((pb3.trans p1).trans pdu.symm)
  have dok := perm_ok pdu (dueW ps)
  obtain ⟨v3, l3, s3⟩ := hb3
  obtain ⟨vd, ld, sd⟩ := G3.now.2
  refine ne_strs (ns := ss3) (ms := due) l3 ld s3 sd (by rw [e3]; exact dok) dok (ltl hu (by decide)) ?_
  rw [decide_eq_true e3]
  k_steps
  refine wpAny_Name (wpAny_loadName_local (by rfl) (by rfl) F.ns hn' ?_) (by decide)
  k_steps
  show wpAny _ _ _ _ _ _
  obtain ⟨vn3, hvn3, svn3⟩ := G3.now.1
  have hl3 := StrsAre.length svn3
  refine slice3_plain (lo := none) (hi := none) (st := some (-1)) hvn3 (by constructor) (by constructor) (by constructor) (by decide) ?_ (by with_unfolding_all rfl) (by intro _; with_unfolding_all rfl) (by rw [List.size_toArray, StrsAre.length svn3, hlen]; exact szl hp7 (by decide))
  dsimp only
  rw [krv_pick]
  generalize hh4 : (h3.push _).push _ = h4
  have k4 : ∀ b o, h3.get? b = some o → h4.get? b = some o := by rw [← hh4]; exact fun b o e => Heap.get?_push_of_some _ (Heap.get?_push_of_some _ e)
  have hl4 : h4.IsList (h3.objs.size + 1) vn3.reverse.toArray := by
    rw [← hh4, ← Heap.size_push h3]
    exact ⟨_, Heap.get?_push_size _ rfl, rfl, _, rfl⟩
  have S4 := S3.keeps k4
  have G4 := G3.keeps k4
  clear F N o1 o2 o3 o4 o5 o6 d1 d2 d3 d4 d5 d6
  refine S4.opn fun o1 o2 o3 o4 o5 o6 N d1 d2 d3 d4 d5 d6 => ?_
  have F := S4.F
  k_steps
  show wpAny _ _ (newList _) _ _ _
  refine new_list (fun l5 h5 k5 hl5 b5 c5 => ?_)
  have S5 := S4.keeps k5
  have G5 := G4.keeps k5
  clear F N o1 o2 o3 o4 o5 o6 d1 d2 d3 d4 d5 d6
  refine S5.opn fun o1 o2 o3 o4 o5 o6 N d1 d2 d3 d4 d5 d6 => ?_
  have F := S5.F
  k_steps
  show wpAny _ _ (call _ [_, _, _]) _ _ _
  refine reduce_steps (ks := []) (ns := (nms ps).reverse) (X.keeps F.keep) (T.keeps F.keep) (Kept.lst k5 hl4) (strs_rev svn3) hl5 .nil (nil_lt (by rw [List.length_reverse, hlen]; exact hp7) (by decide)) (fun _ hk => nomatch hk) (fun k hk => nms_okn hp k (List.mem_reverse.mp hk)) (ltl hd1 (by decide)) hh ?_
  intro b6 ws6 h6 d6' tk6 k6 hb6 sb6
  have S6 := S5.keeps k6
  have G6 := G5.keeps k6
  clear F N o1 o2 o3 o4 o5 o6 d1 d2 d3 d4 d5 d6
  refine S6.opn fun o1 o2 o3 o4 o5 o6 N d1 d2 d3 d4 d5 d6 => ?_
  have F := S6.F
  k_steps
  show wpAny _ _ (call _ [_]) _ _ _
  have p6 := due_fold_rev hp
  refine sorted_st ⟨ws6, hb6, sb6⟩ (by rw [p6.length_eq]; exact dl) fun b7 h7 ss7 k7 hb7 pb7 sb7 z7 => ?_
  have S7 := S6.keeps k7
  have G7 := G6.keeps k7
  clear F N o1 o2 o3 o4 o5 o6 d1 d2 d3 d4 d5 d6
  refine S7.opn fun o1 o2 o3 o4 o5 o6 N d1 d2 d3 d4 d5 d6 => ?_
  have F := S7.F
  k_steps
  refine wpAny_Name (wpAny_loadName_local (by rfl) (by rfl) F.ns hdu' ?_) (by decide)
  k_steps
  show wpAny _ _ (compareOp _ _ _) _ _ _
  have e7 : ss7 = due := sorted_same sb7 sdu ((pb7.trans p6).trans pdu.symm)
  obtain ⟨v7, l7, s7⟩ := hb7
  obtain ⟨vd7, ld7, sd7⟩ := G7.now.2
  refine ne_strs (ns := ss7) (ms := due) l7 ld7 s7 sd7 (by rw [e7]; exact dok) dok (ltl hu (by decide)) ?_
  rw [decide_eq_true e7]
  have kk : Kept s.heap h7 := fun b o e => k7 b o (k6 b o (k5 b o (k4 b o (k3 b o (k2 b o (k1 b o e))))))
  walk1
  rw [if_neg (by decide)]
  walk1
  walk1
  refine wpAny_execs_nil ?_
  exact hQ h7 _ _ kk
end Mine
end

section
open PySem PySem.W PyProof.Rows
set_option Elab.async false
set_option maxRecDepth 100000
namespace Mine
theorem nms_nil {ps : List Int} : nms ps = [] ↔ ps = [] := by unfold nms; simp
theorem LawS.fobj {base h : Heap} {L : Addr} {m : Str → Option Value} {c1 c2 c3 c4 c5 c6 : Option Value} (S : LawS base L h m c1 c2 c3 c4 c5 c6) : ∃ o, h.get? L = some o ∧ ∀ vs, o.data ≠ .fields vs := by
  obtain ⟨oL, esL, epL, hoL, hdL, _⟩ := S.F.ns
  exact ⟨oL, hoL, fun vs q => by rw [hdL] at q; cases q⟩
noncomputable def JN (ps : List Int) (N i : Nat) (ys : List Value) (h : Heap) : Prop := ∃ as : List Addr, ys = as.map Value.ref ∧ EvA h as (((nms ps).take i).map fun n => [n]) ∧ ∀ a ∈ as, N ≤ a
set_option pp.deepTerms false
set_option pp.deepTerms.threshold 6
set_option maxHeartbeats 4000000
theorem body_b3 {w : World} {A : Around} {mg mb : Str → Option Value} {mean : ExcName → Option Value} {base : Heap} {L fa : Addr} {cd : Value} {m : Str → Option Value}
    {s : Shared} {nm du : Addr} {due : List Str} {ps : List Int} {c1 c2 c3 c4 c5 c6 : Option Value} {Q : Flow → Shared → Prop} {E : Value → Shared → Prop} 
    (X : (hd.heap_39 w.params).In base) (T : Top hd.view_39 LO mean mg mb base) (S : LawS base L s.heap m c1 c2 c3 c4 c5 c6)
    (hn : m (Str.ofString "names") = some (.ref nm))
    (G : Gd L s.heap (fun h => StAt h nm (nms ps))) (hp : OkP ps) (hp7 : ps.length ≤ 7) (pdu : due.Perm ((dueP ps).map wd)) (sdu : sortedS due = true)
    (hd1 : A.depth + 100 < recursionLimit) (hu : A.units + 1000 < cLine) (hh : A.handled = none) (hA : A.frames = some [lawEnv w.params L fa cd])
    (hQ : ∀ h d tk fo, LawS base L h (fun y => if y = Str.ofString "folded" then some (.ref fo) else if y = Str.ofString "refused" then some (.bool (decide (ps = []))) else m y) c1 c2 c3 c4 c5 c6 → KL L s.heap h → StAt h fo due →
      wpAny (model PR w) A (execs ((forB w.params).drop 6) (lawEnv w.params L fa cd)) Q E { s with heap := h, drawn := d, toks := tk }) :
    wpAny (model PR w) A (execs ((forB w.params).drop 3) (lawEnv w.params L fa cd)) Q E s := by
  with_unfolding_all show wpAny _ _ (execs (_ :: _) (envOfC _ (Scope.mk _ _ _ _ _) _ _ _)) _ _ _
  refine S.opn fun o1 o2 o3 o4 o5 o6 N d1 d2 d3 d4 d5 d6 => ?_
  have F := S.F
  w_on
  k_steps
  show wpAny _ _ (storeName _ _ _) _ _ _
  refine wpAny_storeName_local (by rfl) S.F.ns (fun h1 hn1 sb1 => ?_) (by rfl)
  have S1 := S.loc hn1 sb1
  have kl1 : KL L s.heap h1 := .but sb1 nout0
  have G1 := G.mono kl1
  clear F N o1 o2 o3 o4 o5 o6 d1 d2 d3 d4 d5 d6 hn1 sb1
  refine S1.opn fun o1 o2 o3 o4 o5 o6 N d1 d2 d3 d4 d5 d6 => ?_
  have F := S1.F
  k_steps
  show wpAny _ _ (newList _) _ _ _
  refine new_list (fun l0 h2 k2 hl0 b2 c2 => ?_)
  have S2 := S1.keeps k2
  have G2 := (G1.keeps k2).and (S2.gList hl0)
  show wpAny _ _ (storeName _ _ _) _ _ _
  refine wpAny_storeName_local (by rfl) S2.F.ns (fun h3 hn3 sb3 => ?_) (by rfl)
  have S3 := S2.loc hn3 sb3
  have kl3 : KL L h2 h3 := .but sb3 nout0
  have klA : KL L s.heap h3 := (kl1.trans (.of k2)).trans kl3
  have G3 := G2.mono kl3
  clear F N o1 o2 o3 o4 o5 o6 d1 d2 d3 d4 d5 d6 hn3 sb3
  refine S3.opn fun o1 o2 o3 o4 o5 o6 N d1 d2 d3 d4 d5 d6 => ?_
  have F := S3.F
  k_steps
  show wpAny _ _ (exec (.Try _ _ _ _ _) _) _ _ _
  refine try_called (base := base) (outer := []) (L := L) (by with_unfolding_all exact hA) rfl ?_
  intro Eb hEb
  have hEb' : Stop _ := hEb
  k_steps
  show wpAny _ _ _ _ _ _
  obtain ⟨vn, hvn, svn⟩ := G3.now.1
  have hlen := nms_len ps
  have hvl := StrsAre.length svn
  have hnm3 : (fun y => if y = Str.ofString "folded" then some (Value.ref l0) else if y = Str.ofString "refused" then some (Value.bool false) else m y) (Str.ofString "names") = some (.ref nm) := by
    show (if _ then _ else _) = _
    rw [if_neg (by decide), if_neg (by decide)]
    exact hn
  refine comp_law (n := vn.length) (P := fun i v => vn[i]? = some v) (wr := []) (ld := fun v m => m (Str.ofString "name") = some v) (J := JN ps) (cl := []) (by rfl) (by decide) (by rfl) (by decide) ?src1 (szl (Nat.le_trans (Nat.le_of_eq (hvl.trans hlen)) hp7) (by decide)) (fun _ _ _ => ⟨[], rfl, ⟨rfl, fun i a p e => by simp at e⟩, by simp⟩) ?st1 (binds_name (fun _ => by rfl) (fun _ => by rfl) (fun _ => rfl)) ?turn1 ?hQ1
  case src1 =>
    refine src_list hh (by intro b hb; cases hb) fun Q' hq => ?_
    refine wpAny_Name (wpAny_loadName_local (by rfl) (by rfl) S3.F.ns hnm3 ?_) (by decide)
    exact hq _ _ _ (Kept.refl _) (Nat.le_refl _) hvn (by simp)
  case st1 =>
    rintro N' i ys h h' k ⟨as, e1, e2, e3⟩
    exact ⟨as, e1, e2.of fun a ha o e => k a o (.inr (e3 a ha)) e, e3⟩
  case turn1 =>
    intro N' C i v h d tk m' ys E' hi hv hk hsz hC hC2 hn' hm' hJ hyl
    refine S3.rebased fun B z1 z2 z3 z4 z5 z6 kB kB' zB klB nB e1 e2 e3 e4 e5 e6 => ?_
    obtain ⟨F7, N7⟩ := nB h C m' hn' (fun b o e => hk b o (by simp) e) hC2
    have hi' : i < (nms ps).length := lt_eq hi hvl.symm
    obtain ⟨tv, hv'⟩ := strs_at svn (List.getElem?_eq_getElem hi')
    rw [hv'] at hv
    cases hv
    clear F N
    refine tests_nil ?_
    rw [if_pos rfl]
    show wpAny _ _ _ _ _ _
    k_steps
    show wpAny _ _ (newList _) _ _ _
    refine new_list (fun b9 h9 k9 hb9 g9 c9 => ?_)
    k_steps
    show Exists _
    obtain ⟨as, ea, eb, ec⟩ := hJ
    refine TEnd.intro h9 d _ (fun b o _ e => k9 b o e) ⟨as ++ [b9], by simp [ea], ?_, ?_⟩
    · rw [List.take_succ, List.getElem?_eq_getElem hi', List.map_append]
      refine EvA.add (eb.of fun a ha o e => k9 a o e) ⟨rfl, fun j a p q1 q2 => ?_⟩
      match j with
      | 0 =>
        simp at q1 q2
        subst q1
        subst q2
        exact ⟨_, hb9, .cons _ _ .nil⟩
      | j + 1 => simp at q1
    · intro a ha
      rcases List.mem_append.mp ha with ha | ha
      · exact ec a ha
      · simp only [List.mem_singleton] at ha
        subst ha
        exact Nat.le_trans hsz g9
  case hQ1 =>
    intro N4 D4 h4 d4' tk4 ys4 hD4 hJ4 hyl4 hsD4 hDN4 hk4
    have k4 : ∀ b o, h3.get? b = some o → h4.get? b = some o := fun b o e => hk4 b o (by simp) e
    have S4 := S3.keeps k4
    have G4 := G3.keeps k4
    obtain ⟨as, ea, eb, ec⟩ := hJ4
    rw [List.take_of_length_le (Nat.le_of_eq hvl.symm)] at eb
    clear F N o1 o2 o3 o4 o5 o6 d1 d2 d3 d4 d5 d6
    refine S4.opn fun o1 o2 o3 o4 o5 o6 N d1 d2 d3 d4 d5 d6 => ?_
    have F := S4.F
    k_steps
    show wpAny _ _ (call _ [_, _]) _ _ _
    by_cases hps : ps = []
    · have hy0 : ys4 = [] := by
        subst hps
        have := eb.1
        rw [ea]
        simp [nms] at this
        simp [this]
      subst hy0
      obtain ⟨oL, hoL, hLn⟩ := S4.fobj
      refine reduce_none (B₀ := base) (L0 := L) (o0 := oL) (env0 := lawEnv w.params L fa cd) X T (none_below S4.F.above) S4.F.keep hA (by with_unfolding_all exact (show ScopeKind.function ≠ ScopeKind.module by decide)) rfl hoL hLn hD4 (S4.out_list hD4).1 (ltl hd1 (by decide)) hh ?_
      intro e c h5 tk5 k5 sl5 x5
      obtain ⟨sl, hsl⟩ := sl5
      unfold Stop at hEb'
      refine hEb' h4 e (.type "TypeError") c _ ⟨(show ScopeKind.function ≠ ScopeKind.module by decide), ⟨L, _, rfl, none_below S4.F.above, hsl, hLn⟩, trivial⟩ (fun b hb => ?_) x5 (fun h6 k6 x6 => ?_)
      · cases q : h4.get? b with
        | none => exact absurd q hb
        | some o =>
          by_cases e1 : b = L
          · rw [e1]; exact Heap.lt_size hsl
          · exact Heap.lt_size (k5 b o e1 q)
      have k6' : KeptF h4 [L] h5 h6 := k6
      have kk6 : ∀ b o, b ≠ L → h4.get? b = some o → h6.get? b = some o := fun b o hb q => k6'.keep b o (by rw [q]; simp) (by simpa using hb) (k5 b o hb q)
      obtain ⟨sl6, hsl6⟩ := k6'.slots L _ hsl hLn
      have S6 := S4.slots kk6 ⟨oL, sl6, hoL, hsl6⟩
      clear F N o1 o2 o3 o4 o5 o6 d1 d2 d3 d4 d5 d6
      refine S6.opn fun o1 o2 o3 o4 o5 o6 N d1 d2 d3 d4 d5 d6 => ?_
      have F := S6.F
      refine wpAny_handleBy_builtin (X := "TypeError") (T := "TypeError") (b := true) PySem.F.isExc_TypeError PySem.F.notTuple_TypeError PySem.F.self_TypeError ?_
      dsimp only
      k_steps
      · exact x6.type
      refine flight (fs := [L]) x6 fun h7 k7 x7 => ?_
      have kk7 : ∀ b o, b ≠ L → h4.get? b = some o → h7.get? b = some o := fun b o hb q => k7.keep b o (by rw [q]; simp) (by simpa using hb) (kk6 b o hb q)
      obtain ⟨sl7, hsl7⟩ := k7.slots L _ hsl6 hLn
      have S7 := S4.slots kk7 ⟨oL, sl7, hoL, hsl7⟩
      clear F N o1 o2 o3 o4 o5 o6 d1 d2 d3 d4 d5 d6
      refine S7.opn fun o1 o2 o3 o4 o5 o6 N d1 d2 d3 d4 d5 d6 => ?_
      have F := S7.F
      k_steps
      show wpAny _ _ (storeName _ _ _) _ _ _
      refine wpAny_storeName_local (by rfl) S7.F.ns (fun h8 hn8 sb8 => ?_) (by rfl)
      have S8 := S7.loc hn8 sb8
      have kl8 : KL L h7 h8 := .but sb8 nout0
      have kl48 : KL L h4 h8 := (KL.butL kk7).trans kl8
      refine wpAny_execs_nil ?_
      have hdn : due = [] := by
        have : (dueP ps).map wd = [] := by rw [hps]; decide +kernel
        rw [this] at pdu
        exact pdu.eq_nil
      refine hQ h8 _ _ l0 (S8.ext fun y => ?_) (klA.trans ((KL.of k4).trans kl48)) (by rw [hdn]; exact ⟨[], (G4.mono kl48).now.2, .nil⟩)
      rw [decide_eq_true hps]
      by_cases e1 : y = Str.ofString "folded"
      · subst e1
        rfl
      · simp only [e1, if_false]
        by_cases e2 : y = Str.ofString "refused" <;> simp [e2]
    · refine reduce_first (ns := nms ps) (X.keeps F.keep) (T.keeps F.keep) ⟨as, by rw [← ea]; exact hD4, eb.1, eb.2⟩ (fun q => hps (nms_nil.mp q)) (by rw [nms_len]; exact Nat.lt_of_le_of_lt hp7 (by decide)) (nms_okn hp) (ltl hd1 (by decide)) hh ?_
      intro b5 ws5 h5 d5' tk5 k5 hb5 sb5
      have S5 := S4.keeps k5
      clear F N o1 o2 o3 o4 o5 o6 d1 d2 d3 d4 d5 d6
      refine S5.opn fun o1 o2 o3 o4 o5 o6 N d1 d2 d3 d4 d5 d6 => ?_
      have F := S5.F
      k_steps
      show wpAny _ _ (call _ [_]) _ _ _
      have p1 := due_fold hp
      have dl := due_len ps
      refine sorted_st ⟨ws5, hb5, sb5⟩ (by rw [p1.length_eq]; exact dl) fun b6 h6 ss6 k6 hb6 pb6 sb6 z6 => ?_
      have S6 := S5.keeps k6
      have e6 : ss6 = due := sorted_same sb6 sdu ((pb6.trans p1).trans pdu.symm)
      show wpAny _ _ (storeName _ _ _) _ _ _
      refine wpAny_storeName_local (by rfl) S6.F.ns (fun h7 hn7 sb7 => ?_) (by rfl)
      have S7 := S6.loc hn7 sb7
      have kl7 : KL L h6 h7 := .but sb7 nout0
      refine wpAny_execs_nil (wpAny_execs_nil ?_)
      refine hQ h7 _ _ b6 (S7.ext fun y => ?_) (klA.trans ((KL.of fun b o e => k6 b o (k5 b o (k4 b o e))).trans kl7)) (by rw [← e6]; exact S6.gSt hb6 h7 kl7)
      rw [decide_eq_false hps]
      by_cases e1 : y = Str.ofString "folded" <;> simp [e1]
end Mine
end

section
open PySem PySem.W PyProof.Rows
set_option Elab.async false
set_option maxRecDepth 100000
namespace Mine
section
variable {base h h' : Heap} {L : Addr} {m : Str → Option Value} {c1 c2 c3 c4 c5 c6 : Option Value}
theorem LawS.but {x : Addr} (S : LawS base L h m c1 c2 c3 c4 c5 c6) (hx : Out L x) (hb : base.get? x = none) (k : ∀ b o, b ≠ x → h.get? b = some o → h'.get? b = some o) : LawS base L h' m c1 c2 c3 c4 c5 c6 := by
  obtain ⟨q0, q1, q2, q3, q4, q5, q6⟩ := hx
  exact ⟨⟨S.F.ns.at' fun o e => k L o (Ne.symm q0) e, fun b o e => k b o (fun z => by rw [z, hb] at e; cases e) (S.F.keep b o e), S.F.above⟩, cell_at S.k1 fun o e => k _ o (Ne.symm q1) e, cell_at S.k2 fun o e => k _ o (Ne.symm q2) e, cell_at S.k3 fun o e => k _ o (Ne.symm q3) e,
    cell_at S.k4 fun o e => k _ o (Ne.symm q4) e, cell_at S.k5 fun o e => k _ o (Ne.symm q5) e, cell_at S.k6 fun o e => k _ o (Ne.symm q6) e⟩
end
local macro_rules | `(tactic| walk_at "getMethod ref") => `(tactic| (k_here; refine stop_here ?_))
set_option pp.deepTerms false
set_option pp.deepTerms.threshold 6
set_option maxHeartbeats 4000000
theorem body_b4 {w : World} {A : Around} {mg mb : Str → Option Value} {mean : ExcName → Option Value} {base : Heap} {L fa : Addr} {cd : Value} {m : Str → Option Value}
    {s : Shared} {nm du fo ou : Addr} {due : List Str} {ps : List Int} {vo : List Value} {c1 c2 c4 c5 c6 : Option Value} {Q : Flow → Shared → Prop} {E : Value → Shared → Prop} 
    (X : (hd.heap_39 w.params).In base) (T : Top hd.view_39 LO mean mg mb base) (S : LawS base L s.heap m c1 c2 (some (.ref ou)) c4 c5 c6)
    (hn : m (Str.ofString "names") = some (.ref nm)) (hdu : m (Str.ofString "due") = some (.ref du)) (hfo : m (Str.ofString "folded") = some (.ref fo)) (hrf : m (Str.ofString "refused") = some (.bool (decide (ps = []))))
    (G : Gd L s.heap (fun h => StAt h nm (nms ps) ∧ StAt h du due ∧ StAt h fo due)) (hp : OkP ps) (hp7 : ps.length ≤ 7) (pdu : due.Perm ((dueP ps).map wd))
    (hou : s.heap.PlainList ou vo.toArray) (hon : base.get? ou = none) (hvo : vo.length < 10)
    (hd1 : A.depth + 100 < recursionLimit) (hu : A.units + 1000 < cLine) (hh : A.handled = none)
    (hQ : ∀ h d tk, LawS base L h m c1 c2 (some (.ref ou)) c4 c5 c6 → KX L [ou] s.heap h → h.PlainList ou (vo ++ [Value.ref du]).toArray → Q .next { s with heap := h, drawn := d, toks := tk }) :
    wpAny (model PR w) A (execs ((forB w.params).drop 6) (lawEnv w.params L fa cd)) Q E s := by
  with_unfolding_all show wpAny _ _ (execs (_ :: _) (envOfC _ (Scope.mk _ _ _ _ _) _ _ _)) _ _ _
  refine S.opn fun o1 o2 o3 o4 o5 o6 N d1 d2 d3 d4 d5 d6 => ?_
  have F := S.F
  have hn' : Stop (m (Str.ofString "names") = some (.ref nm)) := hn
  have hdu' : Stop (m (Str.ofString "due") = some (.ref du)) := hdu
  have hfo' : Stop (m (Str.ofString "folded") = some (.ref fo)) := hfo
  have hrf' : Stop (m (Str.ofString "refused") = some (.bool (decide (ps = [])))) := hrf
  clear hn hdu hfo hrf
  w_on
  k_steps
  refine wpAny_Name (wpAny_loadName_local (by rfl) (by rfl) F.ns hfo' ?_) (by decide)
  k_steps
  refine wpAny_Name (wpAny_loadName_local (by rfl) (by rfl) F.ns hdu' ?_) (by decide)
  k_steps
  show wpAny _ _ (compareOp _ _ _) _ _ _
  have dok := perm_ok pdu (dueW ps)
  obtain ⟨v1, l1, s1⟩ := G.now.2.1
  obtain ⟨v2, l2, s2⟩ := G.now.2.2
  obtain ⟨v3, l3, s3⟩ := G.now.1
  refine ne_strs (ns := due) (ms := due) l2 l1 s2 s1 dok dok (ltl hu (by decide)) ?_
  rw [decide_eq_true rfl]
  k_steps
  refine wpAny_Name (wpAny_loadName_local (by rfl) (by rfl) F.ns hrf' ?_) (by decide)
  k_steps
  refine wpAny_Name (wpAny_loadName_local (by rfl) (by rfl) F.ns hn' ?_) (by decide)
  k_steps
  show wpAny _ _ (newList _) _ _ _
  refine new_list (fun l0 h1 k1 hl0 b1 c1 => ?_)
  have S1 := S.keeps k1
  have G1 := G.keeps k1
  have hou1 := hou.at fun o e => k1 ou o e
  clear F N o1 o2 o3 o4 o5 o6 d1 d2 d3 d4 d5 d6
  refine S1.opn fun o1 o2 o3 o4 o5 o6 N d1 d2 d3 d4 d5 d6 => ?_
  have F := S1.F
  k_steps
  show wpAny _ _ (compareOp _ _ _) _ _ _
  refine eq_strs (ns := nms ps) (ms := []) (Kept.lst k1 l3) hl0 s3 .nil (fun k hk => (W14_ok k (nms_W14 hp k hk)).2) (by intro k hk; cases hk) (ltl hu (by decide)) ?_
  rw [show decide (nms ps = []) = decide (ps = []) from decide_eq_decide.mpr nms_nil]
  generalize decide (ps = []) = bb
  k_steps
  · exfalso
    have hbb : (bb != bb) = true := by assumption
    cases bb <;> cases hbb
  · show wpAny _ _ (getMethod _ _ _) _ _ _
    obtain ⟨no, hob⟩ := id hou1
    refine Calls.getMethod_list_append hob rfl rfl ?_
    k_steps
    refine wpAny_Name (wpAny_loadName_local (by rfl) (by rfl) F.ns hdu' ?_) (by decide)
    k_steps
    show wpAny _ _ (call _ [_, _]) _ _ _
    refine wpAny_list_append_plain hou1 (fun h2 hou2 sb2 => ?_) (szl (Nat.le_of_lt hvo) (by decide))
    refine wpAny_execs_nil ?_
    refine hQ h2 _ _ (S1.but (S1.out_list hou1.isList) hon sb2.extBut) (fun b o q e => sb2.extBut b o (by simpa using e) ∘ k1 b o) ?_
    have : vo.toArray.push (Value.ref du) = (vo ++ [Value.ref du]).toArray := by simp
    rw [← this]
    exact hou2
end Mine
end

section
open PySem PySem.W PyProof.Rows
set_option Elab.async false
set_option maxRecDepth 100000
namespace Mine
noncomputable def DueOk (ps : List Int) (due : List Str) : Prop := due.Perm ((dueP ps).map wd) ∧ sortedS due = true
noncomputable def PhiB (ev wa a1 a2 : Addr) (p1 p2 : List Int) (h : Heap) : Prop := Co ev wa h ∧ PlAt h a1 p1 ∧ PlAt h a2 p2
noncomputable def JB (base : Heap) (L ev wa ou a1 a2 I : Addr) (p1 p2 : List Int) (m : Str → Option Value) (i : Nat) (h : Heap) : Prop :=
  ∃ m' c4, ∃ as : List Addr, LawS base L h m' (some (.ref ev)) (some (.ref wa)) (some (.ref ou)) c4 none none ∧
    (∀ y, y ≠ Str.ofString "names" → y ≠ Str.ofString "due" → y ≠ Str.ofString "refused" → y ≠ Str.ofString "folded" → m' y = m y) ∧ as.length = i ∧ h.PlainList ou (List.toArray (as.map Value.ref)) ∧
    Gx L [I, ou] h (fun h => PhiB ev wa a1 a2 p1 p2 h ∧ ∀ (j : Nat) a p, as[j]? = some a → [p1, p2][j]? = some p → ∃ due, StAt h a due ∧ DueOk p due)
set_option pp.deepTerms false
set_option pp.deepTerms.threshold 6
set_option maxHeartbeats 4000000
theorem part_b {w : World} {A : Around} {mg mb : Str → Option Value} {mean : ExcName → Option Value} {base : Heap} {L fa : Addr} {cd : Value} {m : Str → Option Value}
    {s : Shared} {ev wa ou a1 a2 : Addr} {p1 p2 : List Int} {Q : Flow → Shared → Prop} {E : Value → Shared → Prop} 
    (X : (hd.heap_39 w.params).In base) (T : Top hd.view_39 LO mean mg mb base) (S : LawS base L s.heap m (some (.ref ev)) (some (.ref wa)) (some (.ref ou)) none none none)
    (hm1 : m (Str.ofString "one") = some (.ref a1)) (hm2 : m (Str.ofString "other") = some (.ref a2))
    (G : Gx L [ou] s.heap (PhiB ev wa a1 a2 p1 p2)) (hou : s.heap.PlainList ou #[]) (hon : base.get? ou = none)
    (hp1 : OkP p1) (hp2 : OkP p2) (hl1 : p1.length ≤ 7) (hl2 : p2.length ≤ 7)
    (hd1 : A.depth + 100 < recursionLimit) (hu : A.units + 1000 < cLine) (hh : A.handled = none) (hA : A.frames = some [lawEnv w.params L fa cd])
    (hQ : ∀ h d tk m' c4 b1 b2 d1 d2, LawS base L h m' (some (.ref ev)) (some (.ref wa)) (some (.ref ou)) c4 none none → m' (Str.ofString "one") = some (.ref a1) → m' (Str.ofString "other") = some (.ref a2) →
      Gd L h (fun h => PhiB ev wa a1 a2 p1 p2 h ∧ StAt h b1 d1 ∧ StAt h b2 d2 ∧ h.IsList ou #[.ref b1, .ref b2]) → DueOk p1 d1 → DueOk p2 d2 →
      wpAny (model PR w) A (execs ((lawBody w.params).drop 7) (lawEnv w.params L fa cd)) Q E { s with heap := h, drawn := d, toks := tk }) :
    wpAny (model PR w) A (execs ((lawBody w.params).drop 6) (lawEnv w.params L fa cd)) Q E s := by
  with_unfolding_all show wpAny _ _ (execs (_ :: _) (envOfC _ (Scope.mk _ _ _ _ _) _ _ _)) _ _ _
  refine S.opn fun o1 o2 o3 o4 o5 o6 N d1 d2 d3 d4 d5 d6 => ?_
  have F := S.F
  have hm1' : Stop (m (Str.ofString "one") = some (.ref a1)) := hm1
  have hm2' : Stop (m (Str.ofString "other") = some (.ref a2)) := hm2
  clear hm1 hm2
  w_on
  k_steps
  refine wpAny_Name (wpAny_loadName_local (by rfl) (by rfl) F.ns hm1' ?_) (by decide)
  k_steps
  refine wpAny_Name (wpAny_loadName_local (by rfl) (by rfl) F.ns hm2' ?_) (by decide)
  k_steps
  show wpAny _ _ (newList _) _ _ _
  refine new_list (fun l h1 k1 hl b1 c1 => ?_)
  have S1 := S.keeps k1
  have G1 := G.keeps k1
  have hou1 := hou.at fun o e => k1 ou o e
  have hlu : ou ≠ l := by
    obtain ⟨n, ho⟩ := hou
    exact Nat.ne_of_lt (Nat.lt_of_lt_of_le (Heap.lt_size ho) b1)
  clear F N o1 o2 o3 o4 o5 o6 d1 d2 d3 d4 d5 d6
  refine S1.opn fun o1 o2 o3 o4 o5 o6 N d1 d2 d3 d4 d5 d6 => ?_
  have F := S1.F
  k_steps
  show wpAny _ _ (pyIter _) _ _ _
  refine wpAny_pyIter_list hl ?_
  dsimp only
  have hlI : l < h1.objs.size := c1
  have kp : ∀ b o, h1.get? b = some o → (h1.push { cls := .type "list_iterator", data := .fields #[.ref l, .int 0 0] }).get? b = some o := fun b o e => Heap.get?_push_of_some _ e
  have hIn : h1.get? h1.objs.size = none := none_below (Nat.le_refl _)
  have hIb : base.get? h1.objs.size = none := fresh_none S1.F.keep (Nat.le_refl _)
  have hIo : Out L h1.objs.size := S1.out_new (Nat.le_refl _)
  have hlo : Out L l := S1.out_list hl
  have hIu : ou ≠ h1.objs.size := by
    obtain ⟨n, ho⟩ := hou1
    exact Nat.ne_of_lt (Heap.lt_size ho)
  clear F N o1 o2 o3 o4 o5 o6 d1 d2 d3 d4 d5 d6
  refine for_gen (n := (#[Value.ref a1, .ref a2] : Array Value).size) (fp := [h1.objs.size, l]) (P := fun i v => (#[Value.ref a1, .ref a2] : Array Value)[i]? = some v) (St := fun i h => h.IsListIter h1.objs.size l i ∧ h.IsList l #[Value.ref a1, .ref a2]) (JB base L ev wa ou a1 a2 h1.objs.size p1 p2 m) (Walks.list (A := A) hh h1.objs.size l (Nat.ne_of_lt hlI) #[Value.ref a1, .ref a2]) ⟨⟨_, Heap.get?_push_size _ rfl, rfl, rfl⟩, hl.push _⟩ ?_ ?_ ?_ ?_
  · refine ⟨m, none, [], S1.keeps kp, fun y _ _ _ _ => rfl, rfl, hou1.at fun o e => kp ou o e, (G1.fresh hIn kp).imp fun h q => ⟨q, fun j a p e => by simp at e⟩⟩
  · rintro i h h' k ⟨m', c4, as, S', hm', hal, hou', g⟩
    exact ⟨m', c4, as, S'.but hIo hIb k, hm', hal, hou'.at fun o e => k ou o hIu e, g.mono (.but k (by simp))⟩
  · rintro i v h d tk Q1 E1 fin hi hv st ⟨m', c4, as, S', hm', hal, hou', g⟩
    refine wpAny_assign_Name (wpAny_storeName_cell rfl rfl (c := L + 4) rfl S'.k4 fun h2 hv2 sb2 => ?_)
    have S2 := S'.cel 4 (by decide) hv2 sb2
    have kl2 : KL L h h2 := .but sb2 nout4
    have g2 := g.kl kl2
    have hou2 := hou'.at fun o e => kl2 ou o (S'.out_list hou'.isList) e
    dsimp only
    obtain ⟨a, p, rfl, hpi, hpo, hpl, hpa⟩ : ∃ a p, v = .ref a ∧ [p1, p2][i]? = some p ∧ OkP p ∧ p.length ≤ 7 ∧ ∀ h, PhiB ev wa a1 a2 p1 p2 h → PlAt h a p := by
      match i, hv with
      | 0, hv => exact ⟨a1, p1, by simpa using hv.symm, rfl, hp1, hl1, fun h q => q.2.1⟩
      | 1, hv => exact ⟨a2, p2, by simpa using hv.symm, rfl, hp2, hl2, fun h q => q.2.2⟩
      | i + 2, hv => simp at hv
    show wpAny _ _ (execs (forB w.params) (lawEnv w.params L fa cd)) _ _ _
    refine body_b1 (a := a) (ps := p) X T S2 (g2.gd.imp fun h q => ⟨q.1.1, hpa h q.1⟩) hpo hpl hd1 hu hh ?_
    intro h3 d3 tk3 nm du due S3 kl3 hnm hdu pdu sdu z1 z2
    have hou3 := hou2.at fun o e => kl3 ou o (S2.out_list hou2.isList) e
    have g3 := g2.kl kl3
    have gd3 := (S3.gSt hnm).and (S3.gSt hdu)
    refine body_b2 X T S3 rfl rfl gd3 hpo hpl pdu sdu hd1 hu hh ?_
    intro h4 d4 tk4 k4
    have S4 := S3.keeps k4
    have gd4 := gd3.keeps k4
    refine body_b3 (du := du) (due := due) X T S4 rfl (gd4.imp fun h q => q.1) hpo hpl pdu sdu hd1 hu hh hA ?_
    intro h5 d5 tk5 fo S5 kl5 hfo
    have hou5 := (hou3.at fun o e => k4 ou o e).at fun o e => kl5 ou o (S4.out_list (hou3.at fun o e => k4 ou o e).isList) e
    have gd5 := (gd4.mono kl5).and (S5.gSt hfo)
    have hi2 : i < 2 := hi
    refine body_b4 (nm := nm) (du := du) (fo := fo) (vo := as.map Value.ref) (ps := p) (due := due) X T S5 rfl rfl rfl rfl (gd5.imp fun h q => ⟨q.1.1, q.1.2, q.2⟩) hpo hpl pdu hou5 hon (by rw [List.length_map, hal]; exact Nat.lt_trans hi2 (by decide)) hd1 hu hh ?_
    intro h6 d6 tk6 S6 kx6 hou6
    have kx : KX L [ou] h h6 := (KX.ofKL kl2).trans ((KX.ofKL kl3).trans ((KX.of k4).trans ((KX.ofKL kl5).trans kx6)))
    have up : ∀ {x y : Heap}, KX L [ou] x y → KX L [h1.objs.size, ou] x y := fun k b o q r e => k b o q (fun z => r (by simp only [List.mem_singleton] at z; simp [z])) e
    obtain ⟨⟨oI, hoI, _⟩, _⟩ := id st
    have hI2 : @LT.lt Nat _ h1.objs.size h2.objs.size := Heap.lt_size (kl2 _ _ hIo hoI)
    have hu2 : @LT.lt Nat _ ou h2.objs.size := by
      obtain ⟨n, ho⟩ := hou2
      exact Heap.lt_size ho
    have z2' : @LE.le Nat _ h2.objs.size du := z2
    have hdx : du ∉ [h1.objs.size, ou] := by
      simp only [List.mem_cons, List.mem_nil_iff, or_false, not_or]
      exact ⟨neN (Nat.lt_of_lt_of_le hI2 z2'), neN (Nat.lt_of_lt_of_le hu2 z2')⟩
    have gdu := (S5.xSt (xs := [h1.objs.size, ou]) (gd5.now.1.2) hdx).mono (up kx6)
    refine fin h6 _ _ ?_ ⟨_, _, as ++ [du], S6, ?_, by simp [hal], by rw [List.map_append]; exact hou6, ((g.mono (up kx)).and gdu).imp ?_⟩
    · intro b hb o e
      simp only [List.mem_cons, List.mem_nil_iff, or_false] at hb
      rcases hb with rfl | rfl
      · exact kx _ o hIo (by simpa using hIu.symm) e
      · exact kx _ o hlo (by simpa using hlu.symm) e
    · intro y n1 n2 n3 n4
      show (if _ then _ else if _ then _ else if _ then _ else if _ then _ else _) = _
      rw [if_neg n4, if_neg n3, if_neg n2, if_neg n1]
      exact hm' y n1 n2 n3 n4
    · rintro hz ⟨⟨q1, q2⟩, q3⟩
      refine ⟨q1, fun j b r e1 e2 => ?_⟩
      rcases Nat.lt_or_ge j as.length with hj | hj
      · rw [List.getElem?_append_left hj] at e1
        exact q2 j b r e1 e2
      · rw [List.getElem?_append_right hj] at e1
        have hj0 : j = as.length := Nat.le_antisymm (Nat.le_of_sub_eq_zero (Nat.lt_one_iff.mp (List.getElem?_eq_some_iff.mp e1).1)) hj
        subst hj0
        simp only [Nat.sub_self, List.getElem?_cons_zero, Option.some.injEq] at e1
        rw [hal, hpi] at e2
        cases e1
        cases e2
        exact ⟨due, q3, pdu, sdu⟩
  · rintro h d tk ⟨m', c4, as, S', hm', hal, hou', g⟩
    show wpAny _ _ (execs ((lawBody w.params).drop 7) (lawEnv w.params L fa cd)) _ _ _
    obtain ⟨b1, b2, rfl⟩ : ∃ b1 b2, as = [b1, b2] := by
      match as, hal with
      | [b1, b2], _ => exact ⟨b1, b2, rfl⟩
    obtain ⟨e1, x1, y1⟩ := g.now.2 0 b1 p1 rfl rfl
    obtain ⟨e2, x2, y2⟩ := g.now.2 1 b2 p2 rfl rfl
    refine hQ h d _ m' c4 b1 b2 e1 e2 S' ((hm' _ (by decide) (by decide) (by decide) (by decide)).trans hm1') ((hm' _ (by decide) (by decide) (by decide) (by decide)).trans hm2') ?_ y1 y2
    exact ((g.gd.and (S'.gSt x1)).and ((S'.gSt x2).and (S'.gList hou'.isList))).imp fun h q => ⟨q.1.1.1, q.1.2, q.2.1, q.2.2⟩
end Mine
end

section
open PySem PySem.W PyProof.Rows
set_option Elab.async false
set_option maxRecDepth 100000
namespace Mine
noncomputable def aloneF (d1 d2 : List Str) : List Str := d1.filter fun x => decide (x ∉ d2)
theorem not_any {ys : List Str} {k : Str} : (!(ys.any (· == k))) = decide (k ∉ ys) := by
  rw [Bool.eq_iff_iff]
  simp only [Bool.not_eq_true', List.any_eq_false, beq_iff_eq, decide_eq_true_eq]
  exact ⟨fun h hk => h k hk rfl, fun h x hx e => h (e ▸ hx)⟩
theorem aloneF_succ {d1 d2 : List Str} {i : Nat} (h : i < d1.length) : aloneF (d1.take (i + 1)) d2 = aloneF (d1.take i) d2 ++ (if d1[i] ∈ d2 then [] else [d1[i]]) := by
  unfold aloneF
  rw [List.take_add_one, List.getElem?_eq_getElem h, List.filter_append]
  congr 1
  by_cases hc : d1[i] ∈ d2 <;> simp [hc]
section
variable {prog : Program} {w : World} {A : Around} {E : Value → Shared → Prop} {s : Shared}
theorem ne_pair_same {a b A1 A2 B1 B2 : Addr} {n1 n2 : List Str} {Q : Value → Shared → Prop} (ha : IsTup s.heap a #[.ref A1, .ref A2]) (hb : IsTup s.heap b #[.ref B1, .ref B2]) (x1 : StAt s.heap A1 n1) (x2 : StAt s.heap A2 n2) (y1 : StAt s.heap B1 n1) (y2 : StAt s.heap B2 n2)
    (q1 : ∀ k ∈ n1, PyData.strOk k = true) (q2 : ∀ k ∈ n2, PyData.strOk k = true) (hu : A.units + 64 < cLine) (h : Q (.bool false) s) :
    wpAny (model prog w) A (compareOp .NotEq (.ref a) (.ref b)) Q E s := by
  obtain ⟨u1, a1, b1⟩ := x1
  obtain ⟨u2, a2, b2⟩ := x2
  obtain ⟨u3, a3, b3⟩ := y1
  obtain ⟨u4, a4, b4⟩ := y2
  obtain ⟨oa, ha1, ha2, na, ha3⟩ := ha
  obtain ⟨ob, hb1, hb2, nb, hb3⟩ := hb
  have sh : SeqAt.shaped (.tuple [.list (n1.map PyData.str), .list (n2.map PyData.str)]) = true := by
    simp [SeqAt.shaped, PyData.canLay0, PyData.depth, PyData.canLayAll0, PyData.depthAll, st_canLayAll0 n1 q1, st_canLayAll0 n2 q2, st_depthAll]
  have hs : ∀ n : List Str, (Spec.Shape.list .str).has (.list (n.map PyData.str)) = true := fun n => list_map_has fun _ => rfl
  have hs2 : (Spec.Shape.tuple [.list .str, .list .str]).has (.tuple [.list (n1.map PyData.str), .list (n2.map PyData.str)]) = true := by
    simp [Spec.Shape.has, Spec.Shape.hasAll, hs]
  refine ne_dataH_same (da := .tuple [.list (n1.map PyData.str), .list (n2.map PyData.str)]) (db := .tuple [.list (n1.map PyData.str), .list (n2.map PyData.str)]) (reads_tuple_at ha1 ha2 ha3 (.cons (reads_newData a1 (st_carried b1)) (.cons (reads_newData a2 (st_carried b2)) .nil))) (reads_tuple_at hb1 hb2 hb3 (.cons (reads_newData a3 (st_carried b3)) (.cons (reads_newData a4 (st_carried b4)) .nil))) sh sh hu (SeqAt.noMix_of_shape (.tuple [.list .str, .list .str]) rfl _ _ hs2 hs2) ?_
  have : PySem.Spec.same (.tuple [.list (n1.map PyData.str), .list (n2.map PyData.str)]) (.tuple [.list (n1.map PyData.str), .list (n2.map PyData.str)]) = true := by
    simp [PySem.Spec.same, PySem.Spec.sameAll, st_sameAll]
  rw [this]
  exact h
end
set_option pp.deepTerms false
set_option pp.deepTerms.threshold 6
set_option maxHeartbeats 4000000
theorem part_c {w : World} {A : Around} {mg mb : Str → Option Value} {mean : ExcName → Option Value} {base : Heap} {L fa : Addr} {cd : Value} {m : Str → Option Value}
    {s : Shared} {ou b1 b2 : Addr} {d1 d2 : List Str} {c1 c2 c4 c5 : Option Value} {φ : Heap → Prop} {Q : Flow → Shared → Prop} {E : Value → Shared → Prop} 
    (X : (hd.heap_39 w.params).In base) (T : Top hd.view_39 LO mean mg mb base) (S : LawS base L s.heap m c1 c2 (some (.ref ou)) c4 c5 none)
    (G : Gd L s.heap (fun h => φ h ∧ StAt h b1 d1 ∧ StAt h b2 d2 ∧ h.IsList ou #[.ref b1, .ref b2]))
    (p1 : d1.Pairwise slt) (p2 : d2.Pairwise slt) (w1 : ∀ x ∈ d1, x ∈ W14) (w2 : ∀ x ∈ d2, x ∈ W14) (hl1 : d1.length < 64) (hl2 : d2.length < 64)
    (hd1 : A.depth + 100 < recursionLimit) (hu : A.units + 1000 < cLine) (hh : A.handled = none) (hA : A.frames = some [lawEnv w.params L fa cd])
    (hQ : ∀ h d tk m' to t1 t2, LawS base L h m' c1 c2 (some (.ref ou)) c4 c5 (some (.ref to)) → (∀ y, y ≠ Str.ofString "alone" → m' y = m y) →
      Gd L h (fun h => φ h ∧ IsTup h to #[.ref t1, .ref t2] ∧ StAt h t1 (aloneF d1 d2) ∧ StAt h t2 (aloneF d2 d1)) →
      wpAny (model PR w) A (execs ((lawBody w.params).drop 10) (lawEnv w.params L fa cd)) Q E { s with heap := h, drawn := d, toks := tk }) :
    wpAny (model PR w) A (execs ((lawBody w.params).drop 7) (lawEnv w.params L fa cd)) Q E s := by
  with_unfolding_all show wpAny _ _ (execs (_ :: _) (envOfC _ (Scope.mk _ _ _ _ _) _ _ _)) _ _ _
  refine S.opn fun o1 o2 o3 o4 o5 o6 N e1 e2 e3 e4 e5 e6 => ?_
  have F := S.F
  w_on
  k_steps
  show wpAny _ _ (subscriptTail _ _ _ _) _ _ _
  refine item_list (k := 0) (vs := [.ref b1, .ref b2]) G.now.2.2.2 (by decide) (by decide) rfl ?_
  k_steps
  show wpAny _ _ (subscriptTail _ _ _ _) _ _ _
  refine item_list (k := 1) (vs := [.ref b1, .ref b2]) G.now.2.2.2 (by decide) (by decide) rfl ?_
  k_steps
  show wpAny _ _ (call _ [_, _]) _ _ _
  obtain ⟨v1, l1, s1⟩ := G.now.2.1
  obtain ⟨v2, l2, s2⟩ := G.now.2.2.1
  obtain ⟨oL, hoL, hLn⟩ := S.fobj
  refine sld_spec (B₀ := base) (L0 := L) (o0 := oL) (env0 := lawEnv w.params L fa cd) (es := d1) (as := d2) X T (none_below S.F.above) S.F.keep hA (by with_unfolding_all exact (show ScopeKind.function ≠ ScopeKind.module by decide)) rfl hoL hLn l1 s1 l2 s2 ⟨Nat.lt_trans hl1 (by decide), Nat.lt_trans hl2 (by decide)⟩ (S.out_list l1).1 (S.out_list l2).1 p1 p2 (ltl hd1 (by decide)) (ltl hu (by decide)) hh ?_
  intro to t1 t2 ws1 ws2 h1 tk1 k1 sl1 hto ht1 ht2 hs1 hs2 n1 n2 n3
  have S1 := S.slots k1 (let ⟨sl, q⟩ := sl1; ⟨oL, sl, hoL, q⟩)
  have kl1 : KL L s.heap h1 := KL.butL k1
  have G1 := (G.mono kl1).and ((S1.gTup hto).and ((S1.gSt ⟨_, ht1, hs1⟩).and (S1.gSt ⟨_, ht2, hs2⟩)))
  clear F N o1 o2 o3 o4 o5 o6 e1 e2 e3 e4 e5 e6
  show wpAny _ _ (storeName _ _ _) _ _ _
  refine wpAny_storeName_cell rfl rfl (c := L + 6) rfl S1.k6 fun h2 hv2 sb2 => ?_
  have S2 := S1.cel 6 (by decide) hv2 sb2
  have kl2 : KL L h1 h2 := .but sb2 nout6
  have G2 := G1.mono kl2
  refine S2.opn fun o1 o2 o3 o4 o5 o6 N e1 e2 e3 e4 e5 e6 => ?_
  have F := S2.F
  k_steps
  show wpAny _ _ _ _ _ _
  obtain ⟨va, lva, sva⟩ := G2.now.1.2.1
  have lenva := StrsAre.length sva
  refine comp_law (n := va.length) (P := fun i v => va[i]? = some v) (wr := []) (ld := fun v m => m (Str.ofString "x") = some v) (J := fun _ i ys _ => StrsAre ys (aloneF (d1.take i) d2)) (cl := [(Str.ofString "outer", L + 3)]) (by rfl) (by decide) (by rfl) (by decide) ?src1 (szl (Nat.le_trans (Nat.le_of_eq lenva) (Nat.le_of_lt hl1)) (by decide)) (fun _ _ _ => .nil) (fun _ _ _ _ _ _ hJ => hJ) (binds_name (fun _ => by rfl) (fun _ => by rfl) (fun _ => rfl)) ?turn1 ?hQ1
  case src1 =>
    refine src_list hh (by intro b hb; cases hb) fun Q' hq => ?_
    k_steps
    show wpAny _ _ (subscriptTail _ _ _ _) _ _ _
    refine item_list (k := 0) (vs := [.ref b1, .ref b2]) G2.now.1.2.2.2 (by decide) (by decide) rfl ?_
    exact hq _ _ _ (Kept.refl _) (Nat.le_refl _) lva (by simp)
  case turn1 =>
    intro N' C i v h d tk m' ys E' hi hv hk hsz hC hC2 hn' hm' hJ hyl
    refine S2.rebased fun B z1 z2 z3 z4 z5 z6 kB kB' zB klB nB y1 y2 y3 y4 y5 y6 => ?_
    obtain ⟨F7, N7⟩ := nB h C m' hn' (fun b o e => hk b o (by simp) e) hC2
    have hi' : i < d1.length := lt_eq hi lenva.symm
    obtain ⟨tv, hv'⟩ := strs_at sva (List.getElem?_eq_getElem hi')
    rw [hv'] at hv
    cases hv
    have hmx : Stop (m' (Str.ofString "x") = some (.str d1[i] tv)) := hm'
    obtain ⟨vv, lvv, svv⟩ := (G2 B klB).1.2.2.1
    have lou := (G2 B klB).1.2.2.2
    clear F N
    refine wpAny_tests_one ?_
    refine wp_gen fun Q1 fin => ?_
    have fin : Stop _ := fin
    k_steps
    show wpAny _ _ (subscriptTail _ _ _ _) _ _ _
    refine item_list (k := 1) (vs := [.ref b1, .ref b2]) (Kept.lst F7.keep lou) (by decide) (by decide) rfl ?_
    k_steps
    show wpAny _ _ (compareOp _ _ _) _ _ _
    refine notin_list_strs (Kept.lst F7.keep lvv) svv ?_
    rw [not_any]
    k_steps
    refine fin.go _ _ ?_
    show (if _ then _ else _)
    by_cases hc : d1[i] ∈ d2
    · rw [if_neg (by simp [hc])]
      refine TEnd.intro h d _ (fun b o _ e => e) ?_
      show StrsAre _ (aloneF (d1.take (i + 1)) d2)
      rw [aloneF_succ hi', if_pos hc, List.append_nil]
      exact hJ
    · rw [if_pos (by simp [hc])]
      show wpAny _ _ _ _ _ _
      k_steps
      refine TEnd.intro h d _ (fun b o _ e => e) ?_
      show StrsAre _ (aloneF (d1.take (i + 1)) d2)
      rw [aloneF_succ hi', if_neg hc]
      exact strsAre_append hJ (.cons _ _ .nil)
  case hQ1 =>
    intro N3 D3 h3 d3' tk3 ys3 hD3 hJ3 hyl3 hsD3 hDN3 hk3
    have k3 : ∀ b o, h2.get? b = some o → h3.get? b = some o := fun b o e => hk3 b o (by simp) e
    have S3 := S2.keeps k3
    rw [List.take_of_length_le (Nat.le_of_eq lenva.symm)] at hJ3
    have G3 := (G2.keeps k3).and (S3.gSt ⟨ys3, hD3, hJ3⟩)
    clear F N o1 o2 o3 o4 o5 o6 e1 e2 e3 e4 e5 e6
    refine S3.opn fun o1 o2 o3 o4 o5 o6 N e1 e2 e3 e4 e5 e6 => ?_
    have F := S3.F
    k_steps
    show wpAny _ _ _ _ _ _
    obtain ⟨vb, lvb, svb⟩ := G3.now.1.1.2.2.1
    have lenvb := StrsAre.length svb
    refine comp_law (n := vb.length) (P := fun i v => vb[i]? = some v) (wr := []) (ld := fun v m => m (Str.ofString "x") = some v) (J := fun _ i ys _ => StrsAre ys (aloneF (d2.take i) d1)) (cl := [(Str.ofString "outer", L + 3)]) (by rfl) (by decide) (by rfl) (by decide) ?src2 (szl (Nat.le_trans (Nat.le_of_eq lenvb) (Nat.le_of_lt hl2)) (by decide)) (fun _ _ _ => .nil) (fun _ _ _ _ _ _ hJ => hJ) (binds_name (fun _ => by rfl) (fun _ => by rfl) (fun _ => rfl)) ?turn2 ?hQ2
    case src2 =>
      refine src_list hh (by intro b hb; cases hb) fun Q' hq => ?_
      k_steps
      show wpAny _ _ (subscriptTail _ _ _ _) _ _ _
      refine item_list (k := 1) (vs := [.ref b1, .ref b2]) G3.now.1.1.2.2.2 (by decide) (by decide) rfl ?_
      exact hq _ _ _ (Kept.refl _) (Nat.le_refl _) lvb (by simp)
    case turn2 =>
      intro N' C i v h d tk m' ys E' hi hv hk hsz hC hC2 hn' hm' hJ hyl
      refine S3.rebased fun B z1 z2 z3 z4 z5 z6 kB kB' zB klB nB y1 y2 y3 y4 y5 y6 => ?_
      obtain ⟨F7, N7⟩ := nB h C m' hn' (fun b o e => hk b o (by simp) e) hC2
      have hi' : i < d2.length := lt_eq hi lenvb.symm
      obtain ⟨tv, hv'⟩ := strs_at svb (List.getElem?_eq_getElem hi')
      rw [hv'] at hv
      cases hv
      have hmx : Stop (m' (Str.ofString "x") = some (.str d2[i] tv)) := hm'
      obtain ⟨vv, lvv, svv⟩ := (G3 B klB).1.1.2.1
      have lou := (G3 B klB).1.1.2.2.2
      clear F N
      refine wpAny_tests_one ?_
      refine wp_gen fun Q1 fin => ?_
      have fin : Stop _ := fin
      k_steps
      show wpAny _ _ (subscriptTail _ _ _ _) _ _ _
      refine item_list (k := 0) (vs := [.ref b1, .ref b2]) (Kept.lst F7.keep lou) (by decide) (by decide) rfl ?_
      k_steps
      show wpAny _ _ (compareOp _ _ _) _ _ _
      refine notin_list_strs (Kept.lst F7.keep lvv) svv ?_
      rw [not_any]
      k_steps
      refine fin.go _ _ ?_
      show (if _ then _ else _)
      by_cases hc : d2[i] ∈ d1
      · rw [if_neg (by simp [hc])]
        refine TEnd.intro h d _ (fun b o _ e => e) ?_
        show StrsAre _ (aloneF (d2.take (i + 1)) d1)
        rw [aloneF_succ hi', if_pos hc, List.append_nil]
        exact hJ
      · rw [if_pos (by simp [hc])]
        show wpAny _ _ _ _ _ _
        k_steps
        refine TEnd.intro h d _ (fun b o _ e => e) ?_
        show StrsAre _ (aloneF (d2.take (i + 1)) d1)
        rw [aloneF_succ hi', if_neg hc]
        exact strsAre_append hJ (.cons _ _ .nil)
    case hQ2 =>
      intro N4 D4 h4 d4' tk4 ys4 hD4 hJ4 hyl4 hsD4 hDN4 hk4
      have k4 : ∀ b o, h3.get? b = some o → h4.get? b = some o := fun b o e => hk4 b o (by simp) e
      have S4 := S3.keeps k4
      rw [List.take_of_length_le (Nat.le_of_eq lenvb.symm)] at hJ4
      have G4 := (G3.keeps k4).and (S4.gSt ⟨ys4, hD4, hJ4⟩)
      clear F N o1 o2 o3 o4 o5 o6 e1 e2 e3 e4 e5 e6
      refine S4.opn fun o1 o2 o3 o4 o5 o6 N e1 e2 e3 e4 e5 e6 => ?_
      have F := S4.F
      k_steps
      show wpAny _ _ (newTuple _) _ _ _
      refine new_tuple (fun al h5 k5 hal b5 c5 => ?_)
      have S5 := S4.keeps k5
      have G5 := (G4.keeps k5).and (S5.gTup hal)
      show wpAny _ _ (storeName _ _ _) _ _ _
      refine wpAny_storeName_local (by rfl) S5.F.ns (fun h6 hn6 sb6 => ?_) (by rfl)
      have S6 := S5.loc hn6 sb6
      have kl6 : KL L h5 h6 := .but sb6 nout0
      have G6 := G5.mono kl6
      clear F N o1 o2 o3 o4 o5 o6 e1 e2 e3 e4 e5 e6
      refine S6.opn fun o1 o2 o3 o4 o5 o6 N e1 e2 e3 e4 e5 e6 => ?_
      have F := S6.F
      k_steps
      show wpAny _ _ (compareOp _ _ _) _ _ _
      have okA : ∀ {a b : List Str}, (∀ x ∈ a, x ∈ W14) → ∀ k ∈ aloneF a b, PyData.strOk k = true := fun ha k hk => (W14_ok k (ha k (List.mem_filter.mp hk).1)).2
      have gg := G6.now
      refine ne_pair_same gg.1.1.1.2.1 gg.2 gg.1.1.1.2.2.1 gg.1.1.1.2.2.2 gg.1.1.2 gg.1.2 (okA w1) (okA w2) (ltl hu (by decide)) ?_
      walk1
      rw [if_neg (by decide)]
      walk1
      walk1
      refine hQ h6 _ _ _ to t1 t2 S6 (fun y n => ?_) (G6.imp fun h q => ⟨q.1.1.1.1.1, q.1.1.1.2⟩)
      show (if _ then _ else _) = _
      rw [if_neg n]
end Mine
end

section
open PySem PySem.W PyProof.Rows
set_option Elab.async false
set_option maxRecDepth 100000
namespace Mine
section
variable {w : World} {base h h' : Heap} {L : Addr} {xs : List Addr} {m : Str → Option Value} {c1 c2 c3 c4 c5 c6 : Option Value}
theorem LawS.xRdr {b : Nat} {x ig : Addr} {ks : List Str} (r : RdrAt w b h x ig ks) (hb : L + 6 < b) (hx : ∀ a ∈ xs, a = ig ∨ a < b) : Gx L xs h (fun h => RdrAt w b h x ig ks) := fun h' k =>
  r.of fun a o n ge e => k a o (out_gt (Nat.lt_of_lt_of_le hb ge)) (fun q => (hx a q).elim n fun z => Nat.not_lt.mpr ge z) e
end
set_option pp.deepTerms false
set_option pp.deepTerms.threshold 6
set_option maxHeartbeats 4000000
theorem part_d {w : World} {A : Around} {mg mb : Str → Option Value} {mean : ExcName → Option Value} {base : Heap} {L fa : Addr} {cd : Value} {m : Str → Option Value}
    {s : Shared} {ev wa a1 a2 to t1 t2 : Addr} {p1 p2 : List Int} {n1 n2 : List Str} {c1 c3 c4 c5 : Option Value} {Q : Flow → Shared → Prop} {E : Value → Shared → Prop} 
    (X : (hd.heap_39 w.params).In base) (T : Top hd.view_39 LO mean mg mb base) (S : LawS base L s.heap m c1 (some (.ref wa)) c3 c4 c5 (some (.ref to)))
    (hm1 : m (Str.ofString "one") = some (.ref a1)) (hm2 : m (Str.ofString "other") = some (.ref a2))
    (G : Gd L s.heap (fun h => PhiB ev wa a1 a2 p1 p2 h ∧ IsTup h to #[.ref t1, .ref t2] ∧ StAt h t1 n1 ∧ StAt h t2 n2))
    (hp1 : OkP p1) (hp2 : OkP p2) (hl1 : p1.length ≤ 7) (hl2 : p2.length ≤ 7) (w1 : ∀ x ∈ n1, x ∈ W14) (w2 : ∀ x ∈ n2, x ∈ W14) (hl : n1.length + n2.length < 64)
    (hd1 : A.depth + 100 < recursionLimit) (hu : A.units + 1000 < cLine) (hh : A.handled = none)
    (hQ : ∀ h d tk m' ed rd un x1 i1 x2 i2 ss, LawS base L h m' c1 (some (.ref wa)) c3 c4 c5 (some (.ref to)) → 
      m' (Str.ofString "one") = some (.ref a1) → m' (Str.ofString "other") = some (.ref a2) → m' (Str.ofString "edge") = some (.ref ed) → m' (Str.ofString "readers") = some (.ref rd) → m' (Str.ofString "unlike") = some (.ref un) →
      Gx L [un, i2, i1] h (fun h => (PhiB ev wa a1 a2 p1 p2 h ∧ IsTup h to #[.ref t1, .ref t2] ∧ StAt h t1 n1 ∧ StAt h t2 n2) ∧ StAt h ed ss ∧ IsTup h rd #[.ref x1, .ref x2] ∧ RdrAt w base.objs.size h x1 i1 (nms p1) ∧ RdrAt w base.objs.size h x2 i2 (nms p2)) →
      IgAt w h i1 (nms p1) 1 → IgAt w h i2 (nms p2) 1 → i1 < i2 → i2 < rd → rd < un → L + 6 < i1 → h.PlainList un #[] → ss.Perm ((n1 ++ n2).foldl stepF []) → sortedS ss = true →
      wpAny (model PR w) A (execs ((lawBody w.params).drop 13) (lawEnv w.params L fa cd)) Q E { s with heap := h, drawn := d, toks := tk }) :
    wpAny (model PR w) A (execs ((lawBody w.params).drop 10) (lawEnv w.params L fa cd)) Q E s := by
  with_unfolding_all show wpAny _ _ (execs (_ :: _) (envOfC _ (Scope.mk _ _ _ _ _) _ _ _)) _ _ _
  refine S.opn fun o1 o2 o3 o4 o5 o6 N e1 e2 e3 e4 e5 e6 => ?_
  have F := S.F
  have hm1' : Stop (m (Str.ofString "one") = some (.ref a1)) := hm1
  have hm2' : Stop (m (Str.ofString "other") = some (.ref a2)) := hm2
  clear hm1 hm2
  w_on
  k_steps
  show wpAny _ _ (subscriptTail _ _ _ _) _ _ _
  refine item_tupleT (l := [.ref t1, .ref t2]) (j := 0) G.now.2.1 (by decide) (by decide) rfl rfl ?_
  k_steps
  show wpAny _ _ (subscriptTail _ _ _ _) _ _ _
  refine item_tupleT (l := [.ref t1, .ref t2]) (j := 1) G.now.2.1 (by decide) (by decide) rfl rfl ?_
  k_steps
  show wpAny _ _ (binaryOp _ _ _) _ _ _
  obtain ⟨u1, lu1, su1⟩ := G.now.2.2.1
  obtain ⟨u2, lu2, su2⟩ := G.now.2.2.2
  have len1 := StrsAre.length su1
  have len2 := StrsAre.length su2
  refine add_new lu1 lu2 (fun ad g1 k1 had b1 f1 => ?_) (szl (Nat.le_of_lt (by rw [len1, len2]; exact hl)) (by decide))
  have S1 := S.keeps k1
  have G1 := G.keeps k1
  clear F N o1 o2 o3 o4 o5 o6 e1 e2 e3 e4 e5 e6
  refine S1.opn fun o1 o2 o3 o4 o5 o6 N e1 e2 e3 e4 e5 e6 => ?_
  have F := S1.F
  k_steps
  show wpAny _ _ (newList _) _ _ _
  refine new_list (fun l0 g2 k2 hl0 b2 f2 => ?_)
  have S2 := S1.keeps k2
  have G2 := G1.keeps k2
  clear F N o1 o2 o3 o4 o5 o6 e1 e2 e3 e4 e5 e6
  refine S2.opn fun o1 o2 o3 o4 o5 o6 N e1 e2 e3 e4 e5 e6 => ?_
  have F := S2.F
  k_steps
  show wpAny _ _ (call _ [_, _, _]) _ _ _
  have hoW : ∀ k ∈ n1 ++ n2, k ∈ W14 := fun k hk => (List.mem_append.mp hk).elim (w1 k) (w2 k)
  refine reduce_steps (ks := []) (ns := n1 ++ n2) (X.keeps F.keep) (T.keeps F.keep) (Kept.lst k2 had) (strsAre_append su1 su2) hl0 .nil (nil_lt (by rw [List.length_append]; exact Nat.le_of_lt hl) (by decide)) (fun _ hk => nomatch hk) (fun k hk => (W14_ok k (hoW k hk)).1) (ltl hd1 (by decide)) hh ?_
  intro b3 ws3 g3 d3' tk3 k3 hb3 sb3
  have S3 := S2.keeps k3
  have G3 := G2.keeps k3
  clear F N o1 o2 o3 o4 o5 o6 e1 e2 e3 e4 e5 e6
  refine S3.opn fun o1 o2 o3 o4 o5 o6 N e1 e2 e3 e4 e5 e6 => ?_
  have F := S3.F
  k_steps
  show wpAny _ _ (call _ [_]) _ _ _
  have flen := (foldF_ok (n1 ++ n2) [] (fun _ hk => nomatch hk) (fun k hk => (W14_ok k (hoW k hk)).1)).2
  refine sorted_st ⟨ws3, hb3, sb3⟩ (by rw [List.length_nil, Nat.zero_add, List.length_append] at flen; exact Nat.lt_of_le_of_lt flen hl) fun ed g4 ss k4 hed ped sed z4 => ?_
  have S4 := S3.keeps k4
  have G4 := (G3.keeps k4).and (S4.gSt hed)
  show wpAny _ _ (storeName _ _ _) _ _ _
  refine wpAny_storeName_local (by rfl) S4.F.ns (fun g5 hn5 sb5 => ?_) (by rfl)
  have S5 := S4.loc hn5 sb5
  have kl5 : KL L g4 g5 := .but sb5 nout0
  have G5 := G4.mono kl5
  clear F N o1 o2 o3 o4 o5 o6 e1 e2 e3 e4 e5 e6
  refine S5.opn fun o1 o2 o3 o4 o5 o6 N e1 e2 e3 e4 e5 e6 => ?_
  have F := S5.F
  k_steps
  have hma : (fun y => if y = Str.ofString "edge" then some (Value.ref ed) else m y) (Str.ofString "one") = some (.ref a1) := by
    show (if _ then _ else _) = _
    rw [if_neg (by decide)]
    exact hm1'
  have hmb : (fun y => if y = Str.ofString "edge" then some (Value.ref ed) else m y) (Str.ofString "other") = some (.ref a2) := by
    show (if _ then _ else _) = _
    rw [if_neg (by decide)]
    exact hm2'
  show wpAny _ _ _ _ _ _
  obtain ⟨vq1, lq1, iq1⟩ := G5.now.1.1.2.1
  have lenq1 := IntsAre.length iq1
  refine comp_law (n := vq1.length) (P := fun i v => vq1[i]? = some v) (wr := []) (ld := fun v m => m (Str.ofString "k") = some v) (J := fun _ i ys _ => StrsAre ys (nms (p1.take i))) (cl := [(Str.ofString "words", L + 2)]) (by rfl) (by decide) (by rfl) (by decide) ?src1 (szl (Nat.le_trans (Nat.le_of_eq lenq1) hl1) (by decide)) (fun _ _ _ => .nil) (fun _ _ _ _ _ _ hJ => hJ) (binds_name (fun _ => by rfl) (fun _ => by rfl) (fun _ => rfl)) ?turn1 ?hQ1
  case src1 =>
    refine src_list hh (by intro b hb; cases hb) fun Q' hq => ?_
    refine wpAny_Name (wpAny_loadName_local (by rfl) (by rfl) S5.F.ns hma ?_) (by decide)
    exact hq _ _ _ (Kept.refl _) (Nat.le_refl _) lq1 (by simp)
  case turn1 =>
    intro N' C i v h d tk m' ys E' hi hv hk hsz hC hC2 hn' hm' hJ hyl
    refine S5.rebased fun B z1 z2 z3 z4 z5 z6 kB kB' zB klB nB y1 y2 y3 y4 y5 y6 => ?_
    obtain ⟨F7, N7⟩ := nB h C m' hn' (fun b o e => hk b o (by simp) e) hC2
    obtain ⟨j, tj, rfl, hj⟩ : ∃ j tj, v = .int j tj ∧ p1[i]? = some j := by
      have hi' : i < p1.length := lt_eq hi lenq1.symm
      obtain ⟨tj, e⟩ := IntsAre.int_at iq1 i v hv
      exact ⟨_, tj, e, by simp [hi']⟩
    obtain ⟨ws, hws, sws⟩ := (G5 B klB).1.1.1.2
    clear F N
    refine tests_nil ?_
    rw [if_pos rfl]
    show wpAny _ _ _ _ _ _
    k_steps
    show wpAny _ _ (subscriptTail _ _ _ _) _ _ _
    obtain ⟨hj0, hj1⟩ := hp1 j (List.mem_of_getElem? hj)
    obtain ⟨tw, hat⟩ := word_at sws hj0 hj1
    refine item_list (Kept.lst F7.keep hws) hj0 (Int.lt_trans hj1 (by decide)) hat ?_
    refine TEnd.intro h d _ (fun b o _ e => e) ?_
    show StrsAre _ (nms (p1.take (i + 1)))
    rw [nms_succ hj]
    exact strsAre_append hJ (.cons _ _ .nil)
  case hQ1 =>
    intro M6 D6 g6 d6' tk6 ys6 hD6 hJ6 hyl6 hsD6 hDM6 hk6
    have k6 : ∀ b o, g5.get? b = some o → g6.get? b = some o := fun b o e => hk6 b o (by simp) e
    have S6 := S5.keeps k6
    rw [List.take_of_length_le (Nat.le_of_eq lenq1.symm)] at hJ6
    have G6 := G5.keeps k6
    clear F N o1 o2 o3 o4 o5 o6 e1 e2 e3 e4 e5 e6
    refine S6.opn fun o1 o2 o3 o4 o5 o6 N e1 e2 e3 e4 e5 e6 => ?_
    have F := S6.F
    k_steps
    show wpAny _ _ (call _ [_]) _ _ _
    refine mk_reader (ks := nms p1) (X.keeps F.keep) (T.keeps F.keep) hD6 hJ6 (by rw [nms_len]; exact Nat.lt_of_le_of_lt hl1 (by decide)) (ltl hd1 (by decide)) hh ?_
    intro x1 i1 g7 tk7 k7 r7 ig7
    have S7 := S6.keeps k7
    have lt7 : L + 6 < g6.objs.size := S6.lt
    have G7 := ((G6.gx.fresh (x := i1) (noneN r7.ig_ge) k7)).and (LawS.xRdr (xs := [i1]) r7 lt7 (by intro a ha; simp at ha; exact .inl ha))
    clear F N o1 o2 o3 o4 o5 o6 e1 e2 e3 e4 e5 e6
    refine S7.opn fun o1 o2 o3 o4 o5 o6 N e1 e2 e3 e4 e5 e6 => ?_
    have F := S7.F
    k_steps
    show wpAny _ _ _ _ _ _
    obtain ⟨vq2, lq2, iq2⟩ := G7.now.1.1.1.2.2
    have lenq2 := IntsAre.length iq2
    refine comp_law (n := vq2.length) (P := fun i v => vq2[i]? = some v) (wr := []) (ld := fun v m => m (Str.ofString "k") = some v) (J := fun _ i ys _ => StrsAre ys (nms (p2.take i))) (cl := [(Str.ofString "words", L + 2)]) (by rfl) (by decide) (by rfl) (by decide) ?src2 (szl (Nat.le_trans (Nat.le_of_eq lenq2) hl2) (by decide)) (fun _ _ _ => .nil) (fun _ _ _ _ _ _ hJ => hJ) (binds_name (fun _ => by rfl) (fun _ => by rfl) (fun _ => rfl)) ?turn2 ?hQ2
    case src2 =>
      refine src_list hh (by intro b hb; cases hb) fun Q' hq => ?_
      refine wpAny_Name (wpAny_loadName_local (by rfl) (by rfl) S7.F.ns hmb ?_) (by decide)
      exact hq _ _ _ (Kept.refl _) (Nat.le_refl _) lq2 (by simp)
    case turn2 =>
      intro N' C i v h d tk m' ys E' hi hv hk hsz hC hC2 hn' hm' hJ hyl
      refine S7.rebased fun B z1 z2 z3 z4 z5 z6 kB kB' zB klB nB y1 y2 y3 y4 y5 y6 => ?_
      obtain ⟨F7, N7⟩ := nB h C m' hn' (fun b o e => hk b o (by simp) e) hC2
      obtain ⟨j, tj, rfl, hj⟩ : ∃ j tj, v = .int j tj ∧ p2[i]? = some j := by
        have hi' : i < p2.length := lt_eq hi lenq2.symm
        obtain ⟨tj, e⟩ := IntsAre.int_at iq2 i v hv
        exact ⟨_, tj, e, by simp [hi']⟩
      obtain ⟨ws, hws, sws⟩ := (G7.gd B klB).1.1.1.1.2
      clear F N
      refine tests_nil ?_
      rw [if_pos rfl]
      show wpAny _ _ _ _ _ _
      k_steps
      show wpAny _ _ (subscriptTail _ _ _ _) _ _ _
      obtain ⟨hj0, hj1⟩ := hp2 j (List.mem_of_getElem? hj)
      obtain ⟨tw, hat⟩ := word_at sws hj0 hj1
      refine item_list (Kept.lst F7.keep hws) hj0 (Int.lt_trans hj1 (by decide)) hat ?_
      refine TEnd.intro h d _ (fun b o _ e => e) ?_
      show StrsAre _ (nms (p2.take (i + 1)))
      rw [nms_succ hj]
      exact strsAre_append hJ (.cons _ _ .nil)
    case hQ2 =>
      intro M8 D8 g8 d8' tk8 ys8 hD8 hJ8 hyl8 hsD8 hDM8 hk8
      have k8 : ∀ b o, g7.get? b = some o → g8.get? b = some o := fun b o e => hk8 b o (by simp) e
      have S8 := S7.keeps k8
      rw [List.take_of_length_le (Nat.le_of_eq lenq2.symm)] at hJ8
      have G8 := G7.keeps k8
      have ig8 := ig7.of fun o e => k8 _ o e
      clear F N o1 o2 o3 o4 o5 o6 e1 e2 e3 e4 e5 e6
      refine S8.opn fun o1 o2 o3 o4 o5 o6 N e1 e2 e3 e4 e5 e6 => ?_
      have F := S8.F
      k_steps
      show wpAny _ _ (call _ [_]) _ _ _
      refine mk_reader (ks := nms p2) (X.keeps F.keep) (T.keeps F.keep) hD8 hJ8 (by rw [nms_len]; exact Nat.lt_of_le_of_lt hl2 (by decide)) (ltl hd1 (by decide)) hh ?_
      intro x2 i2 g9 tk9 k9 r9 jg9
      have S9 := S8.keeps k9
      have ig9 := ig8.of fun o e => k9 _ o e
      have lt9 : L + 6 < g8.objs.size := S8.lt
      have i1lt : i1 < g8.objs.size := ig8.lt
      have i12 : i1 < i2 := Nat.lt_of_lt_of_le i1lt r9.ig_ge
      have G9 := ((G8.fresh (x := i2) (noneN r9.ig_ge) k9)).and (LawS.xRdr (xs := [i2, i1]) r9 lt9 (by
        intro a ha
        simp only [List.mem_cons, List.mem_nil_iff, or_false] at ha
        rcases ha with q | q
        · exact .inl q
        · rw [q]; exact .inr i1lt))
      clear F N o1 o2 o3 o4 o5 o6 e1 e2 e3 e4 e5 e6
      refine S9.opn fun o1 o2 o3 o4 o5 o6 N e1 e2 e3 e4 e5 e6 => ?_
      have F := S9.F
      k_steps
      show wpAny _ _ (newTuple _) _ _ _
      refine new_tuple (fun rd ga ka hrd ba fa' => ?_)
      have Sa := S9.keeps ka
      have ltb : @LE.le Nat _ g9.objs.size rd := ba
      have lti2 : @LT.lt Nat _ i2 g9.objs.size := jg9.lt
      have Ga := (G9.keeps ka).and (Sa.xTup (xs := [i2, i1]) hrd (by
        simp only [List.mem_cons, List.mem_nil_iff, or_false, not_or]
        exact ⟨neN (Nat.lt_of_lt_of_le lti2 ltb), neN (Nat.lt_of_lt_of_le (Nat.lt_trans i12 lti2) ltb)⟩))
      have iga := ig9.of fun o e => ka _ o e
      have jga := jg9.of fun o e => ka _ o e
      show wpAny _ _ (storeName _ _ _) _ _ _
      refine wpAny_storeName_local (by rfl) Sa.F.ns (fun gb hnb sbb => ?_) (by rfl)
      have Sb := Sa.loc hnb sbb
      have klb : KL L ga gb := .but sbb nout0
      have Gb := Ga.kl klb
      have oi1 : Out L i1 := out_gt (Nat.lt_of_lt_of_le lt7 r7.ig_ge)
      have oi2 : Out L i2 := out_gt (Nat.lt_of_lt_of_le lt9 r9.ig_ge)
      have igb := iga.of fun o e => klb _ o oi1 e
      have jgb := jga.of fun o e => klb _ o oi2 e
      clear F N o1 o2 o3 o4 o5 o6 e1 e2 e3 e4 e5 e6
      refine Sb.opn fun o1 o2 o3 o4 o5 o6 N e1 e2 e3 e4 e5 e6 => ?_
      have F := Sb.F
      k_steps
      show wpAny _ _ (newList _) _ _ _
      refine new_plain (fun un gc kc hun bc fc => ?_)
      have Sc := Sb.keeps kc
      have Gc := Gb.fresh (x := un) (noneN bc) kc
      have igc := igb.of fun o e => kc _ o e
      have jgc := jgb.of fun o e => kc _ o e
      show wpAny _ _ (storeName _ _ _) _ _ _
      refine wpAny_storeName_local (by rfl) Sc.F.ns (fun ge hne sbe => ?_) (by rfl)
      have Se := Sc.loc hne sbe
      have kle : KL L gc ge := .but sbe nout0
      have Ge := Gc.kl kle
      have ige := igc.of fun o e => kle _ o oi1 e
      have jge := jgc.of fun o e => kle _ o oi2 e
      have rdun : rd < un := by
        obtain ⟨ord, hord, _⟩ := Gb.now.2
        exact Nat.lt_of_lt_of_le (Heap.lt_size hord) bc
      have bs7 : @LE.le Nat _ base.objs.size g6.objs.size := Nat.le_trans S6.F.above (Nat.le_of_lt (Nat.lt_of_le_of_lt (Nat.le_add_right L 6) lt7))
      have bs9 : @LE.le Nat _ base.objs.size g8.objs.size := Nat.le_trans S8.F.above (Nat.le_of_lt (Nat.lt_of_le_of_lt (Nat.le_add_right L 6) lt9))
      refine hQ ge _ _ _ ed rd un x1 i1 x2 i2 ss Se ?_ ?_ rfl rfl rfl (Ge.imp fun h q => ⟨q.1.1.1.1, q.1.1.1.2, q.2, q.1.1.2.mono bs7, q.1.2.mono bs9⟩) ige jge i12 (Nat.lt_of_lt_of_le lti2 ltb) rdun (Nat.lt_of_lt_of_le lt7 r7.ig_ge) (hun.at fun o e => kle _ o (Sc.out_list hun.isList) e) (ped.trans (List.Perm.refl _)) sed
      · show (if _ then _ else if _ then _ else if _ then _ else _) = _
        rw [if_neg (by decide), if_neg (by decide), if_neg (by decide)]
        exact hm1'
      · show (if _ then _ else if _ then _ else if _ then _ else _) = _
        rw [if_neg (by decide), if_neg (by decide), if_neg (by decide)]
        exact hm2'
end Mine
end

section
open PySem PySem.W PyProof.Rows
set_option Elab.async false
set_option maxRecDepth 100000
namespace Mine
noncomputable def forC (p : Params) : List Stmt := match (lawBody p).drop 13 with | .For _ _ b _ _ :: _ => b | _ => []
noncomputable def cpI (ps : List Int) (k : Nat) : Int := if cp ps k then 1 else 0
set_option pp.deepTerms false
set_option pp.deepTerms.threshold 6
set_option maxHeartbeats 4000000
theorem body_c1 {w : World} {A : Around} {mg mb : Str → Option Value} {mean : ExcName → Option Value} {base : Heap} {L fa : Addr} {cd : Value} {m : Str → Option Value}
    {s : Shared} {ev wa a1 a2 : Addr} {p1 p2 : List Int} {k : Nat} {tk0 : Tok} {c2 c3 c4 c6 : Option Value} {Q : Flow → Shared → Prop} {E : Value → Shared → Prop} 
    (X : (hd.heap_39 w.params).In base) (T : Top hd.view_39 LO mean mg mb base) (S : LawS base L s.heap m (some (.ref ev)) c2 c3 c4 (some (.int (k : Int) tk0)) c6)
    (hm1 : m (Str.ofString "one") = some (.ref a1)) (hm2 : m (Str.ofString "other") = some (.ref a2))
    (G : Gd L s.heap (PhiB ev wa a1 a2 p1 p2))
    (hp1 : OkP p1) (hp2 : OkP p2) (hl1 : p1.length ≤ 7) (hl2 : p2.length ≤ 7) (hk : k < 14)
    (hd1 : A.depth + 100 < recursionLimit) (hu : A.units + 1000 < cLine) (hh : A.handled = none)
    (hQ : ∀ h d tk du ys, LawS base L h (fun y => if y = Str.ofString "due" then some (.ref du) else m y) (some (.ref ev)) c2 c3 c4 (some (.int (k : Int) tk0)) c6 → KL L s.heap h → h.IsList du (List.toArray ys) → IntsAre ys [cpI p1 k, cpI p2 k] → s.heap.objs.size ≤ du →
      wpAny (model PR w) A (execs ((forC w.params).drop 1) (lawEnv w.params L fa cd)) Q E { s with heap := h, drawn := d, toks := tk }) :
    wpAny (model PR w) A (execs (forC w.params) (lawEnv w.params L fa cd)) Q E s := by
  with_unfolding_all show wpAny _ _ (execs (_ :: _) (envOfC _ (Scope.mk _ _ _ _ _) _ _ _)) _ _ _
  refine S.opn fun o1 o2 o3 o4 o5 o6 N e1 e2 e3 e4 e5 e6 => ?_
  have F := S.F
  have hm1' : Stop (m (Str.ofString "one") = some (.ref a1)) := hm1
  have hm2' : Stop (m (Str.ofString "other") = some (.ref a2)) := hm2
  clear hm1 hm2
  w_on
  k_steps
  show wpAny _ _ _ _ _ _
  refine assign_law (n := [Value.ref a1, .ref a2].length) (P := fun i v => [Value.ref a1, .ref a2][i]? = some v) (ld := fun v m => m (Str.ofString "row") = some v) (J := fun _ i ys _ => IntsAre ys ([cpI p1 k, cpI p2 k].take i)) (cl := [(Str.ofString "k", L + 5), (Str.ofString "every", L + 1)]) (by rfl) (by rfl) (by decide) (by rfl) (by decide) (by rfl) (by rfl) S.F.ns ?src1 (show 2 ≤ sizeLine by decide) (fun _ _ _ => .nil) (fun _ _ _ _ _ _ hJ => hJ) (binds_name (fun _ => by rfl) (fun _ => by rfl) (fun _ => rfl)) ?turn1 ?hQ1
  case src1 =>
    refine src_tuple hh (by intro b hb; cases hb) fun Q' hq => ?_
    k_steps
    refine wpAny_Name (wpAny_loadName_local (by rfl) (by rfl) F.ns hm1' ?_) (by decide)
    k_steps
    refine wpAny_Name (wpAny_loadName_local (by rfl) (by rfl) F.ns hm2' ?_) (by decide)
    k_steps
    show wpAny _ _ (newTuple _) _ _ _
    refine new_tuple (fun tu h1 k1 htu b1 f1 => ?_)
    exact hq _ _ _ k1 (Nat.le_of_lt (Nat.lt_of_le_of_lt b1 f1)) htu (by simp)
  case turn1 =>
    intro N' C i v h d tk m' ys E' hi hv hk' hsz hC hC2 hn' hm' hJ hyl
    refine S.rebased fun B z1 z2 z3 z4 z5 z6 kB kB' zB klB nB y1 y2 y3 y4 y5 y6 => ?_
    obtain ⟨F7, N7⟩ := nB h C m' hn' hk' hC2
    obtain ⟨a, p, rfl, hpi, hpo, hpl, hpa⟩ : ∃ a p, v = .ref a ∧ [p1, p2][i]? = some p ∧ OkP p ∧ p.length ≤ 7 ∧ ∀ h, PhiB ev wa a1 a2 p1 p2 h → PlAt h a p := by
      match i, hv with
      | 0, hv => exact ⟨a1, p1, by simpa using hv.symm, rfl, hp1, hl1, fun h q => q.2.1⟩
      | 1, hv => exact ⟨a2, p2, by simpa using hv.symm, rfl, hp2, hl2, fun h q => q.2.2⟩
      | i + 2, hv => simp at hv
    have hmr : Stop (m' (Str.ofString "row") = some (.ref a)) := hm'
    have eJ : [cpI p1 k, cpI p2 k].take (i + 1) = [cpI p1 k, cpI p2 k].take i ++ [cpI p k] := by
      match i, hpi with
      | 0, hpi => simp at hpi; subst hpi; rfl
      | 1, hpi => simp at hpi; subst hpi; rfl
      | i + 2, hpi => simp at hpi
    have XB := X.keeps kB
    have TB := T.keeps kB
    obtain ⟨vs, hvs, ivs⟩ := hpa B (G B klB)
    have hvl := IntsAre.length ivs
    clear F N
    refine tests_nil ?_
    rw [if_pos rfl]
    show wpAny _ _ _ _ _ _
    k_steps
    · have hany : (p.any fun x => x == (k : Int)) = true := by assumption
      rw [any_mem] at hany
      refine TEnd.intro h d _ (fun b o _ e => e) ?_
      show IntsAre _ ([cpI p1 k, cpI p2 k].take (i + 1))
      rw [eJ, show cpI p k = 1 by unfold cpI cp; rw [hany]; rfl]
      exact hJ.append (.cons _ _ .nil)
    · have hany : (p.any fun x => x == (k : Int)) = false := by assumption
      rw [any_mem] at hany
      show wpAny _ _ (call _ [_, _, _]) _ _ _
      refine above_law (XB.keeps F7.keep) (TB.keeps F7.keep) ⟨vs, Kept.lst F7.keep hvs, ivs⟩ ((G B klB).1.1.keeps F7.keep) hpo (Nat.le_trans hpl (by decide)) ⟨Int.natCast_nonneg _, c14 hk⟩ (ltl hd1 (by decide)) (ltl hu (by decide)) hh ?_
      intro b8 h8 d8 tk8 k8 hb8
      have F8 := fr_kept F7 k8
      have N8 := news_kept N7 k8
      clear F7 N7
      k_steps
      show wpAny _ _ (newList _) _ _ _
      refine new_list (fun b9 h9 k9 hb9 g9 c9 => ?_)
      have F9 := fr_kept F8 k9
      have N9 := news_kept N8 k9
      clear F8 N8
      k_steps
      show wpAny _ _ (compareOp _ _ _) _ _ _
      obtain ⟨w8, l8, i8⟩ := hb8
      refine ke_ne_ints (Kept.lst k9 l8) hb9 i8 .nil (ltl hu (by decide)) ?_
      have k89 : ∀ b o, h.get? b = some o → h9.get? b = some o := fun b o e => k9 b o (k8 b o e)
      by_cases hc : aboveF (pUp 6) p (k : Int) = []
      · rw [decide_eq_true hc]
        k_steps
        refine TEnd.intro h9 _ _ (fun b o _ e => k89 b o e) ?_
        show IntsAre _ ([cpI p1 k, cpI p2 k].take (i + 1))
        rw [eJ, show cpI p k = 0 by unfold cpI cp; rw [hany, hc]; rfl]
        exact hJ.append (.cons _ _ .nil)
      · rw [decide_eq_false hc]
        k_steps
        refine TEnd.intro h9 _ _ (fun b o _ e => k89 b o e) ?_
        show IntsAre _ ([cpI p1 k, cpI p2 k].take (i + 1))
        rw [eJ, show cpI p k = 1 by unfold cpI cp; rw [hany, decide_eq_true hc]; rfl]
        exact hJ.append (.cons _ _ .nil)
  case hQ1 =>
    intro N1 du h1 d1' tk1 ys1 hD1 hJ1 hyl1 hsD1 hDN1 hnL1 hkL1
    exact hQ h1 _ _ du ys1 (S.put hnL1 hkL1) (KL.butL hkL1) hD1 hJ1 hsD1
end Mine
end

section
open PySem PySem.W PyProof.Rows
set_option Elab.async false
set_option maxRecDepth 100000
namespace Mine
section
variable {base h h' : Heap} {L : Addr} {m : Str → Option Value} {c1 c2 c3 c4 c5 c6 : Option Value}
theorem LawS.buts {xs : List Addr} (S : LawS base L h m c1 c2 c3 c4 c5 c6) (hx : ∀ x ∈ xs, Out L x ∧ base.get? x = none) (k : ∀ b o, b ∉ xs → h.get? b = some o → h'.get? b = some o) : LawS base L h' m c1 c2 c3 c4 c5 c6 := by
  exact ⟨⟨S.F.ns.at' fun o e => k L o (fun q => (hx _ q).1.1 rfl) e, fun b o e => k b o (fun q => by rw [(hx _ q).2] at e; cases e) (S.F.keep b o e), S.F.above⟩, cell_at S.k1 fun o e => k _ o (fun q => (hx _ q).1.2.1 rfl) e, cell_at S.k2 fun o e => k _ o (fun q => (hx _ q).1.2.2.1 rfl) e,
    cell_at S.k3 fun o e => k _ o (fun q => (hx _ q).1.2.2.2.1 rfl) e, cell_at S.k4 fun o e => k _ o (fun q => (hx _ q).1.2.2.2.2.1 rfl) e, cell_at S.k5 fun o e => k _ o (fun q => (hx _ q).1.2.2.2.2.2.1 rfl) e, cell_at S.k6 fun o e => k _ o (fun q => (hx _ q).1.2.2.2.2.2.2 rfl) e⟩
end
noncomputable def RdAt (w : World) (base : Heap) (wa rd x1 x2 i1 i2 : Addr) (p1 p2 : List Int) (h : Heap) : Prop :=
  WdAt h wa ∧ IsTup h rd #[.ref x1, .ref x2] ∧ RdrAt w base.objs.size h x1 i1 (nms p1) ∧ RdrAt w base.objs.size h x2 i2 (nms p2)
theorem cv_cpI {ps : List Int} (h : OkP ps) {k : Nat} (hk : k < 14) : cv (nms ps) (wd k) = cpI ps k := by
  unfold cv cpI
  rw [cov_cp h hk]
set_option pp.deepTerms false
set_option pp.deepTerms.threshold 6
set_option maxHeartbeats 4000000
theorem body_c2 {w : World} {A : Around} {mg mb : Str → Option Value} {mean : ExcName → Option Value} {base : Heap} {L fa : Addr} {cd : Value} {m : Str → Option Value}
    {s : Shared} {wa rd x1 x2 i1 i2 du : Addr} {p1 p2 : List Int} {k c : Nat} {tk0 : Tok} {yd : List Value} {c1 c3 c4 c6 : Option Value} {Q : Flow → Shared → Prop} {E : Value → Shared → Prop} 
    (X : (hd.heap_39 w.params).In base) (T : Top hd.view_39 LO mean mg mb base) (S : LawS base L s.heap m c1 (some (.ref wa)) c3 c4 (some (.int (k : Int) tk0)) c6)
    (hrd : m (Str.ofString "readers") = some (.ref rd)) (hdu : m (Str.ofString "due") = some (.ref du))
    (G : Gx L [i2, i1] s.heap (RdAt w base wa rd x1 x2 i1 i2 p1 p2)) (I1 : IgAt w s.heap i1 (nms p1) c) (I2 : IgAt w s.heap i2 (nms p2) c) (hc : c < 1000) (i12 : i1 < i2) (i2r : i2 < rd) (iL : L + 6 < i1)
    (hdl : s.heap.IsList du yd.toArray) (hdi : IntsAre yd [cpI p1 k, cpI p2 k])
    (hp1 : OkP p1) (hp2 : OkP p2) (hl1 : p1.length ≤ 7) (hl2 : p2.length ≤ 7) (hk : k < 14)
    (hd1 : A.depth + 100 < recursionLimit) (hu : A.units + 1000 < cLine) (hh : A.handled = none)
    (hQ : ∀ h d tk, LawS base L h m c1 (some (.ref wa)) c3 c4 (some (.int (k : Int) tk0)) c6 → (∀ b o, b ∉ [i2, i1] → s.heap.get? b = some o → h.get? b = some o) → IgAt w h i1 (nms p1) (c + 2) → IgAt w h i2 (nms p2) (c + 2) →
      wpAny (model PR w) A (execs ((forC w.params).drop 2) (lawEnv w.params L fa cd)) Q E { s with heap := h, drawn := d, toks := tk }) :
    wpAny (model PR w) A (execs ((forC w.params).drop 1) (lawEnv w.params L fa cd)) Q E s := by
  with_unfolding_all show wpAny _ _ (execs (_ :: _) (envOfC _ (Scope.mk _ _ _ _ _) _ _ _)) _ _ _
  refine S.opn fun o1 o2 o3 o4 o5 o6 N e1 e2 e3 e4 e5 e6 => ?_
  have F := S.F
  have hrd' : Stop (m (Str.ofString "readers") = some (.ref rd)) := hrd
  have hdu' : Stop (m (Str.ofString "due") = some (.ref du)) := hdu
  clear hrd hdu
  have b1 : base.get? i1 = none := none_below G.now.2.2.1.ig_ge
  have b2 : base.get? i2 = none := none_below G.now.2.2.2.ig_ge
  have n12 : i1 ≠ i2 := Nat.ne_of_lt i12
  have hxs : ∀ x ∈ [i2, i1], Out L x ∧ base.get? x = none := by
    intro x hx
    simp only [List.mem_cons, List.mem_nil_iff, or_false] at hx
    rcases hx with rfl | rfl
    · exact ⟨out_gt (Nat.lt_trans iL i12), b2⟩
    · exact ⟨out_gt iL, b1⟩
  have hrn : rd ∉ [i2, i1] := by
    simp only [List.mem_cons, List.mem_nil_iff, or_false, not_or]
    exact ⟨neN i2r, neN (Nat.lt_trans i12 i2r)⟩
  have key : ∀ {ig : Addr} {ks : List Str} {a : Addr} {o : Obj}, IgAt w s.heap ig ks c → s.heap.get? a = some o → (∀ es ep, o.data ≠ .dict es ep) → a ≠ ig := by
    rintro ig ks a o ⟨_, kvs, D, _⟩ ha hn rfl
    obtain ⟨oig, g1, es, ep, _, g3, _⟩ := Heap.dictOf_iff.mp D
    rw [ha] at g1
    cases g1
    exact hn es ep g3
  have keys : ∀ {a : Addr} {o : Obj}, s.heap.get? a = some o → (∀ es ep, o.data ≠ .dict es ep) → a ∉ [i2, i1] := by
    intro a o ha hn hm
    simp only [List.mem_cons, List.mem_nil_iff, or_false] at hm
    exact hm.elim (key I2 ha hn) (key I1 ha hn)
  have hdn : du ∉ [i2, i1] := by
    obtain ⟨od, hod, _, nd, hdd⟩ := hdl
    exact keys hod fun es ep q => by rw [hdd] at q; cases q
  w_on
  k_steps
  show wpAny _ _ _ _ _ _
  refine comp_law (n := [Value.ref x1, .ref x2].length) (P := fun i v => [Value.ref x1, .ref x2][i]? = some v) (wr := [i2, i1]) (ld := fun v m => m (Str.ofString "reader") = some v) (J := fun _ i ys h => IntsAre ys ([cpI p1 k, cpI p2 k].take i) ∧ IgAt w h i1 (nms p1) (c + i) ∧ IgAt w h i2 (nms p2) (c + i)) (cl := [(Str.ofString "words", L + 2), (Str.ofString "k", L + 5)]) (by rfl) (by decide) (by rfl) (by decide) ?src1 (show 2 ≤ sizeLine by decide) ?J0 ?Js (binds_name (fun _ => by rfl) (fun _ => by rfl) (fun _ => rfl)) ?turn1 ?hQ1
  case src1 =>
    refine src_tuple hh (by
      intro b hb
      simp only [List.mem_cons, List.mem_nil_iff, or_false] at hb
      rcases hb with rfl | rfl
      · exact I2.lt
      · exact I1.lt) fun Q' hq => ?_
    refine wpAny_Name (wpAny_loadName_local (by rfl) (by rfl) S.F.ns hrd' ?_) (by decide)
    exact hq _ _ _ (Kept.refl _) (Nat.le_refl _) G.now.2.1 hrn
  case J0 =>
    intro N h kk
    exact ⟨.nil, I1.of fun o e => kk _ o e, I2.of fun o e => kk _ o e⟩
  case Js =>
    rintro N i ys h h' kk ⟨q1, q2, q3⟩
    exact ⟨q1, q2.of fun o e => kk _ o (.inl I1.lt) e, q3.of fun o e => kk _ o (.inl I2.lt) e⟩
  case turn1 =>
    intro N' C i v h d tk m' ys E' hi hv hk' hsz hC hC2 hn' hm' hJ hyl
    obtain ⟨J1, J2, J3⟩ := hJ
    have kx : KX L [i2, i1] s.heap h := fun b o _ r e => hk' b o r e
    have GR := G h kx
    obtain ⟨ws, hws, sws⟩ := GR.1
    obtain ⟨x, ig, p, rfl, higm, hpi, hpo, hpl, hR, hRs, hI, hb⟩ : ∃ x ig p, v = .ref x ∧ ig ∈ [i2, i1] ∧ [p1, p2][i]? = some p ∧ OkP p ∧ p.length ≤ 7 ∧ RdrAt w base.objs.size h x ig (nms p) ∧ RdrAt w base.objs.size s.heap x ig (nms p) ∧ IgAt w h ig (nms p) (c + i) ∧
        (∀ h', (∀ b o, b ≠ ig → h.get? b = some o → h'.get? b = some o) → IgAt w h' ig (nms p) (c + (i + 1)) → IgAt w h' i1 (nms p1) (c + (i + 1)) ∧ IgAt w h' i2 (nms p2) (c + (i + 1))) := by
      match i, hv with
      | 0, hv => exact ⟨x1, i1, p1, by simpa using hv.symm, by simp, rfl, hp1, hl1, GR.2.2.1, G.now.2.2.1, J2, fun h' kk q => ⟨q, (J3.of fun o e => kk _ o (Ne.symm n12) e).le (Nat.le_succ _)⟩⟩
      | 1, hv => exact ⟨x2, i2, p2, by simpa using hv.symm, by simp, rfl, hp2, hl2, GR.2.2.2, G.now.2.2.2, J3, fun h' kk q => ⟨(J2.of fun o e => kk _ o n12 e).le (Nat.le_succ _), q⟩⟩
      | i + 2, hv => simp at hv
    have eJ : [cpI p1 k, cpI p2 k].take (i + 1) = [cpI p1 k, cpI p2 k].take i ++ [cpI p k] := by
      match i, hpi with
      | 0, hpi => simp at hpi; subst hpi; rfl
      | 1, hpi => simp at hpi; subst hpi; rfl
      | i + 2, hpi => simp at hpi
    refine hR.elim fun dx ms ds v1 v2 v3 oms n R1 R2 R3 R4 R5 Q1 Q2 Q3 Q4 B1 B2 B3 B4 B5 => ?_
    have kb : ∀ b o, base.get? b = some o → h.get? b = some o := fun b o e => hk' b o (fun q => by rw [(hxs b q).2] at e; cases e) (S.F.keep b o e)
    have bC : @LE.le Nat _ base.objs.size C := Nat.le_trans S.F.above (Nat.le_trans (Nat.le_of_lt (fr_lt S.F)) hC2)
    have F7 : Fr base C h m' := ⟨hn', kb, bC⟩
    have neC : ∀ a o, s.heap.get? a = some o → a ≠ C := fun a o e => Nat.ne_of_lt (Nat.lt_of_lt_of_le (Heap.lt_size e) hC2)
    have N7 : News base C h [(x, instObj 95 dx), (dx, rdDict w v1 v2 v3 ms ds ig), (L + 5, o5), (L + 2, o2)] := by
      refine hRs.elim fun dy _ _ _ _ _ _ _ W1 W2 _ _ _ _ _ _ _ _ _ _ _ _ => ?_
      have q1 := hk' _ _ (keys W1 fun es ep q => by cases q) W1
      rw [R1] at q1
      cases q1
      intro q hq
      simp only [List.mem_cons, List.mem_nil_iff, or_false] at hq
      rcases hq with rfl | rfl | rfl | rfl
      · exact ⟨R1, neC _ _ W1, none_below B1⟩
      · exact ⟨R2, neC _ _ W2, none_below B2⟩
      · exact ⟨hk' _ _ (fun q => nout5 (hxs _ q).1) (N _ (.tail _ (.head _))).1, neC _ _ (N _ (.tail _ (.head _))).1, (N _ (.tail _ (.head _))).2.2⟩
      · exact ⟨hk' _ _ (fun q => nout2 (hxs _ q).1) (N _ (.tail _ (.tail _ (.tail _ (.tail _ (.head _)))))).1, neC _ _ (N _ (.tail _ (.tail _ (.tail _ (.tail _ (.head _)))))).1, (N _ (.tail _ (.tail _ (.tail _ (.tail _ (.head _)))))).2.2⟩
    clear F N
    refine tests_nil ?_
    rw [if_pos rfl]
    show wpAny _ _ _ _ _ _
    k_steps
    show wpAny _ _ (subscriptTail _ _ _ _) _ _ _
    obtain ⟨tw, hat⟩ := word_at (j := (k : Int)) sws (Int.natCast_nonneg _) (c14 hk)
    refine item_list hws (Int.natCast_nonneg _) (i63 hk (by decide)) hat ?_
    k_steps
    show wpAny _ _ (call _ [_, _, _]) _ _ _
    have hwd := (W14_ok _ (wd_W14 hk)).1
    have hci : c + i < 100000 := Nat.lt_trans (Nat.add_lt_add hc (show i < 2 from hi)) (by decide)
    refine names_spec (h₀ := base) kb (Nat.le_trans bC (Nat.le_trans (by rw [hC]; exact Nat.le_succ _) hsz)) X T hR hI hci (by rw [nms_len]; exact Nat.lt_of_le_of_lt hpl (by decide)) (fun q hq => (nms_okn hpo q hq).1) hwd.2 (ltl hd1 (by decide)) hh ?_
    intro h8 d8 tk8 t8 hk8 hI8
    refine TEnd.intro h8 d8 tk8 (fun b o hb e => hk8 b o (fun q => hb (q ▸ higm)) e) ⟨?_, hb h8 hk8 hI8⟩
    rw [eJ]
    refine J1.append ?_
    rw [show ((k : Int)).toNat = k from rfl, cv_cpI hpo hk]
    exact .cons _ _ .nil
  case hQ1 =>
    intro N1 D1 h1 d1' tk1 ys1 hD1 hJ1 hyl1 hsD1 hDN1 hk1
    obtain ⟨J1, J2, J3⟩ := hJ1
    have S1 := S.buts hxs hk1
    clear F N o1 o2 o3 o4 o5 o6 e1 e2 e3 e4 e5 e6
    refine S1.opn fun o1 o2 o3 o4 o5 o6 N e1 e2 e3 e4 e5 e6 => ?_
    have F := S1.F
    refine wpAny_Name (wpAny_loadName_local (by rfl) (by rfl) F.ns hdu' ?_) (by decide)
    k_steps
    show wpAny _ _ (compareOp _ _ _) _ _ _
    refine ke_ne_ints hD1 (hdl.at fun o e => hk1 _ o hdn e) J1 hdi (ltl hu (by decide)) ?_
    rw [decide_eq_true (by rfl)]
    walk1
    rw [if_neg (by decide)]
    walk1
    exact hQ h1 _ _ S1 hk1 J2 J3
end Mine
end

section
open PySem PySem.W PyProof.Rows
set_option Elab.async false
set_option maxRecDepth 100000
namespace Mine
theorem cpI_ne {p1 p2 : List Int} {k : Nat} : cpI p1 k = cpI p2 k ↔ cp p1 k = cp p2 k := by
  unfold cpI
  cases cp p1 k <;> cases cp p2 k <;> simp
theorem tup_at {h h' : Heap} {a : Addr} {its : Array Value} (x : IsTup h a its) (k : ∀ o, h.get? a = some o → h'.get? a = some o) : IsTup h' a its := by
  obtain ⟨o, ho, r⟩ := x
  exact ⟨o, k o ho, r⟩
local macro_rules | `(tactic| walk_at "getMethod ref") => `(tactic| (k_here; refine stop_here ?_))
set_option pp.deepTerms false
set_option pp.deepTerms.threshold 6
set_option maxHeartbeats 4000000
theorem body_c3 {w : World} {A : Around} {mg mb : Str → Option Value} {mean : ExcName → Option Value} {base : Heap} {L fa : Addr} {cd : Value} {m : Str → Option Value}
    {s : Shared} {du un : Addr} {p1 p2 : List Int} {k : Nat} {tk0 : Tok} {yd vu : List Value} {c1 c2 c3 c4 c6 : Option Value} {Q : Flow → Shared → Prop} {E : Value → Shared → Prop} 
    (X : (hd.heap_39 w.params).In base) (T : Top hd.view_39 LO mean mg mb base) (S : LawS base L s.heap m c1 c2 c3 c4 (some (.int (k : Int) tk0)) c6)
    (hun : m (Str.ofString "unlike") = some (.ref un)) (hdu : m (Str.ofString "due") = some (.ref du))
    (hdl : s.heap.IsList du yd.toArray) (hdi : IntsAre yd [cpI p1 k, cpI p2 k]) (hul : s.heap.PlainList un vu.toArray) (hub : base.get? un = none) (hvu : vu.length < 100)
    (hd1 : A.depth + 100 < recursionLimit) (hu : A.units + 1000 < cLine) (hh : A.handled = none)
    (hQ : ∀ h d tk vu', LawS base L h m c1 c2 c3 c4 (some (.int (k : Int) tk0)) c6 → KX L [un] s.heap h → h.PlainList un (List.toArray vu') →
      ((cp p1 k = cp p2 k ∧ vu' = vu) ∨ (cp p1 k ≠ cp p2 k ∧ ∃ tu t1 t2, vu' = vu ++ [.ref tu] ∧ IsTup h tu #[.int (k : Int) t1, .int (cpI p1 k) t2] ∧ s.heap.objs.size ≤ tu)) → Q .next { s with heap := h, drawn := d, toks := tk }) :
    wpAny (model PR w) A (execs ((forC w.params).drop 2) (lawEnv w.params L fa cd)) Q E s := by
  with_unfolding_all show wpAny _ _ (execs (_ :: _) (envOfC _ (Scope.mk _ _ _ _ _) _ _ _)) _ _ _
  refine S.opn fun o1 o2 o3 o4 o5 o6 N e1 e2 e3 e4 e5 e6 => ?_
  have F := S.F
  have hun' : Stop (m (Str.ofString "unlike") = some (.ref un)) := hun
  have hdu' : Stop (m (Str.ofString "due") = some (.ref du)) := hdu
  clear hun hdu
  obtain ⟨t1, t2, rfl⟩ : ∃ t1 t2, yd = [.int (cpI p1 k) t1, .int (cpI p2 k) t2] := by
    cases hdi with
    | cons a t1 r => cases r with
      | cons b t2 r' => cases r' with
        | nil => exact ⟨t1, t2, rfl⟩
  w_on
  k_steps
  refine wpAny_Name (wpAny_loadName_local (by rfl) (by rfl) F.ns hdu' ?_) (by decide)
  k_steps
  show wpAny _ _ (subscriptTail _ _ _ _) _ _ _
  refine item_list (k := 0) hdl (by decide) (by decide) rfl ?_
  k_steps
  refine wpAny_Name (wpAny_loadName_local (by rfl) (by rfl) F.ns hdu' ?_) (by decide)
  k_steps
  show wpAny _ _ (subscriptTail _ _ _ _) _ _ _
  refine item_list (k := 1) hdl (by decide) (by decide) rfl ?_
  k_steps
  · have hne : cpI p1 k ≠ cpI p2 k := by assumption
    refine wpAny_Name (wpAny_loadName_local (by rfl) (by rfl) F.ns hun' ?_) (by decide)
    show wpAny _ _ (getMethod _ _ _) _ _ _
    obtain ⟨no, hob⟩ := id hul
    refine Calls.getMethod_list_append hob rfl rfl ?_
    k_steps
    refine wpAny_Name (wpAny_loadName_local (by rfl) (by rfl) F.ns hdu' ?_) (by decide)
    k_steps
    show wpAny _ _ (subscriptTail _ _ _ _) _ _ _
    refine item_list (k := 0) hdl (by decide) (by decide) rfl ?_
    k_steps
    show wpAny _ _ (newTuple _) _ _ _
    refine new_tuple (fun tu h1 k1 htu b1 f1 => ?_)
    have S1 := S.keeps k1
    have hul1 := hul.at fun o e => k1 un o e
    clear F N o1 o2 o3 o4 o5 o6 e1 e2 e3 e4 e5 e6
    refine S1.opn fun o1 o2 o3 o4 o5 o6 N e1 e2 e3 e4 e5 e6 => ?_
    have F := S1.F
    k_steps
    show wpAny _ _ (call _ [_, _]) _ _ _
    refine wpAny_list_append_plain hul1 (fun h2 hul2 sb2 => ?_) (szl (Nat.le_of_lt hvu) (by decide))
    have htn : tu ≠ un := by
      exact neN (Nat.lt_of_lt_of_le (Heap.lt_size hob) b1)
    refine wpAny_execs_nil (wpAny_execs_nil ?_)
    refine hQ h2 _ _ (vu ++ [Value.ref tu]) (S1.but (S1.out_list hul1.isList) hub sb2.extBut) (fun b o q e => sb2.extBut b o (by simpa using e) ∘ k1 b o) ?_ (.inr ⟨fun q => hne (cpI_ne.mpr q), tu, _, _, rfl, tup_at htu fun o e => sb2.extBut tu o htn e, b1⟩)
    have : vu.toArray.push (Value.ref tu) = (vu ++ [Value.ref tu]).toArray := by simp
    rw [← this]
    exact hul2
  · have heq : cpI p1 k = cpI p2 k := by assumption
    exact hQ _ _ _ vu S (.refl _ _ _) hul (.inl ⟨cpI_ne.mp heq, rfl⟩)
end Mine
end

section
open PySem PySem.W PyProof.Rows
set_option Elab.async false
set_option maxRecDepth 100000
namespace Mine
theorem Gx.sub {L : Addr} {xs ys : List Addr} {h : Heap} {φ : Heap → Prop} (g : Gx L xs h φ) (k : ∀ a ∈ ys, a ∈ xs) : Gx L ys h φ := fun h' k' => g h' fun b o q r e => k' b o q (fun z => r (k b z)) e
theorem KX.sub {L : Addr} {xs ys : List Addr} {h h' : Heap} (k : KX L xs h h') (i : ∀ a ∈ xs, a ∈ ys) : KX L ys h h' := fun b o q r e => k b o q (fun z => r (i b z)) e
noncomputable def unlT (p1 p2 : List Int) (i : Nat) : List Nat := (List.range i).filter fun k => cp p1 k != cp p2 k
theorem unlT_len (p1 p2 : List Int) (i : Nat) : (unlT p1 p2 i).length ≤ i := Nat.le_trans (List.length_filter_le _ _) (by simp)
theorem unlT_eq {p1 p2 : List Int} {i : Nat} (h : cp p1 i = cp p2 i) : unlT p1 p2 (i + 1) = unlT p1 p2 i := by
  unfold unlT
  rw [List.range_succ, List.filter_append]
  simp [h]
theorem unlT_ne {p1 p2 : List Int} {i : Nat} (h : cp p1 i ≠ cp p2 i) : unlT p1 p2 (i + 1) = unlT p1 p2 i ++ [i] := by
  unfold unlT
  rw [List.range_succ, List.filter_append]
  congr 1
  simp [h]
noncomputable def UnlAt (p1 : List Int) (h : Heap) (us : List Addr) (l : List Nat) : Prop := us.length = l.length ∧ ∀ (j : Nat) a k, us[j]? = some a → l[j]? = some k → ∃ t1 t2, IsTup h a #[.int ((k : Nat) : Int) t1, .int (cpI p1 k) t2]
theorem r24 {i : Nat} (h : i < 14) : 1 + 2 * i < 1000 := Nat.lt_of_le_of_lt (Nat.add_le_add_left (Nat.mul_le_mul_left 2 (Nat.le_of_lt h)) 1) (by decide)
theorem at_add {us : List Addr} {l : List Nat} {R : Addr → Nat → Prop} {a : Addr} {k : Nat} (x1 : us.length = l.length) (x2 : ∀ (j : Nat) a k, us[j]? = some a → l[j]? = some k → R a k) (y : R a k) : (us ++ [a]).length = (l ++ [k]).length ∧ ∀ (j : Nat) b r, (us ++ [a])[j]? = some b → (l ++ [k])[j]? = some r → R b r := by
  refine ⟨by simp [x1], fun j b r e1 e2 => ?_⟩
  rcases Nat.lt_or_ge j us.length with hj | hj
  · rw [List.getElem?_append_left hj] at e1
    rw [List.getElem?_append_left (x1 ▸ hj)] at e2
    exact x2 j b r e1 e2
  · rw [List.getElem?_append_right hj] at e1
    rw [List.getElem?_append_right (x1 ▸ hj), ← x1] at e2
    cases q : j - us.length with
    | zero =>
      rw [q] at e1 e2
      simp only [List.getElem?_cons_zero, Option.some.injEq] at e1 e2
      subst e1
      subst e2
      exact y
    | succ n => rw [q] at e1; simp at e1
theorem UnlAt.add {p1 : List Int} {h : Heap} {us : List Addr} {l : List Nat} {a : Addr} {k : Nat} {t1 t2 : Tok} (x : UnlAt p1 h us l) (y : IsTup h a #[.int (k : Int) t1, .int (cpI p1 k) t2]) : UnlAt p1 h (us ++ [a]) (l ++ [k]) :=
  at_add x.1 x.2 ⟨t1, t2, y⟩
noncomputable def JE (w : World) (base : Heap) (L ev wa un i1 i2 I : Addr) (p1 p2 : List Int) (c3 c4 c6 : Option Value) (Φ : Heap → Prop) (m : Str → Option Value) (i : Nat) (h : Heap) : Prop :=
  ∃ m' c5, ∃ us : List Addr, LawS base L h m' (some (.ref ev)) (some (.ref wa)) c3 c4 c5 c6 ∧ (∀ y, y ≠ Str.ofString "due" → m' y = m y) ∧ h.PlainList un (List.toArray (us.map Value.ref)) ∧
    IgAt w h i1 (nms p1) (1 + 2 * i) ∧ IgAt w h i2 (nms p2) (1 + 2 * i) ∧ us.length ≤ i ∧ Gx L [I, un, i2, i1] h (fun h => Φ h ∧ UnlAt p1 h us (unlT p1 p2 i))
set_option pp.deepTerms false
set_option pp.deepTerms.threshold 6
set_option maxHeartbeats 4000000
theorem part_e {w : World} {A : Around} {mg mb : Str → Option Value} {mean : ExcName → Option Value} {base : Heap} {L fa : Addr} {cd : Value} {m : Str → Option Value}
    {s : Shared} {ev wa a1 a2 rd un x1 x2 i1 i2 : Addr} {p1 p2 : List Int} {c3 c4 c5 c6 : Option Value} {φ : Heap → Prop} {Q : Flow → Shared → Prop} {E : Value → Shared → Prop} 
    (X : (hd.heap_39 w.params).In base) (T : Top hd.view_39 LO mean mg mb base) (S : LawS base L s.heap m (some (.ref ev)) (some (.ref wa)) c3 c4 c5 c6)
    (hm1 : m (Str.ofString "one") = some (.ref a1)) (hm2 : m (Str.ofString "other") = some (.ref a2)) (hrd : m (Str.ofString "readers") = some (.ref rd)) (hun : m (Str.ofString "unlike") = some (.ref un))
    (G : Gx L [un, i2, i1] s.heap (fun h => φ h ∧ PhiB ev wa a1 a2 p1 p2 h ∧ RdAt w base wa rd x1 x2 i1 i2 p1 p2 h)) (I1 : IgAt w s.heap i1 (nms p1) 1) (I2 : IgAt w s.heap i2 (nms p2) 1)
    (i12 : i1 < i2) (i2r : i2 < rd) (run : rd < un) (iL : L + 6 < i1) (hul : s.heap.PlainList un #[])
    (hp1 : OkP p1) (hp2 : OkP p2) (hl1 : p1.length ≤ 7) (hl2 : p2.length ≤ 7)
    (hd1 : A.depth + 100 < recursionLimit) (hu : A.units + 1000 < cLine) (hh : A.handled = none)
    (hQ : ∀ h d tk m' c5' us, LawS base L h m' (some (.ref ev)) (some (.ref wa)) c3 c4 c5' c6 → (∀ y, y ≠ Str.ofString "due" → m' y = m y) → 
      Gd L h (fun h => φ h ∧ PhiB ev wa a1 a2 p1 p2 h ∧ UnlAt p1 h us (unl p1 p2) ∧ h.IsList un (List.toArray (us.map Value.ref))) → 
      wpAny (model PR w) A (execs ((lawBody w.params).drop 14) (lawEnv w.params L fa cd)) Q E { s with heap := h, drawn := d, toks := tk }) :
    wpAny (model PR w) A (execs ((lawBody w.params).drop 13) (lawEnv w.params L fa cd)) Q E s := by
  with_unfolding_all show wpAny _ _ (execs (_ :: _) (envOfC _ (Scope.mk _ _ _ _ _) _ _ _)) _ _ _
  refine S.opn fun o1 o2 o3 o4 o5 o6 N e1 e2 e3 e4 e5 e6 => ?_
  have F := S.F
  w_on
  k_steps
  rename_i hR tkR t1 u1 v1 rR F2 N2 kR
  dsimp only at kR
  have SR := S.keeps kR
  have GR := G.keeps kR
  clear F2 N2
  show wpAny _ _ (pyIter _) _ _ _
  refine wpAny_pyIter_range rR (by decide +kernel) ?_
  dsimp only
  have kp : ∀ b o, hR.get? b = some o → (hR.push { cls := .type "range_iterator", data := .fields #[rawInt 0, rawInt (Builtin.Range.rangeSize 0 14 1), rawInt 1] }).get? b = some o := fun b o e => Heap.get?_push_of_some _ e
  have hIn : hR.get? hR.objs.size = none := none_below (Nat.le_refl _)
  have hIb : base.get? hR.objs.size = none := fresh_none SR.F.keep (Nat.le_refl _)
  have hIo : Out L hR.objs.size := SR.out_new (Nat.le_refl _)
  have hub : base.get? un = none := none_below (Nat.le_trans S.F.above (Nat.le_of_lt (Nat.lt_of_le_of_lt (Nat.le_add_right L 6) (Nat.lt_trans iL (Nat.lt_trans i12 (Nat.lt_trans i2r run))))))
  have i1u : i1 < un := Nat.lt_trans i12 (Nat.lt_trans i2r run)
  have i2u : i2 < un := Nat.lt_trans i2r run
  have huR : un < hR.objs.size := by
    obtain ⟨n, ho⟩ := hul
    exact Heap.lt_size (kR _ _ ho)
  have hm1' : Stop (m (Str.ofString "one") = some (.ref a1)) := hm1
  refine for_gen (n := 14) (fp := [hR.objs.size]) (P := fun i v => ∃ t, v = .int (0 + (i : Int)) t) (St := fun i h => IsRangeIter h hR.objs.size (0 + (i : Nat) * 1) (((14 : Nat) : Int) - (i : Nat)) 1) (JE w base L ev wa un i1 i2 hR.objs.size p1 p2 c3 c4 c6 (fun h => φ h ∧ PhiB ev wa a1 a2 p1 p2 h ∧ RdAt w base wa rd x1 x2 i1 i2 p1 p2 h) m) (LCg.range_walks (A := A) (I := hR.objs.size) hh 0 14) (Heap.get?_push_size _ rfl) ?_ ?_ ?_ ?_
  · refine ⟨m, c5, [], SR.keeps kp, fun y _ => rfl, (hul.at fun o e => kR _ o e).at fun o e => kp _ o e, (I1.of fun o e => kR _ o e).of fun o e => kp _ o e, (I2.of fun o e => kR _ o e).of fun o e => kp _ o e, Nat.le_refl _, (GR.fresh hIn kp).imp fun h q => ⟨q, rfl, fun j a k e => by simp at e⟩⟩
  · rintro i h h' k ⟨m', c5', us, S', hm', hul', J1, J2, hus, g⟩
    exact ⟨m', c5', us, S'.but hIo hIb k, hm', hul'.at fun o e => k _ o (Nat.ne_of_lt huR) e, J1.of fun o e => k _ o (Nat.ne_of_lt (Nat.lt_trans i1u huR)) e, J2.of fun o e => k _ o (Nat.ne_of_lt (Nat.lt_trans i2u huR)) e, hus, g.mono (.but k (by simp))⟩
  · rintro i v h d tk Q1 E1 fin hi ⟨tv, hv⟩ st ⟨m', c5', us, S', hm', hul', J1, J2, hus, g⟩
    rw [Int.zero_add] at hv
    subst hv
    refine wpAny_assign_Name (wpAny_storeName_cell rfl rfl (c := L + 5) rfl S'.k5 fun h2 hv2 sb2 => ?_)
    have S2 := S'.cel 5 (by decide) hv2 sb2
    have kl2 : KL L h h2 := .but sb2 nout5
    have o1 : Out L i1 := out_gt iL
    have o2 : Out L i2 := out_gt (Nat.lt_trans iL i12)
    have ou : Out L un := out_gt (Nat.lt_trans iL i1u)
    have g2 := g.kl kl2
    have hul2 := hul'.at fun o e => kl2 un o ou e
    have J12 := J1.of fun o e => kl2 _ o o1 e
    have J22 := J2.of fun o e => kl2 _ o o2 e
    dsimp only
    show wpAny _ _ (execs (forC w.params) (lawEnv w.params L fa cd)) _ _ _
    refine body_c1 (a1 := a1) (a2 := a2) (p1 := p1) (p2 := p2) (k := i) X T S2 ((hm' _ (by decide)).trans hm1) ((hm' _ (by decide)).trans hm2) (g2.gd.imp fun h q => q.1.2.1) hp1 hp2 hl1 hl2 hi hd1 hu hh ?_
    intro h3 d3 tk3 du ys S3 kl3 hdl hdi zdu
    have hul3 := hul2.at fun o e => kl3 un o ou e
    have J13 := J12.of fun o e => kl3 _ o o1 e
    have J23 := J22.of fun o e => kl3 _ o o2 e
    have g3 := g2.kl kl3
    have look : ∀ y v, y ≠ Str.ofString "due" → m y = some v → (fun y => if y = Str.ofString "due" then some (Value.ref du) else m' y) y = some v := fun y v n e => by
      show (if _ then _ else _) = _
      rw [if_neg n]
      exact (hm' y n).trans e
    refine body_c2 (rd := rd) (x1 := x1) (x2 := x2) (i1 := i1) (i2 := i2) (du := du) (p1 := p1) (p2 := p2) (k := i) (c := 1 + 2 * i) (yd := ys) X T S3 (look _ _ (by decide) hrd) rfl ((g3.sub (by simp)).imp fun h q => q.1.2.2) J13 J23 (r24 hi) i12 i2r iL hdl hdi hp1 hp2 hl1 hl2 hi hd1 hu hh ?_
    intro h4 d4 tk4 S4 k4 J14 J24
    have k4u : un ∉ [i2, i1] := by
      simp only [List.mem_cons, List.mem_nil_iff, or_false, not_or]
      exact ⟨neN i2u, neN i1u⟩
    have hul4 := hul3.at fun o e => k4 un o k4u e
    have zdu' : @LE.le Nat _ h2.objs.size du := zdu
    have hdu4 : du ∉ [i2, i1] := by
      simp only [List.mem_cons, List.mem_nil_iff, or_false, not_or]
      exact ⟨neN (Nat.lt_of_lt_of_le J22.lt zdu'), neN (Nat.lt_of_lt_of_le J12.lt zdu')⟩
    refine body_c3 (du := du) (un := un) (p1 := p1) (p2 := p2) (k := i) (yd := ys) (vu := us.map Value.ref) X T S4 (look _ _ (by decide) hun) rfl (hdl.at fun o e => k4 _ o hdu4 e) hdi hul4 hub (by rw [List.length_map]; exact Nat.lt_trans (Nat.lt_of_le_of_lt hus hi) (by decide)) hd1 hu hh ?_
    intro h5 d5 tk5 vu' S5 kx5 hul5 alt
    have hI2 : h2.get? hR.objs.size = some _ := kl2 _ _ hIo st
    have hI3 := kl3 _ _ hIo hI2
    have hIn4 : hR.objs.size ∉ [i2, i1] := by
      simp only [List.mem_cons, List.mem_nil_iff, or_false, not_or]
      exact ⟨neN (Nat.lt_trans i2u huR), neN (Nat.lt_trans i1u huR)⟩
    have hI4 := k4 _ _ hIn4 hI3
    have kx4 : KX L [hR.objs.size, un, i2, i1] h h4 := (KX.ofKL kl2).trans ((KX.ofKL kl3).trans fun b o q r e => k4 b o (fun z => r (by simp only [List.mem_cons, List.mem_nil_iff, or_false] at z ⊢; exact .inr (.inr z))) e)
    have kx45 : KX L [hR.objs.size, un, i2, i1] h4 h5 := kx5.sub (by simp)
    have g5 := g.mono (kx4.trans kx45)
    have nu1 : i1 ∉ [un] := by simpa using Nat.ne_of_lt i1u
    have nu2 : i2 ∉ [un] := by simpa using Nat.ne_of_lt i2u
    refine fin h5 _ _ ?_ ?_
    · intro b hb o e
      simp only [List.mem_singleton] at hb
      subst hb
      have e5 := kx5 _ o hIo (by simpa using neN huR) (k4 _ _ hIn4 (kl3 _ _ hIo (kl2 _ _ hIo e)))
      exact e5
    · have J15 := J14.of fun o e => kx5 _ o o1 nu1 e
      have J25 := J24.of fun o e => kx5 _ o o2 nu2 e
      have hm5 : ∀ y, y ≠ Str.ofString "due" → (fun y => if y = Str.ofString "due" then some (Value.ref du) else m' y) y = m y := fun y n => by
        show (if _ then _ else _) = _
        rw [if_neg n]
        exact hm' y n
      rcases alt with ⟨q1, q2⟩ | ⟨q1, tu, t2, t3, q2, q3, q4⟩
      · subst q2
        exact ⟨_, _, us, S5, hm5, hul5, J15, J25, Nat.le_succ_of_le hus, by rw [unlT_eq q1]; exact g5⟩
      · subst q2
        have q4' : @LE.le Nat _ h4.objs.size tu := q4
        have hu4 : un < h4.objs.size := by
          obtain ⟨n, ho⟩ := hul4
          exact Heap.lt_size ho
        have htx : tu ∉ [hR.objs.size, un, i2, i1] := by
          simp only [List.mem_cons, List.mem_nil_iff, or_false, not_or]
          exact ⟨neN (Nat.lt_of_lt_of_le (Heap.lt_size hI4) q4'), neN (Nat.lt_of_lt_of_le hu4 q4'), neN (Nat.lt_of_lt_of_le J24.lt q4'), neN (Nat.lt_of_lt_of_le J14.lt q4')⟩
        refine ⟨_, _, us ++ [tu], S5, hm5, by rw [List.map_append]; exact hul5, J15, J25, by rw [List.length_append]; exact Nat.add_le_add_right hus 1, (g5.and (S5.xTup q3 htx)).imp fun h q => ⟨q.1.1, ?_⟩⟩
        rw [unlT_ne q1]
        exact q.1.2.add q.2
  · rintro h d tk ⟨m', c5', us, S', hm', hul', J1, J2, hus, g⟩
    show wpAny _ _ (execs ((lawBody w.params).drop 14) (lawEnv w.params L fa cd)) _ _ _
    refine hQ h d _ m' c5' us S' hm' ?_
    exact (g.gd.and (S'.gList hul'.isList)).imp fun h q => ⟨q.1.1.1, q.1.1.2.1, q.1.2, q.2⟩
end Mine
end

section
open PySem PySem.W PyProof.Rows
set_option Elab.async false
set_option maxRecDepth 100000
namespace Mine
section
variable {p1 p2 : List Int} {d1 d2 : List Str}
theorem due_Mn {p : List Int} {d : List Str} (h : OkP p) (x : DueOk p d) (k : Str) : k ∈ d ↔ Mn (nms p) k := (x.1.mem_iff).trans (due_mem h k)
theorem due_nodup' {p : List Int} {d : List Str} (x : DueOk p d) : d.Nodup := x.1.nodup_iff.mpr (due_nodup p)
theorem due_strict {p : List Int} {d : List Str} (x : DueOk p d) : d.Pairwise slt := sorted_strict x.2 (due_nodup' x)
theorem due_W {p : List Int} {d : List Str} (x : DueOk p d) : ∀ k ∈ d, k ∈ W14 := fun k hk => dueW p k (x.1.mem_iff.mp hk)
theorem due_l {p : List Int} {d : List Str} (h : OkP p) (hp7 : p.length ≤ 7) (x : DueOk p d) : d.length ≤ 14 := by
  rw [x.1.length_eq, List.length_map]
  exact Nat.le_trans (List.length_filter_le _ _) (by simp)
theorem told_iff (h1 : OkP p1) (h2 : OkP p2) (x1 : DueOk p1 d1) (x2 : DueOk p2 d2) (x : Str) : x ∈ aloneF d1 d2 ++ aloneF d2 d1 ↔ (Mn (nms p1) x ∧ ¬ Mn (nms p2) x) ∨ (Mn (nms p2) x ∧ ¬ Mn (nms p1) x) :=
  told_of (due_Mn h1 x1) (due_Mn h2 x2) x
theorem alone_iff (h1 : OkP p1) (h2 : OkP p2) (x1 : DueOk p1 d1) (x2 : DueOk p2 d2) (x : Str) : x ∈ aloneF d1 d2 ↔ Mn (nms p1) x ∧ ¬ Mn (nms p2) x := by
  unfold aloneF
  rw [List.mem_filter, decide_eq_true_eq, due_Mn h1 x1, due_Mn h2 x2]
theorem told_W (h1 : OkP p1) (h2 : OkP p2) (x1 : DueOk p1 d1) (x2 : DueOk p2 d2) : ∀ x ∈ aloneF d1 d2 ++ aloneF d2 d1, x ∈ W14 := by
  intro x hx
  rcases List.mem_append.mp hx with q | q
  · exact due_W x1 x (List.mem_filter.mp q).1
  · exact due_W x2 x (List.mem_filter.mp q).1
theorem edge_perm (h1 : OkP p1) (h2 : OkP p2) (x1 : DueOk p1 d1) (x2 : DueOk p2 d2) : ((aloneF d1 d2 ++ aloneF d2 d1).foldl stepF []).Perm ((lst p1 p2).map wd) :=
  perm_of_mem (fold_nodup (told_W h1 h2 x1 x2)) (lst_nodup p1 p2) fun x => (fold_min (told_W h1 h2 x1 x2) x).trans (mem_lst (t := []) h1 h2 (told_iff h1 h2 x1 x2) x).symm
theorem same_pw {a b : List Str} (ha : a.Pairwise fun a b => ¬ slt b a) (hb : b.Pairwise fun a b => ¬ slt b a) (p : a.Perm b) : a = b :=
  p.eq_of_pairwise (fun x y _ _ h1 h2 => slt_eq h2 h1) ha hb
noncomputable def lst1 (p1 p2 : List Int) : List Nat := (lst p1 p2).filter fun k => decide (cp p1 k = true)
theorem side_same (h1 : OkP p1) (h2 : OkP p2) (x1 : DueOk p1 d1) (x2 : DueOk p2 d2) {ss tt : List Str} (ps : ss.Perm ((lst p1 p2).map wd)) (s1 : sortedS ss = true) (pt : tt.Perm ((lst1 p1 p2).map wd)) (s2 : sortedS tt = true) :
    ss.filter (fun x => decide (x ∈ aloneF d1 d2)) = tt := by
  refine same_pw ((sorted_pw s1).filter _) (sorted_pw s2) ?_
  refine (perm_of_mem ((ps.nodup_iff.mpr (lst_nodup p1 p2)).filter _) ?_ ?_).trans pt.symm
  · exact map_wd_nodup (((List.nodup_range.filter _).filter _).filter _) fun k hk => lst_lt (List.mem_filter.mp hk).1
  · intro x
    have key : ∀ k, k ∈ lst p1 p2 → (wd k ∈ aloneF d1 d2 ↔ cp p1 k = true) := by
      intro k hk
      have hk14 := lst_lt hk
      rw [alone_iff h1 h2 x1 x2, ← cov_cp h1 hk14]
      exact edge_side (nms_W14 h1) (nms_W14 h2) (told_iff h1 h2 x1 x2) (wd_W14 hk14) ((mem_lst (t := []) h1 h2 (told_iff h1 h2 x1 x2) _).mp (List.mem_map.mpr ⟨k, hk, rfl⟩))
    rw [List.mem_filter, decide_eq_true_eq, ps.mem_iff]
    constructor
    · rintro ⟨q1, q2⟩
      obtain ⟨k, hk, rfl⟩ := List.mem_map.mp q1
      exact List.mem_map.mpr ⟨k, List.mem_filter.mpr ⟨hk, decide_eq_true ((key k hk).mp q2)⟩, rfl⟩
    · intro q
      obtain ⟨k, hk, rfl⟩ := List.mem_map.mp q
      obtain ⟨a, b⟩ := List.mem_filter.mp hk
      exact ⟨List.mem_map.mpr ⟨k, a, rfl⟩, (key k a).mpr (of_decide_eq_true b)⟩
end
end Mine
end

section
open PySem PySem.W PyProof.Rows
set_option Elab.async false
set_option maxRecDepth 100000
namespace Mine
noncomputable def LstAt (p1 : List Int) (h : Heap) (us : List Addr) (l : List Nat) : Prop := us.length = l.length ∧ ∀ (j : Nat) a k, us[j]? = some a → l[j]? = some k → ∃ t1 t2, IsTup h a #[.str (wd k) t1, .int (cpI p1 k) t2]
theorem LstAt.add {p1 : List Int} {h : Heap} {us : List Addr} {l : List Nat} {a : Addr} {k : Nat} {t1 t2 : Tok} (x : LstAt p1 h us l) (y : IsTup h a #[.str (wd k) t1, .int (cpI p1 k) t2]) : LstAt p1 h (us ++ [a]) (l ++ [k]) :=
  at_add x.1 x.2 ⟨t1, t2, y⟩
theorem LstAt.of {p1 : List Int} {h h' : Heap} {us : List Addr} {l : List Nat} (x : LstAt p1 h us l) (k : ∀ a ∈ us, ∀ o, h.get? a = some o → h'.get? a = some o) : LstAt p1 h' us l :=
  ⟨x.1, fun j a r e1 e2 => let ⟨t1, t2, q⟩ := x.2 j a r e1 e2; ⟨t1, t2, tup_at q fun o e => k a (List.mem_of_getElem? e1) o e⟩⟩
theorem unl_len (p1 p2 : List Int) : (unl p1 p2).length ≤ 14 := unlT_len p1 p2 14
noncomputable def lstT (p1 p2 : List Int) (k : Nat) : Bool := decide (aboveF (pUp 6) (unlI p1 p2) k = [])
noncomputable def JL (p1 p2 : List Int) (N i : Nat) (ys : List Value) (h : Heap) : Prop := ∃ as : List Addr, ys = as.map Value.ref ∧ LstAt p1 h as (((unl p1 p2).take i).filter (lstT p1 p2)) ∧ ∀ a ∈ as, N ≤ a
set_option pp.deepTerms false
set_option pp.deepTerms.threshold 6
set_option maxHeartbeats 4000000
theorem part_f1 {w : World} {A : Around} {mg mb : Str → Option Value} {mean : ExcName → Option Value} {base : Heap} {L fa : Addr} {cd : Value} {m : Str → Option Value}
    {s : Shared} {ev wa un : Addr} {p1 p2 : List Int} {us : List Addr} {c3 c4 c5 c6 : Option Value} {φ : Heap → Prop} {Q : Flow → Shared → Prop} {E : Value → Shared → Prop} 
    (X : (hd.heap_39 w.params).In base) (T : Top hd.view_39 LO mean mg mb base) (S : LawS base L s.heap m (some (.ref ev)) (some (.ref wa)) c3 c4 c5 c6)
    (hun : m (Str.ofString "unlike") = some (.ref un))
    (G : Gd L s.heap (fun h => φ h ∧ Co ev wa h ∧ UnlAt p1 h us (unl p1 p2) ∧ h.IsList un (List.toArray (us.map Value.ref))))
    (hd1 : A.depth + 100 < recursionLimit) (hu : A.units + 1000 < cLine) (hh : A.handled = none)
    (hQ : ∀ h d tk pl, LawS base L h m (some (.ref ev)) (some (.ref wa)) c3 (some (.ref pl)) c5 c6 → 
      Gd L h (fun h => φ h ∧ Co ev wa h ∧ UnlAt p1 h us (unl p1 p2) ∧ h.IsList un (List.toArray (us.map Value.ref)) ∧ PlAt h pl (unlI p1 p2)) → 
      wpAny (model PR w) A (execs ((lawBody w.params).drop 15) (lawEnv w.params L fa cd)) Q E { s with heap := h, drawn := d, toks := tk }) :
    wpAny (model PR w) A (execs ((lawBody w.params).drop 14) (lawEnv w.params L fa cd)) Q E s := by
  with_unfolding_all show wpAny _ _ (execs (_ :: _) (envOfC _ (Scope.mk _ _ _ _ _) _ _ _)) _ _ _
  refine S.opn fun o1 o2 o3 o4 o5 o6 N e1 e2 e3 e4 e5 e6 => ?_
  have F := S.F
  have hun' : Stop (m (Str.ofString "unlike") = some (.ref un)) := hun
  clear hun
  have ulen := unl_len p1 p2
  have hus := G.now.2.2.1.1
  have pair : ∀ (i : Nat) (v : Value), (us.map Value.ref)[i]? = some v → ∃ (k : Nat) (a : Addr) (t1 t2 : Tok), v = Value.ref a ∧ (unl p1 p2)[i]? = some k ∧ IsTup s.heap a #[.int (k : Int) t1, .int (cpI p1 k) t2] := by
    intro i v hv
    rw [List.getElem?_map] at hv
    obtain ⟨a, ha, rfl⟩ := Option.map_eq_some_iff.mp hv
    have hi : i < (unl p1 p2).length := Nat.lt_of_lt_of_eq (List.getElem?_eq_some_iff.mp ha).1 hus
    obtain ⟨t1, t2, q⟩ := G.now.2.2.1.2 i a _ ha (List.getElem?_eq_getElem hi)
    exact ⟨_, a, t1, t2, rfl, List.getElem?_eq_getElem hi, q⟩
  w_on
  k_steps
  show wpAny _ _ (exec _ _) _ _ _
  refine wpAny_Assign_Name ?_ (by rfl)
  refine comp_law (n := (us.map Value.ref).length) (P := fun i v => (us.map Value.ref)[i]? = some v) (wr := []) (ld := fun v m => ∀ t p q, v = .ref t → IsTup s.heap t #[p, q] → m (Str.ofString "k") = some p ∧ m (Str.ofString "side") = some q) (J := fun _ i ys _ => IntsAre ys ((unlI p1 p2).take i)) (cl := []) (by rfl) (by decide) (by rfl) (by decide) ?src1 (by rw [List.length_map]; exact szl (Nat.le_trans (Nat.le_of_eq hus) ulen) (by decide)) (fun _ _ _ => .nil) (fun _ _ _ _ _ _ hJ => hJ) (binds_pair hh (by decide) ?hP1 (fun _ => by rfl) (fun _ => by rfl) (fun _ => by rfl) (fun _ => rfl)) ?turn1 ?hQ1
  case hP1 =>
    intro i v hv
    obtain ⟨k, a, t1, t2, rfl, _, q⟩ := pair i v hv
    exact ⟨a, _, _, rfl, q, by simp⟩
  case src1 =>
    refine src_list hh (by intro b hb; cases hb) fun Q' hq => ?_
    refine wpAny_Name (wpAny_loadName_local (by rfl) (by rfl) S.F.ns hun' ?_) (by decide)
    exact hq _ _ _ (Kept.refl _) (Nat.le_refl _) G.now.2.2.2 (by simp)
  case turn1 =>
    intro N' C i v h d tk m' ys E' hi hv hk hsz hC hC2 hn' hm' hJ hyl
    obtain ⟨k, a, t1, t2, rfl, hki, q⟩ := pair i v hv
    obtain ⟨hmk, hms⟩ := hm' a _ _ rfl q
    refine S.rebased fun B z1 z2 z3 z4 z5 z6 kB kB' zB klB nB y1 y2 y3 y4 y5 y6 => ?_
    obtain ⟨F7, N7⟩ := nB h C m' hn' (fun b o e => hk b o (by simp) e) hC2
    clear F N
    refine tests_nil ?_
    rw [if_pos rfl]
    show wpAny _ _ _ _ _ _
    k_steps
    refine TEnd.intro h d _ (fun b o _ e => e) ?_
    show IntsAre _ ((unlI p1 p2).take (i + 1))
    rw [List.take_add_one, show (unlI p1 p2)[i]? = some ((k : Nat) : Int) by unfold unlI; rw [List.getElem?_map, hki]; rfl]
    exact hJ.append (.cons _ _ .nil)
  case hQ1 =>
    intro N1 D1 h1 d1' tk1 ys1 hD1 hJ1 hyl1 hsD1 hDN1 hk1
    have k1 : ∀ b o, s.heap.get? b = some o → h1.get? b = some o := fun b o e => hk1 b o (by simp) e
    have S1 := S.keeps k1
    rw [List.take_of_length_le (by rw [List.length_map, hus]; unfold unlI; simp)] at hJ1
    have G1 := (G.keeps k1).and (S1.gPl ⟨ys1, hD1, hJ1⟩)
    show wpAny _ _ (storeName _ _ _) _ _ _
    refine wpAny_storeName_cell rfl rfl (c := L + 4) rfl S1.k4 fun h2 hv2 sb2 => ?_
    have S2 := S1.cel 4 (by decide) hv2 sb2
    have kl2 : KL L h1 h2 := .but sb2 nout4
    exact hQ h2 _ _ D1 S2 ((G1.mono kl2).imp fun h q => ⟨q.1.1, q.1.2.1, q.1.2.2.1, q.1.2.2.2, q.2⟩)
theorem part_f2 {w : World} {A : Around} {mg mb : Str → Option Value} {mean : ExcName → Option Value} {base : Heap} {L fa : Addr} {cd : Value} {m : Str → Option Value}
    {s : Shared} {ev wa un pl : Addr} {p1 p2 : List Int} {us : List Addr} {c3 c5 c6 : Option Value} {φ : Heap → Prop} {Q : Flow → Shared → Prop} {E : Value → Shared → Prop} 
    (X : (hd.heap_39 w.params).In base) (T : Top hd.view_39 LO mean mg mb base) (S : LawS base L s.heap m (some (.ref ev)) (some (.ref wa)) c3 (some (.ref pl)) c5 c6)
    (hun : m (Str.ofString "unlike") = some (.ref un))
    (G : Gd L s.heap (fun h => φ h ∧ Co ev wa h ∧ UnlAt p1 h us (unl p1 p2) ∧ h.IsList un (List.toArray (us.map Value.ref)) ∧ PlAt h pl (unlI p1 p2)))
    (hd1 : A.depth + 100 < recursionLimit) (hu : A.units + 1000 < cLine) (hh : A.handled = none)
    (hQ : ∀ h d tk m' ls as, LawS base L h m' (some (.ref ev)) (some (.ref wa)) c3 (some (.ref pl)) c5 c6 → m' (Str.ofString "least") = some (.ref ls) → (∀ y, y ≠ Str.ofString "least" → m' y = m y) → 
      Gd L h (fun h => φ h ∧ LstAt p1 h as (lst p1 p2) ∧ h.IsList ls (List.toArray (as.map Value.ref))) → 
      wpAny (model PR w) A (execs ((lawBody w.params).drop 16) (lawEnv w.params L fa cd)) Q E { s with heap := h, drawn := d, toks := tk }) :
    wpAny (model PR w) A (execs ((lawBody w.params).drop 15) (lawEnv w.params L fa cd)) Q E s := by
  with_unfolding_all show wpAny _ _ (execs (_ :: _) (envOfC _ (Scope.mk _ _ _ _ _) _ _ _)) _ _ _
  refine S.opn fun o1 o2 o3 o4 o5 o6 N e1 e2 e3 e4 e5 e6 => ?_
  have F := S.F
  have hun' : Stop (m (Str.ofString "unlike") = some (.ref un)) := hun
  clear hun
  have ulen := unl_len p1 p2
  have hus := G.now.2.2.1.1
  have pair : ∀ (i : Nat) (v : Value), (us.map Value.ref)[i]? = some v → ∃ (k : Nat) (a : Addr) (t1 t2 : Tok), v = Value.ref a ∧ (unl p1 p2)[i]? = some k ∧ IsTup s.heap a #[.int (k : Int) t1, .int (cpI p1 k) t2] := by
    intro i v hv
    rw [List.getElem?_map] at hv
    obtain ⟨a, ha, rfl⟩ := Option.map_eq_some_iff.mp hv
    have hi : i < (unl p1 p2).length := Nat.lt_of_lt_of_eq (List.getElem?_eq_some_iff.mp ha).1 hus
    obtain ⟨t1, t2, q⟩ := G.now.2.2.1.2 i a _ ha (List.getElem?_eq_getElem hi)
    exact ⟨_, a, t1, t2, rfl, List.getElem?_eq_getElem hi, q⟩
  w_on
  k_steps
  show wpAny _ _ _ _ _ _
  refine assign_law (n := (us.map Value.ref).length) (P := fun i v => (us.map Value.ref)[i]? = some v) (ld := fun v m => ∀ t p q, v = .ref t → IsTup s.heap t #[p, q] → m (Str.ofString "k") = some p ∧ m (Str.ofString "side") = some q) (J := JL p1 p2) (cl := [(Str.ofString "words", L + 2), (Str.ofString "places", L + 4), (Str.ofString "every", L + 1)]) (by rfl) (by rfl) (by decide) (by rfl) (by decide) (by rfl) (by rfl) S.F.ns ?src1 (by rw [List.length_map]; exact szl (Nat.le_trans (Nat.le_of_eq hus) ulen) (by decide)) (fun _ _ _ => ⟨[], rfl, ⟨by simp, fun j a k e => by simp at e⟩, by simp⟩) ?Js (binds_pair hh (by decide) ?hP1 (fun _ => by rfl) (fun _ => by rfl) (fun _ => by rfl) (fun _ => rfl)) ?turn1 ?hQ1
  case Js =>
    rintro N' i ys h h' k ⟨as, q1, q2, q3⟩
    exact ⟨as, q1, q2.of fun a ha o e => k a o (q3 a ha) e, q3⟩
  case hP1 =>
    intro i v hv
    obtain ⟨k, a, t1, t2, rfl, _, q⟩ := pair i v hv
    exact ⟨a, _, _, rfl, q, by simp⟩
  case src1 =>
    refine src_list hh (by intro b hb; cases hb) fun Q' hq => ?_
    refine wpAny_Name (wpAny_loadName_local (by rfl) (by rfl) S.F.ns hun' ?_) (by decide)
    exact hq _ _ _ (Kept.refl _) (Nat.le_refl _) G.now.2.2.2.1 (by simp)
  case turn1 =>
    intro N' C i v h d tk m' ys E' hi hv hk hsz hC hC2 hn' hm' hJ hyl
    obtain ⟨k, a, t1, t2, rfl, hki, q⟩ := pair i v hv
    obtain ⟨hmk, hms⟩ := hm' a _ _ rfl q
    have hk14 : k < 14 := unl_lt (List.mem_of_getElem? hki)
    refine S.rebased fun B z1 z2 z3 z4 z5 z6 kB kB' zB klB nB y1 y2 y3 y4 y5 y6 => ?_
    obtain ⟨F7, N7⟩ := nB h C m' hn' hk hC2
    have XB := X.keeps kB
    have TB := T.keeps kB
    have GB := G B klB
    obtain ⟨ws, hws, sws⟩ := GB.2.1.2
    obtain ⟨as, ea, eb, ec⟩ := hJ
    have hmk' : Stop (m' (Str.ofString "k") = some (.int (k : Int) t1)) := hmk
    have hms' : Stop (m' (Str.ofString "side") = some (.int (cpI p1 k) t2)) := hms
    have et : (unl p1 p2).take (i + 1) = (unl p1 p2).take i ++ [k] := by rw [List.take_add_one, hki]; rfl
    clear F N
    refine wpAny_tests_one ?_
    refine wp_gen fun Q1 fin => ?_
    have fin : Stop _ := fin
    k_steps
    show wpAny _ _ (call _ [_, _, _]) _ _ _
    have ul : (unlI p1 p2).length ≤ 14 := by unfold unlI; rw [List.length_map]; exact ulen
    refine above_law (XB.keeps F7.keep) (TB.keeps F7.keep) (let ⟨vs, x, y⟩ := GB.2.2.2.2; ⟨vs, Kept.lst F7.keep x, y⟩) (GB.2.1.1.keeps F7.keep) (unlI_ok p1 p2) ul ⟨Int.natCast_nonneg _, c14 hk14⟩ (ltl hd1 (by decide)) (ltl hu (by decide)) hh ?_
    intro b8 h8 d8 tk8 k8 hb8
    have F8 := fr_kept F7 k8
    have N8 := news_kept N7 k8
    clear F7 N7
    k_steps
    show wpAny _ _ (newList _) _ _ _
    refine new_list (fun b9 h9 k9 hb9 g9 c9 => ?_)
    have F9 := fr_kept F8 k9
    have N9 := news_kept N8 k9
    clear F8 N8
    k_steps
    show wpAny _ _ (compareOp _ _ _) _ _ _
    obtain ⟨w8, l8, i8⟩ := hb8
    refine ke_eq_ints (Kept.lst k9 l8) hb9 i8 .nil (ltl hu (by decide)) ?_
    have k89 : ∀ b o, h.get? b = some o → h9.get? b = some o := fun b o e => k9 b o (k8 b o e)
    by_cases hc : aboveF (pUp 6) (unlI p1 p2) (k : Int) = []
    · rw [decide_eq_true hc]
      k_steps
      refine fin.go _ _ ?_
      show (if _ then _ else _)
      rw [if_pos rfl]
      show wpAny _ _ _ _ _ _
      k_steps
      refine wpAny_Name (wpAny_loadName_local (by rfl) (by rfl) F9.ns hmk' ?_) (by decide)
      show wpAny _ _ (subscriptTail _ _ _ _) _ _ _
      obtain ⟨tw, hat⟩ := word_at (j := (k : Int)) sws (Int.natCast_nonneg _) (c14 hk14)
      refine item_list (Kept.lst F9.keep hws) (Int.natCast_nonneg _) (i63 hk14 (by decide)) hat ?_
      k_steps
      refine wpAny_Name (wpAny_loadName_local (by rfl) (by rfl) F9.ns hms' ?_) (by decide)
      k_steps
      show wpAny _ _ (newTuple _) _ _ _
      refine new_tuple (fun tu h10 k10 htu b10 f10 => ?_)
      show Exists _
      have k8t : ∀ b o, h.get? b = some o → h10.get? b = some o := fun b o e => k10 b o (k89 b o e)
      refine TEnd.intro h10 _ _ (fun b o _ e => k8t b o e) ⟨as ++ [tu], by simp [ea], ?_, ?_⟩
      · rw [et, List.filter_append, show [k].filter (lstT p1 p2) = [k] by simp [lstT, hc]]
        exact (eb.of fun a ha o e => k8t a o e).add htu
      · intro a ha
        rcases List.mem_append.mp ha with ha | ha
        · exact ec a ha
        · simp only [List.mem_singleton] at ha
          subst ha
          have q8 : @LT.lt Nat _ C h9.objs.size := fr_lt F9
          have q9 : @LE.le Nat _ h9.objs.size a := b10
          rw [hC]
          exact Nat.le_trans q8 q9
    · rw [decide_eq_false hc]
      k_steps
      refine fin.go _ _ ?_
      show (if _ then _ else _)
      rw [if_neg Bool.false_ne_true]
      refine TEnd.intro h9 _ _ (fun b o _ e => k89 b o e) ⟨as, ea, ?_, ec⟩
      rw [et, List.filter_append, show [k].filter (lstT p1 p2) = [] by simp [lstT, hc], List.append_nil]
      exact eb.of fun a ha o e => k89 a o e
  case hQ1 =>
    intro N1 D1 h1 d1' tk1 ys1 hD1 hJ1 hyl1 hsD1 hDN1 hnL1 hkL1
    obtain ⟨as, ea, eb, ec⟩ := hJ1
    rw [List.take_of_length_le (by rw [List.length_map, hus]; exact Nat.le_refl _)] at eb
    have S1 := S.put hnL1 hkL1
    have kl1 : KL L s.heap h1 := KL.butL hkL1
    have sl : L + 6 < s.heap.objs.size := S.lt
    have gA : Gd L h1 (fun h => LstAt p1 h as (lst p1 p2)) := fun h' k => eb.of fun a ha o e => k a o (out_gt (Nat.lt_of_lt_of_le (Nat.lt_of_lt_of_le sl (Nat.le_trans hsD1 (Nat.le_of_lt hDN1))) (ec a ha))) e
    rw [ea] at hD1
    exact hQ h1 _ _ _ D1 as S1 rfl (fun y n => by show (if _ then _ else _) = _; rw [if_neg n]) (((G.mono kl1).and (gA.and (S1.gList hD1))).imp fun h q => ⟨q.1.1, q.2.1, q.2.2⟩)
end Mine
end

section
open PySem PySem.W PyProof.Rows
set_option Elab.async false
set_option maxRecDepth 100000
namespace Mine
theorem lst_len (p1 p2 : List Int) : (lst p1 p2).length ≤ 14 := Nat.le_trans (List.length_filter_le _ _) (unl_len p1 p2)
theorem lst_pair {p1 : List Int} {h : Heap} {as : List Addr} {l : List Nat} (x : LstAt p1 h as l) (i : Nat) (v : Value) (hv : (as.map Value.ref)[i]? = some v) : ∃ (k : Nat) (a : Addr) (t1 t2 : Tok), v = Value.ref a ∧ l[i]? = some k ∧ IsTup h a #[.str (wd k) t1, .int (cpI p1 k) t2] := by
  have hus := x.1
  rw [List.getElem?_map] at hv
  obtain ⟨a, ha, rfl⟩ := Option.map_eq_some_iff.mp hv
  have hi : i < l.length := Nat.lt_of_lt_of_eq (List.getElem?_eq_some_iff.mp ha).1 hus
  obtain ⟨t1, t2, q⟩ := x.2 i a _ ha (List.getElem?_eq_getElem hi)
  exact ⟨_, a, t1, t2, rfl, List.getElem?_eq_getElem hi, q⟩
theorem any_mem_str {ys : List Str} {k : Str} : (ys.any (· == k)) = decide (k ∈ ys) := by
  rw [Bool.eq_iff_iff]
  simp only [List.any_eq_true, beq_iff_eq, decide_eq_true_eq]
  exact ⟨fun ⟨x, hx, e⟩ => e ▸ hx, fun h => ⟨k, h, rfl⟩⟩
set_option pp.deepTerms false
set_option pp.deepTerms.threshold 6
set_option maxHeartbeats 4000000
theorem part_f3 {w : World} {A : Around} {mg mb : Str → Option Value} {mean : ExcName → Option Value} {base : Heap} {L fa : Addr} {cd : Value} {m : Str → Option Value}
    {s : Shared} {ed ls : Addr} {p1 p2 : List Int} {as : List Addr} {ss : List Str} {c1 c2 c3 c4 c5 c6 : Option Value} {Q : Flow → Shared → Prop} {E : Value → Shared → Prop} 
    (X : (hd.heap_39 w.params).In base) (T : Top hd.view_39 LO mean mg mb base) (S : LawS base L s.heap m c1 c2 c3 c4 c5 c6)
    (hed : m (Str.ofString "edge") = some (.ref ed)) (hls : m (Str.ofString "least") = some (.ref ls))
    (G : Gd L s.heap (fun h => StAt h ed ss ∧ LstAt p1 h as (lst p1 p2) ∧ h.IsList ls (List.toArray (as.map Value.ref)))) (ps : ss.Perm ((lst p1 p2).map wd)) (sso : sortedS ss = true)
    (hd1 : A.depth + 100 < recursionLimit) (hu : A.units + 1000 < cLine) (hh : A.handled = none)
    (hQ : ∀ h d tk, Kept s.heap h → wpAny (model PR w) A (execs ((lawBody w.params).drop 17) (lawEnv w.params L fa cd)) Q E { s with heap := h, drawn := d, toks := tk }) :
    wpAny (model PR w) A (execs ((lawBody w.params).drop 16) (lawEnv w.params L fa cd)) Q E s := by
  with_unfolding_all show wpAny _ _ (execs (_ :: _) (envOfC _ (Scope.mk _ _ _ _ _) _ _ _)) _ _ _
  refine S.opn fun o1 o2 o3 o4 o5 o6 N e1 e2 e3 e4 e5 e6 => ?_
  have F := S.F
  have hed' : Stop (m (Str.ofString "edge") = some (.ref ed)) := hed
  have hls' : Stop (m (Str.ofString "least") = some (.ref ls)) := hls
  clear hed hls
  have ulen := lst_len p1 p2
  have hus := G.now.2.1.1
  have pair := lst_pair G.now.2.1
  have wW : ∀ x ∈ (lst p1 p2).map wd, x ∈ W14 := fun x hx => by
    obtain ⟨k, hk, rfl⟩ := List.mem_map.mp hx
    exact wd_W14 (lst_lt hk)
  w_on
  k_steps
  refine wpAny_Name (wpAny_loadName_local (by rfl) (by rfl) F.ns hed' ?_) (by decide)
  k_steps
  show wpAny _ _ (eval _ _) _ _ _
  refine comp_law (n := (as.map Value.ref).length) (P := fun i v => (as.map Value.ref)[i]? = some v) (wr := []) (ld := fun v m => ∀ t p q, v = .ref t → IsTup s.heap t #[p, q] → m (Str.ofString "word") = some p ∧ m (Str.ofString "side") = some q) (J := fun _ i ys _ => StrsAre ys (((lst p1 p2).take i).map wd)) (cl := []) (by rfl) (by decide) (by rfl) (by decide) ?src1 (by rw [List.length_map]; exact szl (Nat.le_trans (Nat.le_of_eq hus) ulen) (by decide)) (fun _ _ _ => .nil) (fun _ _ _ _ _ _ hJ => hJ) (binds_pair hh (by decide) ?hP1 (fun _ => by rfl) (fun _ => by rfl) (fun _ => by rfl) (fun _ => rfl)) ?turn1 ?hQ1
  case hP1 =>
    intro i v hv
    obtain ⟨k, a, t1, t2, rfl, _, q⟩ := pair i v hv
    exact ⟨a, _, _, rfl, q, by simp⟩
  case src1 =>
    refine src_list hh (by intro b hb; cases hb) fun Q' hq => ?_
    refine wpAny_Name (wpAny_loadName_local (by rfl) (by rfl) S.F.ns hls' ?_) (by decide)
    exact hq _ _ _ (Kept.refl _) (Nat.le_refl _) G.now.2.2 (by simp)
  case turn1 =>
    intro N' C i v h d tk m' ys E' hi hv hk hsz hC hC2 hn' hm' hJ hyl
    obtain ⟨k, a, t1, t2, rfl, hki, q⟩ := pair i v hv
    obtain ⟨hmk, hms⟩ := hm' a _ _ rfl q
    refine S.rebased fun B z1 z2 z3 z4 z5 z6 kB kB' zB klB nB y1 y2 y3 y4 y5 y6 => ?_
    obtain ⟨F7, N7⟩ := nB h C m' hn' (fun b o e => hk b o (by simp) e) hC2
    clear F N
    refine tests_nil ?_
    rw [if_pos rfl]
    show wpAny _ _ _ _ _ _
    k_steps
    refine TEnd.intro h d _ (fun b o _ e => e) ?_
    show StrsAre _ (((lst p1 p2).take (i + 1)).map wd)
    rw [List.take_add_one, hki, List.map_append]
    exact strsAre_append hJ (.cons _ _ .nil)
  case hQ1 =>
    intro N1 D1 h1 d1' tk1 ys1 hD1 hJ1 hyl1 hsD1 hDN1 hk1
    have k1 : ∀ b o, s.heap.get? b = some o → h1.get? b = some o := fun b o e => hk1 b o (by simp) e
    have S1 := S.keeps k1
    rw [List.take_of_length_le (by rw [List.length_map, hus]; exact Nat.le_refl _)] at hJ1
    have G1 := G.keeps k1
    clear F N o1 o2 o3 o4 o5 o6 e1 e2 e3 e4 e5 e6
    refine S1.opn fun o1 o2 o3 o4 o5 o6 N e1 e2 e3 e4 e5 e6 => ?_
    have F := S1.F
    k_steps
    show wpAny _ _ (call _ [_]) _ _ _
    refine sorted_st ⟨ys1, hD1, hJ1⟩ (by rw [List.length_map]; exact Nat.lt_of_le_of_lt (lst_len _ _) (by decide)) fun du h2 tt k2 hdu pdu sdu z2 => ?_
    have S2 := S1.keeps k2
    have G2 := G1.keeps k2
    show wpAny _ _ (compareOp _ _ _) _ _ _
    have e3' : ss = tt := sorted_same sso sdu (ps.trans pdu.symm)
    obtain ⟨v3, l3, s3⟩ := G2.now.1
    obtain ⟨vd, ld, sd⟩ := hdu
    refine ne_strs (ns := ss) (ms := tt) l3 ld s3 sd (perm_ok ps wW) (perm_ok pdu wW) (ltl hu (by decide)) ?_
    rw [decide_eq_true e3']
    walk1
    rw [if_neg (by decide)]
    walk1
    walk1
    exact hQ h2 _ _ fun b o e => k2 b o (k1 b o e)
end Mine
end

section
open PySem PySem.W PyProof.Rows
set_option Elab.async false
set_option maxRecDepth 100000
namespace Mine
noncomputable def sdT (p1 : List Int) (k : Nat) : Bool := decide (cp p1 k = true)
theorem cpI_one {p1 : List Int} {k : Nat} : cpI p1 k = 1 ↔ cp p1 k = true := by
  unfold cpI
  cases cp p1 k <;> simp
set_option pp.deepTerms false
set_option pp.deepTerms.threshold 6
set_option maxHeartbeats 4000000
theorem part_f4 {w : World} {A : Around} {mg mb : Str → Option Value} {mean : ExcName → Option Value} {base : Heap} {L fa : Addr} {cd : Value} {m : Str → Option Value}
    {s : Shared} {ed ls to t1 t2 : Addr} {p1 p2 : List Int} {as : List Addr} {ss n1 : List Str} {c1 c2 c3 c4 c5 : Option Value} {Q : Flow → Shared → Prop} {E : Value → Shared → Prop} 
    (X : (hd.heap_39 w.params).In base) (T : Top hd.view_39 LO mean mg mb base) (S : LawS base L s.heap m c1 c2 c3 c4 c5 (some (.ref to)))
    (hed : m (Str.ofString "edge") = some (.ref ed)) (hls : m (Str.ofString "least") = some (.ref ls))
    (G : Gd L s.heap (fun h => StAt h ed ss ∧ LstAt p1 h as (lst p1 p2) ∧ h.IsList ls (List.toArray (as.map Value.ref)) ∧ IsTup h to #[.ref t1, .ref t2] ∧ StAt h t1 n1))
    (ps : ss.Perm ((lst p1 p2).map wd)) (law : ∀ tt : List Str, tt.Perm ((lst1 p1 p2).map wd) → sortedS tt = true → ss.filter (fun x => decide (x ∈ n1)) = tt)
    (hd1 : A.depth + 100 < recursionLimit) (hu : A.units + 1000 < cLine) (hh : A.handled = none)
    (hQ : ∀ h d tk, LawS base L h m c1 c2 c3 c4 c5 (some (.ref to)) → Q (.ret (.bool true)) { s with heap := h, drawn := d, toks := tk }) :
    wpAny (model PR w) A (execs ((lawBody w.params).drop 17) (lawEnv w.params L fa cd)) Q E s := by
  with_unfolding_all show wpAny _ _ (execs (_ :: _) (envOfC _ (Scope.mk _ _ _ _ _) _ _ _)) _ _ _
  refine S.opn fun o1 o2 o3 o4 o5 o6 N e1 e2 e3 e4 e5 e6 => ?_
  have F := S.F
  have hed' : Stop (m (Str.ofString "edge") = some (.ref ed)) := hed
  have hls' : Stop (m (Str.ofString "least") = some (.ref ls)) := hls
  clear hed hls
  have ulen := lst_len p1 p2
  have slen : ss.length ≤ 14 := by rw [ps.length_eq, List.length_map]; exact ulen
  have wW : ∀ x ∈ (lst p1 p2).map wd, x ∈ W14 := fun x hx => by
    obtain ⟨k, hk, rfl⟩ := List.mem_map.mp hx
    exact wd_W14 (lst_lt hk)
  have wW1 : ∀ x ∈ (lst1 p1 p2).map wd, x ∈ W14 := fun x hx => by
    obtain ⟨k, hk, rfl⟩ := List.mem_map.mp hx
    exact wd_W14 (lst_lt (List.mem_filter.mp hk).1)
  obtain ⟨ve, le, se⟩ := G.now.1
  have elen := StrsAre.length se
  w_on
  k_steps
  show wpAny _ _ (eval _ _) _ _ _
  refine comp_law (n := ve.length) (P := fun i v => ve[i]? = some v) (wr := []) (ld := fun v m => m (Str.ofString "word") = some v) (J := fun _ i ys _ => StrsAre ys ((ss.take i).filter fun x => decide (x ∈ n1))) (cl := [(Str.ofString "told", L + 6)]) (by rfl) (by decide) (by rfl) (by decide) ?src1 (szl (Nat.le_trans (Nat.le_of_eq elen) slen) (by decide)) (fun _ _ _ => .nil) (fun _ _ _ _ _ _ hJ => hJ) (binds_name (fun _ => by rfl) (fun _ => by rfl) (fun _ => rfl)) ?turn1 ?hQ1
  case src1 =>
    refine src_list hh (by intro b hb; cases hb) fun Q' hq => ?_
    refine wpAny_Name (wpAny_loadName_local (by rfl) (by rfl) S.F.ns hed' ?_) (by decide)
    exact hq _ _ _ (Kept.refl _) (Nat.le_refl _) le (by simp)
  case turn1 =>
    intro N' C i v h d tk m' ys E' hi hv hk hsz hC hC2 hn' hm' hJ hyl
    refine S.rebased fun B z1 z2 z3 z4 z5 z6 kB kB' zB klB nB y1 y2 y3 y4 y5 y6 => ?_
    obtain ⟨F7, N7⟩ := nB h C m' hn' (fun b o e => hk b o (by simp) e) hC2
    have hi' : i < ss.length := lt_eq hi elen.symm
    obtain ⟨tv, hv'⟩ := strs_at se (List.getElem?_eq_getElem hi')
    rw [hv'] at hv
    cases hv
    have hmx : Stop (m' (Str.ofString "word") = some (.str ss[i] tv)) := hm'
    obtain ⟨vv, lvv, svv⟩ := (G B klB).2.2.2.2
    have lto := (G B klB).2.2.2.1
    have et : (ss.take (i + 1)).filter (fun x => decide (x ∈ n1)) = (ss.take i).filter (fun x => decide (x ∈ n1)) ++ (if ss[i] ∈ n1 then [ss[i]] else []) := by
      rw [List.take_add_one, List.getElem?_eq_getElem hi', List.filter_append]
      congr 1
      by_cases hc : ss[i] ∈ n1 <;> simp [hc]
    clear F N
    refine wpAny_tests_one ?_
    refine wp_gen fun Q1 fin => ?_
    have fin : Stop _ := fin
    k_steps
    show wpAny _ _ (subscriptTail _ _ _ _) _ _ _
    refine item_tupleT (l := [.ref t1, .ref t2]) (j := 0) (lto.keeps F7.keep) (by decide) (by decide) rfl rfl ?_
    k_steps
    show wpAny _ _ (compareOp _ _ _) _ _ _
    refine in_list_strs (Kept.lst F7.keep lvv) svv ?_
    rw [any_mem_str]
    k_steps
    refine fin.go _ _ ?_
    show (if _ then _ else _)
    by_cases hc : ss[i] ∈ n1
    · rw [if_pos (by simp [hc])]
      show wpAny _ _ _ _ _ _
      k_steps
      refine TEnd.intro h d _ (fun b o _ e => e) ?_
      show StrsAre _ ((ss.take (i + 1)).filter fun x => decide (x ∈ n1))
      rw [et, if_pos hc]
      exact strsAre_append hJ (.cons _ _ .nil)
    · rw [if_neg (by simp [hc])]
      refine TEnd.intro h d _ (fun b o _ e => e) ?_
      show StrsAre _ ((ss.take (i + 1)).filter fun x => decide (x ∈ n1))
      rw [et, if_neg hc, List.append_nil]
      exact hJ
  case hQ1 =>
    intro N1 D1 h1 d1' tk1 ys1 hD1 hJ1 hyl1 hsD1 hDN1 hk1
    have k1 : ∀ b o, s.heap.get? b = some o → h1.get? b = some o := fun b o e => hk1 b o (by simp) e
    have S1 := S.keeps k1
    rw [List.take_of_length_le (Nat.le_of_eq elen.symm)] at hJ1
    have G1 := G.keeps k1
    have hus := G1.now.2.1.1
    have pair := lst_pair G1.now.2.1
    clear F N o1 o2 o3 o4 o5 o6 e1 e2 e3 e4 e5 e6
    refine S1.opn fun o1 o2 o3 o4 o5 o6 N e1 e2 e3 e4 e5 e6 => ?_
    have F := S1.F
    k_steps
    show wpAny _ _ (eval _ _) _ _ _
    refine comp_law (n := (as.map Value.ref).length) (P := fun i v => (as.map Value.ref)[i]? = some v) (wr := []) (ld := fun v m => ∀ t p q, v = .ref t → IsTup h1 t #[p, q] → m (Str.ofString "word") = some p ∧ m (Str.ofString "side") = some q) (J := fun _ i ys _ => StrsAre ys ((((lst p1 p2).take i).filter (sdT p1)).map wd)) (cl := []) (by rfl) (by decide) (by rfl) (by decide) ?src2 (by rw [List.length_map]; exact szl (Nat.le_trans (Nat.le_of_eq hus) ulen) (by decide)) (fun _ _ _ => .nil) (fun _ _ _ _ _ _ hJ => hJ) (binds_pair hh (by decide) ?hP2 (fun _ => by rfl) (fun _ => by rfl) (fun _ => by rfl) (fun _ => rfl)) ?turn2 ?hQ2
    case hP2 =>
      intro i v hv
      obtain ⟨k, a, t1, t2, rfl, _, q⟩ := pair i v hv
      exact ⟨a, _, _, rfl, q, by simp⟩
    case src2 =>
      refine src_list hh (by intro b hb; cases hb) fun Q' hq => ?_
      refine wpAny_Name (wpAny_loadName_local (by rfl) (by rfl) S1.F.ns hls' ?_) (by decide)
      exact hq _ _ _ (Kept.refl _) (Nat.le_refl _) G1.now.2.2.1 (by simp)
    case turn2 =>
      intro N' C i v h d tk m' ys E' hi hv hk hsz hC hC2 hn' hm' hJ hyl
      obtain ⟨k, a, t1, t2, rfl, hki, q⟩ := pair i v hv
      obtain ⟨hmk, hms⟩ := hm' a _ _ rfl q
      refine S1.rebased fun B z1 z2 z3 z4 z5 z6 kB kB' zB klB nB y1 y2 y3 y4 y5 y6 => ?_
      obtain ⟨F7, N7⟩ := nB h C m' hn' (fun b o e => hk b o (by simp) e) hC2
      clear F N
      refine wpAny_tests_one ?_
      refine wp_gen fun Q1 fin => ?_
      have fin : Stop _ := fin
      k_steps
      refine fin.go _ _ ?_
      show (if _ then _ else _)
      have et : ((lst p1 p2).take (i + 1)).filter (sdT p1) = ((lst p1 p2).take i).filter (sdT p1) ++ (if cp p1 k = true then [k] else []) := by
        rw [List.take_add_one, hki, List.filter_append]
        congr 1
        by_cases hc : cp p1 k = true <;> simp [sdT, hc]
      by_cases hc : cp p1 k = true
      · rw [if_pos (by rw [cpI_one.mpr hc]; rfl)]
        show wpAny _ _ _ _ _ _
        k_steps
        refine TEnd.intro h d _ (fun b o _ e => e) ?_
        show StrsAre _ ((((lst p1 p2).take (i + 1)).filter (sdT p1)).map wd)
        rw [et, if_pos hc, List.map_append]
        exact strsAre_append hJ (.cons _ _ .nil)
      · rw [if_neg (fun q => hc (cpI_one.mp (by simpa using q)))]
        refine TEnd.intro h d _ (fun b o _ e => e) ?_
        show StrsAre _ ((((lst p1 p2).take (i + 1)).filter (sdT p1)).map wd)
        rw [et, if_neg hc, List.append_nil]
        exact hJ
    case hQ2 =>
      intro N2 D2 h2 d2' tk2 ys2 hD2 hJ2 hyl2 hsD2 hDN2 hk2
      have k2 : ∀ b o, h1.get? b = some o → h2.get? b = some o := fun b o e => hk2 b o (by simp) e
      have S2 := S1.keeps k2
      rw [List.take_of_length_le (by rw [List.length_map, hus]; exact Nat.le_refl _)] at hJ2
      clear F N o1 o2 o3 o4 o5 o6 e1 e2 e3 e4 e5 e6
      refine S2.opn fun o1 o2 o3 o4 o5 o6 N e1 e2 e3 e4 e5 e6 => ?_
      have F := S2.F
      k_steps
      show wpAny _ _ (call _ [_]) _ _ _
      have llen : ((lst1 p1 p2).map wd).length < 64 := by
        rw [List.length_map]
        exact Nat.lt_of_le_of_lt (Nat.le_trans (List.length_filter_le _ _) ulen) (by decide)
      refine sorted_st (ss := (lst1 p1 p2).map wd) ⟨ys2, hD2, hJ2⟩ llen fun du h3 tt k3 hdu pdu sdu z3 => ?_
      have S3 := S2.keeps k3
      show wpAny _ _ (compareOp _ _ _) _ _ _
      have e3' := law tt pdu sdu
      obtain ⟨vd, ld, sd⟩ := hdu
      have fW : ∀ k ∈ ss.filter (fun x => decide (x ∈ n1)), PyData.strOk k = true := fun k hk => perm_ok ps wW k (List.mem_filter.mp hk).1
      refine eq_strs (Kept.lst (Kept.trans k2 k3) hD1) ld hJ1 sd fW (perm_ok pdu wW1) (ltl hu (by decide)) ?_
      rw [decide_eq_true e3']
      exact hQ h3 _ _ S3
end Mine
end

end
section
open PySem PySem.W PyProof.Rows
set_option Elab.async false
set_option maxRecDepth 100000
namespace Mine
set_option pp.deepTerms false
set_option pp.deepTerms.threshold 6
set_option maxHeartbeats 4000000
theorem law_ends {w : World} {A : Around} {mg mb : Str → Option Value} {mean : ExcName → Option Value} {base : Heap} {L fa : Addr} {cd : Value} {m : Str → Option Value}
    {s : Shared} {l : Addr} {vs : List Value} {ns : List Int} {Q : Flow → Shared → Prop} {E : Value → Shared → Prop} 
    (X : (hd.heap_39 w.params).In base) (T : Top hd.view_39 LO mean mg mb base) (S : LawS base L s.heap m none none none none none none)
    (hm : m (Str.ofString "script") = some (.ref l)) (hl : base.IsList l vs.toArray) (hs : IntsAre vs ns) (hn : ns.length ≤ 63)
    (hd1 : A.depth + 100 < recursionLimit) (hu : A.units + 1000 < cLine) (hh : A.handled = none) (hA : A.frames = some [lawEnv w.params L fa cd])
    (hQ : ∀ h d tk m', Fr base L h m' → Q (.ret (.bool true)) { s with heap := h, drawn := d, toks := tk }) :
    wpAny (model PR w) A (execs (lawBody w.params) (lawEnv w.params L fa cd)) Q E s := by
  refine part_a1 X T S hd1 hh ?_
  intro h1 d1 tk1 ev wa S1 hE hW
  refine part_a2 X T S1 ((S1.gEv hE).and (S1.gWd hW)) hm hl hs hn hd1 hh ?_
  intro h2 d2 tk2 dr a1 a2 ou p1 p2 S2 G2 hou hon hp1 hp2 hl1 hl2
  refine part_b (p1 := p1) (p2 := p2) X T S2 rfl rfl G2 hou hon hp1 hp2 hl1 hl2 hd1 hu hh hA ?_
  intro h3 d3 tk3 m3 c4 b1 b2 e1 e2 S3 hm1 hm2 G3 x1 x2
  have z1 := due_l hp1 hl1 x1
  have z2 := due_l hp2 hl2 x2
  refine part_c (φ := PhiB ev wa a1 a2 p1 p2) (d1 := e1) (d2 := e2) X T S3 G3 (due_strict x1) (due_strict x2) (due_W x1) (due_W x2) (Nat.lt_of_le_of_lt z1 (by decide)) (Nat.lt_of_le_of_lt z2 (by decide)) hd1 hu hh hA ?_
  intro h4 d4 tk4 m4 to t1 t2 S4 hm4 G4
  have y1 : (aloneF e1 e2).length ≤ 14 := Nat.le_trans (List.length_filter_le _ _) z1
  have y2 : (aloneF e2 e1).length ≤ 14 := Nat.le_trans (List.length_filter_le _ _) z2
  refine part_d (p1 := p1) (p2 := p2) (n1 := aloneF e1 e2) (n2 := aloneF e2 e1) X T S4 ((hm4 _ (by decide)).trans hm1) ((hm4 _ (by decide)).trans hm2) G4 hp1 hp2 hl1 hl2 (fun k hk => due_W x1 k (List.mem_filter.mp hk).1) (fun k hk => due_W x2 k (List.mem_filter.mp hk).1) (Nat.lt_of_le_of_lt (Nat.add_le_add y1 y2) (by decide)) hd1 hu hh ?_
  intro h5 d5 tk5 m5 ed rd un r1 i1 r2 i2 ss S5 q1 q2 q3 q4 q5 G5 I1 I2 i12 i2r run iL hul pss sss
  refine part_e (φ := fun h => (IsTup h to #[.ref t1, .ref t2] ∧ StAt h t1 (aloneF e1 e2)) ∧ StAt h ed ss) (a1 := a1) (a2 := a2) (rd := rd) (x1 := r1) (x2 := r2) (p1 := p1) (p2 := p2) X T S5 q1 q2 q4 q5 (G5.imp fun h q => ⟨⟨⟨q.1.2.1, q.1.2.2.1⟩, q.2.1⟩, q.1.1, q.1.1.1.2, q.2.2⟩) I1 I2 i12 i2r run iL hul hp1 hp2 hl1 hl2 hd1 hu hh ?_
  intro h6 d6 tk6 m6 c5 us S6 hm6 G6
  refine part_f1 (p1 := p1) (p2 := p2) (us := us) (φ := fun h => (IsTup h to #[.ref t1, .ref t2] ∧ StAt h t1 (aloneF e1 e2)) ∧ StAt h ed ss) X T S6 ((hm6 _ (by decide)).trans q5) (G6.imp fun h q => ⟨q.1, q.2.1.1, q.2.2.1, q.2.2.2⟩) hd1 hu hh ?_
  intro h7 d7 tk7 pl S7 G7
  refine part_f2 (p1 := p1) (p2 := p2) (us := us) (φ := fun h => (IsTup h to #[.ref t1, .ref t2] ∧ StAt h t1 (aloneF e1 e2)) ∧ StAt h ed ss) X T S7 ((hm6 _ (by decide)).trans q5) G7 hd1 hu hh ?_
  intro h8 d8 tk8 m8 ls as S8 hls hm8 G8
  have hed : m8 (Str.ofString "edge") = some (.ref ed) := (hm8 _ (by decide)).trans ((hm6 _ (by decide)).trans q3)
  have pe := pss.trans (edge_perm hp1 hp2 x1 x2)
  refine part_f3 (ed := ed) (p1 := p1) (p2 := p2) (as := as) (ss := ss) X T S8 hed hls (G8.imp fun h q => ⟨q.1.2, q.2.1, q.2.2⟩) pe sss hd1 hu hh ?_
  intro h9 d9 tk9 k9
  refine part_f4 (ed := ed) (p1 := p1) (p2 := p2) (as := as) (ss := ss) (n1 := aloneF e1 e2) X T (S8.keeps k9) hed hls ((G8.keeps k9).imp fun h q => ⟨q.1.2, q.2.1, q.2.2, q.1.1.1, q.1.1.2⟩) pe (fun tt pt st => side_same hp1 hp2 x1 x2 pe sss pt st) hd1 hu hh ?_
  intro hz dz tkz Sz
  exact hQ hz _ _ _ Sz.F
end Mine
end

open PySem PySem.W PyProof.Rows
set_option Elab.async false
set_option maxRecDepth 100000
set_option pp.deepTerms false
set_option pp.deepTerms.threshold 6
set_option maxHeartbeats 8000000
theorem PySem.Challenge.cw_of0017_01_holds : PySem.Challenge.rw_of0017_01.Holds := by
  exact Mine.hd (by
    w_on
    k_go0
    (all_goals try k_fold)
    rename_i o6 o5 o4 o3 o2 o1 q6 q5 q4 q3 q2 q1 N0 X0
    (with_reducible rename (Mine.hd.heap_39 _).In _ => KX')
    (with_reducible rename Top _ _ _ _ _ _ => T')
    (with_reducible rename Fr _ _ _ _ => F')
    (with_reducible rename IntsAre _ _ => hI')
    (with_reducible rename Heap.IsList _ _ _ => hL')
    (with_reducible rename Shared.gens _ = _ => hg')
    (with_reducible rename ¬ ((63 : Nat) : Int) < _ => hn')
    have k6 := (N0 _ (.head _)).1
    have k5 := (N0 _ (.tail _ (.head _))).1
    have k4 := (N0 _ (.tail _ (.tail _ (.head _)))).1
    have k3 := (N0 _ (.tail _ (.tail _ (.tail _ (.head _))))).1
    have k2 := (N0 _ (.tail _ (.tail _ (.tail _ (.tail _ (.head _)))))).1
    have k1 := (N0 _ (.tail _ (.tail _ (.tail _ (.tail _ (.tail _ (.head _))))))).1
    refine Mine.law_ends KX' T' ⟨F', ⟨o1, k1, q1.trans ?_⟩, ⟨o2, k2, q2.trans ?_⟩, ⟨o3, k3, q3.trans ?_⟩, ⟨o4, k4, q4.trans ?_⟩, ⟨o5, k5, q5.trans ?_⟩, ⟨o6, k6, q6.trans ?_⟩⟩ ?_ hL' hI' ?_ ?_ ?_ ?_ ?_ ?_
    · with_unfolding_all rfl
    · with_unfolding_all rfl
    · with_unfolding_all rfl
    · with_unfolding_all rfl
    · with_unfolding_all rfl
    · with_unfolding_all rfl
    · with_unfolding_all rfl
    · omega
    · simp only [depth_deeper]; decide
    · simp only [units_deeper]; decide
    · rfl
    · with_unfolding_all rfl
    · intro h d tk m' F
      show GoodW _ _ _ _ _ (.ok (.ret (.bool true))) _
      refine goodW_bool F hg' (raisesW_false ?_) ?_
      · wrow_none_raised
      · wrow_post)
