import PyProof.Rows.All
import Wide.All
import OpenK.AllK
import Wide.FinOn
import PySem.Challenge.RW_kh0001_01
open PySem PySem.W PyProof.Rows PySem.Spec PySem.Calls
set_option Elab.async false
set_option linter.all false
section
namespace Mine

/-- rising places -/
def Up (xs : Array Nat) : Prop := xs.toList.Pairwise (· < ·)

theorem Up.lt {xs : Array Nat} (h : Up xs) {i j : Nat} (hij : i < j) (hj : j < xs.size) : xs.getD i 0 < xs.getD j 0 := by
  have hi : i < xs.size := Nat.lt_trans hij hj
  have := List.pairwise_iff_getElem.mp h i j (by simpa using hi) (by simpa using hj) hij
  simpa [Array.getD, hi, hj] using this

theorem below_go {xs : Array Nat} (h : Up xs) (j : Nat) : ∀ fuel lo hi, hi - lo ≤ fuel → lo ≤ hi → hi ≤ xs.size → (∀ i, i < lo → xs.getD i 0 < j) → (∀ i, hi ≤ i → i < xs.size → j ≤ xs.getD i 0) →
    SetTable.below.go xs j fuel lo hi ≤ xs.size ∧ (∀ i, i < SetTable.below.go xs j fuel lo hi → xs.getD i 0 < j) ∧ (∀ i, SetTable.below.go xs j fuel lo hi ≤ i → i < xs.size → j ≤ xs.getD i 0) := by
  intro fuel
  induction fuel with
  | zero =>
    intro lo hi h1 h2 h3 h4 h5
    have : lo = hi := by omega
    subst this
    unfold SetTable.below.go
    exact ⟨h3, h4, h5⟩
  | succ fuel ih =>
    intro lo hi h1 h2 h3 h4 h5
    unfold SetTable.below.go
    by_cases hlt : lo < hi
    · rw [if_pos hlt]
      dsimp only
      have hm1 : lo ≤ (lo + hi) / 2 := by omega
      have hm2 : (lo + hi) / 2 < hi := by omega
      have hm3 : (lo + hi) / 2 < xs.size := by omega
      have hg : xs.getD ((lo + hi) / 2) j = xs.getD ((lo + hi) / 2) 0 := by simp [Array.getD, hm3]
      rw [hg]
      by_cases hc : xs.getD ((lo + hi) / 2) 0 < j
      · rw [if_pos hc]
        refine ih _ _ (by omega) (by omega) h3 (fun i hi' => ?_) h5
        rcases Nat.lt_or_ge i ((lo + hi) / 2) with q | q
        · exact Nat.lt_trans (h.lt q hm3) hc
        · have : i = (lo + hi) / 2 := by omega
          rw [this]; exact hc
      · rw [if_neg hc]
        refine ih _ _ (by omega) (by omega) (by omega) h4 (fun i hi' hs => ?_)
        rcases Nat.lt_or_ge ((lo + hi) / 2) i with q | q
        · have := h.lt q hs
          omega
        · have : i = (lo + hi) / 2 := by omega
          rw [this]; omega
    · rw [if_neg hlt]
      have : lo = hi := by omega
      subst this
      exact ⟨h3, h4, h5⟩

theorem below_spec {xs : Array Nat} (h : Up xs) (j : Nat) : SetTable.below xs j ≤ xs.size ∧ (∀ i, i < SetTable.below xs j → xs.getD i 0 < j) ∧ (∀ i, SetTable.below xs j ≤ i → i < xs.size → j ≤ xs.getD i 0) :=
  below_go h j xs.size 0 xs.size (by omega) (Nat.zero_le _) (Nat.le_refl _) (fun _ q => absurd q (Nat.not_lt_zero _)) (fun _ h1 h2 => by omega)

theorem below_at {xs : Array Nat} (h : Up xs) {i j : Nat} (hi : i ≤ xs.size) (h1 : ∀ k, k < i → xs.getD k 0 < j) (h2 : i < xs.size → j ≤ xs.getD i 0) : SetTable.below xs j = i := by
  obtain ⟨b1, b2, b3⟩ := below_spec h j
  rcases Nat.lt_trichotomy (SetTable.below xs j) i with q | q | q
  · have := h1 _ q
    have := b3 _ (Nat.le_refl _) (by omega)
    omega
  · exact q
  · have := b2 _ q
    have := h2 (by omega)
    omega

theorem up_insert {xs : Array Nat} (h : Up xs) {j : Nat} (hn : xs[SetTable.below xs j]? ≠ some j) : Up (SetTable.insertAt xs (SetTable.below xs j) j) := by
  obtain ⟨b1, b2, b3⟩ := below_spec h j
  unfold Up
  rw [SetTable.toList_insertAt]
  rw [List.pairwise_append]
  refine ⟨h.sublist (List.take_sublist _ _), ?_, ?_⟩
  · rw [List.pairwise_cons]
    refine ⟨fun a ha => ?_, h.sublist (List.drop_sublist _ _)⟩
    obtain ⟨k, hk, rfl⟩ := List.mem_iff_getElem.mp ha
    rw [List.getElem_drop]
    rw [List.length_drop, Array.length_toList] at hk
    have hs : SetTable.below xs j + k < xs.size := by omega
    have h3 := b3 (SetTable.below xs j + k) (by omega) hs
    have e : xs.getD (SetTable.below xs j + k) 0 = xs.toList[SetTable.below xs j + k]'(by simpa using hs) := by simp [Array.getD, hs]
    rw [e] at h3
    rcases Nat.lt_or_ge 0 k with q | q
    · have h4 := h.lt (i := SetTable.below xs j) (j := SetTable.below xs j + k) (by omega) hs
      have h5 := b3 (SetTable.below xs j) (Nat.le_refl _) (by omega)
      rw [e] at h4
      omega
    · have hk0 : k = 0 := by omega
      subst hk0
      have hs' : SetTable.below xs j < xs.size := by omega
      have hne : xs[SetTable.below xs j] ≠ j := fun q => hn (by rw [Array.getElem?_eq_getElem hs', q])
      simp only [Nat.add_zero, Array.getElem_toList] at h3 ⊢
      omega
  · intro a ha b hb
    obtain ⟨k, hk, rfl⟩ := List.mem_iff_getElem.mp ha
    rw [List.length_take, Array.length_toList] at hk
    have hkb : k < SetTable.below xs j := by omega
    have hks : k < xs.size := by omega
    have hlt := b2 k hkb
    have e : xs.getD k 0 = xs.toList[k]'(by simpa using hks) := by simp [Array.getD, hks]
    rw [List.getElem_take]
    rw [e] at hlt
    rcases List.mem_cons.mp hb with rfl | hb
    · exact hlt
    · obtain ⟨l, hl, rfl⟩ := List.mem_iff_getElem.mp hb
      rw [List.getElem_drop]
      rw [List.length_drop, Array.length_toList] at hl
      have hs : SetTable.below xs j + l < xs.size := by omega
      have h4 := h.lt (i := k) (j := SetTable.below xs j + l) (by omega) hs
      have e2 : xs.getD (SetTable.below xs j + l) 0 = xs.toList[SetTable.below xs j + l]'(by simpa using hs) := by simp [Array.getD, hs]
      rw [e, e2] at h4
      exact h4

theorem up_range (n : Nat) : Up (Array.range n) := by
  unfold Up
  rw [Array.toList_range]
  exact List.pairwise_lt_range

theorem standIn_up (t : SetTable) (n : Nat) : Up (t.standIn n).place ∧ (t.standIn n).led = t.led := ⟨up_range n, rfl⟩
theorem orStandIn_up {t : SetTable} (n : Nat) (h : Up t.place) : Up (t.orStandIn n).place ∧ (t.orStandIn n).led = t.led := by
  unfold SetTable.orStandIn
  split
  · exact ⟨h, rfl⟩
  · exact standIn_up t n

/-- a slot that is free, or a dummy, is no place -/
theorem slot_free {t : SetTable} {j : Nat} (h : ∀ i, t.slot j ≠ .live i) : t.place[SetTable.below t.place j]? ≠ some j := by
  intro q
  unfold SetTable.slot at h
  simp only [q, beq_self_eq_true, if_true] at h
  exact h _ rfl

theorem probe_go {t : SetTable} {f : Nat → Int} {hsh : Int} (hno : ∀ i, (f i == hsh) = false) : ∀ fuel (p : SetTable.Probe), (∀ d, p.dummy = some d → t.slot d = .dummy) → ∀ r, SetTable.probe.go t f hsh fuel p = some r →
    ∃ j dummy, r = .empty j dummy ∧ t.slot j = .empty ∧ ∀ d, dummy = some d → t.slot d = .dummy := by
  intro fuel
  induction fuel with
  | zero => intro p hp r hr; unfold SetTable.probe.go at hr; cases hr
  | succ fuel ih =>
    intro p hp r hr
    unfold SetTable.probe.go at hr
    cases hs : t.slot p.j with
    | empty =>
      rw [hs] at hr
      exact ⟨p.j, p.dummy, (Option.some.inj hr).symm, hs, hp⟩
    | dummy =>
      rw [hs] at hr
      refine ih _ (fun d hd => ?_) r hr
      have e : (t.advance { p with dummy := some p.j }).dummy = some p.j := by
        unfold SetTable.advance
        split
        · rfl
        · rfl
      rw [e] at hd
      exact (Option.some.inj hd) ▸ hs
    | live i =>
      rw [hs] at hr
      simp only [hno i, Bool.false_eq_true, if_false] at hr
      refine ih _ (fun d hd => ?_) r hr
      have e : (t.advance p).dummy = p.dummy := by
        unfold SetTable.advance
        split
        · rfl
        · rfl
      rw [e] at hd
      exact hp d hd

theorem freeSlot_free {t : SetTable} {hsh : Int} {slot : Nat} {wd : Bool} (h : t.freeSlot hsh = some (slot, wd)) : ∀ i, t.slot slot ≠ .live i := by
  unfold SetTable.freeSlot at h
  cases hp : t.probe (fun _ => hsh + 1) hsh (t.probeStart hsh) with
  | none => rw [hp] at h; cases h
  | some r =>
    rw [hp] at h
    unfold SetTable.probe at hp
    obtain ⟨j, dummy, rfl, he, hd⟩ := probe_go (f := fun _ => hsh + 1) (hsh := hsh) (fun _ => by simp; omega) _ _ (fun d q => by simp [SetTable.probeStart] at q) _ hp
    dsimp only at h
    have e := congrArg Prod.fst (Option.some.inj h)
    dsimp only at e
    intro i q
    cases dummy with
    | none =>
      rw [Option.getD_none] at e
      rw [← e, he] at q
      cases q
    | some d =>
      rw [Option.getD_some] at e
      rw [← e, hd d rfl] at q
      cases q

theorem put_up {t : SetTable} {j : Nat} (h : Up t.place) (hf : ∀ i, t.slot j ≠ .live i) : Up (t.put j).1.place ∧ (t.put j).1.led = t.led := ⟨up_insert h (slot_free hf), rfl⟩

theorem layNew_up {t : SetTable} (h : Up t.place) (es : Array (Int × Value)) (hsh : Int) (x : Value) : Up (layNew t es hsh x).2.1.place ∧ (layNew t es hsh x).2.1.led = t.led := by
  unfold layNew
  split
  · rename_i slot wd hs
    have hp := put_up h (freeSlot_free hs)
    have ho := orStandIn_up (t := (t.put slot).1) (SetTable.insertAt es (t.put slot).2 (hsh, x)).size hp.1
    exact ⟨ho.1, ho.2.trans hp.2⟩
  · exact standIn_up t _

theorem laid_up {mask finger moves : Nat} {led plain : Bool} {hashes : Array Int} {t : SetTable} {order : Array Nat} (h : SetTable.laid mask finger moves led plain hashes = some (t, order)) : Up t.place ∧ t.led = led := by
  unfold SetTable.laid at h
  cases ho : SetTable.layClean mask hashes with
  | none => rw [ho] at h; cases h
  | some owner =>
    rw [ho] at h
    have e := congrArg Prod.fst (Option.some.inj h)
    dsimp only at e
    rw [← e]
    refine ⟨?_, rfl⟩
    unfold Up
    dsimp only
    rw [List.map_filterMap]
    have hsub : ∀ l : List Nat, List.Sublist (l.filterMap fun a => Option.map (fun x => x.1) (Option.map (fun x => (a, x)) (owner.getD a none))) l := by
      intro l
      induction l with
      | nil => exact List.Sublist.refl _
      | cons a r ih =>
        rw [List.filterMap_cons]
        cases owner.getD a none with
        | none => exact List.Sublist.cons a ih
        | some b => exact List.Sublist.cons_cons a ih
    exact List.pairwise_lt_range.sublist (hsub _)

theorem relayAll_up {t : SetTable} (h : Up t.place) (es : Array (Int × Value)) (wanted : Nat) : Up (relayAll t es wanted).2.1.place ∧ (relayAll t es wanted).2.1.led = t.led := by
  unfold relayAll
  split
  · rename_i t' order hr
    have hl := laid_up hr
    dsimp only
    split
    · exact hl
    · exact standIn_up t _
  · exact standIn_up t _
end Mine
end
section
namespace Mine

theorem slot_setiter_next : Slot "set_iterator" "__next__" "set_iterator.__next__" :=
  .of (owner := "set_iterator") (n := "__next__") (by rw [typeLookup_type, builtinLookup_eq_fast]; kernel_rfl) (by decide +kernel) (by decide +kernel) (by decide +kernel)
    (by first | exact .inl (by decide +kernel) | exact .inr (by decide +kernel)) (by rw [isSubtype_type]; kernel_rfl)
theorem slot_setiter_iter : Slot "set_iterator" "__iter__" "set_iterator.__iter__" :=
  .of (owner := "set_iterator") (n := "__iter__") (by rw [typeLookup_type, builtinLookup_eq_fast]; kernel_rfl) (by decide +kernel) (by decide +kernel) (by decide +kernel)
    (by first | exact .inl (by decide +kernel) | exact .inr (by decide +kernel)) (by rw [isSubtype_type]; kernel_rfl)
theorem entry_setiter_next : entryFor table "set_iterator.__next__" = some Builtin.«set_iterator.__next__» := entryFor_of_tree (by kernel_rfl)
theorem entry_setiter_iter : entryFor table "set_iterator.__iter__" = some Builtin.«dict_keyiterator.__iter__» :=
  entryFor_alias (id' := "dict_keyiterator.__iter__") (by kernel_rfl) (by first | rfl | decide +kernel | (unfold String.splitOn; simp +decide [String.splitOnAux])) (by decide +kernel) (by kernel_rfl)
theorem entry_set_iter : entryFor table "set.__iter__" = some Builtin.«frozenset.__iter__» :=
  entryFor_alias (id' := "frozenset.__iter__") (by kernel_rfl) (by first | rfl | decide +kernel | (unfold String.splitOn; simp +decide [String.splitOnAux])) (by decide +kernel) (by kernel_rfl)
theorem owner_setiter : Manifest.owners.lookup (String.ofList ['r', 'o', 't', 'a', 'r', 'e', 't', 'i', '_', 't', 'e', 's'].reverse) = some Manifest.sig_set_iterator := by kernel_rfl
theorem args_setiter_next (a : Value) : argsOk "set_iterator.__next__" ⟨[a], []⟩ := by
  unfold argsOk; rw [signature?_of (id := "set_iterator.__next__") (n := ['_', '_', 't', 'x', 'e', 'n', '_', '_']) (o := ['r', 'o', 't', 'a', 'r', 'e', 't', 'i', '_', 't', 'e', 's']) (by kernel_rfl) owner_setiter]; kernel_rfl
theorem args_setiter_iter (a : Value) : argsOk "set_iterator.__iter__" ⟨[a], []⟩ := by
  unfold argsOk; rw [signature?_of (id := "set_iterator.__iter__") (n := ['_', '_', 'r', 'e', 't', 'i', '_', '_']) (o := ['r', 'o', 't', 'a', 'r', 'e', 't', 'i', '_', 't', 'e', 's']) (by kernel_rfl) owner_setiter]; kernel_rfl

theorem cons_erase_perm {α : Type} : ∀ (l : List α) (i : Nat) (h : i < l.length), List.Perm (l[i] :: l.eraseIdx i) l := by
  intro l
  induction l with
  | nil => intro i h; cases h
  | cons a r ih =>
    intro i h
    cases i with
    | zero => exact .rfl
    | succ i =>
      simp only [List.getElem_cons_succ, List.eraseIdx_cons_succ]
      exact (List.Perm.swap _ _ _).trans (List.Perm.cons a (ih i (by simpa using h)))

abbrev byText (w : World) : Bool := w.params.followText "set-order"

/-- the iterator's object -/
def SIter (h : Heap) (it a : Addr) (first : Value) (i n ep : Nat) : Prop :=
  ∃ o, h.get? it = some o ∧ o.cls = .type "set_iterator" ∧ o.data = .fields #[first, .int i 0, .ref a, .int n 0, .int ep 0]
theorem SIter.at {h h' : Heap} {it a : Addr} {first : Value} {i n ep : Nat} (x : SIter h it a first i n ep) (e : ∀ o, h.get? it = some o → h'.get? it = some o) : SIter h' it a first i n ep := let ⟨o, ho, r⟩ := x; ⟨o, e _ ho, r⟩
theorem SIter.typeIs {s : Shared} {it a : Addr} {first : Value} {i n ep : Nat} (x : SIter s.heap it a first i n ep) : s.TypeIs (.ref it) "set_iterator" := let ⟨o, ho, hc, _⟩ := x; ⟨o, ho, hc⟩

section
variable {prog : Program} {w : World} {A : Around} {E : Value → Shared → Prop} {s : Shared}

theorem wpAny_choose {src : Source} {n : Nat} {Q : Nat → Shared → Prop} (hn : n ≠ 0) (h : Q (w.draws src (s.drawn.get src) % n) { s with drawn := s.drawn.bump src }) : wpAny (model prog w) A (choose src n) Q E s := fun Γ p _ => by
  show Sem.wp (model prog w) Γ (Sem.choose src n .pure) _ _ p s
  rw [Sem.wp_choose]
  exact ⟨hn, h⟩

theorem wpAny_byText {Q : Bool → Shared → Prop} (h : Q (byText w) s) : wpAny (model prog w) A setsByText Q E s := by
  unfold setsByText
  exact wpAny_bind (wpAny_askSetting (wpAny_pure h))

theorem wpAny_drawOrder {α : Type} : ∀ (n : Nat) (xs : List α) (s : Shared) (Q : List α → Shared → Prop), n = xs.length → (∀ ys dr, List.Perm ys xs → Q ys { s with drawn := dr }) → wpAny (model prog w) A (drawOrder n xs) Q E s := by
  intro n
  induction n with
  | zero =>
    intro xs s Q hn h
    have : xs = [] := List.eq_nil_of_length_eq_zero hn.symm
    subst this
    unfold drawOrder
    exact wpAny_pure (h [] s.drawn .rfl)
  | succ n ih =>
    intro xs s Q hn h
    cases xs with
    | nil => cases hn
    | cons x r =>
      unfold drawOrder
      refine wpAny_bind (wpAny_choose (by simp) ?_)
      have hlt : w.draws .order (s.drawn.get .order) % (x :: r).length < (x :: r).length := Nat.mod_lt _ (by simp)
      generalize w.draws .order (s.drawn.get .order) % (x :: r).length = i at hlt
      rw [List.getElem?_eq_getElem hlt]
      dsimp only
      refine wpAny_bind (ih _ _ _ (by rw [List.length_eraseIdx_of_lt hlt]; simp at hn ⊢; omega) fun ys dr hp => ?_)
      refine wpAny_pure (h _ dr ?_)
      exact (List.Perm.cons _ hp).trans (cons_erase_perm _ _ hlt)

theorem pickOrder_go {α : Type} (next : Nat → Nat) : ∀ (fuel k : Nat) (left : List α) (out : Array α), fuel = left.length → List.Perm (pickOrder.go next fuel k left out).toList (out.toList ++ left) := by
  intro fuel
  induction fuel with
  | zero =>
    intro k left out hf
    have : left = [] := List.eq_nil_of_length_eq_zero hf.symm
    subst this
    unfold pickOrder.go
    simp
  | succ fuel ih =>
    intro k left out hf
    have hpos : 0 < left.length := by omega
    have hlt : next k % left.length < left.length := Nat.mod_lt _ hpos
    unfold pickOrder.go
    rw [List.getElem?_eq_getElem hlt]
    dsimp only
    refine (ih (k + 1) _ _ (by rw [List.length_eraseIdx_of_lt hlt]; omega)).trans ?_
    rw [Array.toList_push, List.append_assoc]
    exact (cons_erase_perm _ _ hlt).append_left _
theorem pickOrder_perm {α : Type} (next : Nat → Nat) (xs : Array α) : List.Perm (pickOrder next xs).toList xs.toList := by
  have := pickOrder_go next xs.size 0 xs.toList #[] (by simp)
  rw [pickOrder]
  simpa using this

variable {a : Addr} {o : Obj} {es : Array (Int × Value)} {ep : Nat} {t : SetTable}

theorem wpAny_setDrawn {Q : Bool → Shared → Prop} (ho : s.heap.get? a = some o) (hd : o.data = .set es ep t) (hf : t.fits es.size = true)
    (h : Q (!byText w && (!t.plain && decide (es.size > 1))) s) : wpAny (model prog w) A (setDrawn a) Q E s := by
  unfold setDrawn
  exact wpAny_bind (wpAny_setState_of ho hd hf (wpAny_bind (wpAny_byText (wpAny_pure h))))

theorem iter_set {Q : Value → Shared → Prop} (ho : s.heap.get? a = some o) (hc : o.cls = .type "set") (hd : o.data = .set es ep t) (hf : t.fits es.size = true) (hz : es.size < 4096)
    (h1 : (!byText w && (!t.plain && decide (es.size > 1))) = false → Q (.ref s.heap.objs.size) { s with heap := s.heap.push { cls := .type "set_iterator", data := .fields #[.int 0 0, .int 0 0, .ref a, .int es.size 0, .int ep 0] } })
    (h2 : (!byText w && (!t.plain && decide (es.size > 1))) = true → ∀ ys dr, List.Perm ys (List.range es.size) →
      Q (.ref (s.heap.push { cls := .type "tuple", data := .seq (ys.map fun i : Nat => rawInt i).toArray }).objs.size) { s with heap := (s.heap.push { cls := .type "tuple", data := .seq (ys.map fun i : Nat => rawInt i).toArray }).push { cls := .type "set_iterator", data := .fields #[.ref s.heap.objs.size, .int 0 0, .ref a, .int es.size 0, .int ep 0] }, drawn := dr }) :
    wpAny (model prog w) A (pyIter (.ref a)) Q E s := by
  have hT : s.TypeIs (.ref a) "set" := ⟨o, ho, hc⟩
  refine wpAny_pyIter_slot hT F.slot_set_iter (wpAny_call_entry F.slot_set_iter hT entry_set_iter ?_ (F.args_set_iter_1 _))
  unfold Builtin.«frozenset.__iter__» Builtin.Frozenset.slot0 slotArgs
  simp only [List.isEmpty_nil, Bool.not_true, Bool.false_eq_true, ↓reduceIte, bind_assoc, List.length_nil, bne_self_eq_false]
  unfold Builtin.Frozenset.addrOf Builtin.Frozenset.sizeOf
  refine wpAny_bind (wpAny_pure ?_)
  try dsimp only
  refine wpAny_bind (wpAny_pure ?_)
  simp only [bind_assoc]
  refine wpAny_bind (wpAny_setEntries_of ho hd hf ?_)
  refine wpAny_bind (wpAny_pure ?_)
  refine wpAny_bind (wpAny_setDrawn ho hd hf ?_)
  cases hb : (!byText w && (!t.plain && decide (es.size > 1))) with
  | false =>
    simp only [Bool.false_eq_true, if_false]
    refine wpAny_bind (wpAny_pure ?_)
    refine wpAny_bind (wpAny_setEpoch_of ho hd hf ?_)
    refine wpAny_bind (wpAny_newObj_type (wpAny_pure ⟨_, rfl, "set_iterator", _, ⟨_, Heap.get?_push_size _ rfl, rfl⟩, slot_setiter_next.lookup, ?_⟩))
    exact h1 hb
  | true =>
    simp only [if_true, bind_assoc]
    refine wpAny_bind (wpAny_drawOrder es.size (List.range es.size) s _ (by simp) fun ys dr hp => ?_)
    have hl : ys.length = es.size := by rw [hp.length_eq, List.length_range]
    refine wpAny_bind (wpAny_newObj_type ?_ (by show (ys.map _).toArray.size ≤ sizeLine; rw [List.size_toArray, List.length_map, hl, sizeLine_eq]; omega))
    refine wpAny_bind (wpAny_setEpoch_of (o := o) (Heap.get?_push_of_some _ ho) hd hf ?_)
    refine wpAny_bind (wpAny_newObj_type (wpAny_pure ⟨_, rfl, "set_iterator", _, ⟨_, Heap.get?_push_size _ rfl, rfl⟩, slot_setiter_next.lookup, ?_⟩))
    exact h2 hb ys dr hp

theorem self_setiter {it : Addr} {first : Value} {i n ep' : Nat} {Q : Value → Shared → Prop} (hit : SIter s.heap it a first i n ep') (h : Q (.ref it) s) : wpAny (model prog w) A (pyIter (.ref it)) Q E s := by
  refine wpAny_pyIter_slot hit.typeIs slot_setiter_iter (wpAny_call_entry slot_setiter_iter hit.typeIs entry_setiter_iter ?_ (args_setiter_iter _))
  show wpAny _ _ (ret (.ref it)) _ _ s
  exact wpAny_pure ⟨_, rfl, "set_iterator", _, hit.typeIs, slot_setiter_next.lookup, h⟩

/-- the three orders, as what setNext answers at each step -/
theorem next_text {slot given : Nat} {Q : Option (Value × Nat) → Shared → Prop} (hb : byText w = true) (ho : s.heap.get? a = some o) (hd : o.data = .set es ep t) (hf : t.fits es.size = true)
    (h : Q (((pickOrder (w.params.setOrder a ep) es)[given]?).map fun e => (e.2, slot)) s) : wpAny (model prog w) A (setNext a slot given ep) Q E s := by
  unfold setNext
  refine wpAny_bind (wpAny_setState_of ho hd hf ?_)
  dsimp only
  refine wpAny_bind (wpAny_byText ?_)
  rw [hb]
  simp only [if_true, bne_self_eq_false, Bool.false_eq_true, if_false]
  unfold setWalk
  simp only [bind_assoc]
  refine wpAny_bind (wpAny_setState_of ho hd hf ?_)
  dsimp only
  refine wpAny_bind (wpAny_byText ?_)
  rw [hb]
  simp only [if_true, bind_assoc]
  refine wpAny_bind (wpAny_askSetting ?_)
  refine wpAny_bind (wpAny_pure ?_)
  exact wpAny_pure h

theorem next_plain {slot given epThen : Nat} {Q : Option (Value × Nat) → Shared → Prop} (hb : byText w = false) (hpl : (!t.plain && decide (es.size > 1)) = false) (hled : t.led = true) (ho : s.heap.get? a = some o) (hd : o.data = .set es ep t) (hf : t.fits es.size = true)
    (h : Q (match es[SetTable.below t.place slot]?, t.place[SetTable.below t.place slot]? with | some (_, x), some j => some (x, j + 1) | _, _ => none) s) : wpAny (model prog w) A (setNext a slot given epThen) Q E s := by
  unfold setNext
  refine wpAny_bind (wpAny_setState_of ho hd hf ?_)
  dsimp only
  refine wpAny_bind (wpAny_byText ?_)
  rw [hb]
  simp only [Bool.false_eq_true, if_false]
  show wpAny _ _ (if (!t.plain && decide (es.size > 1)) = true then _ else _) _ _ _
  rw [hpl]
  simp only [Bool.false_eq_true, if_false]
  show wpAny _ _ ((if (!t.led && !es.isEmpty) = true then _ else _) >>= _) _ _ _
  rw [hled]
  simp only [Bool.not_true, Bool.false_and, Bool.false_eq_true, if_false]
  exact wpAny_bind (wpAny_pure (wpAny_pure h))

/-- an iterator that walks by a number, one item -/
theorem item_int {it : Addr} {slot i n next : Nat} {x : Value} {Q : Option Value → Shared → Prop} (hit : SIter s.heap it a (.int slot 0) i n ep) (ho : s.heap.get? a = some o) (hd : o.data = .set es ep t) (hf : t.fits es.size = true) (hn : es.size = n)
    (hnext : ∀ (A : Around) (E : Value → Shared → Prop) (Q : Option (Value × Nat) → Shared → Prop), Q (some (x, next)) s → wpAny (model prog w) A (setNext a slot i ep) Q E s)
    (hQ : ∀ h', SIter h' it a (.int next 0) (i + 1) n ep → Heap.SameBut it s.heap h' → Q (some x) { s with heap := h' }) : wpAny (model prog w) A (pyNext (.ref it)) Q E s := by
  obtain ⟨oi, hoi, hci, hdi⟩ := id hit
  unfold pyNext
  refine wpAny_bind (wpAny_attempt (wpAny_callSpecial?_slot (name := Str.ofString "__next__") hit.typeIs slot_setiter_next
    (wpAny_call_entry slot_setiter_next hit.typeIs entry_setiter_next ?_ (args_setiter_next _))))
  unfold Builtin.«set_iterator.__next__» slotArgs
  simp only [List.isEmpty_nil, Bool.not_true, Bool.false_eq_true, ↓reduceIte, bind_assoc, List.length_nil, bne_self_eq_false]
  refine wpAny_bind (wpAny_pure ?_)
  refine wpAny_bind (wpAny_fieldsOf hoi hdi ?_)
  dsimp only
  refine wpAny_bind (wpAny_setEntries_of ho hd hf ?_)
  rw [if_neg (by rw [hn]; simp)]
  simp only [Int.toNat_natCast]
  refine wpAny_bind (hnext _ _ _ ?_)
  dsimp only
  refine wpAny_bind (wpAny_setField hoi hdi (by simp) ?_)
  have g1 : (s.heap.update it (Obj.mapFields (·.setIfInBounds 0 (rawInt next)))).get? it = some (Obj.mapFields (·.setIfInBounds 0 (rawInt next)) oi) :=
    Heap.get?_update_self _ hoi (Obj.isFreed_of_fields (Obj.data_mapFields hdi _))
  have d1 := Obj.data_mapFields hdi (·.setIfInBounds 0 (rawInt next))
  refine wpAny_bind (wpAny_setField g1 d1 (by simp) (wpAny_pure ⟨x, rfl, wpAny_pure (hQ _ ?_ ((Heap.SameBut.update ..).trans (Heap.SameBut.update ..)))⟩))
  refine ⟨_, Heap.get?_update_self _ g1 (Obj.isFreed_of_fields (Obj.data_mapFields d1 _)), (Obj.cls_mapFields ..).trans ((Obj.cls_mapFields ..).trans hci), ?_⟩
  rw [Obj.data_mapFields d1]
  simp [rawInt]

theorem stop_iter {it : Addr} {h₁ : Heap} {Q : Option Value → Shared → Prop} (hh : A.handled = none) (hs : Heap.ExtBut it s.heap h₁)
    (hQ : ∀ h', Heap.ExtBut it s.heap h' → Q none { s with heap := h' }) :
    wpAny (model prog w) A.in1 (newExc (.type "StopIteration") [] >>= raiseNew (α := Fin)) (fun _ _ => False)
      (fun e s' => wpAny (model prog w) A (do if ← isInstance e (.type "StopIteration") then pure none else throw e : Sem (Option Value)) Q E s') { s with heap := h₁ } := by
  refine wpAny_bind ?_
  simp only [newExc, newTuple]
  refine wpAny_bind (wpAny_newObj_type ?_ (by size_fits))
  refine wpAny_bind (m := firstArgMember _ _) (wpAny_of_eq (a := Value.none) (by first | rfl | (simp only [firstArgMember]; rfl)) ?_)
  refine wpAny_newObj_type ?_ (by size_fits)
  simp only [raiseNew]
  refine wpAny_bind (wpAny_handled ?_)
  rw [show A.in1.handled = none from hh]
  refine wpAny_bind (wpAny_pure (wpAny_throw ?_))
  refine wpAny_bind (wpAny_isInstance (T := "StopIteration") (b := true) ⟨_, Heap.get?_push_size _ rfl, rfl⟩ isSubtype_stop ?_)
  exact wpAny_pure (hQ _ ((hs.push _).push _))

theorem end_int {it : Addr} {slot i n : Nat} {Q : Option Value → Shared → Prop} (hh : A.handled = none) (hit : SIter s.heap it a (.int slot 0) i n ep) (ho : s.heap.get? a = some o) (hd : o.data = .set es ep t) (hf : t.fits es.size = true) (hn : es.size = n)
    (hnext : ∀ (A : Around) (E : Value → Shared → Prop) (Q : Option (Value × Nat) → Shared → Prop), Q none s → wpAny (model prog w) A (setNext a slot i ep) Q E s)
    (hQ : ∀ h', Heap.ExtBut it s.heap h' → Q none { s with heap := h' }) : wpAny (model prog w) A (pyNext (.ref it)) Q E s := by
  obtain ⟨oi, hoi, hci, hdi⟩ := id hit
  unfold pyNext
  refine wpAny_bind (wpAny_attempt (wpAny_callSpecial?_slot (name := Str.ofString "__next__") hit.typeIs slot_setiter_next
    (wpAny_call_entry slot_setiter_next hit.typeIs entry_setiter_next ?_ (args_setiter_next _))))
  unfold Builtin.«set_iterator.__next__» slotArgs
  simp only [List.isEmpty_nil, Bool.not_true, Bool.false_eq_true, ↓reduceIte, bind_assoc, List.length_nil, bne_self_eq_false]
  refine wpAny_bind (wpAny_pure ?_)
  refine wpAny_bind (wpAny_fieldsOf hoi hdi ?_)
  dsimp only
  refine wpAny_bind (wpAny_setEntries_of ho hd hf ?_)
  rw [if_neg (by rw [hn]; simp)]
  simp only [Int.toNat_natCast]
  refine wpAny_bind (hnext _ _ _ ?_)
  dsimp only
  refine wpAny_bind (wpAny_setField hoi hdi (by simp) ?_)
  exact wpAny_mono (stop_iter (E := E) hh (Heap.SameBut.update ..).extBut hQ) (fun _ _ f => f.elim) fun _ _ x => x

set_option maxHeartbeats 2000000 in
/-- an iterator that walks by drawn places -/
theorem item_drawn {it tp : Addr} {ot : Obj} {ys : List Nat} {nt i n place : Nat} {x : Value} {hx : Int} {Q : Option Value → Shared → Prop} (hit : SIter s.heap it a (.ref tp) i n ep) (ho : s.heap.get? a = some o) (hd : o.data = .set es ep t) (hf : t.fits es.size = true) (hn : es.size = n)
    (hot : s.heap.get? tp = some ot) (hdt : ot.data = .seq (ys.map fun i : Nat => rawInt i).toArray nt) (hpl : ys[i]? = some place) (hes : es[place]? = some (hx, x))
    (hQ : ∀ h', SIter h' it a (.ref tp) (i + 1) n ep → Heap.SameBut it s.heap h' → Q (some x) { s with heap := h' }) : wpAny (model prog w) A (pyNext (.ref it)) Q E s := by
  obtain ⟨oi, hoi, hci, hdi⟩ := id hit
  unfold pyNext
  refine wpAny_bind (wpAny_attempt (wpAny_callSpecial?_slot (name := Str.ofString "__next__") hit.typeIs slot_setiter_next
    (wpAny_call_entry slot_setiter_next hit.typeIs entry_setiter_next ?_ (args_setiter_next _))))
  unfold Builtin.«set_iterator.__next__» slotArgs
  simp only [List.isEmpty_nil, Bool.not_true, Bool.false_eq_true, ↓reduceIte, bind_assoc, List.length_nil, bne_self_eq_false]
  refine wpAny_bind (wpAny_pure ?_)
  refine wpAny_bind (wpAny_fieldsOf hoi hdi ?_)
  dsimp only
  refine wpAny_bind (wpAny_setEntries_of ho hd hf ?_)
  rw [if_neg (by rw [hn]; simp)]
  refine wpAny_bind (wpAny_seqItems hot hdt ?_)
  simp only [Int.toNat_natCast]
  have e : ((ys.map fun i : Nat => rawInt i).toArray)[i]? = some (.int place 0) := by simp [hpl, rawInt]
  rw [e]
  dsimp only
  simp only [Int.toNat_natCast]
  unfold setNextDrawn
  simp only [bind_assoc]
  refine wpAny_bind (wpAny_setState_of ho hd hf ?_)
  dsimp only
  simp only [bne_self_eq_false, Bool.false_eq_true, if_false, hes]
  refine wpAny_bind (wpAny_pure ?_)
  refine wpAny_bind (wpAny_setField hoi hdi (by simp) ?_)
  refine wpAny_pure ⟨x, rfl, ?_⟩
  refine wpAny_pure ?_
  refine hQ (s.heap.update it (Obj.mapFields (·.setIfInBounds 1 (rawInt (i + 1))))) ?_ (Heap.SameBut.update s.heap it _)
  refine ⟨_, Heap.get?_update_self _ hoi (Obj.isFreed_of_fields (Obj.data_mapFields hdi _)), (Obj.cls_mapFields ..).trans hci, ?_⟩
  rw [Obj.data_mapFields hdi]
  simp [rawInt]

set_option maxHeartbeats 2000000 in
theorem end_drawn {it tp : Addr} {ot : Obj} {ys : List Nat} {nt i n : Nat} {Q : Option Value → Shared → Prop} (hh : A.handled = none) (hit : SIter s.heap it a (.ref tp) i n ep) (ho : s.heap.get? a = some o) (hd : o.data = .set es ep t) (hf : t.fits es.size = true) (hn : es.size = n)
    (hot : s.heap.get? tp = some ot) (hdt : ot.data = .seq (ys.map fun i : Nat => rawInt i).toArray nt) (hpl : ys[i]? = none)
    (hQ : ∀ h', Heap.ExtBut it s.heap h' → Q none { s with heap := h' }) : wpAny (model prog w) A (pyNext (.ref it)) Q E s := by
  obtain ⟨oi, hoi, hci, hdi⟩ := id hit
  unfold pyNext
  refine wpAny_bind (wpAny_attempt (wpAny_callSpecial?_slot (name := Str.ofString "__next__") hit.typeIs slot_setiter_next
    (wpAny_call_entry slot_setiter_next hit.typeIs entry_setiter_next ?_ (args_setiter_next _))))
  unfold Builtin.«set_iterator.__next__» slotArgs
  simp only [List.isEmpty_nil, Bool.not_true, Bool.false_eq_true, ↓reduceIte, bind_assoc, List.length_nil, bne_self_eq_false]
  refine wpAny_bind (wpAny_pure ?_)
  refine wpAny_bind (wpAny_fieldsOf hoi hdi ?_)
  dsimp only
  refine wpAny_bind (wpAny_setEntries_of ho hd hf ?_)
  rw [if_neg (by rw [hn]; simp)]
  refine wpAny_bind (wpAny_seqItems hot hdt ?_)
  simp only [Int.toNat_natCast]
  have e : ((ys.map fun i : Nat => rawInt i).toArray)[i]? = none := by simp [List.getElem?_eq_none_iff.mp hpl]
  rw [e]
  try dsimp only
  refine wpAny_bind (wpAny_setField hoi hdi (by simp) ?_)
  have g1 : (s.heap.update it (Obj.mapFields (·.setIfInBounds 0 (rawInt 0)))).get? it = some (Obj.mapFields (·.setIfInBounds 0 (rawInt 0)) oi) :=
    Heap.get?_update_self _ hoi (Obj.isFreed_of_fields (Obj.data_mapFields hdi _))
  have d1 := Obj.data_mapFields hdi (·.setIfInBounds 0 (rawInt 0))
  refine wpAny_bind (wpAny_setField g1 d1 (by simp) ?_)
  have s1 := Heap.SameBut.update s.heap it (Obj.mapFields (·.setIfInBounds 0 (rawInt 0)))
  generalize s.heap.update it (Obj.mapFields (·.setIfInBounds 0 (rawInt 0))) = hA at s1 g1 ⊢
  have s2 := Heap.SameBut.update hA it (Obj.mapFields (·.setIfInBounds 2 Value.none))
  have s3 := (s1.trans s2).extBut
  generalize hA.update it (Obj.mapFields (·.setIfInBounds 2 Value.none)) = hB at s3 ⊢
  exact wpAny_mono (stop_iter (s := s) (Q := Q) (E := E) hh s3 hQ) (fun _ _ f => f.elim) fun _ _ x => x

/-- one walk for all three orders: the items come in some order of the entries -/
structure SetWalk (prog : Program) (w : World) (A : Around) (I a : Addr) (es : Array (Int × Value)) (order : List (Int × Value)) (fp : List Addr) (St : Nat → Heap → Prop) : Prop where
  perm : List.Perm order es.toList
  walks : Walks prog w A I fp [I] order.length (fun i v => ∃ k, order[i]? = some (k, v)) St
  mem : ∀ b ∈ fp, b = I ∨ b = a ∨ b + 1 = I
  self : I ∈ fp

theorem walk_text {I : Addr} (hh : A.handled = none) (hb : byText w = true) (hne : a ≠ I) (hd : o.data = .set es ep t) (hf : t.fits es.size = true) :
    SetWalk prog w A I a es (pickOrder (w.params.setOrder a ep) es).toList [I, a] (fun i h => SIter h I a (.int 0 0) i es.size ep ∧ h.get? a = some o) where
  perm := pickOrder_perm _ _
  mem := fun b hb => by
    rcases List.mem_cons.mp hb with e | hb
    · exact .inl e
    · exact .inr (.inl (List.mem_singleton.mp hb))
  self := List.mem_cons_self ..
  walks := {
    sub := fun b hb => by simp at hb; simp [hb]
    frame := fun _ _ _ st hk => ⟨st.1.at fun o e => hk I (by simp) o e, hk a (by simp) _ st.2⟩
    item := fun i s Q E hi st hQ => by
      obtain ⟨p, hp⟩ : ∃ p, (pickOrder (w.params.setOrder a ep) es)[i]? = some p := ⟨_, Array.getElem?_eq_getElem (by simpa using hi)⟩
      refine item_int (next := 0) (x := p.2) (n := es.size) st.1 st.2 hd hf rfl (fun A' E' Q' hq => next_text hb st.2 hd hf (by rw [hp]; exact hq)) fun h' hit' hs' => ?_
      exact hQ _ h' s.toks ⟨p.1, by rw [Array.getElem?_toList, hp]⟩ ⟨hit', hs'.extBut a _ hne st.2⟩ fun b o hb e => hs'.extBut b o (fun h => hb (by simp [h])) e
    done := fun s Q E st hQ => by
      refine end_int (n := es.size) hh st.1 st.2 hd hf rfl (fun A' E' Q' hq => next_text hb st.2 hd hf (by simpa using hq)) fun h' he' => hQ h' s.toks fun b o hb e => he' b o (fun h => hb (by simp [h])) e
    self := fun _ _ _ _ st hQ => self_setiter st.1 hQ }

/-- the slot behind i items -/
def slotAt (t : SetTable) (i : Nat) : Nat := if i = 0 then 0 else t.place.getD (i - 1) 0 + 1

theorem below_slotAt {t : SetTable} (h : Up t.place) {i : Nat} (hi : i ≤ t.place.size) : SetTable.below t.place (slotAt t i) = i := by
  refine below_at h hi (fun k hk => ?_) (fun hlt => ?_)
  · unfold slotAt
    rw [if_neg (by omega)]
    rcases Nat.lt_or_ge k (i - 1) with q | q
    · have := h.lt (i := k) (j := i - 1) q (by omega)
      omega
    · have : k = i - 1 := by omega
      rw [this]; omega
  · unfold slotAt
    by_cases hi0 : i = 0
    · rw [if_pos hi0]; exact Nat.zero_le _
    · rw [if_neg hi0]
      have := h.lt (i := i - 1) (j := i) (by omega) hlt
      omega

theorem walk_plain {I : Addr} (hh : A.handled = none) (hb : byText w = false) (hpl : (!t.plain && decide (es.size > 1)) = false) (hled : t.led = true) (hup : Up t.place) (hne : a ≠ I) (hd : o.data = .set es ep t) (hf : t.fits es.size = true) :
    SetWalk prog w A I a es es.toList [I, a] (fun i h => SIter h I a (.int (slotAt t i) 0) i es.size ep ∧ h.get? a = some o) where
  perm := .rfl
  mem := fun b hb => by
    rcases List.mem_cons.mp hb with e | hb
    · exact .inl e
    · exact .inr (.inl (List.mem_singleton.mp hb))
  self := List.mem_cons_self ..
  walks := by
    have hsz : t.place.size = es.size := by
      simp only [SetTable.fits, Bool.and_eq_true, beq_iff_eq] at hf
      exact hf.1
    exact {
    sub := fun b hb => by simp at hb; simp [hb]
    frame := fun _ _ _ st hk => ⟨st.1.at fun o e => hk I (by simp) o e, hk a (by simp) _ st.2⟩
    item := fun i s Q E hi st hQ => by
      have hi' : i < es.size := by simpa using hi
      have hbl := below_slotAt hup (i := i) (by omega)
      have hpl' : t.place[i]? = some (t.place.getD i 0) := by rw [Array.getElem?_eq_getElem (by omega)]; simp [Array.getD, show i < t.place.size by omega]
      have hnx : t.place.getD i 0 + 1 = slotAt t (i + 1) := by unfold slotAt; simp
      refine item_int (next := t.place.getD i 0 + 1) (x := es[i].2) (n := es.size) st.1 st.2 hd hf rfl (fun A' E' Q' hq => next_plain hb hpl hled st.2 hd hf (by rw [hbl, hpl', Array.getElem?_eq_getElem hi']; exact hq)) fun h' hit' hs' => ?_
      rw [hnx] at hit'
      exact hQ _ h' s.toks ⟨es[i].1, by rw [Array.getElem?_toList, Array.getElem?_eq_getElem hi']⟩ ⟨hit', hs'.extBut a _ hne st.2⟩ fun b o hb e => hs'.extBut b o (fun h => hb (by simp [h])) e
    done := fun s Q E st hQ => by
      have hlen : es.toList.length = es.size := by simp
      have hbl := below_slotAt hup (i := es.size) (by omega)
      rw [hlen] at st
      refine end_int (n := es.size) hh st.1 st.2 hd hf rfl (fun A' E' Q' hq => next_plain hb hpl hled st.2 hd hf (by rw [hbl]; simpa using hq)) fun h' he' => hQ h' s.toks fun b o hb e => he' b o (fun h => hb (by simp [h])) e
    self := fun _ _ _ _ st hQ => self_setiter st.1 hQ }

theorem walk_drawn {I tp : Addr} {ot : Obj} {ys : List Nat} {nt : Nat} (hh : A.handled = none) (hys : List.Perm ys (List.range es.size)) (htp : tp + 1 = I) (hne : a ≠ I) (hd : o.data = .set es ep t) (hf : t.fits es.size = true)
    (hdt : ot.data = .seq (ys.map fun i : Nat => rawInt i).toArray nt) :
    SetWalk prog w A I a es (ys.filterMap fun j => es[j]?) [I, a, tp] (fun i h => SIter h I a (.ref tp) i es.size ep ∧ h.get? a = some o ∧ h.get? tp = some ot) where
  perm := (hys.filterMap _).trans (by rw [filterMap_getElem?_range])
  mem := fun b hb => by
    rcases List.mem_cons.mp hb with e | hb
    · exact .inl e
    · rcases List.mem_cons.mp hb with e | hb
      · exact .inr (.inl e)
      · exact .inr (.inr (by rw [List.mem_singleton.mp hb]; exact htp))
  self := List.mem_cons_self ..
  walks := by
    have htI : tp ≠ I := Nat.ne_of_lt (htp ▸ Nat.lt_succ_self tp)
    have hlt : ∀ j ∈ ys, j < es.size := fun j hj => List.mem_range.mp (hys.mem_iff.mp hj)
    have hmap : ∀ l : List Nat, (∀ j ∈ l, j < es.size) → ∀ i : Nat, (l.filterMap fun j => es[j]?)[i]? = l[i]?.bind fun j => es[j]? := by
      intro l
      induction l with
      | nil => intro _ i; simp
      | cons x r ih =>
        intro hl i
        have hx : es[x]? = some (es[x]'(hl x (.head _))) := Array.getElem?_eq_getElem (hl x (.head _))
        rw [List.filterMap_cons_some hx]
        cases i with
        | zero => simp [hx]
        | succ i => simpa using ih (fun j hj => hl j (.tail _ hj)) i
    have hlen : ∀ l : List Nat, (∀ j ∈ l, j < es.size) → (l.filterMap fun j => es[j]?).length = l.length := by
      intro l
      induction l with
      | nil => intro _; rfl
      | cons x r ih =>
        intro hl
        have hx : es[x]? = some (es[x]'(hl x (.head _))) := Array.getElem?_eq_getElem (hl x (.head _))
        rw [List.filterMap_cons_some hx, List.length_cons, List.length_cons, ih fun j hj => hl j (.tail _ hj)]
    exact {
    sub := fun b hb => by simp at hb; simp [hb]
    frame := fun _ _ _ st hk => ⟨st.1.at fun o e => hk I (by simp) o e, hk a (by simp) _ st.2.1, hk tp (by simp) _ st.2.2⟩
    item := fun i s Q E hi st hQ => by
      rw [hlen ys hlt] at hi
      have hj : ys[i]? = some ys[i] := List.getElem?_eq_getElem hi
      have hjl := hlt _ (List.getElem_mem hi)
      have hes : es[ys[i]]? = some (es[ys[i]].1, es[ys[i]].2) := Array.getElem?_eq_getElem hjl
      refine item_drawn (n := es.size) st.1 st.2.1 hd hf rfl st.2.2 hdt hj hes fun h' hit' hs' => ?_
      exact hQ _ h' s.toks ⟨es[ys[i]].1, by rw [hmap ys hlt, hj]; exact hes⟩ ⟨hit', hs'.extBut a _ hne st.2.1, hs'.extBut tp _ htI st.2.2⟩ fun b o hb e => hs'.extBut b o (fun h => hb (by simp [h])) e
    done := fun s Q E st hQ => by
      rw [hlen ys hlt] at st
      exact end_drawn (n := es.size) hh st.1 st.2.1 hd hf rfl st.2.2 hdt (by simp) fun h' he' => hQ h' s.toks fun b o hb e => he' b o (fun h => hb (by simp [h])) e
    self := fun _ _ _ _ st hQ => self_setiter st.1 hQ }

/-- a set is asked for its iterator: in every world a walk over its entries in some order -/
theorem iter_any {Q : Value → Shared → Prop} (hh : A.handled = none) (ho : s.heap.get? a = some o) (hc : o.cls = .type "set") (hd : o.data = .set es ep t) (hf : t.fits es.size = true) (hz : es.size < 4096) (hup : Up t.place) (hled : t.led = true ∨ byText w = true)
    (h : ∀ I order fp St h' dr, SetWalk prog w A I a es order fp St → St 0 h' → (∀ b o, s.heap.get? b = some o → h'.get? b = some o) → I < h'.objs.size → s.heap.objs.size ≤ I → (∀ b ∈ fp, b = a ∨ s.heap.objs.size ≤ b) → Q (.ref I) { s with heap := h', drawn := dr }) :
    wpAny (model prog w) A (pyIter (.ref a)) Q E s := by
  have halt := Heap.lt_size ho
  refine iter_set ho hc hd hf hz (fun hm => ?_) (fun hm ys dr hp => ?_)
  · have hne : a ≠ s.heap.objs.size := Nat.ne_of_lt halt
    have hst : SIter (s.heap.push { cls := .type "set_iterator", data := .fields #[.int 0 0, .int 0 0, .ref a, .int es.size 0, .int ep 0] }) s.heap.objs.size a (.int 0 0) 0 es.size ep := ⟨_, Heap.get?_push_size _ rfl, rfl, rfl⟩
    have hfp : ∀ b ∈ [s.heap.objs.size, a], b = a ∨ s.heap.objs.size ≤ b := fun b hb => by
      rcases List.mem_cons.mp hb with e | hb
      · exact .inr (Nat.le_of_eq e.symm)
      · exact .inl (List.mem_singleton.mp hb)
    cases hb : byText w with
    | true => exact h _ _ _ _ _ _ (walk_text hh hb hne hd hf) ⟨hst, Heap.get?_push_of_some _ ho⟩ (fun b o e => Heap.get?_push_of_some _ e) (by rw [Heap.size_push]; exact Nat.lt_succ_self _) (Nat.le_refl _) hfp
    | false =>
      have hpl : (!t.plain && decide (es.size > 1)) = false := by rw [hb] at hm; simpa using hm
      have hl : t.led = true := hled.resolve_right (by rw [hb]; exact Bool.false_ne_true)
      exact h _ _ _ _ _ _ (walk_plain hh hb hpl hl hup hne hd hf) ⟨hst, Heap.get?_push_of_some _ ho⟩ (fun b o e => Heap.get?_push_of_some _ e) (by rw [Heap.size_push]; exact Nat.lt_succ_self _) (Nat.le_refl _) hfp
  · generalize hH : s.heap.push { cls := .type "tuple", data := .seq (ys.map fun i : Nat => rawInt i).toArray } = H
    have hs : H.objs.size = s.heap.objs.size + 1 := by rw [← hH, Heap.size_push]
    have hk : ∀ b o, s.heap.get? b = some o → H.get? b = some o := fun b o e => by rw [← hH]; exact Heap.get?_push_of_some _ e
    have ht : H.get? s.heap.objs.size = some { cls := .type "tuple", data := .seq (ys.map fun i : Nat => rawInt i).toArray } := by rw [← hH]; exact Heap.get?_push_size _ rfl
    refine h _ _ _ _ _ dr (walk_drawn (I := H.objs.size) (tp := s.heap.objs.size) hh hp hs.symm (Nat.ne_of_lt (Nat.lt_of_lt_of_le halt (hs ▸ Nat.le_succ _))) hd hf rfl) ⟨⟨_, Heap.get?_push_size _ rfl, rfl, rfl⟩, Heap.get?_push_of_some _ (hk _ _ ho), Heap.get?_push_of_some _ ht⟩
      (fun b o e => Heap.get?_push_of_some _ (hk b o e)) (by rw [Heap.size_push]; exact Nat.lt_succ_self _) (hs ▸ Nat.le_succ _) (fun b hb => ?_)
    rcases List.mem_cons.mp hb with e | hb
    · exact .inr (by rw [e, hs]; exact Nat.le_succ _)
    · rcases List.mem_cons.mp hb with e | hb
      · exact .inl e
      · exact .inr (Nat.le_of_eq (List.mem_singleton.mp hb).symm)
end
end Mine
end
section
namespace Mine

/-- a set object whose table is in order and whose maker is led (or whose order is the world's) -/
def Fine (w : World) (o : Obj) : Prop := ∃ es ep t, o.data = .set es ep t ∧ Up t.place ∧ (t.led = true ∨ byText w = true)

theorem fine_new {w : World} : Fine w { cls := .type "set", dict := none, data := .set #[] 0 (.fresh 0 0 (!byText w)) } :=
  ⟨#[], 0, _, rfl, List.Pairwise.nil, by cases h : byText w <;> simp [SetTable.fresh]⟩

section
variable {prog : Program} {w : World} {A : Around} {E : Value → Shared → Prop} {s : Shared}

section
variable {K : Type} [DecidableEq K] [BEq K] [LawfulBEq K] {knd : KeyKind prog w K}

theorem store_fine {a : Addr} {o : Obj} {es : Array (Int × Value)} {ep : Nat} {t : SetTable} {Q : Unit → Shared → Prop} (es' : Array (Int × Value)) (t' : SetTable) (ho : s.heap.get? a = some o) (hex : o.ExactSet) (hd : o.data = .set es ep t)
    (hz : es'.size < scanBound)
    (h : ∀ h', Heap.SameBut a s.heap h' → h'.get? a = some { o with data := .set es' (ep + 1) t' } → Q () { s with heap := h' }) : wpAny (model prog w) A (storeSet a es' t') Q E s := by
  refine wpAny_storeSet_of ho hd ?_ (fits_of_scanBound hz)
  refine h _ (Heap.SameBut.update ..) ?_
  have := Heap.get?_update_self (Obj.putSet es' t') ho (by rw [putSet_of es' t' hd]; rfl)
  rw [putSet_of es' t' hd] at this
  exact this

theorem addH_fine {a : Addr} {o : Obj} {S : K → Bool} {n : Nat} {k : K} {x : Value} {Q : Bool → Shared → Prop} (hkey : knd.is k x = true) (hsc : x.scannable = true) (ho : s.heap.get? a = some o) (hso : o.SetObjOf knd S n) (hfi : Fine w o) (hroom : n + 1 < scanBound)
    (h : ∀ (b : Bool) h' o', Heap.SameBut a s.heap h' → h'.get? a = some o' → o'.SetObjOf knd (fun k' => S k' || decide (k' = k)) (if S k then n else n + 1) → Fine w o' → Q b { s with heap := h' }) :
    wpAny (model prog w) A (setAddHashed a x (knd.hash k)) Q E s := by
  obtain ⟨hex, es, ep, t, hd, hel, hmem, hn, hf⟩ := hso
  obtain ⟨es₂, ep₂, t₂, hd₂, hup, hled⟩ := hfi
  rw [hd] at hd₂
  cases hd₂
  have hb : es.size < scanBound := by omega
  unfold setAddHashed setAddHashedIn
  refine wpAny_holding (wpAny_bind (wpAny_setState_of ho hd hf ?_))
  dsimp only
  rw [byScan_of hsc hb hel]
  simp only [↓reduceIte]
  unfold setAddByScan
  refine wpAny_bind ?_
  refine wpAny_bind (wpAny_rule ?_)
  refine wpAny_bind (wpAny_setScan_of hkey ho hd hf hel ?_)
  cases hr : List.findIdx? (fun e => knd.is k e.2) es.toList with
  | some j =>
    dsimp only
    obtain ⟨hj, hpj, _⟩ := List.findIdx?_eq_some_iff_getElem.mp hr
    have hSk : S k = true := (hmem k).mpr ⟨es.toList[j], List.getElem_mem hj, hpj⟩
    refine wpAny_pure (wpAny_pure ?_)
    have e : s = { s with heap := s.heap } := by cases s; rfl
    have hS' : o.SetObjOf knd (fun k' => S k' || decide (k' = k)) (if S k then n else n + 1) := by
      refine ⟨hex, es, ep, t, hd, hel, fun k' => ?_, by rw [hSk]; exact hn, hf⟩
      rw [Bool.or_eq_true, decide_eq_true_eq, ← hmem k']
      exact ⟨fun hk => hk.elim id (fun e => e ▸ hSk), .inl⟩
    rw [e]
    exact h false s.heap o (Heap.SameBut.refl a s.heap) ho hS' ⟨es, ep, t, hd, hup, hled⟩
  | none =>
    dsimp only
    have hSk : S k = false := by
      cases hk : S k with
      | false => rfl
      | true => obtain ⟨e, he, hp⟩ := (hmem k).mp hk; have := List.findIdx?_eq_none_iff.mp hr e he; rw [hp] at this; exact Bool.noConfusion this
    have hgw : ∀ (b : Bool) {s₁ : Shared} {Q' : Unit → Shared → Prop}, Q' () s₁ → wpAny (model prog w) A (match b with | true => rule "set.scan.the-table-gave-way" | false => pure ()) Q' E s₁ :=
      fun b s₁ Q' hq => by cases b <;> first | exact wpAny_pure hq | exact wpAny_rule hq
    have hperm := layNew_perm t es (knd.hash k) x
    have hfits := layNew_fits t es (knd.hash k) x
    have hups := layNew_up hup es (knd.hash k) x
    generalize hL : layNew t es (knd.hash k) x = L at hperm hfits hups ⊢
    obtain ⟨es1, t1, wasDummy, gave⟩ := L
    dsimp only at hperm hfits hups ⊢
    rw [Array.toList_push] at hperm
    have hel1 : ElemsOf knd es1.toList := (hel.push hkey hsc).perm hperm
    have hmem1 : ∀ k', (S k' || decide (k' = k)) = true ↔ ∃ e ∈ es1.toList, knd.is k' e.2 = true := mem_push_iff hkey hmem hperm
    have hsz1 : es1.size = n + 1 := by rw [← Array.length_toList, hperm.length_eq, List.length_append, Array.length_toList, hn]; rfl
    have hb1 : es1.size < scanBound := by omega
    have hled1 : t1.led = true ∨ byText w = true := by rw [hups.2]; exact hled
    -- the end, whatever table is stored
    have tail : ∀ t2 : SetTable, t2.fits es1.size = true → Up t2.place → (t2.led = true ∨ byText w = true) → ∀ s₁ : Shared, s₁ = s →
        wpAny (model prog w) A (do
          storeSet a es1 t2
          if (!wasDummy && t2.tooFull) = true then do
              (match (relayAll t2 es1 (SetTable.grown es1.size)).2.2 with | true => rule "set.scan.the-table-gave-way" | false => pure ())
              storeSet a (relayAll t2 es1 (SetTable.grown es1.size)).1 (relayAll t2 es1 (SetTable.grown es1.size)).2.1
              pure (some true)
            else pure (some true)) (fun r s' => r = some true ∧ Q true s') E s₁ := by
      intro t2 hf2 hu2 hl2 s₁ hs₁
      subst hs₁
      refine wpAny_bind (store_fine es1 t2 ho hex hd hb1 fun h1 hs1 ho1 => ?_)
      split
      · have hp := relayAll_perm t2 es1 (SetTable.grown es1.size)
        have hfr := relayAll_fits t2 es1 (SetTable.grown es1.size)
        have hur := relayAll_up hu2 es1 (SetTable.grown es1.size)
        generalize hRl : relayAll t2 es1 (SetTable.grown es1.size) = Rl at hp hfr hur ⊢
        obtain ⟨es2, t3, gave2⟩ := Rl
        dsimp only at hp hfr hur ⊢
        have hsz : es2.size = es1.size := by rw [← Array.length_toList, hp.length_eq, Array.length_toList]
        refine wpAny_bind (hgw _ ?_)
        refine wpAny_bind (store_fine (s := { s₁ with heap := h1 }) es2 t3 ho1 hex rfl (by omega) fun h2 hs2 ho2 => ?_)
        refine wpAny_pure ⟨rfl, ?_⟩
        refine h true h2 _ (hs1.trans hs2) ho2 ⟨hex, es2, _, t3, rfl, hel1.perm hp, fun k' => (hmem1 k').trans ⟨fun ⟨e, he, q⟩ => ⟨e, hp.mem_iff.mpr he, q⟩, fun ⟨e, he, q⟩ => ⟨e, hp.mem_iff.mp he, q⟩⟩, by rw [hSk]; simp only [Bool.false_eq_true, if_false]; omega, hfr⟩
          ⟨es2, _, t3, rfl, hur.1, by rw [hur.2]; exact hl2⟩
      · refine wpAny_pure ⟨rfl, ?_⟩
        exact h true h1 _ hs1 ho1 ⟨hex, es1, _, t2, rfl, hel1, hmem1, by rw [hSk]; simp only [Bool.false_eq_true, if_false]; omega, hf2⟩ ⟨es1, _, t2, rfl, hu2, hl2⟩
    refine wpAny_bind (hgw _ ?_)
    split
    · refine wpAny_bind ?_
      rw [hashByValue_scannable 8 hsc]
      refine wpAny_pure ?_
      refine wpAny_mono (tail (if plainKind x = true then t1 else { t1 with plain := false }) ?_ ?_ ?_ s rfl) (fun r s' hq => ?_) fun _ _ e => e
      · split
        · exact hfits
        · exact SetTable.fits_plain_off hfits
      · split
        · exact hups.1
        · exact hups.1
      · split
        · exact hled1
        · exact hled1
      · obtain ⟨rfl, hq⟩ := hq
        exact wpAny_pure hq
    · refine wpAny_bind (wpAny_pure ?_)
      simp only [↓reduceIte]
      refine wpAny_mono (tail t1 hfits hups.1 hled1 s rfl) (fun r s' hq => ?_) fun _ _ e => e
      obtain ⟨rfl, hq⟩ := hq
      exact wpAny_pure hq

theorem call_add_fine {a : Addr} {o : Obj} {S : K → Bool} {n : Nat} {k : K} {key : Value} {Q : Value → Shared → Prop} (hkey : knd.is k key = true) (hsc : key.scannable = true) (ho : s.heap.get? a = some o) (hso : o.SetObjOf knd S n) (hfi : Fine w o) (hroom : n + 1 < scanBound)
    (h : ∀ h' o', Heap.SameBut a s.heap h' → h'.get? a = some o' → o'.SetObjOf knd (fun k' => S k' || decide (k' = k)) (if S k then n else n + 1) → Fine w o' → Q .none { s with heap := h', toks := s.toks + 1 }) :
    wpAny (model prog w) A (call (.builtin "set.add") [.ref a, key]) Q E s := by
  have hT : s.TypeIs (.ref a) "set" := ⟨o, ho, hso.1.1⟩
  refine wpAny_call_entry F.slot_set_add hT F.entry_set_add ?_ (F.args_set_add_2 _ _)
  unfold Builtin.«set.add» Builtin.Frozenset.oneOther
  simp only [List.isEmpty_nil, bind_assoc]
  unfold Builtin.Frozenset.addrOf setAdd
  refine wpAny_bind (wpAny_pure ?_)
  try dsimp only
  refine wpAny_bind (wpAny_pure ?_)
  try dsimp only
  refine wpAny_bind ?_
  refine wpAny_holding ?_
  refine wpAny_bind (knd.pyHash hkey ?_)
  refine addH_fine (s := { s with toks := s.toks + 1 }) hkey hsc ho hso hfi hroom fun b h' o' hsb ho' hS' hF' => ?_
  show wpAny _ _ (ret Value.none) _ _ _
  exact wpAny_pure ⟨_, rfl, h h' o' hsb ho' hS' hF'⟩
end

theorem newSet_fine {Q : Value → Shared → Prop} (h : Q (.ref s.heap.objs.size) { s with heap := s.heap.push { cls := .type "set", dict := none, data := .set #[] 0 (.fresh 0 0 (!byText w)) } }) :
    wpAny (model prog w) A (newSet (.type "set")) Q E s := by
  unfold newSet
  refine wpAny_bind (wpAny_byText ?_)
  dsimp only
  simp only [newObj]
  exact wpAny_bind (wpAny_alloc (wpAny_pure h))
end
end Mine
end
section
namespace Mine

theorem compTurn_set (elt target iter : Expr) (ifs : List Expr) (scope : Scope) (pos : Pos) (it acc : Value) (env : Env) :
    compTurn (.SetComp elt [⟨target, iter, ifs, 0⟩] scope pos) 0 it acc env = (do
      standAt iter.pos
      match ← pyNext it with
      | none => pure (.done .next)
      | some v =>
        letOwnedTupleGo target it v
        assign target env v
        let mut ok := true
        for c in ifs do
          if ok then ok ← isTrue c env (eval c env)
        if ok then
          (do let v ← eval elt env; standAt elt.pos; let _ ← call (.builtin "set.add") [acc, v])
        again (.compLoop (.SetComp elt [⟨target, iter, ifs, 0⟩] scope pos) 0 it acc env)) := by rfl

section
variable {prog : Program} {w : World} {A : Around} {E : Value → Shared → Prop} {R : Result → Shared → Prop} {s : Shared}

theorem loop_set {elt target iter : Expr} {ifs : List Expr} {scope : Scope} {pos : Pos} {it acc : Value} {env : Env} (I : Nat → Shared → Prop)
    (turn : ∀ n s, I n s → wpAny (model prog w) A (pyNext it) (fun r s₁ => match r with
      | none => R (.ok .next) s₁
      | some v => wpAny (model prog w) A (assign target env v) (fun _ s₂ =>
          wpAny (model prog w) A (forIn ifs true fun c r => if r = true then do let ok ← isTrue c env (eval c env); pure (ForInStep.yield ok) else pure (ForInStep.yield r)) (fun ok s₃ =>
            if ok = true then wpAny (model prog w) A (eval elt env) (fun x s₄ =>
              wpAny (model prog w) A (call (.builtin "set.add") [acc, x]) (fun _ s₅ => ∃ m, m < n ∧ I m s₅) (notedBy (model prog w) A env fun e s' => R (.error e) s') s₄) (notedBy (model prog w) A env fun e s' => R (.error e) s') s₃
            else ∃ m, m < n ∧ I m s₃) (notedBy (model prog w) A env fun e s' => R (.error e) s') s₂) (notedBy (model prog w) A env fun e s' => R (.error e) s') s₁) (notedBy (model prog w) A env fun e s' => R (.error e) s') s)
    (n : Nat) (h : I n s) (ht : ∀ v, letOwnedTupleGo target it v = pure () := by intro _; rfl) :
    codeAny (model prog w) A (.compLoop (.SetComp elt [⟨target, iter, ifs, 0⟩] scope pos) 0 it acc env) R s := by
  refine codeAny_loop rfl I (fun n s hI => ?_) n h
  show wpAny _ A ((compTurn (.SetComp elt [⟨target, iter, ifs, 0⟩] scope pos) 0 it acc env).onRaise (fun x => do noteFrame x env; theTreesLotGoes x)) _ _ s
  refine wpAny_noted ?_
  rw [compTurn_set]
  refine wpAny_bind (wpAny_standAt (wpAny_bind (wpAny_mono (turn n s hI) (fun r s₁ h₁ => ?_) fun _ _ h' => h')))
  cases r with
  | none => exact wpAny_pure h₁
  | some v =>
    refine wpAny_bind (wpAny_of_eq (ht v) ?_)
    refine wpAny_bind (wpAny_mono h₁ (fun _ s₂ h₂ => wpAny_bind (wpAny_mono h₂ (fun ok s₃ h₃ => ?_) fun _ _ h' => h')) fun _ _ h' => h')
    cases ok with
    | false => exact wpAny_pure ⟨rfl, h₃⟩
    | true =>
      exact wpAny_bind (wpAny_bind (wpAny_mono h₃ (fun x s₄ h₄ => wpAny_bind (wpAny_standAt (wpAny_bind (wpAny_mono h₄ (fun _ s₅ h₅ => wpAny_pure (wpAny_pure ⟨rfl, h₅⟩)) fun _ _ h' => h')))) fun _ _ h' => h'))

theorem start_set {elt target iter ifs rest scope pos it acc env}
    (h0 : codeAny (model prog w) A (.compLoop (.SetComp elt (⟨target, iter, ifs, 0⟩ :: rest) scope pos) 0 it acc env) R s)
    (h : wpAny (model prog w) A (pyIter it) (fun it' s' => codeAny (model prog w) A (.compLoop (.SetComp elt (⟨target, iter, ifs, 0⟩ :: rest) scope pos) 0 it' acc env) R s')
      (notedBy (model prog w) A env fun x s' => R (.error x) s') s) :
    codeAny (model prog w) A (.compStart (.SetComp elt (⟨target, iter, ifs, 0⟩ :: rest) scope pos) 0 it acc env) R s := by
  refine codeAny_of_tree ?_
  show wpAny _ _ ((compStart (.SetComp elt (⟨target, iter, ifs, 0⟩ :: rest) scope pos) 0 it acc env).onRaise (fun x => do noteFrame x env; standAt theWindowsPlace)) _ _ s
  refine wpAny_notedAt ?_
  unfold compStart
  show wpAny _ _ (ask >>= _) _ _ s
  refine wpAny_bind (wpAny_askSetting (wpAny_ite ?_))
  split
  · first
      | exact wpAny_bind (wpAny_pure (wpAny_pure (And.intro rfl h0)))
      | exact wpAny_pure (And.intro rfl h0)
  · first
      | exact wpAny_bind (wpAny_rule (wpAny_bind (wpAny_standAt (wpAny_bind (wpAny_mono h (fun it' s' h' => wpAny_pure (And.intro rfl h')) fun _ _ x => x)))))
      | (refine wpAny_bind (wpAny_rule ?_); show wpAny _ _ (standAt iter.pos >>= _) _ _ s; exact wpAny_bind (wpAny_standAt (wpAny_bind (wpAny_mono h (fun it' s' h' => wpAny_pure (And.intro rfl h')) fun _ _ x => x))))

/-- the members kept so far -/
def keptBy (order : List (Int × Value)) (lv : Int) (i : Nat) (k : Int) : Bool := (order.take i).any (fun e => Value.isInt k e.2) && decide (lv ≤ k)

theorem kept_step (prog : Program) (w : World) {order : List (Int × Value)} {lv k₀ : Int} {i : Nat} {hx : Int} {t : Tok} (h : order[i]? = some (hx, .int k₀ t)) :
    keptBy order lv (i + 1) = if lv ≤ k₀ then fun k => keptBy order lv i k || decide (k = k₀) else keptBy order lv i := by
  have e : ∀ k, keptBy order lv (i + 1) k = (((order.take i).any (fun e => Value.isInt k e.2) || decide (k = k₀)) && decide (lv ≤ k)) := by
    intro k
    unfold keptBy
    rw [List.take_add_one, h, List.any_append]
    have : Value.isInt k (.int k₀ t) = decide (k = k₀) := by
      have := KeyKind.is_eq_decide (knd := intKind prog w) (intKind_is prog w k₀ t) k
      exact this
    simp [this]
  funext k
  rw [e]
  by_cases hl : lv ≤ k₀
  · rw [if_pos hl]
    show _ = (keptBy order lv i k || decide (k = k₀))
    unfold keptBy
    by_cases hk : k = k₀
    · subst hk; simp [hl]
    · simp [hk]
  · rw [if_neg hl]
    unfold keptBy
    by_cases hk : k = k₀
    · subst hk; simp [hl]
    · simp [hk]

theorem kept_all {es : Array (Int × Value)} {order : List (Int × Value)} {S : Int → Bool} {lv : Int} (hp : List.Perm order es.toList) (hm : ∀ k, S k = true ↔ ∃ e ∈ es.toList, (intKind prog w).is k e.2 = true) :
    keptBy order lv order.length = fun k => S k && decide (lv ≤ k) := by
  funext k
  unfold keptBy
  rw [List.take_length]
  have e : order.any (fun e => Value.isInt k e.2) = S k := by
    rw [Bool.eq_iff_iff, List.any_eq_true, hm k]
    exact ⟨fun ⟨x, hx, q⟩ => ⟨x, hp.mem_iff.mp hx, q⟩, fun ⟨x, hx, q⟩ => ⟨x, hp.mem_iff.mpr hx, q⟩⟩
  rw [e]

set_option maxHeartbeats 1000000 in
/-- {pn for pn in iter if pn >= lo}, lo a cell of the function around it -/
theorem setComp_rule {env : Env} {scope : Scope} {cl : List (Str × Addr)} {c : Addr} {pn lo : Str} {p1 p2 p3 p4 p5 pos : Pos} {iter : Expr} {Q : Value → Shared → Prop}
    (hh : A.handled = none) (hclos : closureFor scope env = pure cl) (hcell : ∀ y ∈ scope.names, y.2 ≠ .cell) (hkind : scope.kind = .function)
    (hnames : ∀ y ∈ scope.names, y.2 = .local → scope.names.lookup y.1 = some .local)
    (hpn : scope.names.lookup pn = some .local) (hlo : (relabel scope env).names.lookup lo = some .cell) (hcl : cl.lookup lo = some c)
    (hd1 : (pn == ("__debug__" : Str)) = false) (hd2 : (lo == ("__debug__" : Str)) = false)
    (h : wpAny (model prog w) A (eval iter env) (fun xv s₁ => ∃ a o S n co lv tl, xv = .ref a ∧ s₁.heap.get? a = some o ∧ o.SetObjOf (intKind prog w) S n ∧ Fine w o ∧ n < 4095 ∧ s₁.heap.get? c = some co ∧ co.data = .cell (some (.int lv tl)) ∧
      ∀ D o' n' h' tk dr, s₁.heap.objs.size ≤ D → h'.get? D = some o' → (∀ b ob, s₁.heap.get? b = some ob → h'.get? b = some ob) → o'.SetObjOf (intKind prog w) (fun k => S k && decide (lv ≤ k)) n' → n' ≤ n → Fine w o' →
        Q (.ref D) { s₁ with heap := h', toks := tk, drawn := dr }) E s)
    (hs : ∀ x, foldedSetIterable iter env x = pure x := by intro _; rfl) :
    wpAny (model prog w) A (eval (.SetComp (.Name pn p1) [⟨.Name pn p2, iter, [.Compare (.Name pn p3) [.GtE] [.Name lo p4] p5], 0⟩] scope pos) env) Q E s := by
  show wpAny _ A (comprehension (.SetComp (.Name pn p1) [⟨.Name pn p2, iter, [.Compare (.Name pn p3) [.GtE] [.Name lo p4] p5], 0⟩] scope pos) scope env _ (newSet (.type "set")) false (eval iter env)) Q E s
  refine wpAny_comprehension_free (use := none) rfl hs hclos hkind hnames (wpAny_mono h (fun xv s₁ h₁ => ?_) fun _ _ e => e)
  obtain ⟨a, o, S, n, co, lv, tl, rfl, ho, hso, hfi, hn, hco, hcd, hQ⟩ := h₁
  obtain ⟨hex, es, ep, t, hd, hel, hmem, hsz, hf⟩ := id hso
  obtain ⟨es₂, ep₂, t₂, hd₂, hup, hled⟩ := id hfi
  rw [hd] at hd₂
  cases hd₂
  refine iter_any hh ho hex.1 hd hf (by omega) hup hled fun I order fp St h₁ dr W hst hkeep hI1 hI2 hfp => ?_
  refine newSet_fine ?_
  dsimp only
  have halt := Heap.lt_size (hkeep _ _ ho)
  have hpush : (h₁.push { cls := .type "set", dict := none, data := .set #[] 0 (.fresh 0 0 (!byText w)) }).get? h₁.objs.size = some { cls := .type "set", dict := none, data := .set #[] 0 (.fresh 0 0 (!byText w)) } := Heap.get?_push_size _ rfl
  have hkeep2 : ∀ b ob, h₁.get? b = some ob → (h₁.push { cls := .type "set", dict := none, data := .set #[] 0 (.fresh 0 0 (!byText w)) }).get? b = some ob := fun b ob e => Heap.get?_push_of_some _ e
  have hsize : (h₁.push { cls := .type "set", dict := none, data := .set #[] 0 (.fresh 0 0 (!byText w)) }).objs.size = h₁.objs.size + 1 := Heap.size_push ..
  generalize h₁.push { cls := .type "set", dict := none, data := .set #[] 0 (.fresh 0 0 (!byText w)) } = H2 at hpush hkeep2 hsize ⊢
  generalize hD : h₁.objs.size = D at *
  refine wpAny_newFunctionEnv hcell (by intro y hy; simp at hy) (fun h₂ hns₂ hsb₂ => ?_) hkind
  dsimp only at hns₂ hsb₂ ⊢
  generalize hC : H2.objs.size = C at *
  have hDC : D ≠ C := by rw [hsize]; exact Nat.ne_of_lt (Nat.lt_succ_self _)
  have oldC : ∀ b, b < D → b ≠ C ∧ b ≠ D := fun b hb => ⟨by rw [hsize]; exact Nat.ne_of_lt (Nat.lt_succ_of_lt hb), Nat.ne_of_lt hb⟩
  have hIC := oldC I hI1
  have haI : a < D := halt
  have hfpD : ∀ b ∈ fp, b < D := fun b hb => by
    rcases W.mem b hb with e | e | e
    · rw [e]; exact hI1
    · rw [e]; exact haI
    · exact Nat.lt_trans (e ▸ Nat.lt_succ_self b) hI1
  have old₂ : ∀ b ob, h₁.get? b = some ob → h₂.get? b = some ob := fun b ob e =>
    hsb₂.extBut b ob (oldC b (hD ▸ Heap.lt_size e)).1 (Heap.get?_push_of_some _ (hkeep2 b ob e))
  have hst₂ : St 0 h₂ := W.walks.frame _ _ _ hst fun b _ ob e => old₂ b ob e
  have hD₂ : h₂.get? D = some { cls := .type "set", dict := none, data := .set #[] 0 (.fresh 0 0 (!byText w)) } := hsb₂.extBut _ _ hDC (Heap.get?_push_of_some _ hpush)
  have hlen : order.length = n := by rw [W.perm.length_eq, Array.length_toList, hsz]
  have hsI : ∀ b ob, s₁.heap.get? b = some ob → b ≠ I ∧ b ≠ C ∧ b ≠ D := fun b ob e =>
    have hb := Heap.lt_size (hkeep b ob e)
    ⟨Nat.ne_of_lt (Nat.lt_of_lt_of_le (Heap.lt_size e) hI2), (oldC b (hD ▸ hb)).1, (oldC b (hD ▸ hb)).2⟩
  have hpk : Env.kindOf (compEnvC scope cl C env) pn = some .local := lookup_relabel_local hpn
  have hkd : (compEnvC scope cl C env).scope.kind = .function := hkind
  have hpp : ((compEnvC scope cl C env).scope.kind == .class || ((compEnvC scope cl C env).scope.kind == .module && (compEnvC scope cl C env).locals != (compEnvC scope cl C env).globals)) = false := by rw [hkd]; rfl
  have loop : ∀ s₃ : Shared, (∃ tk, s₃ = { s₁ with heap := h₂, toks := tk, drawn := dr }) →
      codeAny (model prog w) A (.compLoop (.SetComp (.Name pn p1) [⟨.Name pn p2, iter, [.Compare (.Name pn p3) [.GtE] [.Name lo p4] p5], 0⟩] scope pos) 0 (.ref I) (.ref D) (compEnvC scope cl C env))
        (compPost (model prog w) A E none Q (.ref D) C) s₃ := by
    rintro s₃ ⟨tk₃, rfl⟩
    refine loop_set (env := compEnvC scope cl C env) (fun k s' => ∃ H tk m' i oD nD, s' = { s₁ with heap := H, toks := tk, drawn := dr } ∧ St i H ∧ H.Ns C m' ∧ H.get? D = some oD ∧ oD.SetObjOf (intKind prog w) (keptBy order lv i) nD ∧ Fine w oD ∧ nD ≤ i ∧ i ≤ order.length ∧ k = order.length + 1 - i ∧
        ∀ b ob, s₁.heap.get? b = some ob → H.get? b = some ob) ?_ (order.length + 1)
      ⟨h₂, tk₃, _, 0, _, 0, rfl, hst₂, hns₂, hD₂, setObjOf_fresh _, fine_new, Nat.le_refl _, Nat.zero_le _, rfl, fun b ob e => old₂ b ob (hkeep b ob e)⟩
    rintro k s' ⟨H, tk, m', i, oD, nD, rfl, hst', hns', hoD, hsD, hfD, hnD, hi, rfl, hk⟩
    by_cases hlt : i < order.length
    · refine W.walks.item i _ _ _ hlt hst' fun v h4 tk4 hPv hst4 hk4 => ?_
      obtain ⟨hx, hov⟩ := hPv
      have hme : (hx, v) ∈ es.toList := W.perm.mem_iff.mp (List.mem_of_getElem? hov)
      obtain ⟨⟨k₀, hk0, _⟩, _⟩ := hel _ hme
      obtain ⟨t₀, e₀⟩ := Value.isInt_shape hk0
      dsimp only at e₀
      subst e₀
      have nI : ∀ b, b ≠ I → b ∉ [I] := fun b q hb => q (List.mem_singleton.mp hb)
      have hC4 : h4.Ns C m' := hns'.at' fun ob e => hk4 _ ob (nI _ (Ne.symm hIC.1)) e
      refine wpAny_assign_Name (wpAny_storeName_local hpk hC4 (fun h5 hn5 hs5 => ?_) hpp)
      have up5 : ∀ b ob, b ≠ C → b ≠ I → H.get? b = some ob → h5.get? b = some ob := fun b ob q1 q2 e => hs5.extBut b ob q1 (hk4 b ob (nI _ q2) e)
      have hst5 : St (i + 1) h5 := W.walks.frame _ _ _ hst4 fun b hb ob e => hs5.extBut b ob (oldC b (hfpD b hb)).1 e
      have hco5 : h5.get? c = some co := by
        have q := hsI c co hco
        exact up5 c co q.2.1 q.1 (hk c co hco)
      have hoD5 : h5.get? D = some oD := up5 D oD hDC (Ne.symm hIC.2) hoD
      have hk5 : ∀ b ob, s₁.heap.get? b = some ob → h5.get? b = some ob := fun b ob e => up5 b ob (hsI b ob e).2.1 (hsI b ob e).1 (hk b ob e)
      refine wpAny_tests_one (wpAny_isTrue_Compare1 (wpAny_Name (wpAny_loadName_local hkd hpk hn5 (v := .int k₀ t₀) (by simp) ?_) hd1))
      refine wpAny_Name (wpAny_loadName_cell hkd hlo hcl ⟨co, hco5, hcd⟩ ?_) hd2
      refine ge_int (wpAny_truthy_bool ?_)
      by_cases hl : lv ≤ k₀
      · have hdl : decide (k₀ ≥ lv) = true := decide_eq_true hl
        rw [hdl]
        simp only [if_true]
        refine wpAny_Name (wpAny_loadName_local hkd hpk hn5 (v := .int k₀ t₀) (by simp) ?_) hd1
        refine call_add_fine (knd := intKind prog w) (intKind_is _ _ _ _) rfl hoD5 hsD hfD (by unfold scanBound; omega) fun h6 o6 hs6 ho6 hS6 hF6 => ?_
        refine ⟨order.length + 1 - (i + 1), by omega, h6, _, _, i + 1, o6, (if keptBy order lv i k₀ = true then nD else nD + 1), rfl, ?_, hn5.sameBut hs6 (Ne.symm hDC), ho6, ?_, hF6, ?_, hlt, rfl, fun b ob e => hs6.extBut b ob (hsI b ob e).2.2 (hk5 b ob e)⟩
        · exact W.walks.frame _ _ _ hst5 fun b hb ob e => hs6.extBut b ob (oldC b (hfpD b hb)).2 e
        · rw [kept_step prog w hov, if_pos hl]; exact hS6
        · split <;> omega
      · have hdl : decide (k₀ ≥ lv) = false := decide_eq_false hl
        rw [hdl]
        simp only [Bool.false_eq_true, if_false]
        refine ⟨order.length + 1 - (i + 1), by omega, h5, _, _, i + 1, oD, nD, rfl, hst5, hn5, hoD5, ?_, hfD, by omega, hlt, rfl, hk5⟩
        rw [kept_step prog w hov, if_neg hl]; exact hsD
    · have hin : i = order.length := by omega
      subst hin
      refine W.walks.done _ _ _ hst' fun h4 tk4 hk4 => ?_
      have nI : ∀ b, b ≠ I → b ∉ [I] := fun b q hb => q (List.mem_singleton.mp hb)
      refine ⟨m', hns'.at' fun ob e => hk4 _ ob (nI _ (Ne.symm hIC.1)) e, fun h5 hs5 => ?_⟩
      rw [kept_all W.perm hmem] at hsD
      exact hQ D oD nD h5 tk4 dr (Nat.le_of_lt (Nat.lt_of_le_of_lt hI2 hI1)) (hs5.extBut _ _ hDC (hk4 _ _ (nI _ (Ne.symm hIC.2)) hoD)) (fun b ob e => hs5.extBut b ob (hsI b ob e).2.1 (hk4 b ob (nI _ (hsI b ob e).1) (hk b ob e))) hsD (by omega) hfD
  exact start_set (loop _ ⟨_, rfl⟩) (W.walks.self 0 _ _ _ hst₂ (loop _ ⟨_, rfl⟩))
end
end Mine
end
section
namespace Mine
section
variable {prog : Program} {w : World} {A : Around} {E : Value → Shared → Prop} {s : Shared}

/-- a set made by a call of its type, with what its maker is -/
theorem new_set_code {Q₁ : Value → Shared → Prop} (h : Q₁ (.ref s.heap.objs.size) { s with heap := s.heap.push { cls := .type "set", dict := none, data := .set #[] 0 (.fresh 0 0 (!byText w)) } }) :
    codeAny (model prog w) A (.call (.builtin "set.__new__") ⟨[.type "set"], []⟩) (wants Q₁ E) s := by
  refine codeAny_of_tree ?_
  show wpAny _ A.in1 (do checkBuiltinCall "set.__new__" ⟨[.type "set"], []⟩; again (.builtin "set.__new__" ⟨[.type "set"], []⟩)) _ _ s
  refine wpAny_bind (wpAny_of_eq F.newCall_set_0 (wpAny_pure ⟨plainId_quiet F.plain_set_new _, codeAny_builtin F.entry_set_new ?_⟩))
  rw [Around.under_plainId F.plain_set_new _]
  unfold Builtin.«set.__new__» Builtin.Frozenset.newClass
  have hsub := sub_set_self
  obtain ⟨hp, g, d, tk, os⟩ := s
  dsimp only
  wp_walk
  refine wpAny_askSetting (wpAny_pure ?_)
  dsimp only
  simp only [newObj]
  refine wpAny_bind (wpAny_alloc (wpAny_pure ?_))
  exact wpAny_pure h

set_option maxHeartbeats 1000000 in
set_option maxRecDepth 100000 in
theorem new_set_call {Q : Value → Shared → Prop} (h : Q (.ref s.heap.objs.size) { s with heap := s.heap.push { cls := .type "set", dict := none, data := .set #[] 0 (.fresh 0 0 (!byText w)) } }) :
    wpAny (model prog w) A (call (.type "set") []) Q E s := by
  obtain ⟨c, tl, hmro⟩ := F.called_set.mro
  have hmade := F.called_set.made
  have hsub := F.called_set.sub
  refine wpAny_call (codeAny_of_tree ?_)
  show wpAny _ _ (callAny (.type "set") _) _ _ _
  refine wpAny_pure ⟨Code.quiet_builtin _ (by decide +kernel), codeAny_builtin F.entry_type_call ?_⟩
  rw [Around.under_plain (weight_type_call_type "set" [] []) rfl]
  have h1 := F.called_set.notType
  have h2 := F.called_set.canCreate
  have hct := F.typeCall_set_0
  repeat (any_goals (first | assumption | wp_step))
  refine codeAny_mono (new_set_code (E := E) (Q₁ := fun obj s₁ => obj = .ref s.heap.objs.size ∧ s₁ = { s with heap := s.heap.push { cls := .type "set", dict := none, data := .set #[] 0 (.fresh 0 0 (!byText w)) } }) ⟨rfl, rfl⟩) fun r s₁ hr => ?_
  cases r with
  | error e => exact hr
  | ok fl =>
    cases fl with
    | ret obj =>
      obtain ⟨rfl, rfl⟩ := hr
      have hS : (s.heap.push { cls := .type "set", dict := none, data := .set #[] 0 (.fresh 0 0 (!byText w)) }).get? s.heap.objs.size = some { cls := .type "set", dict := none, data := .set #[] 0 (.fresh 0 0 (!byText w)) } := Heap.get?_push_size _ rfl
      have hT : Shared.TypeIs { s with heap := s.heap.push { cls := .type "set", dict := none, data := .set #[] 0 (.fresh 0 0 (!byText w)) } } (.ref s.heap.objs.size) "set" := ⟨_, hS, rfl⟩
      have hli := F.called_set.init.lookup
      have hbi := F.called_set.init.bind (.ref s.heap.objs.size)
      repeat (any_goals (first | assumption | wp_step))
      refine codeAny_mono (codeAny_call_builtin (R := wants (fun r s₂ => r = .none ∧ Q (.ref s.heap.objs.size) s₂) E) F.called_set.init.plain F.entry_set_init (check_set_init hT ?_)) fun r₂ s₂ hr₂ => ?_
      · unfold Builtin.«set.__init__» noKeywords
        wp_walk
        exact ⟨rfl, h⟩
      · cases r₂ with
        | error e => exact hr₂
        | ok fl₂ =>
          cases fl₂ with
          | ret r =>
            obtain ⟨rfl, hq⟩ := hr₂
            repeat (any_goals (first | assumption | wp_step))
          | _ => exact hr₂.elim
    | _ => exact hr.elim

/-- as the walk meets it: a new entry of the ledger, empty, in order -/
theorem new_set_N {h₀ : Heap} {L : Addr} {m : Str → Option Value} {news : List (Addr × Obj)} {Q : Value → Shared → Prop} (F : Fr h₀ L s.heap m) (N : News h₀ L s.heap news)
    (h : ∀ D h' o, Fr h₀ L h' m → News h₀ L h' ((D, o) :: news) → (∀ p ∈ news, p.1 < D) → o.SetObjOf (intKind prog w) (fun _ => false) 0 → Fine w o → Q (.ref D) { s with heap := h' }) :
    wpAny (model prog w) A (call (.type "set") []) Q E s :=
  new_set_call (h _ _ _ (F.push _) (N.push F _) (fun p hp => Heap.lt_size (N p hp).1) (setObjOf_fresh _) fine_new)

/-- .add on a set of the ledger -/
theorem add_N {h₀ : Heap} {L sa : Addr} {m : Str → Option Value} {news : List (Addr × Obj)} {g : Obj → List (Addr × Obj)} {so : Obj} {S : Int → Bool} {n : Nat} {k : Int} {t : Tok} {Q : Value → Shared → Prop} (F : Fr h₀ L s.heap m) (N : News h₀ L s.heap news) (U : UpdF sa so news g) (hso : so.SetObjOf (intKind prog w) S n) (hfi : Fine w so) (hb : n + 1 < scanBound)
    (h : ∀ h' so', Fr h₀ L h' m → News h₀ L h' (g so') → so'.SetObjOf (intKind prog w) (fun k' => S k' || decide (k' = k)) (if S k then n else n + 1) → Fine w so' → Q .none { s with heap := h', toks := s.toks + 1 }) :
    wpAny (model prog w) A (call (.builtin "set.add") [.ref sa, .int k t]) Q E s := by
  obtain ⟨pre, post, rfl, hg, a, b⟩ := U.split
  have hm := N _ (List.mem_append_right _ (.head _))
  refine call_add_fine (knd := intKind prog w) (intKind_is _ _ _ _) rfl hm.1 hso hfi hb fun h' so' hsb ho' hS' hF' => ?_
  exact h h' so' (F.change hsb hm.2.1 hm.2.2) (hg so' ▸ N.setIn a b hsb ho') hS' hF'

/-- the comprehension as the walk meets it -/
theorem comp_N {h₀ : Heap} {L : Addr} {m : Str → Option Value} {news : List (Addr × Obj)} {env : Env} {scope : Scope} {cl : List (Str × Addr)} {c : Addr} {pn lo : Str} {p1 p2 p3 p4 p5 pos : Pos} {iter : Expr} {Q : Value → Shared → Prop}
    (hh : A.handled = none) (hclos : closureFor scope env = pure cl) (hcell : ∀ y ∈ scope.names, y.2 ≠ .cell) (hkind : scope.kind = .function)
    (hnames : ∀ y ∈ scope.names, y.2 = .local → scope.names.lookup y.1 = some .local)
    (hpn : scope.names.lookup pn = some .local) (hlo : (relabel scope env).names.lookup lo = some .cell) (hcl : cl.lookup lo = some c)
    (hd1 : (pn == ("__debug__" : Str)) = false) (hd2 : (lo == ("__debug__" : Str)) = false) (hF₀ : Fr h₀ L s.heap m) (hN₀ : News h₀ L s.heap news)
    (h : wpAny (model prog w) A (eval iter env) (fun xv s₁ => ∃ a o S n co lv tl, xv = .ref a ∧ Fr h₀ L s₁.heap m ∧ News h₀ L s₁.heap news ∧ (a, o) ∈ news ∧ o.SetObjOf (intKind prog w) S n ∧ Fine w o ∧ n < 4095 ∧ (c, co) ∈ news ∧ co.data = .cell (some (.int lv tl)) ∧
      ∀ D o' n' h' tk dr, Fr h₀ L h' m → News h₀ L h' ((D, o') :: news) → (∀ p ∈ news, p.1 < D) → o'.SetObjOf (intKind prog w) (fun k => S k && decide (lv ≤ k)) n' → n' ≤ n → Fine w o' →
        Q (.ref D) { s₁ with heap := h', toks := tk, drawn := dr }) E s)
    (hs : ∀ x, foldedSetIterable iter env x = pure x := by intro _; rfl) :
    wpAny (model prog w) A (eval (.SetComp (.Name pn p1) [⟨.Name pn p2, iter, [.Compare (.Name pn p3) [.GtE] [.Name lo p4] p5], 0⟩] scope pos) env) Q E s := by
  refine setComp_rule hh hclos hcell hkind hnames hpn hlo hcl hd1 hd2 (wpAny_mono h (fun xv s₁ h₁ => ?_) fun _ _ e => e) hs
  obtain ⟨a, o, S, n, co, lv, tl, rfl, F₁, N₁, ha, hso, hfi, hn, hc, hcd, hQ⟩ := h₁
  refine ⟨a, o, S, n, co, lv, tl, rfl, (N₁ _ ha).1, hso, hfi, hn, (N₁ _ hc).1, hcd, fun D o' n' h' tk dr hD ho' hk hS' hn' hF' => ?_⟩
  have hlt : ∀ p ∈ news, p.1 < D := fun p hp => Nat.lt_of_lt_of_le (Heap.lt_size (N₁ p hp).1) hD
  have hLD : D ≠ L := Nat.ne_of_gt (Nat.lt_of_lt_of_le F₁.ns.lt hD)
  refine hQ D o' n' h' tk dr ⟨F₁.ns.at' fun ob e => hk _ ob e, fun b ob e => hk b ob (F₁.keep b ob e), F₁.above⟩ (fun p hp => ?_) hlt hS' hn' hF'
  rcases List.mem_cons.mp hp with rfl | hp
  · refine ⟨ho', hLD, ?_⟩
    cases q : h₀.get? D with
    | none => rfl
    | some ob => exact absurd (Heap.lt_size (F₁.keep _ _ q)) (Nat.not_lt.mpr hD)
  · exact ⟨hk _ _ (N₁ p hp).1, (N₁ p hp).2⟩
end
end Mine
end
section
namespace Mine

/-- what a turn leaves: the heap, the tokens and the draws may have moved -/
def MEnd (h₀ : Heap) (L : Addr) (wr : List Addr) (own : List (Addr × Obj)) (Jn : (Str → Option Value) → List (Addr × Obj) → Prop) (s₁ s₂ : Shared) : Prop :=
  ∃ h' tk dr m₂ news₂, s₂ = { s₁ with heap := h', toks := tk, drawn := dr } ∧ Fr h₀ L h' m₂ ∧ News h₀ L h' (own ++ news₂) ∧ (∀ p ∈ news₂, p.1 ∉ wr) ∧ Jn m₂ news₂
def MStep (h₀ : Heap) (L : Addr) (wr : List Addr) (own : List (Addr × Obj)) (Jn : (Str → Option Value) → List (Addr × Obj) → Prop) (s₁ : Shared) (Q : Flow → Shared → Prop) (f : Flow) (s₂ : Shared) : Prop :=
  match f with
  | .ret v => Q (.ret v) s₂
  | .brk => Q .next s₂
  | _ => MEnd h₀ L wr own Jn s₁ s₂

section
variable {prog : Program} {w : World} {A : Around} {s : Shared} {env : Env} {h₀ : Heap}

theorem loop_code {R : Result → Shared → Prop} {x : Str} {px : Pos} {body : List Stmt} {I : Addr} {fp wr : List Addr} {n : Nat} {P : Nat → Value → Prop} {St : Nat → Heap → Prop} {m : Str → Option Value}
    {news : List (Addr × Obj)} (W : Walks prog w A I fp wr n P St) (hx : env.kindOf x = some .local)
    (hp : (env.scope.kind == .class || (env.scope.kind == .module && env.locals != env.globals)) = false)
    (hLf : env.locals ∉ fp) (hwr : ∀ b ∈ wr, h₀.get? b = none) (hnw : ∀ p ∈ news, p.1 ∉ wr)
    (hst : St 0 s.heap) (F : Fr h₀ env.locals s.heap m) (N : News h₀ env.locals s.heap news)
    (J : Nat → (Str → Option Value) → List (Addr × Obj) → Prop) (h0 : J 0 m news)
    (step : ∀ i v m₁ news₁ s₁ own, (∃ h tk dr, s₁ = { s with heap := h, toks := tk, drawn := dr }) → i < n → P i v → J i m₁ news₁ → (∀ p ∈ news₁, p.1 ∉ wr) → (∀ p ∈ own, p.1 ∈ fp) → (∀ b ∈ fp, h₀.get? b = none → ∀ o, s₁.heap.get? b = some o → (b, o) ∈ own) → St (i + 1) s₁.heap →
      Fr h₀ env.locals s₁.heap (fun y => if y = x then some v else m₁ y) → News h₀ env.locals s₁.heap (own ++ news₁) →
      wpAny (model prog w) A (execs body env) (MStep h₀ env.locals wr own (J (i + 1)) s₁ fun f s' => R (.ok f) s') (notedBy (model prog w) A env fun e s' => R (.error e) s') s₁)
    (hR : ∀ h' tk dr m' news', Fr h₀ env.locals h' m' → News h₀ env.locals h' news' → (∀ p ∈ news', p.1 ∉ wr) → J n m' news' → R (.ok .next) { s with heap := h', toks := tk, drawn := dr }) :
    codeAny (model prog w) A (.forLoop (.Name x px) (.ref I) body [] env) R s := by
  have hLw : env.locals ∉ wr := fun h => hLf (W.sub _ h)
  have old : ∀ b o, h₀.get? b = some o → b ∉ wr := fun b o e hb => by rw [hwr b hb] at e; cases e
  refine codeAny_forLoop
    (fun k s' => ∃ h' tk dr m' news' i, s' = { s with heap := h', toks := tk, drawn := dr } ∧ St i h' ∧ Fr h₀ env.locals h' m' ∧ News h₀ env.locals h' news' ∧ (∀ p ∈ news', p.1 ∉ wr) ∧ J i m' news' ∧ i ≤ n ∧ k = n + 1 - i) ?_ (n + 1)
    ⟨s.heap, s.toks, s.drawn, m, news, 0, rfl, hst, F, N, hnw, h0, Nat.zero_le _, rfl⟩
  rintro k s' ⟨h', tk, dr, m', news', i, rfl, hst', F', N', hnw', hJ, hi, rfl⟩
  have next : ∀ h₁ : Heap, (∀ b o, b ∉ wr → h'.get? b = some o → h₁.get? b = some o) → Fr h₀ env.locals h₁ m' ∧ News h₀ env.locals h₁ news' := fun h₁ hk₁ =>
    ⟨⟨F'.ns.at' fun o e => hk₁ _ o hLw e, fun b o e => hk₁ b o (old b o e) (F'.keep b o e), F'.above⟩, fun p hp => ⟨hk₁ _ _ (hnw' p hp) (N' p hp).1, (N' p hp).2⟩⟩
  by_cases hlt : i < n
  · refine W.item i _ _ _ hlt hst' fun v h₁ tk₁ hP hst₁ hk₁ => ?_
    obtain ⟨F₁, N₁⟩ := next h₁ hk₁
    refine wpAny_assign_Name (wpAny_storeName_local hx F₁.ns (fun h₂ hn₂ hs₂ => ?_) hp)
    have F₂ := F₁.set hn₂ hs₂
    have Nown : News h₀ env.locals h₂ (ownOf h₀ fp h₂) := news_ownOf hLf
    have hst₂ : St (i + 1) h₂ := W.frame _ _ _ hst₁ fun b hb o e => (hs₂.2 b fun q => hLf (q ▸ hb)).trans e
    refine wpAny_mono (step i v m' news' _ (ownOf h₀ fp h₂) ⟨_, _, _, rfl⟩ hlt hP hJ hnw' ownOf_sub (fun b hb hn o e => mem_ownOf hb hn e) hst₂ F₂ (Nown.append (N₁.set hs₂))) (fun f s₃ h₃ => ?_) fun _ _ e => e
    have fin : ∀ s₄, (∃ h tk dr, s₄ = { s with heap := h, toks := tk, drawn := dr }) → MEnd h₀ env.locals wr (ownOf h₀ fp h₂) (J (i + 1)) s₄ s₃ → ∃ k, k < n + 1 - i ∧ ∃ h' tk dr m' news' i, s₃ = { s with heap := h', toks := tk, drawn := dr } ∧ St i h' ∧ Fr h₀ env.locals h' m' ∧ News h₀ env.locals h' news' ∧ (∀ p ∈ news', p.1 ∉ wr) ∧ J i m' news' ∧ i ≤ n ∧ k = n + 1 - i := by
      rintro s₄ ⟨_, _, _, rfl⟩ ⟨h₃', tk₃, dr₃, m₂, news₂, rfl, F₃, N₃, ha₃, hJ₃⟩
      refine ⟨n + 1 - (i + 1), by omega, h₃', tk₃, dr₃, m₂, news₂, i + 1, rfl, ?_, F₃, N₃.right, ha₃, hJ₃, hlt, rfl⟩
      refine W.frame _ _ _ hst₁ fun b hb o e => ?_
      have e₂ : h₂.get? b = some o := (hs₂.2 b fun q => hLf (q ▸ hb)).trans e
      cases hn : h₀.get? b with
      | some o₀ =>
        have : o₀ = o := by have := F₂.keep b o₀ hn; rw [e₂] at this; exact (Option.some.inj this).symm
        exact this ▸ F₃.keep b o₀ hn
      | none => exact (N₃ _ (List.mem_append_left _ (mem_ownOf hb hn e₂))).1
    cases f with
    | ret v => exact h₃
    | brk => exact h₃
    | cont => exact fin _ ⟨_, _, _, rfl⟩ h₃
    | next => exact fin _ ⟨_, _, _, rfl⟩ h₃
  · have hin : i = n := by omega
    subst hin
    refine W.done _ _ _ hst' fun h₁ tk₁ hk₁ => wpAny_execs_nil ?_
    obtain ⟨F₁, N₁⟩ := next h₁ hk₁
    exact hR h₁ tk₁ dr m' news' F₁ N₁ hnw' hJ

/-- the place before a loop: an iterator that walks, a state that holds, turns that keep it -/
def MLoop (prog : Program) (w : World) (A : Around) (h₀ : Heap) (env : Env) (x : Str) (body : List Stmt) (Q : Flow → Shared → Prop) (E : Value → Shared → Prop) (it : Value) (s₂ : Shared) : Prop :=
  ∃ (I : Addr) (fp wr : List Addr) (n : Nat) (P : Nat → Value → Prop) (St : Nat → Heap → Prop) (m : Str → Option Value) (news : List (Addr × Obj)) (J : Nat → (Str → Option Value) → List (Addr × Obj) → Prop),
    it = .ref I ∧ Walks prog w A I fp wr n P St ∧ env.locals ∉ fp ∧ (∀ b ∈ wr, h₀.get? b = none) ∧ (∀ p ∈ news, p.1 ∉ wr) ∧ St 0 s₂.heap ∧ Fr h₀ env.locals s₂.heap m ∧ News h₀ env.locals s₂.heap news ∧ J 0 m news ∧
    (∀ i v m₁ news₁ s₁ own, (∃ h tk dr, s₁ = { s₂ with heap := h, toks := tk, drawn := dr }) → i < n → P i v → J i m₁ news₁ → (∀ p ∈ news₁, p.1 ∉ wr) → (∀ p ∈ own, p.1 ∈ fp) → (∀ b ∈ fp, h₀.get? b = none → ∀ o, s₁.heap.get? b = some o → (b, o) ∈ own) → St (i + 1) s₁.heap →
      Fr h₀ env.locals s₁.heap (fun y => if y = x then some v else m₁ y) → News h₀ env.locals s₁.heap (own ++ news₁) →
      wpAny (model prog w) A (execs body env) (MStep h₀ env.locals wr own (J (i + 1)) s₁ Q) E s₁) ∧
    ∀ h' tk dr m' news', Fr h₀ env.locals h' m' → News h₀ env.locals h' news' → (∀ p ∈ news', p.1 ∉ wr) → J n m' news' → Q .next { s₂ with heap := h', toks := tk, drawn := dr }

theorem For_mine {E : Value → Shared → Prop} {Q : Flow → Shared → Prop} {x : Str} {px pos : Pos} {iter : Expr} {body : List Stmt} {m : Str → Option Value} (F : Fr h₀ env.locals s.heap m) (hx : env.kindOf x = some .local)
    (hp : (env.scope.kind == .class || (env.scope.kind == .module && env.locals != env.globals)) = false)
    (h : wpAny (model prog w) A (eval iter env) (fun xv s₁ => wpAny (model prog w) A (pyIter xv) (fun it s₂ => MLoop prog w A h₀ env x body Q E it s₂) E s₁) E s)
    (hs : ∀ x, foldedSetIterable iter env x = pure x := by intro _; rfl)
    (hE : PassesOwn (model prog w) A env E := by passes_own) :
    wpAny (model prog w) A (exec (.For (.Name x px) iter body [] pos) env) Q E s := by
  refine wpAny_For (wpAny_mono h (fun xv s₁ h₁ => wpAny_mono h₁ (fun it s₂ h₂ => ?_) fun _ _ e => e) fun _ _ e => e) hs
  obtain ⟨I, fp, wr, n, P, St, m, news, J, rfl, W, hLf, hwr, hnw, hst, F, N, h0, step, hQ⟩ := h₂
  exact loop_code (R := fun r s' => match r with | .ok f => Q f s' | .error e => cameBackBy (model prog w) A env E e s') W hx hp hLf hwr hnw hst F N J h0 (by intros; exact wpAny_passesOwn hE (by apply step <;> assumption)) hQ

/-- a state of the loop, as a datum: its ledger, the names that it says, the facts; «bound»: all addresses of the ledger -/
def MJ {σ : Type} (Led : σ → List (Addr × Obj)) (ps : σ → List (Str × Value)) (x : Str) (stored : List Str) (m₀ : Str → Option Value) (P : Nat → σ → Prop) (i : Nat) (m : Str → Option Value) (nx : List (Addr × Obj)) : Prop :=
  ∃ c : σ, nx = Led c ∧ (∀ p ∈ ps c, m p.1 = some p.2) ∧ (∀ z, z ≠ x → (∀ p ∈ ps c, z ≠ p.1) → stored.contains z = false → m z = m₀ z) ∧ P i c

variable {E : Value → Shared → Prop} {x : Str} {body : List Stmt} {Q : Flow → Shared → Prop}

/-- a turn's end, as the walk meets it: the iterator's own objects are still there, the next state's ledger lies apart from it -/
def MTurn {σ : Type} (h₀ : Heap) (L : Addr) (Led : σ → List (Addr × Obj)) (ps : σ → List (Str × Value)) (x : Str) (stored : List Str) (m₀ : Str → Option Value) (P : σ → Prop) (own : List (Addr × Obj)) (s₁ s₂ : Shared) : Prop :=
  ∃ (c : σ) (h' : Heap) (tk : Nat) (dr : _) (m' : Str → Option Value) (news' : List (Addr × Obj)), s₂ = { s₁ with heap := h', toks := tk, drawn := dr } ∧ Fr h₀ L h' m' ∧ News h₀ L h' news' ∧ (∀ p ∈ Led c, p ∈ news') ∧ (∀ p ∈ own, p ∈ news') ∧
    (∀ p ∈ own, ∀ q ∈ Led c, p.1 ≠ q.1) ∧ (∀ p ∈ ps c, m' p.1 = some p.2) ∧ (∀ z, z ≠ x → (∀ p ∈ ps c, z ≠ p.1) → stored.contains z = false → m' z = m₀ z) ∧ P c
def MPost {σ : Type} (h₀ : Heap) (L : Addr) (Led : σ → List (Addr × Obj)) (ps : σ → List (Str × Value)) (x : Str) (stored : List Str) (m₀ : Str → Option Value) (P : σ → Prop) (own : List (Addr × Obj)) (s₁ : Shared) (Q : Flow → Shared → Prop) (f : Flow) (s₂ : Shared) : Prop :=
  match f with
  | .ret v => Q (.ret v) s₂
  | .brk => Q .next s₂
  | _ => MTurn h₀ L Led ps x stored m₀ P own s₁ s₂

theorem MTurn.intro {σ : Type} {L : Addr} {Led : σ → List (Addr × Obj)} {ps : σ → List (Str × Value)} {stored : List Str} {m₀ m' : Str → Option Value} {P : σ → Prop} {own news' : List (Addr × Obj)} {s₁ : Shared} {h' : Heap} {tk : Nat} {dr} (c : σ)
    (F : Fr h₀ L h' m') (N : News h₀ L h' news') (hn : ∀ p ∈ Led c, p ∈ news') (ho : ∀ p ∈ own, p ∈ news') (ha : ∀ p ∈ own, ∀ q ∈ Led c, p.1 ≠ q.1) (hk : ∀ p ∈ ps c, m' p.1 = some p.2)
    (hr : ∀ z, z ≠ x → (∀ p ∈ ps c, z ≠ p.1) → stored.contains z = false → m' z = m₀ z) (hp : P c) : MTurn h₀ L Led ps x stored m₀ P own s₁ { s₁ with heap := h', toks := tk, drawn := dr } :=
  ⟨c, h', tk, dr, m', news', rfl, F, N, hn, ho, ha, hk, hr, hp⟩

/-- the core of all three: any walk whose iterator is a new object I -/
theorem iter_core {σ : Type} {I : Addr} {fp : List Addr} {n : Nat} {PV : Nat → Value → Prop} {St : Nat → Heap → Prop} {m₀ : Str → Option Value} (Led : σ → List (Addr × Obj)) (ps : σ → List (Str × Value)) (stored : List Str) (P : Nat → σ → Prop) (c₀ : σ)
    (W : Walks prog w A I fp [I] n PV St) (hLf : env.locals ∉ fp) (hI0 : h₀.get? I = none) (hIn : ∀ p ∈ Led c₀, p.1 ≠ I) (hst : St 0 s.heap) (F : Fr h₀ env.locals s.heap m₀) (N : News h₀ env.locals s.heap (Led c₀))
    (hk : ∀ p ∈ ps c₀, m₀ p.1 = some p.2) (hp : P 0 c₀) (hII : I ∈ fp) (hlive : ∀ i h, St i h → ∃ o, h.get? I = some o)
    (hsrc : ∀ b ∈ fp, b = I ∨ (∃ o, h₀.get? b = some o) ∨ (∃ o, ∀ i c, P i c → (b, o) ∈ Led c))
    (turn : ∀ (c : σ) i v (u : Str → Option Value) h tk dr own, i < n → PV i v → OwnOff own ((Led c).map (·.1)) → P i c →
      Fr h₀ env.locals h (fun y => if y = x then some v else kstB (fun z => if stored.contains z then u z else m₀ z) (ps c) y) → News h₀ env.locals h (Led c ++ own) →
      wpAny (model prog w) A (execs body env) (MPost h₀ env.locals Led ps x stored m₀ (P (i + 1)) own { s with heap := h, toks := tk, drawn := dr } Q) E { s with heap := h, toks := tk, drawn := dr })
    (done : ∀ (c : σ) (u : Str → Option Value) h tk dr, P n c → Fr h₀ env.locals h (fun y => if y = x then u y else kstB (fun z => if stored.contains z then u z else m₀ z) (ps c) y) → News h₀ env.locals h (Led c) → Q .next { s with heap := h, toks := tk, drawn := dr }) :
    MLoop prog w A h₀ env x body Q E (.ref I) s := by
  refine ⟨I, fp, [I], n, PV, St, m₀, Led c₀, MJ Led ps x stored m₀ P, rfl, W, hLf, fun b hb => by rw [List.mem_singleton.mp hb]; exact hI0, fun p hpm hI => hIn p hpm (List.mem_singleton.mp hI), hst, F, N,
    ⟨c₀, rfl, hk, fun _ _ _ _ => rfl, hp⟩, ?_, ?_⟩
  · rintro i v m₁ nx s₁ own ⟨h, tk, dr, rfl⟩ hi hP ⟨c, rfl, h1, h2, hp'⟩ hoff hsub hall hst' F₁ N₁
    obtain ⟨oI, hoI⟩ := hlive _ _ hst'
    have hmI : (I, oI) ∈ own := hall I hII hI0 oI hoI
    have hapart : ∀ q ∈ Led c, q.1 ≠ I := fun q hq e => hoff q hq (List.mem_singleton.mpr e)
    have hown : ∀ p ∈ own, p = (I, oI) ∨ ∃ o, p = (p.1, o) ∧ ∀ i c, P i c → (p.1, o) ∈ Led c := by
      intro p hpm
      have hget := (N₁ p (List.mem_append_left _ hpm))
      rcases hsrc p.1 (hsub p hpm) with e | ⟨o, ho⟩ | ⟨o, ho⟩
      · left
        have h9 : h.get? I = some p.2 := e ▸ hget.1
        have h8 : h.get? I = some oI := hoI
        rw [h8] at h9
        exact Prod.ext e (Option.some.inj h9).symm
      · exact absurd ho (by rw [hget.2.2]; exact fun q => nomatch q)
      · right
        refine ⟨o, ?_, ho⟩
        have h9 := (N₁ _ (List.mem_append_right _ (ho i c hp'))).1
        have h8 : h.get? p.1 = some p.2 := hget.1
        have h7 : h.get? p.1 = some o := h9
        rw [h8] at h7
        exact Prod.ext rfl (Option.some.inj h7)
    refine wpAny_mono (turn c i v m₁ h tk dr [(I, oI)] hi hP (fun p hpm b hb e => ?_) hp' (kst_fr h1 h2 F₁)
      (fun p hpm => N₁ p ((List.mem_append.mp hpm).elim (fun q => List.mem_append_right _ q) fun q => List.mem_append_left _ (by rw [List.mem_singleton.mp q]; exact hmI)))) (fun f s₂ q => ?_) fun _ _ e => e
    · obtain ⟨q, hq, rfl⟩ := List.mem_map.mp hb
      rw [List.mem_singleton.mp hpm] at e
      exact hapart q hq e.symm
    have fin : MTurn h₀ env.locals Led ps x stored m₀ (P (i + 1)) [(I, oI)] { s with heap := h, toks := tk, drawn := dr } s₂ → MEnd h₀ env.locals [I] own (MJ Led ps x stored m₀ P (i + 1)) { s with heap := h, toks := tk, drawn := dr } s₂ := by
      rintro ⟨c', h', tk', dr', m', news', e, F', N', hn, ho, ha, hk', hr', hp''⟩
      refine ⟨h', tk', dr', m', Led c', e, F', fun p hpm => ?_, fun p hpm hI => ?_, c', rfl, hk', hr', hp''⟩
      · rcases List.mem_append.mp hpm with hpm | hpm
        · rcases hown p hpm with e | ⟨o, e, hm⟩
          · exact N' p (ho p (e ▸ List.mem_singleton.mpr rfl))
          · exact N' p (hn p (e ▸ hm _ _ hp''))
        · exact N' p (hn p hpm)
      · exact ha _ (List.mem_singleton.mpr rfl) p hpm (List.mem_singleton.mp hI).symm
    cases f with
    | ret v => exact q
    | brk => exact q
    | next => exact fin q
    | cont => exact fin q
  · rintro h tk dr m' nx F' N' _ ⟨c, rfl, h1, h2, hp'⟩
    exact done c m' h tk dr hp' (kst_frOut h1 h2 F') N'

/-- over a list of ints that lies on the ledger -/
theorem iter_led {σ : Type} {l : Addr} {vs : List Value} {ns : List Int} {nn : Nat} {m₀ : Str → Option Value} (Led : σ → List (Addr × Obj)) (ps : σ → List (Str × Value)) (stored : List Str) (P : Nat → σ → Prop) (c₀ : σ)
    (hh : A.handled = none) (hl : ∀ i c, P i c → (l, listOf vs.toArray nn) ∈ Led c) (hi : IntsAre vs ns) (F : Fr h₀ env.locals s.heap m₀) (N : News h₀ env.locals s.heap (Led c₀)) (hk : ∀ p ∈ ps c₀, m₀ p.1 = some p.2) (hp : P 0 c₀)
    (turn : ∀ (c : σ) i n t (u : Str → Option Value) h tk dr own, ns[i]? = some n → OwnOff own ((Led c).map (·.1)) → P i c →
      Fr h₀ env.locals h (fun y => if y = x then some (.int n t) else kstB (fun z => if stored.contains z then u z else m₀ z) (ps c) y) → News h₀ env.locals h (Led c ++ own) →
      wpAny (model prog w) A (execs body env) (MPost h₀ env.locals Led ps x stored m₀ (P (i + 1)) own { s with heap := h, toks := tk, drawn := dr } Q) E { s with heap := h, toks := tk, drawn := dr })
    (done : ∀ (c : σ) (u : Str → Option Value) h tk dr, P ns.length c → Fr h₀ env.locals h (fun y => if y = x then u y else kstB (fun z => if stored.contains z then u z else m₀ z) (ps c) y) → News h₀ env.locals h (Led c) → Q .next { s with heap := h, toks := tk, drawn := dr }) :
    wpAny (model prog w) A (pyIter (.ref l)) (fun it s₂ => MLoop prog w A h₀ env x body Q E it s₂) E s := by
  have hm := N _ (hl 0 c₀ hp)
  have hls : s.heap.IsList l vs.toArray := ⟨_, hm.1, rfl, nn, rfl⟩
  have hne : l ≠ s.heap.objs.size := Nat.ne_of_lt (Heap.lt_size hm.1)
  refine wpAny_pyIter_list hls ?_
  have W := Walks.list (prog := prog) (w := w) hh s.heap.objs.size l hne vs.toArray
  have hlen : vs.toArray.size = ns.length := by simp [hi.length]
  rw [hlen] at W
  refine iter_core Led ps stored P c₀ W ?_ (next_is_new F) (fun p hp e => ?_) ⟨⟨_, Heap.get?_push_size _ rfl, rfl, rfl⟩, hls.at fun o e => Heap.get?_push_of_some _ e⟩ (F.push _)
    (fun p hp => ⟨Heap.get?_push_of_some _ (N p hp).1, (N p hp).2⟩) hk hp (List.mem_cons_self ..) (fun i h st => ?_) (fun b hb => ?_) (fun c i v u h tk dr own hlt hv hoff hP F₁ N₁ => ?_) done
  · intro hm'
    rcases List.mem_cons.mp hm' with e | hm'
    · exact absurd F.ns.lt (e ▸ Nat.lt_irrefl _)
    · exact hm.2.1 (List.mem_singleton.mp hm').symm
  · exact absurd (Heap.lt_size (N p hp).1) (by rw [e]; exact Nat.lt_irrefl _)
  · obtain ⟨o, ho, _⟩ := st.1
    exact ⟨o, ho⟩
  · rcases List.mem_cons.mp hb with e | hb
    · exact .inl e
    · exact .inr (.inr ⟨_, fun i c hP => by rw [List.mem_singleton.mp hb]; exact hl i c hP⟩)
  · obtain ⟨t, hx⟩ := hi.get i ns[i] (by simp [hlt])
    have hv' : v = .int ns[i] t := by
      have hP' : vs[i]? = some v := by simpa using hv
      rw [hx] at hP'; exact (Option.some.inj hP').symm
    subst hv'
    exact turn c i _ t u h tk dr own (by simp [hlt]) hoff hP F₁ N₁

/-- over a tuple that lies on the ledger, its items ints -/
theorem iter_tup {σ : Type} {l : Addr} {vs : List Value} {ob : Obj} {m₀ : Str → Option Value} (Led : σ → List (Addr × Obj)) (ps : σ → List (Str × Value)) (stored : List Str) (P : Nat → σ → Prop) (c₀ : σ) (K : Int → Prop)
    (hh : A.handled = none) (hob : ob.cls = .type "tuple" ∧ ∃ nn, ob.data = .seq vs.toArray nn) (hl : ∀ i c, P i c → (l, ob) ∈ Led c) (hi : ∀ v ∈ vs, ∃ n t, v = .int n t ∧ K n) (F : Fr h₀ env.locals s.heap m₀) (N : News h₀ env.locals s.heap (Led c₀)) (hk : ∀ p ∈ ps c₀, m₀ p.1 = some p.2) (hp : P 0 c₀)
    (turn : ∀ (c : σ) i n t (u : Str → Option Value) h tk dr own, K n → OwnOff own ((Led c).map (·.1)) → P i c →
      Fr h₀ env.locals h (fun y => if y = x then some (.int n t) else kstB (fun z => if stored.contains z then u z else m₀ z) (ps c) y) → News h₀ env.locals h (Led c ++ own) →
      wpAny (model prog w) A (execs body env) (MPost h₀ env.locals Led ps x stored m₀ (P (i + 1)) own { s with heap := h, toks := tk, drawn := dr } Q) E { s with heap := h, toks := tk, drawn := dr })
    (done : ∀ (c : σ) (u : Str → Option Value) h tk dr, P vs.length c → Fr h₀ env.locals h (fun y => if y = x then u y else kstB (fun z => if stored.contains z then u z else m₀ z) (ps c) y) → News h₀ env.locals h (Led c) → Q .next { s with heap := h, toks := tk, drawn := dr }) :
    wpAny (model prog w) A (pyIter (.ref l)) (fun it s₂ => MLoop prog w A h₀ env x body Q E it s₂) E s := by
  have hm := N _ (hl 0 c₀ hp)
  have hls : s.heap.IsTuple l vs.toArray := by
    obtain ⟨hc, nn, hd⟩ := hob
    exact ⟨_, hm.1, hc, nn, hd⟩
  have hne : l ≠ s.heap.objs.size := Nat.ne_of_lt (Heap.lt_size hm.1)
  refine wpAny_pyIter_tuple hls ?_
  have W := Walks.tuple (prog := prog) (w := w) hh s.heap.objs.size l hne vs.toArray
  have hlen : vs.toArray.size = vs.length := by simp
  rw [hlen] at W
  refine iter_core Led ps stored P c₀ W ?_ (next_is_new F) (fun p hp e => ?_) ⟨⟨_, Heap.get?_push_size _ rfl, rfl, rfl⟩, hls.at fun o e => Heap.get?_push_of_some _ e⟩ (F.push _)
    (fun p hp => ⟨Heap.get?_push_of_some _ (N p hp).1, (N p hp).2⟩) hk hp (List.mem_cons_self ..) (fun i h st => ?_) (fun b hb => ?_) (fun c i v u h tk dr own hlt hv hoff hP F₁ N₁ => ?_) done
  · intro hm'
    rcases List.mem_cons.mp hm' with e | hm'
    · exact absurd F.ns.lt (e ▸ Nat.lt_irrefl _)
    · exact hm.2.1 (List.mem_singleton.mp hm').symm
  · exact absurd (Heap.lt_size (N p hp).1) (by rw [e]; exact Nat.lt_irrefl _)
  · obtain ⟨o, ho, _⟩ := st.1
    exact ⟨o, ho⟩
  · rcases List.mem_cons.mp hb with e | hb
    · exact .inl e
    · exact .inr (.inr ⟨_, fun i c hP => by rw [List.mem_singleton.mp hb]; exact hl i c hP⟩)
  · have hP' : vs[i]? = some v := by simpa using hv
    obtain ⟨n, t, rfl, hK⟩ := hi v (List.mem_of_getElem? hP')
    exact turn c i n t u h tk dr own hK hoff hP F₁ N₁

/-- over a range from nought -/
theorem iter_rng {σ : Type} {r : Addr} {b₀ : Int} {t₀ u₀ v₀ : Tok} {n : Nat} {m₀ : Str → Option Value} (Led : σ → List (Addr × Obj)) (ps : σ → List (Str × Value)) (stored : List Str) (P : Nat → σ → Prop) (c₀ : σ)
    (hh : A.handled = none) (hr : IsRange s.heap r 0 b₀ 1 t₀ u₀ v₀) (hsmall : Builtin.Range.small 0 b₀ 1 = true) (hn : Builtin.Range.rangeSize 0 b₀ 1 = (n : Int)) (F : Fr h₀ env.locals s.heap m₀) (N : News h₀ env.locals s.heap (Led c₀)) (hk : ∀ p ∈ ps c₀, m₀ p.1 = some p.2) (hp : P 0 c₀)
    (turn : ∀ (c : σ) (i : Nat) t (u : Str → Option Value) h tk dr own, i < n → OwnOff own ((Led c).map (·.1)) → P i c →
      Fr h₀ env.locals h (fun y => if y = x then some (.int i t) else kstB (fun z => if stored.contains z then u z else m₀ z) (ps c) y) → News h₀ env.locals h (Led c ++ own) →
      wpAny (model prog w) A (execs body env) (MPost h₀ env.locals Led ps x stored m₀ (P (i + 1)) own { s with heap := h, toks := tk, drawn := dr } Q) E { s with heap := h, toks := tk, drawn := dr })
    (done : ∀ (c : σ) (u : Str → Option Value) h tk dr, P n c → Fr h₀ env.locals h (fun y => if y = x then u y else kstB (fun z => if stored.contains z then u z else m₀ z) (ps c) y) → News h₀ env.locals h (Led c) → Q .next { s with heap := h, toks := tk, drawn := dr }) :
    wpAny (model prog w) A (pyIter (.ref r)) (fun it s₂ => MLoop prog w A h₀ env x body Q E it s₂) E s := by
  refine wpAny_pyIter_range hr hsmall ?_
  have W : Walks prog w A s.heap.objs.size [s.heap.objs.size] [s.heap.objs.size] n (fun i v => i < n ∧ ∃ t, v = .int (0 + i * 1) t)
      (fun i h => IsRangeIter h s.heap.objs.size (0 + (i : Nat) * 1) ((n : Int) - (i : Nat)) 1) := (Walks.range hh _ 0 1 n).bound
  refine iter_core Led ps stored P c₀ W ?_ (next_is_new F) (fun p hp e => ?_) (by show IsRangeIter _ _ _ _ _; rw [hn]; simpa using Heap.get?_push_size _ rfl) (F.push _)
    (fun p hp => ⟨Heap.get?_push_of_some _ (N p hp).1, (N p hp).2⟩) hk hp (List.mem_cons_self ..) (fun i h st => ⟨_, st⟩) (fun b hb => .inl (List.mem_singleton.mp hb)) (fun c i v u h tk dr own hlt hv hoff hP F₁ N₁ => ?_) done
  · intro hm'
    exact absurd F.ns.lt ((List.mem_singleton.mp hm') ▸ Nat.lt_irrefl _)
  · exact absurd (Heap.lt_size (N p hp).1) (by rw [e]; exact Nat.lt_irrefl _)
  · obtain ⟨_, t, rfl⟩ := hv
    have e1 : (0 : Int) + (i : Int) * 1 = (i : Int) := by omega
    rw [e1] at F₁
    exact turn c i t u h tk dr own hlt hoff hP F₁ N₁

theorem apart_of_off {own news : List (Addr × Obj)} (h : OwnOff own (news.map (·.1))) : ∀ p ∈ own, ∀ q ∈ news, p.1 ≠ q.1 := fun p hp q hq => h p hp q.1 (List.mem_map.mpr ⟨q, hq, rfl⟩)

/-- loops that leave the ledger as it was and of which no name is kept -/
theorem iter_led0 {l : Addr} {vs : List Value} {ns : List Int} {nn : Nat} {m₀ : Str → Option Value} {news : List (Addr × Obj)} (stored : List Str)
    (hh : A.handled = none) (hl : (l, listOf vs.toArray nn) ∈ news) (hi : IntsAre vs ns) (F : Fr h₀ env.locals s.heap m₀) (N : News h₀ env.locals s.heap news)
    (turn : ∀ n t (u : Str → Option Value) h tk dr own, n ∈ ns → OwnOff own (news.map (·.1)) →
      Fr h₀ env.locals h (fun y => if y = x then some (.int n t) else kstB (fun z => if stored.contains z then u z else m₀ z) [] y) → News h₀ env.locals h (news ++ own) →
      wpAny (model prog w) A (execs body env) (MPost h₀ env.locals (fun _ : Unit => news) (fun _ => []) x stored m₀ (fun _ => True) own { s with heap := h, toks := tk, drawn := dr } Q) E { s with heap := h, toks := tk, drawn := dr })
    (done : ∀ (u : Str → Option Value) h tk dr, Fr h₀ env.locals h (fun y => if y = x then u y else kstB (fun z => if stored.contains z then u z else m₀ z) [] y) → News h₀ env.locals h news → Q .next { s with heap := h, toks := tk, drawn := dr }) :
    wpAny (model prog w) A (pyIter (.ref l)) (fun it s₂ => MLoop prog w A h₀ env x body Q E it s₂) E s :=
  iter_led (fun _ : Unit => news) (fun _ => []) stored (fun _ _ => True) () hh (fun _ _ _ => hl) hi F N (fun _ hp => nomatch hp) trivial
    (fun _ i n t u h tk dr own hn hoff _ F₁ N₁ => turn n t u h tk dr own (List.mem_of_getElem? hn) hoff F₁ N₁) (fun _ u h tk dr _ F₁ N₁ => done u h tk dr F₁ N₁)

theorem iter_tup0 {l : Addr} {vs : List Value} {m₀ : Str → Option Value} {news : List (Addr × Obj)} (K : Int → Prop) (stored : List Str)
    (hh : A.handled = none) (hl : (l, ({ cls := .type "tuple", data := .seq vs.toArray } : Obj)) ∈ news) (hi : ∀ v ∈ vs, ∃ n t, v = .int n t ∧ K n) (F : Fr h₀ env.locals s.heap m₀) (N : News h₀ env.locals s.heap news)
    (turn : ∀ n t (u : Str → Option Value) h tk dr own, K n → OwnOff own (news.map (·.1)) →
      Fr h₀ env.locals h (fun y => if y = x then some (.int n t) else kstB (fun z => if stored.contains z then u z else m₀ z) [] y) → News h₀ env.locals h (news ++ own) →
      wpAny (model prog w) A (execs body env) (MPost h₀ env.locals (fun _ : Unit => news) (fun _ => []) x stored m₀ (fun _ => True) own { s with heap := h, toks := tk, drawn := dr } Q) E { s with heap := h, toks := tk, drawn := dr })
    (done : ∀ (u : Str → Option Value) h tk dr, Fr h₀ env.locals h (fun y => if y = x then u y else kstB (fun z => if stored.contains z then u z else m₀ z) [] y) → News h₀ env.locals h news → Q .next { s with heap := h, toks := tk, drawn := dr }) :
    wpAny (model prog w) A (pyIter (.ref l)) (fun it s₂ => MLoop prog w A h₀ env x body Q E it s₂) E s :=
  iter_tup (fun _ : Unit => news) (fun _ => []) stored (fun _ _ => True) () K hh ⟨rfl, _, rfl⟩ (fun _ _ _ => hl) hi F N (fun _ hp => nomatch hp) trivial
    (fun _ i n t u h tk dr own hn hoff _ F₁ N₁ => turn n t u h tk dr own hn hoff F₁ N₁) (fun _ u h tk dr _ F₁ N₁ => done u h tk dr F₁ N₁)
end
end Mine
end
section
namespace Mine
section
variable {prog : Program} {w : World} {A : Around} {E : Value → Shared → Prop} {s : Shared} {t u : Tok} {Q : Value → Shared → Prop}
theorem pow_at (a n r : Int) (hn : 0 ≤ n) (hz : (Builtin.Int.intBits a : Int) * n ≤ 2 ^ 27) (he : a ^ n.toNat = r) (h : Q (.int r s.toks) { s with toks := s.toks + 1 }) :
    wpAny (model prog w) A (binaryOp .Pow (.int a t) (.int n u)) Q E s := pow_int hn hz (he.symm ▸ h)
theorem pow_2_33 (h : Q (.int 8589934592 s.toks) { s with toks := s.toks + 1 }) : wpAny (model prog w) A (binaryOp .Pow (.int 2 t) (.int 33 u)) Q E s := pow_at 2 33 _ (by decide) (by decide +kernel) (by decide +kernel) h
theorem pow_2_62 (h : Q (.int 4611686018427387904 s.toks) { s with toks := s.toks + 1 }) : wpAny (model prog w) A (binaryOp .Pow (.int 2 t) (.int 62 u)) Q E s := pow_at 2 62 _ (by decide) (by decide +kernel) (by decide +kernel) h
theorem pow_2_40 (h : Q (.int 1099511627776 s.toks) { s with toks := s.toks + 1 }) : wpAny (model prog w) A (binaryOp .Pow (.int 2 t) (.int 40 u)) Q E s := pow_at 2 40 _ (by decide) (by decide +kernel) (by decide +kernel) h
theorem pow_prime (h : Q (.int 1000012000054000108000081 s.toks) { s with toks := s.toks + 1 }) : wpAny (model prog w) A (binaryOp .Pow (.int 1000003 t) (.int 4 u)) Q E s := pow_at 1000003 4 _ (by decide) (by decide +kernel) (by decide +kernel) h
theorem pow_256_1 (h : Q (.int 256 s.toks) { s with toks := s.toks + 1 }) : wpAny (model prog w) A (binaryOp .Pow (.int 256 t) (.int 1 u)) Q E s := pow_at 256 1 _ (by decide) (by decide +kernel) (by decide +kernel) h
theorem pow_256_2 (h : Q (.int 65536 s.toks) { s with toks := s.toks + 1 }) : wpAny (model prog w) A (binaryOp .Pow (.int 256 t) (.int 2 u)) Q E s := pow_at 256 2 _ (by decide) (by decide +kernel) (by decide +kernel) h
theorem pow_256_3 (h : Q (.int 16777216 s.toks) { s with toks := s.toks + 1 }) : wpAny (model prog w) A (binaryOp .Pow (.int 256 t) (.int 3 u)) Q E s := pow_at 256 3 _ (by decide) (by decide +kernel) (by decide +kernel) h
theorem pow_256_4 (h : Q (.int 4294967296 s.toks) { s with toks := s.toks + 1 }) : wpAny (model prog w) A (binaryOp .Pow (.int 256 t) (.int 4 u)) Q E s := pow_at 256 4 _ (by decide) (by decide +kernel) (by decide +kernel) h
end
section
variable {prog : Program} {w : World} {A : Around} {E : Value → Shared → Prop} {s : Shared} {t u : Tok} {Q : Value → Shared → Prop}
theorem shl_1_62 (h : Q (.int 4611686018427387904 s.toks) { s with toks := s.toks + 1 }) : wpAny (model prog w) A (binaryOp .LShift (.int 1 t) (.int 62 u)) Q E s :=
  lshift_int_small (by decide) (by decide) (by decide) (by have e : (1 : Int) * 2 ^ (62 : Int).toNat = 4611686018427387904 := by decide +kernel
                                                           rw [e]; exact h)
theorem shl_n {n : Int} (h0 : 0 ≤ n) (h1 : n ≤ 1000000) (h : Q (.int (1 * 2 ^ n.toNat) s.toks) { s with toks := s.toks + 1 }) : wpAny (model prog w) A (binaryOp .LShift (.int 1 t) (.int n u)) Q E s :=
  lshift_int_small h0 h1 (by decide) h
end
theorem fmod_ge (a b : Int) (hb : 0 < b) : -1 ≤ a.fmod b := Int.le_trans (by decide) (Int.fmod_nonneg_of_pos a hb)
end Mine
namespace Mine
theorem fm_in (x m M : Int) (hm : 0 < m) (hM : m ≤ M) : 0 ≤ x.fmod m ∧ x.fmod m < M := ⟨Int.fmod_nonneg_of_pos x hm, Int.lt_of_lt_of_le (Int.fmod_lt_of_pos x hm) hM⟩
theorem getD4 {a b c d : Int} {i : Nat} (P : Int → Prop) (ha : P a) (hb : P b) (hc : P c) (hd : P d) (h0 : P 0) : P ([a, b, c, d].getD i 0) := by
  match i with
  | 0 => exact ha
  | 1 => exact hb
  | 2 => exact hc
  | 3 => exact hd
  | n + 4 => exact h0
section
variable {prog : Program} {w : World} {A : Around} {E : Value → Shared → Prop} {s : Shared} {t : Tok} {Q : Unit → Shared → Prop} {env : Env} {x : Str}
theorem store_exp {r : Int} {i : Nat} (h : ∀ e : Int, 0 ≤ e → e < 4611686018427387904 → wpAny (model prog w) A (storeName env x (.int e t)) Q E s) :
    wpAny (model prog w) A (storeName env x (.int ([r.fmod 300, r.fmod 8589934592, 4611686018427387904 - 1 - r.fmod 300, (r * 1000012000054000108000081).fmod 4611686018427387904].getD i 0) t)) Q E s := by
  have hb := getD4 (a := r.fmod 300) (b := r.fmod 8589934592) (c := 4611686018427387904 - 1 - r.fmod 300) (d := (r * 1000012000054000108000081).fmod 4611686018427387904) (i := i) (fun e => 0 ≤ e ∧ e < 4611686018427387904)
    (fm_in _ _ _ (by decide) (by decide)) (fm_in _ _ _ (by decide) (by decide)) (by have := fm_in r 300 300 (by decide) (by decide); omega) (fm_in _ _ _ (by decide) (by decide)) (by decide)
  exact h _ hb.1 hb.2
end
end Mine
end
section
namespace Mine

theorem and_not_mask (x : Int) (k : Nat) (hx : 0 ≤ x) : Builtin.bitAnd x (Builtin.bitNot (2 ^ k - 1)) = x - x % 2 ^ k := by
  have hp : (0 : Int) < 2 ^ k := kbt_pos k
  have e0 : Builtin.bitNot ((2 : Int) ^ k - 1) = -(2 ^ k) := by
    show -((2 : Int) ^ k - 1) - 1 = -(2 ^ k)
    omega
  have hm := kbt_mask x k
  rw [bitAnd_pp hx (by omega)] at hm
  rw [e0, bitAnd_pn hx (by omega)]
  have e1 : Builtin.bitNot (-(2 : Int) ^ k) = 2 ^ k - 1 := by
    show -(-(2 : Int) ^ k) - 1 = 2 ^ k - 1
    omega
  rw [e1, hm]

theorem and_cut (q t : Int) (k : Nat) : 0 ≤ t → t < 2 ^ k → Builtin.bitAnd (q * 2 ^ k) t = 0 := by
  induction k generalizing t with
  | zero =>
    intro h0 h1
    have : t = 0 := by have e : (2 : Int) ^ 0 = 1 := rfl; omega
    rw [this, bitAnd_zero]
  | succ k ih =>
    intro h0 h1
    have e : (2 : Int) ^ (k + 1) = 2 ^ k * 2 := Int.pow_succ 2 k
    rw [kbt_halves]
    have e1 : q * 2 ^ (k + 1) / 2 = q * 2 ^ k := by
      rw [e, ← Int.mul_assoc]
      exact Int.mul_ediv_cancel _ (by decide)
    have e2 : q * 2 ^ (k + 1) % 2 = 0 := by
      rw [e, ← Int.mul_assoc]
      exact Int.mul_emod_left _ _
    rw [e1, e2, ih (t / 2) (by omega) (by omega)]
    simp

theorem or_cut (e t : Int) (k : Nat) (he : 0 ≤ e) (h0 : 0 ≤ t) (h1 : t < 2 ^ k) : Builtin.bitOr (Builtin.bitAnd e (Builtin.bitNot (2 ^ k - 1))) t = e - e % 2 ^ k + t := by
  rw [and_not_mask e k he, bitOr_and]
  have hd : e - e % 2 ^ k = (e / 2 ^ k) * 2 ^ k := by
    have := Int.mul_ediv_add_emod e (2 ^ k)
    rw [Int.mul_comm]
    omega
  rw [hd, and_cut _ _ _ h0 h1]
  omega

/-- the law's own reading of what is restored -/
def lrf (p w e : Int) : Int :=
  if e - w.fdiv 2 + 1 + (p - (e - w.fdiv 2 + 1)).fmod w < 0 then e - w.fdiv 2 + 1 + (p - (e - w.fdiv 2 + 1)).fmod w + w
  else if 4611686018427387904 ≤ e - w.fdiv 2 + 1 + (p - (e - w.fdiv 2 + 1)).fmod w then e - w.fdiv 2 + 1 + (p - (e - w.fdiv 2 + 1)).fmod w - w
  else e - w.fdiv 2 + 1 + (p - (e - w.fdiv 2 + 1)).fmod w

/-- what decode_packet_number is to give back -/
def dpf (t n e : Int) : Int := lrf t (2 ^ n.toNat) e

/-- what the call asks -/
abbrev dpPre (t n e : Int) : Prop := (n = 8 ∧ t < 256 ∨ n = 16 ∧ t < 65536 ∨ n = 24 ∧ t < 16777216 ∨ n = 32 ∧ t < 4294967296) ∧ 0 ≤ t ∧ 0 ≤ e ∧ e < 4611686018427387904
abbrev lrPre (_p w _e : Int) : Prop := w = 256 ∨ w = 65536 ∨ w = 16777216 ∨ w = 4294967296

theorem dp_cases {t n e : Int} (h : dpPre t n e) : ∃ w : Int, (w = 256 ∨ w = 65536 ∨ w = 16777216 ∨ w = 4294967296) ∧ (2 : Int) ^ n.toNat = w ∧ t < w ∧ 0 ≤ t ∧ 0 ≤ e ∧ e < 4611686018427387904 ∧
    Builtin.bitOr (Builtin.bitAnd e (Builtin.bitNot (w - 1))) t = e - e % w + t := by
  obtain ⟨hn, h0, he, h2⟩ := h
  rcases hn with ⟨rfl, ht⟩ | ⟨rfl, ht⟩ | ⟨rfl, ht⟩ | ⟨rfl, ht⟩
  · exact ⟨256, by omega, by decide, ht, h0, he, h2, or_cut e t 8 he h0 ht⟩
  · exact ⟨65536, by omega, by decide, ht, h0, he, h2, or_cut e t 16 he h0 ht⟩
  · exact ⟨16777216, by omega, by decide +kernel, ht, h0, he, h2, or_cut e t 24 he h0 ht⟩
  · exact ⟨4294967296, by omega, by decide +kernel, ht, h0, he, h2, or_cut e t 32 he h0 ht⟩

theorem fdiv_fmod_lit (x w : Int) (hw : 0 < w) : x.fmod w = x % w := Int.fmod_eq_emod_of_nonneg x (Int.le_of_lt hw)

/-- the three ways through decode_packet_number -/
theorem dp_way {t n e : Int} (h : dpPre t n e) (c W : Int) (hW : W = 2 ^ n.toNat) (hc : c = Builtin.bitOr (Builtin.bitAnd e (Builtin.bitNot (W - 1))) t) :
    dpf t n e = if c ≤ e - W.fdiv 2 ∧ c < 4611686018427387904 - W then c + W else if c > e + W.fdiv 2 ∧ c ≥ W then c - W else c := by
  obtain ⟨w, hw, hp, ht, h0, he, h2, hb⟩ := dp_cases h
  unfold dpf lrf
  rw [hp] at hW ⊢
  subst hW
  rw [hb] at hc
  rw [hc]
  have hd : ∀ x : Int, x.fdiv 2 = x / 2 := fun x => Int.fdiv_eq_ediv_of_nonneg x (by decide)
  rw [hd]
  rcases hw with rfl | rfl | rfl | rfl
  all_goals
    rw [fdiv_fmod_lit _ _ (by decide)]
    repeat' split
    all_goals omega

/-- a number so near comes back whole -/
theorem lr_near (e w s : Int) (hw : w = 256 ∨ w = 65536 ∨ w = 16777216 ∨ w = 4294967296) (hs : -1 ≤ s) (hs2 : s ≤ w.fdiv 2) (h0 : 0 ≤ e + s) (h1 : e + s < 4611686018427387904) :
    lrf ((e + s).fmod w) w e = e + s := by
  unfold lrf
  have hd : ∀ x : Int, x.fdiv 2 = x / 2 := fun x => Int.fdiv_eq_ediv_of_nonneg x (by decide)
  rw [hd] at *
  rcases hw with rfl | rfl | rfl | rfl
  all_goals
    rw [fdiv_fmod_lit _ _ (by decide), fdiv_fmod_lit _ _ (by decide)]
    repeat' split
    all_goals omega
theorem near_or (e w s : Int) (hw : w = 256 ∨ w = 65536 ∨ w = 16777216 ∨ w = 4294967296) (hs : -1 ≤ s) : w.fdiv 2 < s ∨ e + s < 0 ∨ 4611686018427387904 ≤ e + s ∨ lrf ((e + s).fmod w) w e = e + s := by
  by_cases h1 : w.fdiv 2 < s
  · exact .inl h1
  by_cases h2 : e + s < 0
  · exact .inr (.inl h2)
  by_cases h3 : 4611686018427387904 ≤ e + s
  · exact .inr (.inr (.inl h3))
  exact .inr (.inr (.inr (lr_near e w s hw hs (by omega) (by omega) (by omega))))
section
variable {prog : Program} {w : World} {A : Around} {E : Value → Shared → Prop} {s₀ : Shared} {t : Tok} {Q : Unit → Shared → Prop} {env : Env} {x : Str}
theorem store_piece {v : Int} (m : Int) (hm : 0 < m) (h : 0 ≤ v.fmod m → v.fmod m < m → wpAny (model prog w) A (storeName env x (.int (v.fmod m) t)) Q E s₀) : wpAny (model prog w) A (storeName env x (.int (v.fmod m) t)) Q E s₀ :=
  h (Int.fmod_nonneg_of_pos v hm) (Int.fmod_lt_of_pos v hm)
theorem store_told1 {e s : Int} (hs : -1 ≤ s) (h : (256 : Int).fdiv 2 < s ∨ e + s < 0 ∨ 4611686018427387904 ≤ e + s ∨ lrf ((e + s).fmod 256) 256 e = e + s → wpAny (model prog w) A (storeName env x (.int (lrf ((e + s).fmod 256) 256 e) t)) Q E s₀) :
    wpAny (model prog w) A (storeName env x (.int (dpf ((e + s).fmod 256) (8 * 1) e) t)) Q E s₀ := by
  have e1 : dpf ((e + s).fmod 256) (8 * 1) e = lrf ((e + s).fmod 256) 256 e := by unfold dpf; rw [show (2 : Int) ^ (8 * 1 : Int).toNat = 256 from by decide +kernel]
  rw [e1]; exact h (near_or e 256 s (by decide) hs)
theorem store_told2 {e s : Int} (hs : -1 ≤ s) (h : (65536 : Int).fdiv 2 < s ∨ e + s < 0 ∨ 4611686018427387904 ≤ e + s ∨ lrf ((e + s).fmod 65536) 65536 e = e + s → wpAny (model prog w) A (storeName env x (.int (lrf ((e + s).fmod 65536) 65536 e) t)) Q E s₀) :
    wpAny (model prog w) A (storeName env x (.int (dpf ((e + s).fmod 65536) (8 * 2) e) t)) Q E s₀ := by
  have e1 : dpf ((e + s).fmod 65536) (8 * 2) e = lrf ((e + s).fmod 65536) 65536 e := by unfold dpf; rw [show (2 : Int) ^ (8 * 2 : Int).toNat = 65536 from by decide +kernel]
  rw [e1]; exact h (near_or e 65536 s (by decide) hs)
theorem store_told3 {e s : Int} (hs : -1 ≤ s) (h : (16777216 : Int).fdiv 2 < s ∨ e + s < 0 ∨ 4611686018427387904 ≤ e + s ∨ lrf ((e + s).fmod 16777216) 16777216 e = e + s → wpAny (model prog w) A (storeName env x (.int (lrf ((e + s).fmod 16777216) 16777216 e) t)) Q E s₀) :
    wpAny (model prog w) A (storeName env x (.int (dpf ((e + s).fmod 16777216) (8 * 3) e) t)) Q E s₀ := by
  have e1 : dpf ((e + s).fmod 16777216) (8 * 3) e = lrf ((e + s).fmod 16777216) 16777216 e := by unfold dpf; rw [show (2 : Int) ^ (8 * 3 : Int).toNat = 16777216 from by decide +kernel]
  rw [e1]; exact h (near_or e 16777216 s (by decide) hs)
theorem store_told4 {e s : Int} (hs : -1 ≤ s) (h : (4294967296 : Int).fdiv 2 < s ∨ e + s < 0 ∨ 4611686018427387904 ≤ e + s ∨ lrf ((e + s).fmod 4294967296) 4294967296 e = e + s → wpAny (model prog w) A (storeName env x (.int (lrf ((e + s).fmod 4294967296) 4294967296 e) t)) Q E s₀) :
    wpAny (model prog w) A (storeName env x (.int (dpf ((e + s).fmod 4294967296) (8 * 4) e) t)) Q E s₀ := by
  have e1 : dpf ((e + s).fmod 4294967296) (8 * 4) e = lrf ((e + s).fmod 4294967296) 4294967296 e := by unfold dpf; rw [show (2 : Int) ^ (8 * 4 : Int).toNat = 4294967296 from by decide +kernel]
  rw [e1]; exact h (near_or e 4294967296 s (by decide) hs)
end
theorem dp_way1 {t n e : Int} (h : dpPre t n e) : dpf t n e = if Builtin.bitOr (Builtin.bitAnd e (Builtin.bitNot (1 * 2 ^ n.toNat - 1))) t ≤ e - (1 * 2 ^ n.toNat : Int).fdiv 2 ∧ Builtin.bitOr (Builtin.bitAnd e (Builtin.bitNot (1 * 2 ^ n.toNat - 1))) t < 4611686018427387904 - (1 * 2 ^ n.toNat) then Builtin.bitOr (Builtin.bitAnd e (Builtin.bitNot (1 * 2 ^ n.toNat - 1))) t + (1 * 2 ^ n.toNat)
    else if Builtin.bitOr (Builtin.bitAnd e (Builtin.bitNot (1 * 2 ^ n.toNat - 1))) t > e + (1 * 2 ^ n.toNat : Int).fdiv 2 ∧ Builtin.bitOr (Builtin.bitAnd e (Builtin.bitNot (1 * 2 ^ n.toNat - 1))) t ≥ 1 * 2 ^ n.toNat then Builtin.bitOr (Builtin.bitAnd e (Builtin.bitNot (1 * 2 ^ n.toNat - 1))) t - (1 * 2 ^ n.toNat) else Builtin.bitOr (Builtin.bitAnd e (Builtin.bitNot (1 * 2 ^ n.toNat - 1))) t :=
  dp_way h _ _ (Int.one_mul _) rfl
end Mine
end
section
namespace Mine

theorem fm_in48 (x : Int) : 0 ≤ x.fmod 48 ∧ x.fmod 48 < 48 := ⟨Int.fmod_nonneg_of_pos x (by decide), Int.fmod_lt_of_pos x (by decide)⟩

/-- what the window's loops turn -/
structure WS where
  lo : Int
  t1 : Tok
  ll : Int
  tl : Tok
  top : Int
  tt : Tok
  sa : Addr
  so : Obj
  to : Obj
  S : Int → Bool
  T : Int → Bool
  n : Nat
  k : Nat
  pl : Int
  tp : Tok

/-- the window's five objects -/
def WLed (w : World) (a1 a2 a3 tz : Tok) (l TA NA DA : Addr) (ob : Obj) (own : List (Addr × Obj)) (c : WS) : List (Addr × Obj) :=
  (l, ob) :: (TA, c.to) :: (NA, instObj 50 DA) :: (DA, dictOf [⟨PyData.keyHash w.params (Str.ofString "_lower"), .str (Str.ofString "_lower") a1, .int c.lo c.t1⟩, ⟨PyData.keyHash w.params (Str.ofString "_received"), .str (Str.ofString "_received") a2, .ref c.sa⟩, ⟨PyData.keyHash w.params (Str.ofString "_size"), .str (Str.ofString "_size") a3, .int (2 * 64) tz⟩] 3) :: (c.sa, c.so) :: own

def WNames (c : WS) : List (Str × Value) := [(Str.ofString "lower", .int c.ll c.tl), (Str.ofString "top", .int c.top c.tt)]
def WNames3 (c : WS) : List (Str × Value) := [(Str.ofString "lower", .int c.ll c.tl), (Str.ofString "top", .int c.top c.tt), (Str.ofString "place", .int c.pl c.tp)]

structure WInv (prog : Program) (w : World) (B : Nat) (l TA NA DA : Addr) (own : List (Addr × Obj)) (c : WS) : Prop where
  hs : c.so.SetObjOf (intKind prog w) c.S c.n
  hf : Fine w c.so
  ht : c.to.SetObjOf (intKind prog w) c.T c.k
  hg : Fine w c.to
  same : ∀ p : Int, c.lo ≤ p → c.S p = c.T p
  low : c.ll = c.lo
  hn : c.n ≤ B
  hk : c.k ≤ B
  n1 : @Ne Nat c.sa l
  n2 : @Ne Nat c.sa TA
  n3 : @Ne Nat c.sa NA
  n4 : @Ne Nat c.sa DA
  n5 : ∀ p ∈ own, @Ne Nat p.1 c.sa

theorem WInv.more {prog : Program} {w : World} {B B' : Nat} {l TA NA DA : Addr} {own : List (Addr × Obj)} {c : WS} (h : WInv prog w B l TA NA DA own c) (hb : B ≤ B') : WInv prog w B' l TA NA DA own c :=
  { h with hn := Nat.le_trans h.hn hb, hk := Nat.le_trans h.hk hb }

theorem WInv.place {prog : Program} {w : World} {B : Nat} {l TA NA DA : Addr} {own : List (Addr × Obj)} {lo : Int} {t1 : Tok} {ll : Int} {tl : Tok} {top : Int} {tt : Tok} {sa : Addr} {so to : Obj} {S T : Int → Bool} {n k : Nat} {pl pl' : Int} {tp tp' : Tok}
    (h : WInv prog w B l TA NA DA own ⟨lo, t1, ll, tl, top, tt, sa, so, to, S, T, n, k, pl, tp⟩) : WInv prog w B l TA NA DA own ⟨lo, t1, ll, tl, top, tt, sa, so, to, S, T, n, k, pl', tp'⟩ :=
  ⟨h.hs, h.hf, h.ht, h.hg, h.same, h.low, h.hn, h.hk, h.n1, h.n2, h.n3, h.n4, h.n5⟩

section
variable {prog : Program} {w : World} {A : Around} {s : Shared} {env : Env} {h₀ : Heap} {E : Value → Shared → Prop} {x : Str} {body : List Stmt} {Q : Flow → Shared → Prop}

/-- the runs: over the script's first ten -/
theorem win_led {l TA NA DA SA : Addr} {a1 a2 a3 t1 tz tl tt : Tok} {vs : List Value} {ns : List Int} {nn : Nat} {so to : Obj} {lo top : Int} {rest : List (Addr × Obj)} {m₀ : Str → Option Value} (stored : List Str)
    (hh : A.handled = none) (hi : IntsAre vs ns) (F : Fr h₀ env.locals s.heap m₀)
    (N : News h₀ env.locals s.heap ((l, listOf vs.toArray nn) :: (TA, to) :: (SA, so) :: (NA, instObj 50 DA) :: (DA, dictOf [⟨PyData.keyHash w.params (Str.ofString "_lower"), .str (Str.ofString "_lower") a1, .int lo t1⟩, ⟨PyData.keyHash w.params (Str.ofString "_received"), .str (Str.ofString "_received") a2, .ref SA⟩, ⟨PyData.keyHash w.params (Str.ofString "_size"), .str (Str.ofString "_size") a3, .int (2 * 64) tz⟩] 3) :: rest))
    (hlow : m₀ (Str.ofString "lower") = some (.int lo tl)) (htop : m₀ (Str.ofString "top") = some (.int top tt))
    (hs : so.SetObjOf (intKind prog w) (fun _ => false) 0) (hf : Fine w so) (ht : to.SetObjOf (intKind prog w) (fun _ => false) 0) (hg : Fine w to)
    (n1 : @Ne Nat SA l) (n2 : @Ne Nat SA TA) (n3 : @Ne Nat SA NA) (n4 : @Ne Nat SA DA)
    (turn : ∀ (c : WS) i n t (u : Str → Option Value) h tk dr own, ns[i]? = some n → OwnOff own [l, TA, NA, DA, c.sa] → WInv prog w (47 * i) l TA NA DA own c →
      Fr h₀ env.locals h (fun y => if y = x then some (.int n t) else kstB (fun z => if stored.contains z then u z else m₀ z) (WNames c) y) → News h₀ env.locals h (WLed w a1 a2 a3 tz l TA NA DA (listOf vs.toArray nn) own c) →
      wpAny (model prog w) A (execs body env) (MPost h₀ env.locals (WLed w a1 a2 a3 tz l TA NA DA (listOf vs.toArray nn) []) WNames x stored m₀ (WInv prog w (47 * (i + 1)) l TA NA DA []) own { s with heap := h, toks := tk, drawn := dr } Q) E { s with heap := h, toks := tk, drawn := dr })
    (done : ∀ (c : WS) (u : Str → Option Value) h tk dr, Fr h₀ env.locals h (fun y => if y = x then u y else kstB (fun z => if stored.contains z then u z else m₀ z) (WNames c) y) → News h₀ env.locals h (WLed w a1 a2 a3 tz l TA NA DA (listOf vs.toArray nn) [] c) → Q .next { s with heap := h, toks := tk, drawn := dr }) :
    wpAny (model prog w) A (pyIter (.ref l)) (fun it s₂ => MLoop prog w A h₀ env x body Q E it s₂) E s := by
  refine iter_led (WLed w a1 a2 a3 tz l TA NA DA (listOf vs.toArray nn) []) WNames stored (fun i c => WInv prog w (47 * i) l TA NA DA [] c) ⟨lo, t1, lo, tl, top, tt, SA, so, to, fun _ => false, fun _ => false, 0, 0, 0, 0⟩
    hh (fun i c _ => List.mem_cons_self ..) hi F (fun p hp => N p ?_) ?_ ⟨hs, hf, ht, hg, fun _ _ => rfl, rfl, Nat.zero_le _, Nat.zero_le _, n1, n2, n3, n4, fun _ hp => nomatch hp⟩ ?_ ?_
  · unfold WLed at hp
    simp only [List.mem_cons, List.not_mem_nil, or_false] at hp ⊢
    rcases hp with h | h | h | h | h
    · exact .inl h
    · exact .inr (.inl h)
    · exact .inr (.inr (.inr (.inl h)))
    · exact .inr (.inr (.inr (.inr (.inl h))))
    · exact .inr (.inr (.inl h))
  · intro p hp
    unfold WNames at hp
    simp only [List.mem_cons, List.not_mem_nil, or_false] at hp
    rcases hp with rfl | rfl
    · exact hlow
    · exact htop
  · intro c i n t u h tk dr own hn hoff hP F₁ N₁
    refine turn c i n t u h tk dr own hn hoff { hP with n5 := fun p hp => hoff p hp _ (List.mem_cons_of_mem _ (List.mem_cons_of_mem _ (List.mem_cons_of_mem _ (List.mem_cons_of_mem _ (List.mem_cons_self ..))))) } F₁ N₁
  · intro c u h tk dr _ F₁ N₁
    exact done c u h tk dr F₁ N₁

/-- one run: a range from nought -/
theorem win_rng {l TA NA DA SA r : Addr} {a1 a2 a3 t1 tz tl tt tp : Tok} {ob : Obj} {own : List (Addr × Obj)} {so to : Obj} {S T : Int → Bool} {n₀ k₀ : Nat} {lo ll top pl : Int} {rest : List (Addr × Obj)} {m₀ : Str → Option Value} {b₀ : Int} {t₀ u₀ v₀ : Tok} {n : Nat} (B : Nat) (stored : List Str)
    (hh : A.handled = none) (hr : IsRange s.heap r 0 b₀ 1 t₀ u₀ v₀) (hsmall : Builtin.Range.small 0 b₀ 1 = true) (hn : Builtin.Range.rangeSize 0 b₀ 1 = (n : Int)) (F : Fr h₀ env.locals s.heap m₀)
    (N : News h₀ env.locals s.heap rest) (hsub : ∀ p ∈ WLed w a1 a2 a3 tz l TA NA DA ob own ⟨lo, t1, ll, tl, top, tt, SA, so, to, S, T, n₀, k₀, pl, tp⟩, p ∈ rest)
    (hlow : m₀ (Str.ofString "lower") = some (.int ll tl)) (htop : m₀ (Str.ofString "top") = some (.int top tt)) (hpl : m₀ (Str.ofString "place") = some (.int pl tp))
    (hI : WInv prog w B l TA NA DA own ⟨lo, t1, ll, tl, top, tt, SA, so, to, S, T, n₀, k₀, pl, tp⟩)
    (turn : ∀ (c : WS) (i : Nat) t (u : Str → Option Value) h tk dr own', i < n → OwnOff own' (l :: TA :: NA :: DA :: c.sa :: own.map (·.1)) → WInv prog w (B + i) l TA NA DA own c →
      Fr h₀ env.locals h (fun y => if y = x then some (.int i t) else kstB (fun z => if stored.contains z then u z else m₀ z) (WNames3 c) y) → News h₀ env.locals h (WLed w a1 a2 a3 tz l TA NA DA ob own c ++ own') →
      wpAny (model prog w) A (execs body env) (MPost h₀ env.locals (WLed w a1 a2 a3 tz l TA NA DA ob own) WNames3 x stored m₀ (WInv prog w (B + (i + 1)) l TA NA DA own) own' { s with heap := h, toks := tk, drawn := dr } Q) E { s with heap := h, toks := tk, drawn := dr })
    (done : ∀ (c : WS) (u : Str → Option Value) h tk dr, WInv prog w (B + n) l TA NA DA own c → Fr h₀ env.locals h (fun y => if y = x then u y else kstB (fun z => if stored.contains z then u z else m₀ z) (WNames3 c) y) → News h₀ env.locals h (WLed w a1 a2 a3 tz l TA NA DA ob own c) → Q .next { s with heap := h, toks := tk, drawn := dr }) :
    wpAny (model prog w) A (pyIter (.ref r)) (fun it s₂ => MLoop prog w A h₀ env x body Q E it s₂) E s := by
  refine iter_rng (WLed w a1 a2 a3 tz l TA NA DA ob own) WNames3 stored (fun i c => WInv prog w (B + i) l TA NA DA own c) ⟨lo, t1, ll, tl, top, tt, SA, so, to, S, T, n₀, k₀, pl, tp⟩ hh hr hsmall hn F (fun p hp => N p (hsub p hp)) ?_ hI ?_ done
  · intro p hp
    unfold WNames3 at hp
    simp only [List.mem_cons, List.not_mem_nil, or_false] at hp
    rcases hp with rfl | rfl | rfl
    · exact hlow
    · exact htop
    · exact hpl
  · intro c i t u h tk dr own' hi hoff hP F₁ N₁
    exact turn c i t u h tk dr own' hi hoff hP F₁ N₁
end

theorem WInv.drop {prog : Program} {w : World} {B B' : Nat} {l TA NA DA : Addr} {own : List (Addr × Obj)} {c : WS} (h : WInv prog w B l TA NA DA own c) (hb : B ≤ B') : WInv prog w B' l TA NA DA [] c :=
  { h.more hb with n5 := fun _ hp => nomatch hp }
theorem rng48 (x : Int) : (x.fmod 48 - 0).toNat ≤ 47 := by have := fm_in48 x; omega
theorem under10 {ns : List Int} {i : Nat} {n : Int} (h : (ns.take 10)[i]? = some n) : i < 10 := by
  have := (List.getElem?_eq_some_iff.mp h).1
  rw [List.length_take] at this
  omega
theorem off_one {own : List (Addr × Obj)} {d : Addr} (h : ∀ p ∈ own, @Ne Nat p.1 d) : OwnOff own [d] := fun p hp b hb => by rw [List.mem_singleton.mp hb]; exact h p hp
theorem apart_W {w : World} {a1 a2 a3 tz : Tok} {l TA NA DA : Addr} {ob : Obj} {own own' : List (Addr × Obj)} {c : WS} (h1 : ∀ p ∈ own', p.1 ≠ l) (h2 : ∀ p ∈ own', p.1 ≠ TA) (h3 : ∀ p ∈ own', p.1 ≠ c.sa) (h4 : ∀ p ∈ own', p.1 ≠ NA) (h5 : ∀ p ∈ own', p.1 ≠ DA)
    (h6 : ∀ p ∈ own', ∀ q ∈ own, p.1 ≠ q.1) : ∀ p ∈ own', ∀ q ∈ WLed w a1 a2 a3 tz l TA NA DA ob own c, p.1 ≠ q.1 := by
  intro p hp q hq
  unfold WLed at hq
  simp only [List.mem_cons] at hq
  rcases hq with rfl | rfl | rfl | rfl | rfl | hq
  · exact h1 p hp
  · exact h2 p hp
  · exact h4 p hp
  · exact h5 p hp
  · exact h3 p hp
  · exact h6 p hp q hq
theorem apart_own {own own' : List (Addr × Obj)} {a b c d e : Addr} (h : OwnOff own' (a :: b :: c :: d :: e :: own.map (·.1))) : ∀ p ∈ own', ∀ q ∈ own, p.1 ≠ q.1 := fun p hp q hq =>
  h p hp q.1 (by simp only [List.mem_cons]; exact .inr (.inr (.inr (.inr (.inr (List.mem_map_of_mem hq))))))
theorem off_five {own own' : List (Addr × Obj)} {a b c d e : Addr} (h : OwnOff own' (a :: b :: c :: d :: e :: own.map (·.1))) : OwnOff own' [a, b, c, d, e] := fun p hp x hx => h p hp x (by
  simp only [List.mem_cons, List.not_mem_nil, or_false] at hx ⊢
  rcases hx with q | q | q | q | q
  · exact .inl q
  · exact .inr (.inl q)
  · exact .inr (.inr (.inl q))
  · exact .inr (.inr (.inr (.inl q)))
  · exact .inr (.inr (.inr (.inr (.inl q)))))
section
variable {prog : Program} {w : World} {A : Around} {E : Value → Shared → Prop} {s : Shared} {t : Tok} {Q : Unit → Shared → Prop} {env : Env} {x : Str}
theorem store_abs {v : Int} (h : ∀ e : Int, wpAny (model prog w) A (storeName env x (.int e t)) Q E s) : wpAny (model prog w) A (storeName env x (.int v t)) Q E s := h v
end

/-- the two answers are one -/
theorem same_add {S T : Int → Bool} {lo lo' p : Int} (h : ∀ q, lo ≤ q → S q = T q) (hl : lo ≤ lo') : ∀ q, lo' ≤ q → (S q || decide (q = p)) = (T q || decide (q = p)) := fun q hq => by rw [h q (Int.le_trans hl hq)]
theorem same_cut {S T : Int → Bool} {lo lo' p : Int} (h : ∀ q, lo ≤ q → S q = T q) (hl : lo ≤ lo') : ∀ q, lo' ≤ q → ((S q || decide (q = p)) && decide (lo' ≤ q)) = (T q || decide (q = p)) := fun q hq => by rw [h q (Int.le_trans hl hq), decide_eq_true hq, Bool.and_true]
theorem len_add {S : Int → Bool} {p : Int} {n B : Nat} (h : n ≤ B) : (if S p = true then n else n + 1) ≤ B + 1 := by split <;> omega

section
variable {prog : Program} {w : World} {A : Around} {s : Shared} {E : Value → Shared → Prop}
theorem ne_same {b c : Bool} {Q : Value → Shared → Prop} (h : b = c) (hq : Q (.bool false) s) : wpAny (model prog w) A (compareOp .NotEq (.bool b) (.bool c)) Q E s := by
  subst h
  refine PyProof.Rows.ne_bool ?_
  simpa using hq
end
end Mine
end
local macro_rules | `(tactic| walk_at "exec For Name Subscript cons nil") => `(tactic| (k_here; (rename Fr _ _ _ _ => lF'); (with_unfolding_all refine' Mine.For_mine lF' ?k1 ?k2 ?_; (case k1 => exact rfl); (case k2 => exact rfl); k_whole)))
local macro_rules | `(tactic| walk_at "exec For Name Tuple cons nil") => `(tactic| ((with_reducible show wpAny _ _ (exec (Stmt.For (Expr.Name _ _) (Expr.Tuple _ _ _) _ _ _) _) _ _ _); k_here; (rename Fr _ _ _ _ => lF'); (with_unfolding_all refine' Mine.For_mine lF' ?k1 ?k2 ?_; (case k1 => exact rfl); (case k2 => exact rfl); k_whole)))

local macro_rules | `(tactic| walk_at "pyIter ref") => `(tactic| (
  (with_reducible show wpAny _ _ (pyIter (Value.ref _)) (fun it s₂ => Mine.MLoop _ _ _ _ _ (Str.ofString "number") (Stmt.Assign _ (Expr.BinOp _ _ (Expr.Constant (Const.int 4) _ _) _) _ :: _) _ _ it s₂) _ _)
  k_here
  (rename Fr _ _ _ _ => lF')
  (rename News _ _ _ _ => lN')
  (with_unfolding_all refine' Mine.iter_led0 [Str.ofString "rest", Str.ofString "expected", Str.ofString "size", Str.ofString "window", Str.ofString "shift", Str.ofString "whole", Str.ofString "piece", Str.ofString "told"] (by rfl) ?hl (by assumption) lF' lN' ?_ ?_)
  case hl => k_memK
  all_goals (try clear lF' lN')
  rotate_left
  intro kU kH kTk kDr kFr kNews
  have kMk := kstMark
  (try dsimp only [kstB] at kFr)
  (try k_fold)
  rotate_right
  intro kN kT kU kH kTk kDr kOwn kMem kOff kFr kNews
  have kMk := kstMark
  (try dsimp only [kstB] at kFr)
  (try simp only [List.nil_append, List.cons_append, List.append_nil] at kNews)
  (have kBits := PySem.intBits_le_of_item (List.mem_of_mem_take kMem) (by lay_of))
  (try k_fold)))
local macro_rules | `(tactic| walk_at "binaryOp Mult int int") => `(tactic| ((with_reducible refine mul_int ?_ (PySem.IntMulOk.of_le (m := 1048576) (n := 80) (PySem.intBits_fdiv_le (by assumption)) (PySem.intBits_le_iff.mpr (by decide)) (by decide)))))
local macro_rules | `(tactic| walk_at "pyIter ref") => `(tactic| (
  (with_reducible show wpAny _ _ (pyIter (Value.ref _)) (fun it s₂ => Mine.MLoop _ _ _ _ _ (Str.ofString "size") _ _ _ it s₂) _ _)
  k_here
  (rename Fr _ _ _ _ => lF')
  (rename News _ _ _ _ => lN')
  (with_unfolding_all refine' Mine.iter_tup0 (fun k => k = 1 ∨ k = 2 ∨ k = 3 ∨ k = 4) [Str.ofString "window", Str.ofString "shift", Str.ofString "whole", Str.ofString "piece", Str.ofString "told"] (by rfl) ?hl ?hi lF' lN' ?_ ?_)
  case hl => k_memK
  case hi => (repeat (refine List.forall_mem_cons.mpr ⟨⟨_, _, rfl, by omega⟩, ?_⟩)); exact List.forall_mem_nil _
  all_goals (try clear lF' lN')
  rotate_left
  intro kU kH kTk kDr kFr kNews
  have kMk := kstMark
  (try dsimp only [kstB] at kFr)
  (try k_fold)
  rotate_right
  intro kN kT kU kH kTk kDr kOwn kMem kOff kFr kNews
  have kMk := kstMark
  (try dsimp only [kstB] at kFr)
  (try simp only [List.nil_append, List.cons_append, List.append_nil] at kNews)
  rcases kMem with kMem | kMem | kMem | kMem
  all_goals (try subst kMem)
  all_goals (try k_fold)))
local macro_rules | `(tactic| walk_at "pyIter ref") => `(tactic| (
  (with_reducible show wpAny _ _ (pyIter (Value.ref _)) (fun it s₂ => Mine.MLoop _ _ _ _ _ (Str.ofString "shift") _ _ _ it s₂) _ _)
  k_here
  (rename Fr _ _ _ _ => lF')
  (rename News _ _ _ _ => lN')
  (with_unfolding_all refine' Mine.iter_tup0 (fun k => -1 ≤ k) [Str.ofString "whole", Str.ofString "piece", Str.ofString "told"] (by rfl) ?hl ?hi lF' lN' ?_ ?_)
  case hl => k_memK
  case hi => (repeat (refine List.forall_mem_cons.mpr ⟨⟨_, _, rfl, by first | omega | decide | exact Mine.fmod_ge _ _ (by decide)⟩, ?_⟩)); exact List.forall_mem_nil _
  all_goals (try clear lF' lN')
  rotate_left
  intro kU kH kTk kDr kFr kNews
  have kMk := kstMark
  (try dsimp only [kstB] at kFr)
  (try k_fold)
  rotate_right
  intro kN kT kU kH kTk kDr kOwn kMem kOff kFr kNews
  have kMk := kstMark
  (try dsimp only [kstB] at kFr)
  (try simp only [List.nil_append, List.cons_append, List.append_nil] at kNews)
  (try k_fold)))
local macro_rules | `(tactic| walk_at "binaryOp Pow int int") => `(tactic| (with_reducible (first | refine Mine.pow_2_33 ?_ | refine Mine.pow_2_62 ?_ | refine Mine.pow_2_40 ?_ | refine Mine.pow_prime ?_ | refine Mine.pow_256_1 ?_ | refine Mine.pow_256_2 ?_ | refine Mine.pow_256_3 ?_ | refine Mine.pow_256_4 ?_)))
local macro_rules | `(tactic| walk_at "binaryOp LShift int int") => `(tactic| (first | (with_reducible refine Mine.shl_1_62 ?_) | ((with_reducible refine Mine.shl_n ?kz1 ?kz2 ?_); (case kz1 => (unfold Mine.dpPre at *; omega)); (case kz2 => (unfold Mine.dpPre at *; omega)))))
local macro_rules | `(tactic| walk_at "storeName int") => `(tactic| ((with_reducible show wpAny _ _ (storeName _ (Str.ofString "expected") _) _ _ _); (refine Mine.store_exp ?_); intro kE kE0 kE1))
local macro_rules | `(tactic| walk_at "storeName int") => `(tactic| ((with_reducible show wpAny _ _ (storeName _ (Str.ofString "told") _) _ _ _); (with_reducible (first | refine Mine.store_told1 (by assumption) ?_ | refine Mine.store_told2 (by assumption) ?_ | refine Mine.store_told3 (by assumption) ?_ | refine Mine.store_told4 (by assumption) ?_)); intro kNear))
local macro_rules | `(tactic| walk_at "exec For Name Call cons nil") => `(tactic| (k_here; (rename Fr _ _ _ _ => lF'); (with_unfolding_all refine' Mine.For_mine lF' ?k1 ?k2 ?_; (case k1 => exact rfl); (case k2 => exact rfl); k_whole)))
local macro_rules | `(tactic| walk_at "pyIter ref") => `(tactic| (
  (with_reducible show wpAny _ _ (pyIter (Value.ref _)) (fun it s₂ => Mine.MLoop _ _ _ _ _ (Str.ofString "number") (Stmt.Assign _ (Expr.BinOp _ _ (Expr.Constant (Const.int 48) _ _) _) _ :: _) _ _ it s₂) _ _)
  k_here
  (rename Fr _ _ _ _ => lF')
  (rename News _ _ _ _ => lN')
  (with_unfolding_all refine' Mine.win_led [Str.ofString "rest", Str.ofString "place", Str.ofString "stride", Str.ofString "turn"] (by rfl) (by assumption) lF' lN' (by rfl) (by rfl) (by assumption) (by assumption) (by assumption) (by assumption) (by omega) (by omega) (by omega) (by omega) ?_ ?_)
  all_goals (try clear lF' lN')
  rotate_left
  intro kC kU kH kTk kDr kFr kNews
  obtain ⟨wlo, wt1, wll, wtl, wtop, wtt, wsa, wso, wto, wS, wT, wn, wk, wpl, wtp⟩ := kC
  have kMk := kstMark
  (try dsimp only [kstB, Mine.WNames] at kFr)
  (try dsimp only [Mine.WLed] at kNews)
  (try k_fold)
  rotate_right
  intro kC kI kN kT kU kH kTk kDr kOwn kMem kOff kInv kFr kNews
  obtain ⟨wlo, wt1, wll, wtl, wtop, wtt, wsa, wso, wto, wS, wT, wn, wk, wpl, wtp⟩ := kC
  have kMk := kstMark
  have kI10 := Mine.under10 kMem
  have kLow := kInv.low
  (dsimp only at kLow kOff)
  subst kLow
  (try dsimp only [kstB, Mine.WNames] at kFr)
  (try dsimp only [Mine.WLed] at kNews)
  (try k_fold)))
local macro_rules | `(tactic| walk_at "pyIter ref") => `(tactic| (
  (with_reducible show wpAny _ _ (pyIter (Value.ref _)) (fun it s₂ => Mine.MLoop _ _ _ _ _ (Str.ofString "turn") _ _ _ it s₂) _ _)
  k_here
  (try k_fmods)
  (rename Fr _ _ _ _ => lF')
  (rename News _ _ _ _ => lN')
  (rename IsRange _ _ _ _ _ _ _ _ => rgX)
  (with_unfolding_all refine' Mine.win_rng _ [] (by rfl) (by first | exact rgX | assumption) (by first | exact small_one (by omega) (by omega) (by omega) (by omega) | exact small_one (by l_bnd) (by l_bnd) (by l_bnd) (by l_bnd) | decide) (by first | exact rangeSize_nat _ _ | rfl) lF' lN' ?hsub (by rfl) (by rfl) (by rfl) (Mine.WInv.place (by assumption)) ?_ ?_)
  case hsub => ((try dsimp only [Mine.WLed]); kst_inAny)
  all_goals (try clear lF' lN')
  rotate_left
  intro kC kU kH kTk kDr kInv kFr kNews
  obtain ⟨wlo, wt1, wll, wtl, wtop, wtt, wsa, wso, wto, wS, wT, wn, wk, wpl, wtp⟩ := kC
  have kMk := kstMark
  have kLow := kInv.low
  (dsimp only at kLow)
  subst kLow
  have kHs := kInv.hs
  have kHf := kInv.hf
  have kHt := kInv.ht
  have kHg := kInv.hg
  have kSm := kInv.same
  have kHn := kInv.hn
  have kHk := kInv.hk
  have kN1 := kInv.n1
  have kN2 := kInv.n2
  have kN3 := kInv.n3
  have kN4 := kInv.n4
  have kN5 := Mine.off_one kInv.n5
  have kR48 := Mine.rng48
  (dsimp only at kHs kHf kHt kHg kSm kHn kHk kN1 kN2 kN3 kN4 kN5)
  (try dsimp only [kstB, Mine.WNames3] at kFr)
  (try dsimp only [Mine.WLed] at kNews)
  (try k_fold)
  rotate_right
  intro kC kJ kT kU kH kTk kDr kOwn kLt kOff kInv kFr kNews
  obtain ⟨wlo, wt1, wll, wtl, wtop, wtt, wsa, wso, wto, wS, wT, wn, wk, wpl, wtp⟩ := kC
  have kMk := kstMark
  have kLow := kInv.low
  (dsimp only at kLow)
  subst kLow
  have kHs := kInv.hs
  have kHf := kInv.hf
  have kHt := kInv.ht
  have kHg := kInv.hg
  have kSm := kInv.same
  have kHn := kInv.hn
  have kHk := kInv.hk
  have kN1 := kInv.n1
  have kN2 := kInv.n2
  have kN3 := kInv.n3
  have kN4 := kInv.n4
  have kN5 := Mine.off_one kInv.n5
  have kApO := Mine.apart_own kOff
  have kOff5 := Mine.off_five kOff
  have kJ48 := Nat.lt_of_lt_of_le kLt (Mine.rng48 _)
  (dsimp only at kHs kHf kHt kHg kSm kHn kHk kN1 kN2 kN3 kN4 kN5 kOff5)
  (try dsimp only [kstB, Mine.WNames3] at kFr)
  (try dsimp only [Mine.WLed] at kNews)
  (try simp only [List.nil_append, List.cons_append, List.append_nil] at kNews)
  (try k_fold)))
local macro_rules | `(tactic| walk_at "pyIter ref") => `(tactic| (
  (with_reducible show wpAny _ _ (pyIter (Value.ref _)) (fun it s₂ => Mine.MLoop _ _ _ _ _ (Str.ofString "place") _ _ _ it s₂) _ _)
  k_here
  (rename Fr _ _ _ _ => lF')
  (rename News _ _ _ _ => lN')
  (with_unfolding_all refine' Mine.iter_tup0 (fun _ => True) [] (by rfl) ?hl ?hi lF' lN' ?_ ?_)
  case hl => k_memK
  case hi => (repeat (refine List.forall_mem_cons.mpr ⟨⟨_, _, rfl, trivial⟩, ?_⟩)); exact List.forall_mem_nil _
  all_goals (try clear lF' lN')
  rotate_left
  intro kU kH kTk kDr kFr kNews
  have kMk := kstMark
  (try dsimp only [kstB] at kFr)
  (try k_fold)
  rotate_right
  intro kN kT kU kH kTk kDr kOwn kMem kOff kFr kNews
  have kMk := kstMark
  (try dsimp only [kstB] at kFr)
  (try simp only [List.nil_append, List.cons_append, List.append_nil] at kNews)
  (try k_fold)))
local macro_rules | `(tactic| walk_at "storeName int") => `(tactic| ((first | (with_reducible show wpAny _ _ (storeName _ (Str.ofString "rest") (Value.int (Int.fdiv _ 48) _)) _ _ _) | (with_reducible show wpAny _ _ (storeName _ (Str.ofString "place") (Value.int (_ + _) _)) _ _ _) | (with_reducible show wpAny _ _ (storeName _ (Str.ofString "stride") (Value.int (List.getD _ _ _) _)) _ _ _)); (refine Mine.store_abs ?_); intro kAny))
local macro_rules | `(tactic| walk_at "compareOp NotEq bool bool") => `(tactic| ((refine Mine.ne_same ?hne ?_); (case hne => first | rfl | ((rename (∀ q : Int, _ ≤ q → _ = _) => hSm9); exact hSm9 _ (by omega)))))
local macro_rules | `(tactic| walk_at "eval SetComp") => `(tactic| (k_here; (with_unfolding_all refine' Mine.comp_N (by rfl) (by rfl) (by decide) (by rfl) (by decide) (by rfl) (by rfl) (by rfl) (by decide) (by decide) (by k_asm) (by k_asm) ?_); k_whole))
local macro_rules | `(tactic| walk_at "Exists") => `(tactic| ((refine' ⟨_, _, _, _, _, _, _, rfl, ?zF, ?zN, ?za, ?zs, ?zf, ?zn, ?zc, ?zd, ?_⟩); (case zF => k_asm); (case zN => k_asm); (case za => k_memK); (case zs => assumption); (case zf => assumption); (case zn => (first | omega | (split <;> omega))); (case zc => k_memK); (case zd => assumption); intro d' o' n' h' tk' dr' F' N' l1 hs' hn' hf'; (try k_lt l1)))
local macro_rules | `(tactic| walk_at "call type:set nil nil") => `(tactic| (k_here; k_dflt (refine Mine.new_set_N (by k_asm) (by k_asm) ?_); intro d' h' o' F' N' l1 hs' hf'; (try k_lt l1)))
local macro_rules | `(tactic| walk_at "call builtin:set.add") => `(tactic| (k_here; (with_reducible show wpAny _ _ (call (Value.builtin "set.add") [Value.ref _, Value.int _ _]) _ _ _); k_dflt (refine' Mine.add_N ?F ?N ?U ?d ?f ?z ?_; (case F => k_asm); (case N => k_asm); (case U => k_updF); (case d => k_asm); (case f => k_asm); (case z => kse_small)); intro h' o' F' N' hs' hf'; (try dsimp only at N')))
local macro_rules | `(tactic| walk_at "storeName int") => `(tactic| ((with_reducible show wpAny _ _ (storeName _ (Str.ofString "piece") _) _ _ _); (fail_if_success (with_reducible rename (Int.fmod _ _ < _) => hq9)); (with_reducible refine Mine.store_piece _ (by decide) ?_); intro kPc0 kPc1))
local macro_rules | `(tactic| walk_at "storeName int") => `(tactic| ((with_reducible show wpAny _ _ (storeName _ (Str.ofString "lower") (Value.int _ _)) _ _ _); k_here; k_dflt (refine' storeX_C ?F ?N ?c ?U ?d ?_ ?a ?b; (case a => rfl); (case b => rfl); (case F => k_asm); (case N => k_asm); (case c => rfl); (case U => (refine' UpdF.head ?zzu; (case zzu => exact fun p9 h9 => Nat.ne_of_lt (Nat.lt_succ_of_lt (kst_ltOf (by assumption) p9 h9))))); (case d => k_asm); k_whole); intro h' o' F' N' d'; (try dsimp only at N'); (try k_sweep)))
local macro_rules | `(tactic| walk_at "MPost") => `(tactic| (dsimp only [Mine.MPost]))
local macro_rules | `(tactic| walk_at "MPost cons ret") => `(tactic| (exfalso; first | exact absurd rfl (by assumption) | omega | ((try k_fmods); omega)))
local macro_rules | `(tactic| walk_at "MTurn") => `(tactic| ((rename News _ _ _ _ => nE'); (refine Mine.MTurn.intro () (by assumption) nE' (by first | kst_inAny | kst_in) (by first | (intro p hp; kst_mem) | kst_anyIn) (Mine.apart_of_off (by assumption)) (by kst_all) (by kst_same) trivial)))
local macro_rules | `(tactic| walk_at "MTurn") => `(tactic| (
  (with_reducible show Mine.MTurn _ _ _ Mine.WNames3 _ _ _ _ _ _ _)
  (rename News _ _ _ _ => nE')
  (refine' Mine.MTurn.intro ⟨_, _, _, _, _, _, _, _, _, _, _, _, _, _, _⟩ (by assumption) nE' ?zn ?zo ?za ?zk ?zr ?zp)
  case zn => ((try dsimp only [Mine.WLed]); kst_inAny)
  case zo => first | (intro p hp; kst_mem) | kst_anyIn
  case zk => ((try dsimp only [Mine.WNames3]); kst_all)
  case za => exact Mine.apart_W (by k_all) (by k_all) (by (try dsimp only); k_all) (by k_all) (by k_all) (by assumption)
  case zr => ((try dsimp only [Mine.WNames3]); kst_same)
  case zp => exact ⟨by assumption, by assumption, by assumption, by assumption, by (try dsimp only); first | assumption | exact Mine.same_add (by assumption) (by omega) | exact Mine.same_cut (by assumption) (by omega), by first | rfl | omega | ((try dsimp only); omega),
    by (try dsimp only); first | omega | exact Nat.le_trans (Mine.len_add (by assumption)) (by omega) | exact Nat.le_trans (by assumption) (Nat.le_trans (Mine.len_add (by assumption)) (by omega)), by (try dsimp only); first | omega | exact Nat.le_trans (Mine.len_add (by assumption)) (by omega),
    by (try dsimp only); first | assumption | omega, by (try dsimp only); first | assumption | omega, by (try dsimp only); first | assumption | omega, by (try dsimp only); first | assumption | omega, by (try dsimp only); k_all⟩))
local macro_rules | `(tactic| walk_at "MTurn") => `(tactic| (
  (with_reducible show Mine.MTurn _ _ _ Mine.WNames _ _ _ _ _ _ _)
  (rename News _ _ _ _ => nE')
  (refine' Mine.MTurn.intro ⟨_, _, _, _, _, _, _, _, _, _, _, _, _, _, _⟩ (by assumption) nE' ?zn ?zo ?za ?zk ?zr ?zp)
  case zn => ((try dsimp only [Mine.WLed]); kst_inAny)
  case zo => first | (intro p hp; kst_mem) | kst_anyIn
  case zk => ((try dsimp only [Mine.WNames]); kst_all)
  case zp => (refine Mine.WInv.drop (Mine.WInv.place (by assumption)) ?_; first | omega | (refine Nat.le_trans (Nat.add_le_add_left (Mine.rng48 _) _) ?_; omega))
  case za => exact Mine.apart_W (by k_all) (by k_all) (by (try dsimp only); k_all) (by k_all) (by k_all) (fun _ _ _ hq => nomatch hq)
  case zr => ((try dsimp only [Mine.WNames]); kst_same)))


set_option rowWalk.seconds 3000
set_option maxRecDepth 100000 in
set_option maxHeartbeats 40000000 in
theorem PySem.Challenge.cw_kh0001_01_holds : PySem.Challenge.rw_kh0001_01.Holds := by
  (k_with "call ref" => k_call_by "decode_packet_number" Mine.dpf Mine.dpPre)
  (k_with "call ref" => k_call_by "_law_restored" Mine.lrf Mine.lrPre)
  (k_with "tree" => (rw [Mine.dp_way1 (by assumption)]; (repeat' split) <;> omega))
  (k_with "tree" => (unfold Mine.lrf; (repeat' split) <;> omega))
  open_k
