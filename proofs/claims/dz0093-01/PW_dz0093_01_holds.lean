import PyProof.Rows.All
import Wide.All
import OpenK.AllK
import Wide.FinOn
import PySem.Challenge.RW_dz0093_01
set_option Elab.async false
section
open PySem PySem.W PyProof.Rows
namespace Mine
set_option maxRecDepth 100000 in
set_option maxHeartbeats 8000000 in
open_top hd for PySem.Challenge.rw_dz0093_01
end Mine
end
section
open PySem PySem.W PyProof.Rows PySem.Calls PySem.Spec
set_option maxRecDepth 100000
namespace Mine
/-! a set's table: its places rise -/
def Rise (xs : Array Nat) : Prop := xs.toList.Pairwise (· < ·)

theorem rise_get {xs : Array Nat} (h : Rise xs) {i k : Nat} (hik : i < k) (hk : k < xs.size) : xs[i]'(Nat.lt_trans hik hk) < xs[k] := by
  have := List.pairwise_iff_getElem.mp h i k (by simpa using Nat.lt_trans hik hk) (by simpa using hk) hik
  simpa using this

theorem below_go {xs : Array Nat} (h : Rise xs) (j : Nat) : ∀ (fuel lo hi : Nat), lo ≤ hi → hi ≤ xs.size → hi - lo ≤ fuel →
    (∀ i (hi' : i < xs.size), i < lo → xs[i] < j) → (∀ i (hi' : i < xs.size), hi ≤ i → j ≤ xs[i]) →
    SetTable.below.go xs j fuel lo hi ≤ xs.size ∧ (∀ i (hi' : i < xs.size), i < SetTable.below.go xs j fuel lo hi → xs[i] < j) ∧ (∀ i (hi' : i < xs.size), SetTable.below.go xs j fuel lo hi ≤ i → j ≤ xs[i]) := by
  intro fuel
  induction fuel with
  | zero =>
    intro lo hi h1 h2 h3 a b
    have e : lo = hi := by omega
    subst e
    exact ⟨h2, a, b⟩
  | succ f ih =>
    intro lo hi h1 h2 h3 a b
    unfold SetTable.below.go
    by_cases hl : lo < hi
    · rw [if_pos hl]
      have hm : (lo + hi) / 2 < xs.size := by omega
      have hg : xs.getD ((lo + hi) / 2) j = xs[(lo + hi) / 2] := by simp [hm]
      by_cases hc : xs.getD ((lo + hi) / 2) j < j
      · rw [if_pos hc]
        refine ih _ _ (by omega) h2 (by omega) (fun i hi' hlt => ?_) b
        rw [hg] at hc
        by_cases e : i = (lo + hi) / 2
        · subst e; exact hc
        · exact Nat.lt_trans (rise_get h (by omega) hm) hc
      · rw [if_neg hc]
        refine ih _ _ (by omega) (by omega) (by omega) a (fun i hi' hle => ?_)
        rw [hg] at hc
        by_cases e : i = (lo + hi) / 2
        · subst e; omega
        · have := rise_get h (show (lo + hi) / 2 < i by omega) hi'
          omega
    · rw [if_neg hl]
      have e : lo = hi := by omega
      subst e
      exact ⟨h2, a, b⟩
theorem below_spec {xs : Array Nat} (h : Rise xs) (j : Nat) : SetTable.below xs j ≤ xs.size ∧ (∀ i (hi' : i < xs.size), i < SetTable.below xs j → xs[i] < j) ∧ (∀ i (hi' : i < xs.size), SetTable.below xs j ≤ i → j ≤ xs[i]) :=
  below_go h j _ _ _ (Nat.zero_le _) (Nat.le_refl _) (by omega) (fun i _ hl => absurd hl (Nat.not_lt_zero _)) (fun i hi' hle => absurd hi' (by omega))

theorem eraseAt_list {α : Type} (xs : Array α) (p : Nat) : (SetTable.eraseAt xs p).toList = xs.toList.take p ++ xs.toList.drop (p + 1) := by
  unfold SetTable.eraseAt
  simp
  rw [List.take_of_length_le (by simp)]

theorem rise_insert {xs : Array Nat} (h : Rise xs) {j : Nat} (hj : xs[SetTable.below xs j]? ≠ some j) : Rise (SetTable.insertAt xs (SetTable.below xs j) j) := by
  obtain ⟨b1, b2, b3⟩ := below_spec h j
  unfold Rise
  rw [SetTable.toList_insertAt, List.pairwise_append]
  refine ⟨h.take, List.pairwise_cons.mpr ⟨fun y hy => ?_, h.drop⟩, fun x hx y hy => ?_⟩
  · obtain ⟨i, hi, rfl⟩ := List.mem_drop_iff_getElem.mp hy
    have hlt : SetTable.below xs j < xs.size := by simp at hi; omega
    have c := b3 (SetTable.below xs j) hlt (Nat.le_refl _)
    have hne : xs[SetTable.below xs j] ≠ j := fun e => hj (by rw [Array.getElem?_eq_getElem hlt, e])
    simp only [Array.getElem_toList]
    by_cases e : i = 0
    · subst e; simp; omega
    · have hi2 : SetTable.below xs j + i < xs.size := by simp at hi; omega
      have := rise_get h (show SetTable.below xs j < SetTable.below xs j + i by omega) hi2
      simp only [Nat.add_comm] at *
      omega
  · obtain ⟨i, hi, rfl⟩ := List.mem_take_iff_getElem.mp hx
    have hi1 : i < SetTable.below xs j := by omega
    have hi2 : i < xs.size := by simp at hi; omega
    have c := b2 i hi2 hi1
    simp only [Array.getElem_toList]
    rcases List.mem_cons.mp hy with rfl | hy
    · exact c
    · obtain ⟨k, hk, rfl⟩ := List.mem_drop_iff_getElem.mp hy
      have hk2 : SetTable.below xs j + k < xs.size := by simp at hk; omega
      have := b3 _ hk2 (by omega)
      simp only [Array.getElem_toList]
      omega
theorem rise_erase {xs : Array Nat} (h : Rise xs) (p : Nat) : Rise (SetTable.eraseAt xs p) := by
  unfold Rise
  rw [eraseAt_list]
  have e : xs.toList.take p ++ xs.toList.drop (p + 1) = xs.toList.eraseIdx p := by rw [List.eraseIdx_eq_take_drop_succ]
  rw [e]
  exact List.Pairwise.sublist (List.eraseIdx_sublist _ _) h

/-! the free slot -/
theorem slot_dead {t : SetTable} {j : Nat} (h : t.slot j = .empty ∨ t.slot j = .dummy) : t.place[SetTable.below t.place j]? ≠ some j := by
  intro e
  unfold SetTable.slot at h
  simp only [e] at h
  simp at h
theorem probe_dead {t : SetTable} {f : Nat → Int} {hsh : Int} : ∀ (fuel : Nat) (p : SetTable.Probe) (j : Nat) (dm : Option Nat),
    (∀ d, p.dummy = some d → t.slot d = .dummy) → SetTable.probe.go t f hsh fuel p = some (.empty j dm) → t.slot j = .empty ∧ ∀ d, dm = some d → t.slot d = .dummy := by
  intro fuel
  induction fuel with
  | zero => intro p j dm _ h; simp [SetTable.probe.go] at h
  | succ n ih =>
    intro p j dm hp h
    unfold SetTable.probe.go at h
    split at h
    · rename_i hs
      cases h
      exact ⟨hs, hp⟩
    · rename_i hs
      refine ih _ j dm (fun d hd => ?_) h
      have : (t.advance { p with dummy := some p.j }).dummy = some p.j := by
        unfold SetTable.advance; split <;> rfl
      rw [this] at hd
      cases hd; exact hs
    · split at h
      · cases h
      · refine ih _ j dm (fun d hd => ?_) h
        have : (t.advance p).dummy = p.dummy := by unfold SetTable.advance; split <;> rfl
        rw [this] at hd; exact hp d hd
theorem freeSlot_dead {t : SetTable} {hsh : Int} {j : Nat} {b : Bool} (h : t.freeSlot hsh = some (j, b)) : t.place[SetTable.below t.place j]? ≠ some j := by
  unfold SetTable.freeSlot at h
  split at h
  · rename_i k dm hp
    have := probe_dead (t := t) _ _ k dm (by intro d hd; cases hd) hp
    cases h
    cases dm with
    | none => exact slot_dead (.inl this.1)
    | some d => exact slot_dead (.inr (this.2 d rfl))
  · cases h

theorem rise_range (n : Nat) : Rise (Array.range n) := by
  unfold Rise
  simp [List.pairwise_lt_range]
theorem standIn_keeps (t : SetTable) (n : Nat) : Rise (t.standIn n).place ∧ (t.standIn n).led = t.led := ⟨rise_range n, rfl⟩
theorem layNew_keeps (t : SetTable) (es : Array (Int × Value)) (hsh : Int) (x : Value) (h : Rise t.place) : Rise (layNew t es hsh x).2.1.place ∧ (layNew t es hsh x).2.1.led = t.led := by
  unfold layNew
  split
  · rename_i j b hf
    have hr : Rise (t.put j).1.place := rise_insert h (freeSlot_dead hf)
    show Rise (((t.put j).1).orStandIn _).place ∧ (((t.put j).1).orStandIn _).led = t.led
    unfold SetTable.orStandIn
    split
    · exact ⟨hr, rfl⟩
    · exact standIn_keeps _ _
  · exact standIn_keeps _ _
theorem laid_keeps {mask fg mv : Nat} {led pl : Bool} {hs : Array Int} {t : SetTable} {order : Array Nat} (h : SetTable.laid mask fg mv led pl hs = some (t, order)) : Rise t.place ∧ t.led = led := by
  unfold SetTable.laid at h
  cases ho : SetTable.layClean mask hs with
  | none => rw [ho] at h; cases h
  | some owner =>
    rw [ho] at h
    cases h
    refine ⟨?_, rfl⟩
    unfold Rise
    simp only
    rw [List.map_filterMap]
    refine List.Pairwise.filterMap _ (R := (· < ·)) (fun a a' haa b hb b' hb' => ?_) List.pairwise_lt_range
    simp only [Option.map_map] at hb hb'
    cases h1 : owner.getD a none with
    | none => rw [h1] at hb; cases hb
    | some k => 
      rw [h1] at hb
      cases h2 : owner.getD a' none with
      | none => rw [h2] at hb'; cases hb'
      | some k' => rw [h2] at hb'; cases hb; cases hb'; exact haa
theorem relayAll_keeps (t : SetTable) (es : Array (Int × Value)) (n : Nat) : Rise (relayAll t es n).2.1.place ∧ (relayAll t es n).2.1.led = t.led := by
  unfold relayAll
  split
  · rename_i t' order hr
    dsimp only
    by_cases hc : (coversAll order es.size && t'.fits (Array.filterMap (fun x => es[x]?) order).size) = true
    · rw [if_pos hc]; exact laid_keeps hr
    · rw [if_neg hc]; exact standIn_keeps _ _
  · exact standIn_keeps _ _
theorem popped_keeps (t : SetTable) (i : Nat) (h : Rise t.place) : Rise (t.popped i).place ∧ (t.popped i).led = t.led := by
  unfold SetTable.popped SetTable.drop
  split
  · exact ⟨rise_erase h i, rfl⟩
  · exact ⟨h, rfl⟩
theorem eraseAt_size {α : Type} (xs : Array α) (i : Nat) (hi : i < xs.size) : (SetTable.eraseAt xs i).size = xs.size - 1 := by
  rw [← Array.length_toList, eraseAt_list]; simp; omega
theorem insertAt_size {α : Type} (xs : Array α) (i : Nat) (x : α) : (SetTable.insertAt xs i x).size = xs.size + 1 := by
  rw [← Array.length_toList, SetTable.toList_insertAt]; simp; omega
theorem popped_fits (t : SetTable) (n i : Nat) (h : t.fits n = true) (hi : i < n) : (t.popped i).fits (n - 1) = true := by
  simp only [SetTable.fits, Bool.and_eq_true, beq_iff_eq, decide_eq_true_eq] at h
  obtain ⟨h1, h2⟩ := h
  have hlt : i < t.place.size := by omega
  have e : t.drop i = { t with place := SetTable.eraseAt t.place i, dummies := SetTable.insertAt t.dummies (SetTable.below t.dummies t.place[i]) t.place[i] } := by
    unfold SetTable.drop
    rw [Array.getElem?_eq_getElem hlt]
  have h3 : (t.popped i).place.size = n - 1 := by
    unfold SetTable.popped; rw [e]; exact (eraseAt_size _ _ hlt).trans (by omega)
  have h4 : (t.popped i).dummies.size = t.dummies.size + 1 := by
    unfold SetTable.popped; rw [e]; exact insertAt_size _ _ _
  have h5 : (t.popped i).mask = t.mask := by unfold SetTable.popped; rw [e]
  have h6 : (t.popped i).fill ≤ (t.popped i).mask := by
    unfold SetTable.fill at h2 ⊢
    omega
  unfold SetTable.fits
  rw [Bool.and_eq_true]
  exact ⟨beq_iff_eq.mpr h3, decide_eq_true h6⟩
end Mine
end
section
open PySem PySem.W PyProof.Rows PySem.Calls PySem.Spec
set_option maxRecDepth 100000
namespace Mine
/-! a set of ints: its keys as a list, its table led and rising -/
def asI : Value → Int
  | .int i _ => i
  | _ => 0
def IEnt (e : Int × Value) : Prop := ∃ i u, e = (hashInt i, Value.int i u)
def keysOf (es : List (Int × Value)) : List Int := es.map fun e => asI e.2
def ByText (w : World) : Prop := w.params.followText "set-order" = true
def ISet (w : World) (o : Obj) (ks : List Int) : Prop :=
  o.ExactSet ∧ ∃ es ep t, o.data = .set es ep t ∧ (∀ e ∈ es.toList, IEnt e) ∧ keysOf es.toList = ks ∧ ks.Nodup ∧ t.fits es.size = true ∧ Rise t.place ∧ (¬ ByText w → t.led = true)

theorem keysOf_perm {l l' : List (Int × Value)} (h : l'.Perm l) : (keysOf l').Perm (keysOf l) := h.map _
theorem keysOf_length (l : List (Int × Value)) : (keysOf l).length = l.length := List.length_map ..
theorem mem_keysOf {l : List (Int × Value)} (hl : ∀ e ∈ l, IEnt e) (k : Int) : k ∈ keysOf l ↔ ∃ e ∈ l, Value.isInt k e.2 = true := by
  unfold keysOf
  rw [List.mem_map]
  constructor
  · rintro ⟨e, he, rfl⟩
    obtain ⟨i, u, rfl⟩ := hl e he
    exact ⟨_, he, by simp [asI, Value.isInt]⟩
  · rintro ⟨e, he, hk⟩
    obtain ⟨i, u, rfl⟩ := hl e he
    exact ⟨_, he, by simpa [asI, Value.isInt] using hk⟩
theorem elems_of {prog : Program} {w : World} {l : List (Int × Value)} (hl : ∀ e ∈ l, IEnt e) : ElemsOf (PySem.intKind prog w) l := fun e he => by
  obtain ⟨i, u, rfl⟩ := hl e he
  exact ⟨⟨i, intKind_is _ _ _ _, rfl⟩, rfl⟩
theorem ISet.objOf {prog : Program} {w : World} {o : Obj} {ks : List Int} (h : ISet w o ks) : Obj.SetObjOf (PySem.intKind prog w) o (fun k => decide (k ∈ ks)) ks.length := by
  obtain ⟨hx, es, ep, t, hd, he, hk, hn, hf, _⟩ := h
  refine ⟨hx, es, ep, t, hd, elems_of he, fun k => ?_, ?_, hf⟩
  · rw [decide_eq_true_eq, ← hk, mem_keysOf he]; rfl
  · rw [← hk, keysOf_length, Array.length_toList]
/-- a set as it is born in this world -/
def bornSet (w : World) : Obj := { cls := .type "set", dict := none, data := .set #[] 0 (.fresh 0 0 !w.params.followText "set-order") }
theorem iset_born (w : World) : ISet w (bornSet w) [] := by
  refine ⟨⟨rfl, rfl, rfl⟩, #[], 0, _, rfl, ?_, rfl, .nil, rfl, .nil, fun q => ?_⟩
  · simp
  · show (!w.params.followText "set-order") = true
    simpa [ByText] using q

/-! entries and a table that go together; what laying one more in, and laying all anew, make of them -/
structure Fine (w : World) (es : Array (Int × Value)) (t : SetTable) : Prop where
  ent : ∀ e ∈ es.toList, IEnt e
  one : (keysOf es.toList).Nodup
  fit : t.fits es.size = true
  up : Rise t.place
  led : ¬ ByText w → t.led = true
theorem Fine.lay {w : World} {es : Array (Int × Value)} {t : SetTable} {k : Int} {u : Tok} (f : Fine w es t) (hk : k ∉ keysOf es.toList) :
    Fine w (layNew t es (hashInt k) (.int k u)).1 (layNew t es (hashInt k) (.int k u)).2.1 ∧ (keysOf (layNew t es (hashInt k) (.int k u)).1.toList).Perm (k :: keysOf es.toList) := by
  have p := layNew_perm t es (hashInt k) (.int k u)
  have q : (keysOf (layNew t es (hashInt k) (.int k u)).1.toList).Perm (k :: keysOf es.toList) := by
    refine (keysOf_perm p).trans ?_
    simp only [keysOf, Array.toList_push, List.map_append, List.map_cons, List.map_nil, asI]
    exact List.perm_append_comm
  refine ⟨⟨fun e m => ?_, q.nodup_iff.mpr (List.nodup_cons.mpr ⟨hk, f.one⟩), layNew_fits .., (layNew_keeps _ _ _ _ f.up).1, fun b => (layNew_keeps _ _ _ _ f.up).2.trans (f.led b)⟩, q⟩
  have m' := p.mem_iff.mp m
  simp only [Array.toList_push, List.mem_append, List.mem_singleton] at m'
  exact m'.elim (f.ent e) fun z => ⟨k, u, z⟩
theorem Fine.relay {w : World} {es : Array (Int × Value)} {t : SetTable} (f : Fine w es t) (n : Nat) :
    Fine w (relayAll t es n).1 (relayAll t es n).2.1 ∧ (keysOf (relayAll t es n).1.toList).Perm (keysOf es.toList) :=
  have p := relayAll_perm t es n
  ⟨⟨fun e m => f.ent e (p.mem_iff.mp m), (keysOf_perm p).nodup_iff.mpr f.one, relayAll_fits .., (relayAll_keeps ..).1, fun b => (relayAll_keeps ..).2.trans (f.led b)⟩, keysOf_perm p⟩

section
variable {prog : Program} {w : World} {A : Around} {E : Value → Shared → Prop} {s s₀ : Shared} {a : Addr} {o : Obj} {ks : List Int} {k : Int} {u : Tok} {es es' : Array (Int × Value)} {t t' : SetTable}

theorem wpAny_choose {src : Source} {n : Nat} {Q : Nat → Shared → Prop} {M : Model} (hn : n ≠ 0) (h : Q (M.w.draws src (s.drawn.get src) % n) { s with drawn := s.drawn.bump src }) : wpAny M A (choose src n) Q E s := fun _ _ _ => ⟨hn, h⟩

theorem newSet_born {Q : Value → Shared → Prop} (h : Q (.ref s.heap.objs.size) { s with heap := s.heap.push (bornSet w) }) : wpAny (model prog w) A (newSet (.type "set")) Q E s := fun _ _ _ => h

/-- the set at a holds es and t in s; in all else s is s₀ -/
def Stands (a : Addr) (s₀ : Shared) (es : Array (Int × Value)) (t : SetTable) (s : Shared) : Prop :=
  (∃ h, s = { s₀ with heap := h } ∧ Heap.SameBut a s₀.heap h) ∧ ∃ o ep, s.heap.get? a = some o ∧ o.ExactSet ∧ o.data = .set es ep t
theorem Stands.put {Q : Unit → Shared → Prop} (S : Stands a s₀ es t s) (hz : es'.size < scanBound) (h : ∀ s', Stands a s₀ es' t' s' → Q () s') : wpAny (model prog w) A (storeSet a es' t') Q E s := by
  obtain ⟨⟨hp, rfl, same⟩, o, ep, ho, hx, hd⟩ := S
  refine wpAny_storeSet_of ho hd (h _ ⟨⟨_, rfl, same.trans (Heap.SameBut.update ..)⟩, Obj.putSet es' t' o, ep + 1, ?_⟩) (fits_of_scanBound hz)
  have e := putSet_of es' t' hd
  exact ⟨Heap.get?_update_self _ ho (by rw [e]; rfl), e ▸ hx, e ▸ rfl⟩
theorem Stands.iset (S : Stands a s₀ es t s) (f : Fine w es t) : ∃ h o', s = { s₀ with heap := h } ∧ Heap.SameBut a s₀.heap h ∧ h.get? a = some o' ∧ ISet w o' (keysOf es.toList) := by
  obtain ⟨⟨hp, rfl, same⟩, o, ep, ho, hx, hd⟩ := S
  exact ⟨hp, o, rfl, same, ho, hx, es, ep, t, hd, f.ent, rfl, f.one, f.fit, f.up, f.led⟩

/-- the search's word: the key is there, or it is not -/
theorem seek_int {R : ScanMet → Shared → Prop} {ep : Nat} (ho : s.heap.get? a = some o) (hd : o.data = .set es ep t) (f : Fine w es t) (yes : k ∈ keysOf es.toList → ∀ j, R (.found j) s) (no : k ∉ keysOf es.toList → R .absent s) :
    wpAny (model prog w) A (setScan a (.int k u) (hashInt k) true es) R E s := by
  refine wpAny_setScan_of (knd := PySem.intKind prog w) (intKind_is _ _ _ _) ho hd f.fit (elems_of f.ent) ?_
  have mem := mem_keysOf f.ent k
  split
  · rename_i e
    have ⟨hj, hp, _⟩ := List.findIdx?_eq_some_iff_getElem.mp e
    exact yes (mem.mpr ⟨_, List.getElem_mem hj, hp⟩) _
  · rename_i e
    refine no fun q => ?_
    obtain ⟨x, hx, hi⟩ := mem.mp q
    exact absurd hi (ne_true_of_eq_false (List.findIdx?_eq_none_iff.mp e x hx))

/-- what an add makes of the keys -/
def Added (ks : List Int) (k : Int) (ks' : List Int) : Prop := (k ∈ ks → ks' = ks) ∧ (k ∉ ks → ks'.Perm (k :: ks))

theorem iset_addHashed {Q : Bool → Shared → Prop} (ho : s.heap.get? a = some o) (hI : ISet w o ks) (hroom : ks.length + 1 < scanBound)
    (h : ∀ h' o' ks' b, Heap.SameBut a s.heap h' → h'.get? a = some o' → ISet w o' ks' → Added ks k ks' → Q b { s with heap := h' }) :
    wpAny (model prog w) A (setAddHashed a (.int k u) (hashInt k)) Q E s := by
  obtain ⟨hx, es, ep, t, hd, c1, rfl, c2, c3, c4, c5⟩ := id hI
  have f : Fine w es t := ⟨c1, c2, c3, c4, c5⟩
  have size_of : ∀ {x : Array (Int × Value)}, x.size = (keysOf x.toList).length := by intro x; simp [keysOf]
  have by_scan : byScan (.int k u) es = true := byScan_of (knd := PySem.intKind prog w) rfl (by rw [size_of]; omega) (elems_of c1)
  have here : Stands a s es t s := ⟨⟨s.heap, rfl, .refl ..⟩, o, ep, ho, hx, hd⟩
  have over : ∀ {es' t' s'}, k ∉ keysOf es.toList → Stands a s es' t' s' → Fine w es' t' → (keysOf es'.toList).Perm (k :: keysOf es.toList) → Q true s' := fun {es' t' s'} hk S f' p => by
    obtain ⟨h', o', rfl, same, g, i⟩ := S.iset f'
    exact h h' o' _ _ same g i ⟨fun q => absurd q hk, fun _ => p⟩
  unfold setAddHashed setAddHashedIn setAddByScan
  repeat (first | with_reducible refine wpAny_setState_of ho hd c3 ?_ | with_reducible refine seek_int ho hd f ?_ ?_ | wp_step)
  · rintro q -
    wp_walk
    exact h s.heap o _ _ (.refl ..) ho hI ⟨fun _ => rfl, fun n => absurd q n⟩
  · intro hk
    obtain ⟨f1, p1⟩ := f.lay (u := u) hk
    generalize layNew t es (hashInt k) (.int k u) = l at f1 p1 ⊢
    obtain ⟨es1, t1, dummy, gave⟩ := l
    dsimp only at f1 p1
    have z1 : es1.size < scanBound := by rw [size_of, p1.length_eq]; exact hroom
    obtain ⟨f2, p2⟩ := f1.relay (SetTable.grown es1.size)
    have put := fun {Q : Unit → Shared → Prop} {t' : SetTable} (q : ∀ s', Stands a s es1 t' s' → Q () s') => here.put (prog := prog) (w := w) (A := A) (E := E) z1 q
    clear h hI ho hx hd c1 c2 c3 c4 c5 f by_scan here
    cases gave <;> cases hp : t1.plain <;> repeat (first | with_reducible refine put ?_ | wp_step)
    all_goals
      intro s' S
      simp only [↓reduceIte] at S ⊢
      by_cases full : (!dummy && t1.tooFull) = true
      · rw [if_pos full]
        generalize relayAll t1 es1 (SetTable.grown es1.size) = l at f2 p2 ⊢
        obtain ⟨es2, t2, again⟩ := l
        have z2 : es2.size < scanBound := by rw [size_of, p2.length_eq, p1.length_eq]; exact hroom
        cases again <;> repeat (first | with_reducible refine S.put z2 ?_ | wp_step)
        all_goals exact fun s'' S' => wpAny_pure (wpAny_pure (over hk S' f2 (p2.trans p1)))
      · rw [if_neg full]
        exact wpAny_pure (wpAny_pure (over hk S f1 p1))

/-- what a pop takes -/
theorem Fine.pop {i : Nat} (f : Fine w es t) (hi : i < es.size) : Fine w (SetTable.eraseAt es i) (t.popped i) ∧
    ∃ k u pre post, es[i]? = some (hashInt k, Value.int k u) ∧ keysOf es.toList = pre ++ k :: post ∧ keysOf (SetTable.eraseAt es i).toList = pre ++ post := by
  obtain ⟨k, u, hek⟩ := f.ent es[i] (by simp)
  have hl : i < es.toList.length := by simpa using hi
  have hcut : es.toList = es.toList.take i ++ (hashInt k, Value.int k u) :: es.toList.drop (i + 1) := by
    rw [← hek, show es[i] = es.toList[i] from by simp, List.getElem_cons_drop hl, List.take_append_drop]
  have k1 : keysOf es.toList = keysOf (es.toList.take i) ++ k :: keysOf (es.toList.drop (i + 1)) := (congrArg keysOf hcut).trans (by simp [keysOf, asI])
  have k2 : keysOf (SetTable.eraseAt es i).toList = keysOf (es.toList.take i) ++ keysOf (es.toList.drop (i + 1)) := by rw [eraseAt_list]; simp [keysOf]
  refine ⟨⟨fun e m => ?_, ?_, ?_, (popped_keeps t i f.up).1, fun q => (popped_keeps t i f.up).2.trans (f.led q)⟩, k, u, _, _, (Array.getElem?_eq_getElem hi).trans (congrArg some hek), k1, k2⟩
  · rw [eraseAt_list] at m
    exact f.ent e ((List.mem_append.mp m).elim List.mem_of_mem_take List.mem_of_mem_drop)
  · have n := f.one
    rw [k1] at n
    rw [k2]
    exact n.sublist ((List.Sublist.refl _).append (List.sublist_cons_self _ _))
  · rw [eraseAt_size _ _ hi]; exact popped_fits t _ i f.fit hi
theorem iset_pop {Q : Option Value → Shared → Prop} (ho : s.heap.get? a = some o) (hI : ISet w o ks) (hne : ks ≠ []) (hz : ks.length < scanBound)
    (h : ∀ h' o' dr pre k u post, Heap.SameBut a s.heap h' → h'.get? a = some o' → ks = pre ++ k :: post → ISet w o' (pre ++ post) → Q (some (.int k u)) { s with heap := h', drawn := dr }) :
    wpAny (model prog w) A (setPop a) Q E s := by
  obtain ⟨hx, es, ep, t, hd, c1, rfl, c2, c3, c4, c5⟩ := id hI
  have f : Fine w es t := ⟨c1, c2, c3, c4, c5⟩
  have hsz : es.size = (keysOf es.toList).length := by simp [keysOf]
  have hpos : 0 < es.size := by rw [hsz]; exact List.length_pos_iff.mpr hne
  have hend : ∀ (i : Nat) (dr : Drawn), i < es.size → ∃ k u, es[i]? = some (hashInt k, Value.int k u) ∧
      wpAny (model prog w) A (storeSet a (SetTable.eraseAt es i) (t.popped i)) (fun _ s' => Q (some (.int k u)) s') E { s with drawn := dr } := by
    intro i dr hi
    obtain ⟨f', k, u, pre, post, he, k1, k2⟩ := f.pop hi
    refine ⟨k, u, he, Stands.put (s₀ := { s with drawn := dr }) ⟨⟨s.heap, rfl, .refl ..⟩, o, ep, ho, hx, hd⟩ (by rw [eraseAt_size _ _ hi]; omega) fun s' S => ?_⟩
    obtain ⟨h', o', rfl, same, g, j⟩ := S.iset f'
    exact h h' o' dr pre k u post same g k1 (k2 ▸ j)
  have hpp : ∃ i, t.popPlace = some i ∧ i < es.size := by
    have hpl : t.place.size = es.size := by
      simp only [SetTable.fits, Bool.and_eq_true, beq_iff_eq] at c3; exact c3.1
    unfold SetTable.popPlace
    rw [if_neg (by simp; intro q; rw [q] at hpl; simp at hpl; omega)]
    refine ⟨_, rfl, ?_⟩
    split <;> omega
  obtain ⟨i, hi1, hi2⟩ := hpp
  unfold setPop
  refine wpAny_bind (wpAny_setState_of ho hd c3 ?_)
  simp only [hi1]
  unfold setsByText
  wp_walk using wpAny_askSetting
  split
  · refine wpAny_bind (wpAny_choose (by omega) ?_)
    obtain ⟨k, u, e, hw⟩ := hend _ (s.drawn.bump .order) (Nat.mod_lt (w.draws .order (s.drawn.get .order)) hpos)
    rw [show es[(model prog w).w.draws Source.order (s.drawn.get Source.order) % es.size]? = some (hashInt k, Value.int k u) from e]
    exact wpAny_bind (wpAny_mono hw (fun _ _ q => wpAny_pure q) fun _ _ q => q)
  · rename_i hc
    have led := c5 fun q => hc (by rw [Bool.or_eq_true]; exact .inl q)
    obtain ⟨k, u, e, hw⟩ := hend i s.drawn hi2
    wp_walk
    rw [e]
    exact wpAny_bind (wpAny_mono hw (fun _ _ q => wpAny_pure q) fun _ _ q => q)
end
end Mine
end
section
open PySem PySem.W PyProof.Rows PySem.Calls PySem.Spec
set_option maxRecDepth 100000
namespace Mine
section
variable {prog : Program} {w : World} {A : Around} {E : Value → Shared → Prop} {s : Shared} {a : Addr}
theorem ran_value {R : Result → Shared → Prop} {Q : Value → Shared → Prop} {c : Code} {M : Model} (h : codeAny M A c (wants Q E) s) (hv : ∀ v s', Q v s' → R (.ok (.ret v)) s') (he : ∀ e s', E e s' → R (.error e) s') : codeAny M A c R s :=
  codeAny_mono h fun r s' x => match r, x with
    | .ok (.ret v), x => hv v s' x
    | .error e, x => he e s' x
/-- «set()»: what __new__ gives, what __init__ does with it, and the call that joins them -/
theorem set_new_born : codeAny (model prog w) A (.call (.builtin "set.__new__") ⟨[.type "set"], []⟩) (wants (fun v s' => v = .ref s.heap.objs.size ∧ s' = { s with heap := s.heap.push (bornSet w) }) E) s :=
  codeAny_call_builtin F.plain_set_new F.entry_set_new (wpAny_of_eq F.newCall_set_0 (by
    have own := sub_set_self
    unfold Builtin.«set.__new__»
    wp_walk using newSet_born
    exact ⟨rfl, rfl⟩))
theorem set_init_born {Q : Value → Shared → Prop} (hs : s.heap.get? a = some (bornSet w)) (h : Q .none s) : codeAny (model prog w) A (.call (.builtin "set.__init__") ⟨[.ref a], []⟩) (wants Q E) s :=
  codeAny_call_builtin F.called_set.init.plain F.entry_set_init (check_set_init ⟨_, hs, rfl⟩ (by
    have hd : (bornSet w).data = .set #[] 0 (.fresh 0 0 !w.params.followText "set-order") := rfl
    unfold Builtin.«set.__init__»
    wp_walk
    exact h))
theorem call_set_born {Q : Value → Shared → Prop} (h : Q (.ref s.heap.objs.size) { s with heap := s.heap.push (bornSet w) }) : wpAny (model prog w) A (call (.type "set") []) Q E s := by
  have hs : (s.heap.push (bornSet w)).get? s.heap.objs.size = some (bornSet w) := Heap.get?_push_size _ rfl
  have ty : Shared.TypeIs { s with heap := s.heap.push (bornSet w) } (.ref s.heap.objs.size) "set" := ⟨_, hs, rfl⟩
  obtain ⟨⟨f1, f2, ⟨_, _, f3⟩, f4, f5, f6, slot⟩, f7⟩ := And.intro F.called_set F.typeCall_set_0
  have f8 := slot.lookup
  have f9 := slot.bind (.ref s.heap.objs.size)
  refine wpAny_call (codeAny_of_tree (wpAny_pure ⟨Code.quiet_builtin _ (by decide +kernel), codeAny_builtin F.entry_type_call ?_⟩))
  rw [Around.under_plain (weight_type_call_type "set" [] []) rfl]
  wp_walk
  refine ran_value set_new_born ?_ fun _ _ x => x
  rintro _ _ ⟨rfl, rfl⟩
  wp_walk
  refine ran_value (set_init_born (Q := fun r s' => r = .none ∧ Q (.ref s.heap.objs.size) s') hs ⟨rfl, h⟩) ?_ fun _ _ x => x
  rintro _ s' ⟨rfl, x⟩
  wp_walk
  exact x
end
section
variable {prog : Program} {w : World} {A : Around} {E : Value → Shared → Prop} {s : Shared} {h₀ : Heap} {L sa : Addr} {m : Str → Option Value} {news : List (Addr × Obj)} {g : Obj → List (Addr × Obj)} {so : Obj} {ks : List Int} {k : Int} {u : Tok}
theorem iset_new_K {Q : Value → Shared → Prop} (F : Fr h₀ L s.heap m) (N : News h₀ L s.heap news)
    (h : ∀ D h' o, Fr h₀ L h' m → News h₀ L h' ((D, o) :: news) → (∀ p ∈ news, p.1 < D) → ISet w o [] → Q (.ref D) { s with heap := h' }) :
    wpAny (model prog w) A (call (.type "set") []) Q E s :=
  call_set_born (h _ _ _ (F.push _) (N.push F _) (fun p hp => Heap.lt_size (N p hp).1) (iset_born w))
theorem iset_addK {Q : Bool → Shared → Prop} (F : Fr h₀ L s.heap m) (N : News h₀ L s.heap news) (U : UpdF sa so news g) (hI : ISet w so ks) (hroom : ks.length + 1 < scanBound)
    (h : ∀ h' so' ks' b, Fr h₀ L h' m → News h₀ L h' (g so') → ISet w so' ks' → Added ks k ks' → Q b { s with heap := h', toks := s.toks + 1 }) :
    wpAny (model prog w) A (setAdd sa (.int k u)) Q E s := by
  obtain ⟨pre, post, rfl, back, n1, n2⟩ := U.split
  have ⟨here, off, old⟩ := N (sa, so) (by simp)
  have put : wpAny (model prog w) A (setAddHashed sa (.int k u) (hashInt k)) Q E { s with toks := s.toks + 1 } :=
    iset_addHashed here hI hroom fun h' so' ks' b same at' i ad => h h' so' ks' b (F.change same off old) (back so' ▸ N.setIn n1 n2 same at') i ad
  exact wpAny_holding (wpAny_bind ((PySem.intKind prog w).pyHash (intKind_is _ _ k u) put))
theorem iset_call_add {Q : Value → Shared → Prop} (F : Fr h₀ L s.heap m) (N : News h₀ L s.heap news) (U : UpdF sa so news g) (hI : ISet w so ks) (hroom : ks.length + 1 < scanBound)
    (h : ∀ h' so' ks', Fr h₀ L h' m → News h₀ L h' (g so') → ISet w so' ks' → Added ks k ks' → Q .none { s with heap := h', toks := s.toks + 1 }) :
    wpAny (model prog w) A (call (.builtin "set.add") [.ref sa, .int k u]) Q E s := by
  have mem : (sa, so) ∈ news := by
    obtain ⟨pre, post, e, _⟩ := U.split
    simp [e]
  refine wpAny_call_entry PySem.F.slot_set_add ⟨so, (N _ mem).1, hI.1.1⟩ PySem.F.entry_set_add ?_ (PySem.F.args_set_add_2 _ _)
  unfold Builtin.«set.add»
  wp_walk using iset_addK F N U hI hroom
  exact fun h' so' ks' b F' N' i ad => wpAny_pure ⟨_, rfl, h h' so' ks' F' N' i ad⟩
theorem iset_method {pl : Sem Bool} {Q : Value × List Value → Shared → Prop} (N : News h₀ L s.heap news) (U : UpdF sa so news g) (hI : ISet w so ks) (hb : ks.length < scanBound) (h : Q (.builtin "set.add", [.ref sa]) s) :
    wpAny (model prog w) A (getMethod (.ref sa) "add" pl) Q E s := kse_method (knd := PySem.intKind prog w) N U hI.objOf hb h
theorem iset_pop_method {pl : Sem Bool} {Q : Value × List Value → Shared → Prop} (N : News h₀ L s.heap news) (U : UpdF sa so news g) (hI : ISet w so ks) (hb : ks.length < scanBound) (h : Q (.builtin "set.pop", [.ref sa]) s) :
    wpAny (model prog w) A (getMethod (.ref sa) "pop" pl) Q E s := by
  obtain ⟨pre, post, e, _⟩ := U.split
  have hm := N (sa, so) (by rw [e]; exact List.mem_append_right _ (.head _))
  have hS := (hI.objOf (prog := prog)).setOf hm.1 hb
  exact getMethod_builtin hS.typeIs PySem.F.plainAttrs_set PySem.F.slot_set_pop PySem.F.type_set_pop hS.noDict h
theorem iset_call_pop {Q : Value → Shared → Prop} (F : Fr h₀ L s.heap m) (N : News h₀ L s.heap news) (U : UpdF sa so news g) (hI : ISet w so ks) (hne : ks ≠ []) (hz : ks.length < scanBound)
    (h : ∀ h' so' dr pre k u post, Fr h₀ L h' m → News h₀ L h' (g so') → ks = pre ++ k :: post → ISet w so' (pre ++ post) → Q (.int k u) { s with heap := h', drawn := dr }) :
    wpAny (model prog w) A (call (.builtin "set.pop") [.ref sa]) Q E s := by
  obtain ⟨pre, post, rfl, back, n1, n2⟩ := U.split
  have ⟨here, off, old⟩ := N (sa, so) (by simp)
  refine wpAny_call_entry PySem.F.slot_set_pop ⟨so, here, hI.1.1⟩ PySem.F.entry_set_pop ?_ (PySem.F.args_set_pop_1 _)
  unfold Builtin.«set.pop»
  wp_walk using iset_pop here hI hne hz
  exact fun h' o' dr pre' k u post' same at' e i => wpAny_pure ⟨_, rfl, h h' o' dr pre' k u post' (F.change same off old) (back o' ▸ N.setIn n1 n2 same at') e i⟩
end
end Mine
end
section
open PySem PySem.W PyProof.Rows PySem.Calls PySem.Spec
set_option maxRecDepth 100000
namespace Mine
section
variable {prog : Program} {w : World} {A : Around} {E : Value → Shared → Prop} {s : Shared} {h₀ : Heap} {L sa : Addr} {m : Str → Option Value} {news : List (Addr × Obj)} {g : Obj → List (Addr × Obj)} {so : Obj} {ks : List Int} {k : Int} {u : Tok}
theorem iset_truthy {Q : Bool → Shared → Prop} (N : News h₀ L s.heap news) (hmem : (sa, so) ∈ news) (hI : ISet w so ks) (hz : ks.length < scanBound) (h : Q (!ks.isEmpty) { s with toks := s.toks + 1 + 1 }) :
    wpAny (model prog w) A (truthy (.ref sa)) Q E s := by
  obtain ⟨hx, es, ep, t, hd, _, rfl, _, hf, _⟩ := id hI
  have ty : s.TypeIs (.ref sa) "set" := ⟨so, (N _ hmem).1, hx.1⟩
  have bound : scanBound = 4096 := rfl
  have size : (keysOf es.toList).length = es.size := by simp [keysOf]
  have word : ((es.size : Int) != 0) = !(keysOf es.toList).isEmpty := by
    rw [← size]
    cases keysOf es.toList with
    | nil => rfl
    | cons x r => exact bne_iff_ne.mpr (by simp; omega)
  have len := wpAny_len_body_set (prog := prog) (w := w) (A := A.in1) (E := E) (Q := fun r s' => ∃ u, r = .int es.size u ∧ Q (!(keysOf es.toList).isEmpty) s') (N _ hmem).1 hx hd hf (by omega) ⟨_, rfl, h⟩
  unfold truthy
  wp_walk using wpAny_callSpecial?_none (name := Str.ofString "__bool__") ty noBool_set, wpAny_specialOf (name := Str.ofString "__len__") ty F.slot_set_len.lookup
  refine codeAny_builtin entry_len ?_
  rw [Around.under_plainId plain_len _]
  refine wpAny_mono len ?_ fun _ _ x => x
  rintro _ s' ⟨_, rfl, u, rfl, x⟩
  exact wpAny_pure (word ▸ x)
theorem iset_in {Q : Value → Shared → Prop} (N : News h₀ L s.heap news) (U : UpdF sa so news g) (hI : ISet w so ks) (hb : ks.length < scanBound) (h : Q (.bool (decide (k ∈ ks))) { s with toks := s.toks + 1 }) :
    wpAny (model prog w) A (compareOp .In (.int k u) (.ref sa)) Q E s := kse_in (knd := PySem.intKind prog w) (k := k) N U hI.objOf hb (intKind_is _ _ _ _) rfl h

theorem iset_disp {K : Frag} {e : PySem.Expr} {pos : Pos} {env : Env} {Q : Value → Shared → Prop} (F : Fr h₀ L s.heap m) (N : News h₀ L s.heap news) (X : K.In h₀) (hc : kdsCode K env.code = true) (hp : kdsPlain e = true)
    (h : ∀ D h' o, Fr h₀ L h' m → News h₀ L h' ((D, o) :: news) → (∀ p ∈ news, p.1 < D) → ISet w o [] →
      wpAny (model prog w) A (eval e env) (fun v s' => wpAny (model prog w) A (setAdd D v) (fun _ s'' => Q (.ref D) s'') E s') E { s with heap := h' }) :
    wpAny (model prog w) A (eval (.Set [e] 0 pos) env) Q E s := by
  rw [arm_eval_Set]
  refine wpAny_bind (wpAny_standAt ?_)
  refine wpAny_bind (kds_main (X.keeps F.keep) hc fun b => ?_)
  have one : starEach [e] env = [(false, eval e env)] := (kds_star [e] (by simp [hp])).trans (by rw [arm_evalEach_cons]; rfl)
  rw [one]
  unfold setDisplay
  wp_walk using newSet_born
  refine wpAny_mono (h _ _ _ (F.push _) (N.push F _) (fun p hp => Heap.lt_size (N p hp).1) (iset_born w)) (fun v s' hv => ?_) fun _ _ x => x
  wp_walk using wpAny_mono hv
  · intro _ s'' x
    wp_walk
    exact x
  · exact fun _ _ x => x
end
end Mine
end
section
open PySem PySem.W PyProof.Rows PySem.Calls PySem.Spec
set_option maxRecDepth 100000
namespace Mine
theorem slot_seti_next : Slot "set_iterator" "__next__" "set_iterator.__next__" := by
  refine .of (owner := "set_iterator") (n := "__next__") ?_ ?_ ?_ ?_ (.inl ?_) ?_
  case refine_1 => rw [typeLookup_type, builtinLookup_eq_fast]; kernel_rfl
  all_goals first | decide +kernel | (rw [isSubtype_type]; kernel_rfl)
theorem entry_seti_next : entryFor table "set_iterator.__next__" = some Builtin.«set_iterator.__next__» := entryFor_of_tree (by kernel_rfl)
theorem args_seti_next (v : Value) : argsOk "set_iterator.__next__" ⟨[v], []⟩ := by unfold argsOk; kernel_rfl
theorem entry_set_iter : entryFor table "set.__iter__" = some Builtin.«frozenset.__iter__» :=
  entryFor_alias (id' := "frozenset.__iter__") (by rw [fastTable_eq_tree]; kernel_rfl) rfl (by decide +kernel) (by rw [fastTable_eq_tree]; kernel_rfl)

/-! the order in which a set hands out its entries -/
theorem perm_eraseIdx {α : Type} {l : List α} {i : Nat} (h : i < l.length) : (l[i] :: l.eraseIdx i).Perm l := by
  rw [List.eraseIdx_eq_take_drop_succ]
  have e : l.take i ++ l[i] :: l.drop (i + 1) = l := by rw [List.getElem_cons_drop, List.take_append_drop]
  exact List.perm_middle.symm.trans (.of_eq e)
theorem pickOrder_perm {α : Type} (f : Nat → Nat) (xs : Array α) : (pickOrder f xs).toList.Perm xs.toList := by
  have key : ∀ (fuel k : Nat) (left : List α) (out : Array α), left.length = fuel → (pickOrder.go f fuel k left out).toList.Perm (out.toList ++ left) := by
    intro fuel
    induction fuel with
    | zero =>
      intro k left out h
      rw [List.length_eq_zero_iff.mp h, List.append_nil]
      exact .refl _
    | succ n ih =>
      intro k left out h
      unfold pickOrder.go
      have hlt : f k % left.length < left.length := Nat.mod_lt _ (by omega)
      rw [List.getElem?_eq_getElem hlt]
      dsimp only
      refine (ih (k + 1) _ _ (by rw [List.length_eraseIdx_of_lt hlt]; omega)).trans ?_
      rw [Array.toList_push, List.append_assoc]
      exact List.Perm.append_left _ (perm_eraseIdx hlt)
  have := key xs.size 0 xs.toList #[] (Array.length_toList)
  simpa [pickOrder] using this

section
variable {prog : Program} {w : World} {A : Around} {E : Value → Shared → Prop}
theorem wp_drawOrder {α : Type} : ∀ (n : Nat) (xs : List α) (s : Shared) (Q : List α → Shared → Prop), xs.length = n → (∀ ys dr, ys.Perm xs → Q ys { s with drawn := dr }) → wpAny (model prog w) A (drawOrder n xs) Q E s := by
  intro n
  induction n with
  | zero =>
    intro xs s Q h hQ
    rw [List.length_eq_zero_iff.mp h] at hQ ⊢
    exact wpAny_pure (by simpa using hQ [] s.drawn (.refl _))
  | succ n ih =>
    intro xs s Q h hQ
    cases xs with
    | nil => cases h
    | cons x r =>
      unfold drawOrder
      refine wpAny_bind (wpAny_choose (by simp) ?_)
      have hlt : (model prog w).w.draws Source.order (s.drawn.get Source.order) % (x :: r).length < (x :: r).length := Nat.mod_lt _ (by simp)
      rw [List.getElem?_eq_getElem hlt]
      dsimp only
      refine wpAny_bind (ih _ _ _ (by rw [List.length_eraseIdx_of_lt hlt]; omega) fun ys dr hp => wpAny_pure ?_)
      exact hQ _ dr ((hp.cons _).trans (perm_eraseIdx hlt))

/-! the iterator's object -/
def SetIt (h : Heap) (I a : Addr) (first : Value) (i n ep : Nat) : Prop := ∃ o, h.get? I = some o ∧ o.cls = .type "set_iterator" ∧ o.data = .fields #[first, rawInt i, .ref a, rawInt n, rawInt ep]
theorem SetIt.typeIs {s : Shared} {I a : Addr} {first : Value} {i n ep : Nat} (x : SetIt s.heap I a first i n ep) : s.TypeIs (.ref I) "set_iterator" := let ⟨o, ho, hc, _⟩ := x; ⟨o, ho, hc⟩
theorem SetIt.at {h h' : Heap} {I a : Addr} {first : Value} {i n ep : Nat} (x : SetIt h I a first i n ep) (e : ∀ o, h.get? I = some o → h'.get? I = some o) : SetIt h' I a first i n ep := let ⟨o, ho, r⟩ := x; ⟨o, e _ ho, r⟩
variable {s : Shared} {I a : Addr} {o : Obj} {es : Array (Int × Value)} {t : SetTable} {n ep : Nat}

/-- a bare StopIteration -/
theorem stop_raised {α : Type} {M : Model} {Q : α → Shared → Prop} (hh : A.handled = none) (h : ∀ e h', (∀ b ob, s.heap.get? b = some ob → h'.get? b = some ob) → Shared.TypeIs { s with heap := h' } e "StopIteration" → E e { s with heap := h' }) :
    wpAny M A (newExc (.type "StopIteration") [] >>= raiseNew) Q E s := by
  unfold newExc raiseNew
  wp_walk
  exact h _ _ (fun b ob e => Heap.get?_push_of_some _ (Heap.get?_push_of_some _ e)) ⟨_, Heap.get?_push_size _ rfl, rfl⟩
/-- an iterator's own __next__, called as such, and by pyNext -/
theorem special_own {T id : String} {B : Builtin} {Q : Option Value → Shared → Prop} (ty : s.TypeIs (.ref I) T) (slot : Slot T "__next__" id) (entry : entryFor table id = some B) (args : argsOk id ⟨[.ref I], []⟩)
    (body : wpAny (model prog w) A.in1 (B ⟨[.ref I], []⟩) (fun fin s' => ∃ v, fin = .done (.ret v) ∧ Q (some v) s') E s) : wpAny (model prog w) A (callSpecial? (.ref I) (Str.ofString "__next__")) Q E s :=
  wpAny_callSpecial?_slot (name := Str.ofString "__next__") ty slot (wpAny_call_entry slot ty entry body args)
theorem next_own {T id : String} {B : Builtin} {Q : Option Value → Shared → Prop} (ty : s.TypeIs (.ref I) T) (slot : Slot T "__next__" id) (entry : entryFor table id = some B) (args : argsOk id ⟨[.ref I], []⟩)
    (body : wpAny (model prog w) A.in1 (B ⟨[.ref I], []⟩) (fun fin s' => ∃ v, fin = .done (.ret v) ∧ Q (some v) s') (fun e s' => s'.TypeIs e "StopIteration" ∧ Q none s') s) : wpAny (model prog w) A (pyNext (.ref I)) Q E s := by
  unfold pyNext
  refine wpAny_bind (wpAny_attempt (special_own ty slot entry args (wpAny_mono body ?_ ?_)))
  · rintro _ s' ⟨v, rfl, q⟩
    exact ⟨v, rfl, wpAny_pure q⟩
  · rintro e s' ⟨t, q⟩
    exact wpAny_bind (wpAny_isInstance t isSubtype_stop (wpAny_pure q))
theorem next_seti {Q : Option Value → Shared → Prop} (ty : s.TypeIs (.ref I) "set_iterator")
    (body : wpAny (model prog w) A.in1 (Builtin.«set_iterator.__next__» ⟨[.ref I], []⟩) (fun fin s' => ∃ v, fin = .done (.ret v) ∧ Q (some v) s') (fun e s' => s'.TypeIs e "StopIteration" ∧ Q none s') s) :
    wpAny (model prog w) A (pyNext (.ref I)) Q E s := next_own ty slot_seti_next entry_seti_next (args_seti_next _) body

/-- a field of an object is written -/
theorem field_put {M : Model} {Q : Unit → Shared → Prop} {oi : Obj} {vs : Array Value} {k : Nat} {v : Value} (ho : s.heap.get? I = some oi) (hd : oi.data = .fields vs) (hk : k < vs.size)
    (h : ∀ h' o', h'.get? I = some o' → o'.cls = oi.cls → o'.data = .fields (vs.setIfInBounds k v) → Heap.SameBut I s.heap h' → Q () { s with heap := h' }) : wpAny M A (setField (.ref I) k v) Q E s :=
  have d := Obj.data_mapFields hd (·.setIfInBounds k v)
  wpAny_setField ho hd hk (h _ _ (Heap.get?_update_self _ ho (Obj.isFreed_of_fields d)) (Obj.cls_mapFields ..) d (Heap.SameBut.update ..))
/-- an item, the place told by a slot (or by the text's own order) -/
theorem seti_item {slot slot' i : Nat} {x : Value} {Q : Option Value → Shared → Prop} (hit : SetIt s.heap I a (rawInt slot) i n ep) (ho : s.heap.get? a = some o) (hd : o.data = .set es ep t) (hf : t.fits es.size = true) (hn : es.size = n)
    (hnext : ∀ (R : Option (Value × Nat) → Shared → Prop) (E' : Value → Shared → Prop), R (some (x, slot')) s → wpAny (model prog w) A.in1 (setNext a slot i ep) R E' s)
    (hQ : ∀ h', SetIt h' I a (rawInt slot') (i + 1) n ep → Heap.SameBut I s.heap h' → Q (some x) { s with heap := h' }) : wpAny (model prog w) A (pyNext (.ref I)) Q E s := by
  refine next_seti hit.typeIs ?_
  obtain ⟨oi, hoi, hc, hdi⟩ := hit
  change ∀ R E', _ → wpAny (model prog w) A.in1 (setNext a (slot : Int).toNat (i : Int).toNat (ep : Int).toNat) R E' s at hnext
  unfold Builtin.«set_iterator.__next__»
  wp_walk using wpAny_fieldsOf hoi hdi, wpAny_setEntries_of ho hd hf, hnext, field_put hoi hdi
  · simp
  · exact fun h1 o1 g1 c1 d1 s1 => wpAny_bind (field_put g1 d1 (by simp) fun h2 o2 g2 c2 d2 s2 => wpAny_pure ⟨x, rfl, hQ h2 ⟨o2, g2, c2.trans (c1.trans hc), d2⟩ (s1.trans s2)⟩)
/-- the end -/
theorem seti_end {slot i : Nat} {Q : Option Value → Shared → Prop} (hh : A.handled = none) (hit : SetIt s.heap I a (rawInt slot) i n ep) (ho : s.heap.get? a = some o) (hd : o.data = .set es ep t) (hf : t.fits es.size = true) (hn : es.size = n)
    (hnext : ∀ (R : Option (Value × Nat) → Shared → Prop) (E' : Value → Shared → Prop), R none s → wpAny (model prog w) A.in1 (setNext a slot i ep) R E' s)
    (hQ : ∀ h', Heap.ExtBut I s.heap h' → Q none { s with heap := h' }) : wpAny (model prog w) A (pyNext (.ref I)) Q E s := by
  refine next_seti hit.typeIs ?_
  obtain ⟨oi, hoi, hc, hdi⟩ := hit
  change ∀ R E', _ → wpAny (model prog w) A.in1 (setNext a (slot : Int).toNat (i : Int).toNat (ep : Int).toNat) R E' s at hnext
  unfold Builtin.«set_iterator.__next__»
  wp_walk using wpAny_fieldsOf hoi hdi, wpAny_setEntries_of ho hd hf, hnext, field_put hoi hdi
  · simp
  · exact fun h1 o1 _ _ _ s1 => stop_raised hh fun e h' k ty => ⟨ty, hQ h' fun b ob nb g => k b ob (s1.extBut b ob nb g)⟩
/-- an item, the places drawn beforehand -/
theorem seti_itemD {tp : Addr} {ot : Obj} {i pl : Nat} {places : Array Value} {np : Nat} {u : Tok} {hs : Int} {x : Value} {Q : Option Value → Shared → Prop} (hit : SetIt s.heap I a (.ref tp) i n ep) (ho : s.heap.get? a = some o) (hd : o.data = .set es ep t) (hf : t.fits es.size = true) (hn : es.size = n)
    (htp : s.heap.get? tp = some ot) (hdt : ot.data = .seq places np) (hp : places[i]? = some (.int (pl : Int) u)) (hx : es[pl]? = some (hs, x))
    (hQ : ∀ h', SetIt h' I a (.ref tp) (i + 1) n ep → Heap.SameBut I s.heap h' → Q (some x) { s with heap := h' }) : wpAny (model prog w) A (pyNext (.ref I)) Q E s := by
  refine next_seti hit.typeIs ?_
  obtain ⟨oi, hoi, hc, hdi⟩ := hit
  change places[(i : Int).toNat]? = _ at hp
  change es[(pl : Int).toNat]? = _ at hx
  unfold Builtin.«set_iterator.__next__»
  wp_walk using wpAny_fieldsOf hoi hdi, wpAny_setEntries_of ho hd hf, wpAny_seqItems htp hdt
  rw [hp]
  wp_walk using wpAny_setState_of ho hd hf
  rw [hx]
  wp_walk using field_put hoi hdi
  · simp
  · exact fun h1 o1 g1 c1 d1 s1 => wpAny_pure ⟨x, rfl, hQ h1 ⟨o1, g1, c1.trans hc, d1⟩ s1⟩
theorem seti_endD {tp : Addr} {ot : Obj} {i : Nat} {places : Array Value} {np : Nat} {Q : Option Value → Shared → Prop} (hh : A.handled = none) (hit : SetIt s.heap I a (.ref tp) i n ep) (ho : s.heap.get? a = some o) (hd : o.data = .set es ep t) (hf : t.fits es.size = true) (hn : es.size = n)
    (htp : s.heap.get? tp = some ot) (hdt : ot.data = .seq places np) (hp : places[i]? = none)
    (hQ : ∀ h', Heap.ExtBut I s.heap h' → Q none { s with heap := h' }) : wpAny (model prog w) A (pyNext (.ref I)) Q E s := by
  refine next_seti hit.typeIs ?_
  obtain ⟨oi, hoi, hc, hdi⟩ := hit
  change places[(i : Int).toNat]? = _ at hp
  unfold Builtin.«set_iterator.__next__»
  wp_walk using wpAny_fieldsOf hoi hdi, wpAny_setEntries_of ho hd hf, wpAny_seqItems htp hdt
  rw [hp]
  wp_walk using field_put hoi hdi
  · simp
  · exact fun h1 o1 g1 _ d1 s1 => wpAny_bind (field_put g1 d1 (by simp) fun h2 o2 _ _ _ s2 => stop_raised hh fun e h' k ty => ⟨ty, hQ h' fun b ob nb g => k b ob ((s1.trans s2).extBut b ob nb g)⟩)

theorem asks_text {Q : Bool → Shared → Prop} (h : Q (w.params.followText "set-order") s) : wpAny (model prog w) A setsByText Q E s := fun _ _ _ => h
/-! setNext: by the text's own order, and by the table -/
theorem setNext_T {slot i : Nat} {R : Option (Value × Nat) → Shared → Prop} (hb : ByText w) (ho : s.heap.get? a = some o) (hd : o.data = .set es ep t) (hf : t.fits es.size = true)
    (h : R (((pickOrder (w.params.setOrder a ep) es)[i]?).map fun e => (e.2, slot)) s) : wpAny (model prog w) A (setNext a slot i ep) R E s := by
  have text : w.params.followText "set-order" = true := hb
  unfold setNext
  wp_walk using wpAny_setState_of ho hd hf, asks_text
  exact wpAny_askSetting (wpAny_pure (wpAny_pure h))
theorem setNext_L {slot i : Nat} {R : Option (Value × Nat) → Shared → Prop} (hb : ¬ ByText w) (hnd : (!t.plain && decide (es.size > 1)) = false) (hl : t.led = true) (ho : s.heap.get? a = some o) (hd : o.data = .set es ep t) (hf : t.fits es.size = true)
    {b : Nat} (place : SetTable.below t.place slot = b) (there : ∀ e j, es[b]? = some e → t.place[b]? = some j → R (some (e.2, j + 1)) s) (gone : es[b]? = none → R none s) (same : t.place.size = es.size) : wpAny (model prog w) A (setNext a slot i ep) R E s := by
  have text : w.params.followText "set-order" = false := Bool.eq_false_iff.mpr hb
  unfold setNext
  wp_walk using wpAny_setState_of ho hd hf, asks_text
  refine wpAny_ite_split (fun q => Bool.noConfusion (hnd.symm.trans q)) fun _ => ?_
  wp_walk
  rw [place]
  rcases Nat.lt_or_ge b es.size with lt | ge
  · have e1 : es[b]? = some es[b] := Array.getElem?_eq_getElem lt
    have e2 : t.place[b]? = some (t.place[b]'(same ▸ lt)) := Array.getElem?_eq_getElem (same ▸ lt)
    have := there _ _ e1 e2
    rw [e1, e2]
    exact this
  · have e1 : es[b]? = none := Array.getElem?_eq_none ge
    have := gone e1
    rw [e1]
    exact this
end
end Mine
end
section
open PySem PySem.W PyProof.Rows PySem.Calls PySem.Spec
set_option maxRecDepth 100000
namespace Mine
theorem slot_seti_iter : Slot "set_iterator" "__iter__" "set_iterator.__iter__" := by
  refine .of (owner := "set_iterator") (n := "__iter__") ?_ ?_ ?_ ?_ (.inl ?_) ?_
  case refine_1 => rw [typeLookup_type, builtinLookup_eq_fast]; kernel_rfl
  all_goals first | decide +kernel | (rw [isSubtype_type]; kernel_rfl)
theorem args_seti_iter (v : Value) : argsOk "set_iterator.__iter__" ⟨[v], []⟩ := by unfold argsOk; kernel_rfl
theorem entry_seti_iter : entryFor table "set_iterator.__iter__" = some Builtin.«dict_keyiterator.__iter__» :=
  entryFor_alias (id' := "dict_keyiterator.__iter__") (by rw [fastTable_eq_tree]; kernel_rfl) rfl (by decide +kernel) (by rw [fastTable_eq_tree]; kernel_rfl)
section
variable {prog : Program} {w : World} {A : Around} {E : Value → Shared → Prop} {s : Shared} {I a : Addr} {o : Obj} {es : Array (Int × Value)} {t : SetTable} {n ep : Nat}
theorem seti_self {first : Value} {i : Nat} {Q : Value → Shared → Prop} (hit : SetIt s.heap I a first i n ep) (h : Q (.ref I) s) : wpAny (model prog w) A (pyIter (.ref I)) Q E s := by
  refine wpAny_pyIter_slot hit.typeIs slot_seti_iter (wpAny_call_entry slot_seti_iter hit.typeIs entry_seti_iter ?_ (args_seti_iter _))
  show wpAny _ _ (ret (.ref I)) _ _ s
  exact wpAny_pure ⟨_, rfl, "set_iterator", _, hit.typeIs, slot_seti_next.lookup, h⟩

/-- the values, in the order of the text -/
def valsT (w : World) (a : Addr) (ep : Nat) (es : Array (Int × Value)) : List Value := (pickOrder (w.params.setOrder a ep) es).toList.map (·.2)

theorem walksT (hh : A.handled = none) (hb : ByText w) (hne : a ≠ I) (hd : o.data = .set es ep t) (hf : t.fits es.size = true) (hn : es.size = n) :
    Walks prog w A I [I, a] [I] n (fun i v => (valsT w a ep es)[i]? = some v) (fun i h => SetIt h I a (rawInt 0) i n ep ∧ h.get? a = some o) where
  sub := fun b hb => by simp at hb; simp [hb]
  frame := fun _ _ _ st hk => ⟨st.1.at fun o e => hk I (by simp) o e, hk a (by simp) o st.2⟩
  item := fun i s Q E hi st hQ => by
    have hlen : (pickOrder (w.params.setOrder a ep) es).size = n := by rw [← Array.length_toList, (pickOrder_perm _ es).length_eq, Array.length_toList, hn]
    have hx : (pickOrder (w.params.setOrder a ep) es)[i]? = some ((pickOrder (w.params.setOrder a ep) es)[i]'(by omega)) := Array.getElem?_eq_getElem (by omega)
    refine seti_item (slot' := 0) (x := ((pickOrder (w.params.setOrder a ep) es)[i]'(by omega)).2) st.1 st.2 hd hf hn (fun R E' hR => setNext_T hb st.2 hd hf (by rw [hx]; exact hR)) fun h' hit' hs' => ?_
    refine hQ _ h' s.toks ?_ ⟨hit', (hs'.2 a hne).trans st.2⟩ fun b o hb e => hs'.extBut b o (fun h => hb (by simp [h])) e
    unfold valsT
    rw [List.getElem?_map, Array.getElem?_toList, hx]; rfl
  done := fun s Q E st hQ => by
    have hlen : (pickOrder (w.params.setOrder a ep) es).size = n := by rw [← Array.length_toList, (pickOrder_perm _ es).length_eq, Array.length_toList, hn]
    refine seti_end hh st.1 st.2 hd hf hn (fun R E' hR => setNext_T hb st.2 hd hf ?_) fun h' he' => hQ h' s.toks fun b o hb e => he' b o (fun h => hb (by simp [h])) e
    rw [Array.getElem?_eq_none (by omega)]; exact hR
  self := fun _ _ _ _ st hQ => seti_self st.1 hQ

/-- the slot that the walk stands at -/
def slotAt (t : SetTable) : Nat → Nat
  | 0 => 0
  | i + 1 => t.place.getD i 0 + 1
theorem below_slotAt (hr : Rise t.place) : ∀ i, i ≤ t.place.size → SetTable.below t.place (slotAt t i) = i := by
  intro i hi
  obtain ⟨b1, b2, b3⟩ := below_spec hr (slotAt t i)
  cases i with
  | zero =>
    rcases Nat.eq_zero_or_pos (SetTable.below t.place (slotAt t 0)) with e | e
    · exact e
    · have := b2 0 (by omega) e
      exact absurd this (Nat.not_lt_zero _)
  | succ i =>
    have hlt : i < t.place.size := hi
    have hs : slotAt t (i + 1) = t.place[i] + 1 := by simp [slotAt, hlt]
    rcases Nat.lt_trichotomy (SetTable.below t.place (slotAt t (i + 1))) (i + 1) with c | c | c
    · have := b3 i hlt (by omega)
      rw [hs] at this; omega
    · exact c
    · have h1 := b2 (i + 1) (by omega) c
      have h2 := rise_get hr (show i < i + 1 by omega) (show i + 1 < t.place.size by omega)
      rw [hs] at h1; omega
theorem walksL (hh : A.handled = none) (hb : ¬ ByText w) (hnd : (!t.plain && decide (es.size > 1)) = false) (hl : t.led = true) (hr : Rise t.place) (hne : a ≠ I) (hd : o.data = .set es ep t) (hf : t.fits es.size = true) (hn : es.size = n) :
    Walks prog w A I [I, a] [I] n (fun i v => (es.toList.map (·.2))[i]? = some v) (fun i h => SetIt h I a (rawInt (slotAt t i : Nat)) i n ep ∧ h.get? a = some o) where
  sub := fun b hb => by simp at hb; simp [hb]
  frame := fun _ _ _ st hk => ⟨st.1.at fun o e => hk I (by simp) o e, hk a (by simp) o st.2⟩
  item := fun i s Q E hi st hQ => by
    have hpl : t.place.size = es.size := by simp only [SetTable.fits, Bool.and_eq_true, beq_iff_eq] at hf; exact hf.1
    have hi1 : i < es.size := by omega
    have hi2 : i < t.place.size := by omega
    have hx : es[i]? = some es[i] := Array.getElem?_eq_getElem hi1
    have hp : t.place[i]? = some t.place[i] := Array.getElem?_eq_getElem hi2
    refine seti_item (slot' := slotAt t (i + 1)) (x := es[i].2) st.1 st.2 hd hf hn (fun R E' hR => setNext_L hb hnd hl st.2 hd hf (below_slotAt hr i (Nat.le_of_lt hi2)) (fun e j q1 q2 => ?_) (fun q => ?_) hpl) fun h' hit' hs' => ?_
    · have hs : slotAt t (i + 1) = t.place[i] + 1 := by simp [slotAt, hi2]
      rw [hx] at q1
      rw [hp] at q2
      cases q1
      cases q2
      rw [hs] at hR; exact hR
    · rw [hx] at q; cases q
    · refine hQ _ h' s.toks ?_ ⟨hit', (hs'.2 a hne).trans st.2⟩ fun b o hb e => hs'.extBut b o (fun h => hb (by simp [h])) e
      rw [List.getElem?_map, Array.getElem?_toList, hx]; rfl
  done := fun s Q E st hQ => by
    have hpl : t.place.size = es.size := by simp only [SetTable.fits, Bool.and_eq_true, beq_iff_eq] at hf; exact hf.1
    refine seti_end hh st.1 st.2 hd hf hn (fun R E' hR => setNext_L hb hnd hl st.2 hd hf (below_slotAt hr n (by omega)) (fun e j q1 _ => ?_) (fun _ => hR) hpl) fun h' he' => hQ h' s.toks fun b o hb e => he' b o (fun h => hb (by simp [h])) e
    rw [Array.getElem?_eq_none (by omega)] at q1; cases q1
  self := fun _ _ _ _ st hQ => seti_self st.1 hQ

abbrev placesObj (ps : List Nat) : Obj := { cls := .type "tuple", data := .seq (ps.map fun i => rawInt (i : Nat)).toArray }
theorem walksD {tp : Addr} {ps : List Nat} (hh : A.handled = none) (hp : ps.Perm (List.range n)) (hne : a ≠ I) (hnt : tp ≠ I) (hd : o.data = .set es ep t) (hf : t.fits es.size = true) (hn : es.size = n) :
    Walks prog w A I [I, a, tp] [I] n (fun i v => (ps.filterMap fun j => (es[j]?).map (·.2))[i]? = some v) (fun i h => SetIt h I a (.ref tp) i n ep ∧ h.get? a = some o ∧ h.get? tp = some (placesObj ps)) where
  sub := fun b hb => by simp at hb; simp [hb]
  frame := fun _ _ _ st hk => ⟨st.1.at fun o e => hk I (by simp) o e, hk a (by simp) o st.2.1, hk tp (by simp) _ st.2.2⟩
  item := fun i s Q E hi st hQ => by
    have hlen : ps.length = n := by rw [hp.length_eq, List.length_range]
    have hall : ∀ j ∈ ps, j < es.size := fun j hj => by rw [hn]; exact List.mem_range.mp (hp.mem_iff.mp hj)
    have hi1 : i < ps.length := by omega
    have hlt : ps[i] < es.size := hall _ (List.getElem_mem hi1)
    have hx : es[ps[i]]? = some (es[ps[i]].1, es[ps[i]].2) := Array.getElem?_eq_getElem hlt
    have hpl : ((ps.map fun i => rawInt (i : Nat)).toArray)[i]? = some (.int ((ps[i] : Nat) : Int) 0) := by
      rw [List.getElem?_toArray, List.getElem?_map, List.getElem?_eq_getElem hi1]; rfl
    refine seti_itemD (x := es[ps[i]].2) st.1 st.2.1 hd hf hn st.2.2 rfl hpl hx fun h' hit' hs' => ?_
    refine hQ _ h' s.toks ?_ ⟨hit', (hs'.2 a hne).trans st.2.1, (hs'.2 tp hnt).trans st.2.2⟩ fun b o hb e => hs'.extBut b o (fun h => hb (by simp [h])) e
    have hfm : (ps.filterMap fun j => (es[j]?).map (·.2)) = ps.map fun j => (es.getD j (0, .none)).2 := by
      have : ∀ l : List Nat, (∀ j ∈ l, j < es.size) → (l.filterMap fun j => (es[j]?).map (·.2)) = l.map fun j => (es.getD j (0, .none)).2 := by
        intro l
        induction l with
        | nil => intro _; rfl
        | cons x r ih =>
          intro h
          have hx := h x (.head _)
          rw [List.filterMap_cons, Array.getElem?_eq_getElem hx, List.map_cons, ← ih fun j hj => h j (.tail _ hj)]
          simp [hx]
      exact this ps hall
    rw [hfm, List.getElem?_map, List.getElem?_eq_getElem hi1]
    simp [hlt]
  done := fun s Q E st hQ => by
    have hlen : ps.length = n := by rw [hp.length_eq, List.length_range]
    refine seti_endD hh st.1 st.2.1 hd hf hn st.2.2 rfl (by rw [List.getElem?_toArray, List.getElem?_eq_none]; rw [List.length_map]; omega) fun h' he' => hQ h' s.toks fun b o hb e => he' b o (fun h => hb (by simp [h])) e
  self := fun _ _ _ _ st hQ => seti_self st.1 hQ

/-! the whole walk over a set, whatever the order -/
structure SetWalk (prog : Program) (w : World) (ks : List Int) (a I : Addr) (h : Heap) (fp : List Addr) (items : List Value) (St : Nat → Heap → Prop) : Prop where
  walks : ∀ A : Around, A.handled = none → Walks prog w A I fp [I] ks.length (fun i v => items[i]? = some v) St
  st : St 0 h
  len : items.length = ks.length
  nums : ∃ ns, IntsAre items ns ∧ ns.Perm ks
  fps : ∀ b ∈ fp, b < h.objs.size

theorem intsAre_of : ∀ {l : List (Int × Value)}, (∀ e ∈ l, IEnt e) → IntsAre (l.map (·.2)) (keysOf l)
  | [], _ => .nil
  | e :: r, h => by
    obtain ⟨i, u, rfl⟩ := h e (.head _)
    exact .cons i u (intsAre_of fun x hx => h x (.tail _ hx))

theorem iset_iter {ks : List Int} {Q : Value → Shared → Prop} (ho : s.heap.get? a = some o) (hI : ISet w o ks) (hz : ks.length < scanBound)
    (h : ∀ I h' dr fp items St, SetWalk prog w ks a I h' fp items St → (∀ b o, s.heap.get? b = some o → h'.get? b = some o) → s.heap.objs.size ≤ I → (∀ b ∈ fp, b = a ∨ s.heap.objs.size ≤ b) → Q (.ref I) { s with heap := h', drawn := dr }) :
    wpAny (model prog w) A (pyIter (.ref a)) Q E s := by
  obtain ⟨hx, es, ep, t, hd, he, hk, hn, hf, hr, hl⟩ := id hI
  have hsz : es.size = ks.length := by rw [← hk, keysOf_length, Array.length_toList]
  have hT : s.TypeIs (.ref a) "set" := ⟨o, ho, hx.1⟩
  have hla := ltN (Heap.lt_size ho)
  refine wpAny_pyIter_slot hT F.slot_set_iter (wpAny_call_entry F.slot_set_iter hT entry_set_iter ?_ (F.args_set_iter_1 _))
  unfold Builtin.«frozenset.__iter__»
  refine wpAny_bind (wpAny_of_eq (a := a) rfl ?_)
  unfold Builtin.Frozenset.sizeOf
  refine wpAny_bind (wpAny_bind (wpAny_setEntries_of ho hd hf (wpAny_pure ?_)))
  unfold setDrawn setsByText
  refine wpAny_bind ?_
  refine wpAny_bind (wpAny_setState_of ho hd hf ?_)
  dsimp only
  refine wpAny_bind (wpAny_bind (wpAny_askSetting (wpAny_pure ?_)))
  refine wpAny_pure ?_
  refine wpAny_ite_split (fun q => ?_) (fun q => ?_)
  · refine wpAny_bind (wp_drawOrder _ _ _ _ (List.length_range ..) fun ps dr hp => ?_)
    have hlen : ps.length = es.size := by rw [hp.length_eq, List.length_range]
    refine wpAny_bind (wpAny_newObj_type ?_ ?_)
    · have hoa : (s.heap.push (placesObj ps)).get? a = some o := Heap.get?_push_of_some _ ho
      refine wpAny_bind (wpAny_setEpoch_of (s := { s with heap := s.heap.push (placesObj ps), drawn := dr }) hoa hd hf ?_)
      refine wpAny_bind (wpAny_newObj_type ?_)
      have hs1 : (s.heap.push (placesObj ps)).objs.size = s.heap.objs.size + 1 := size_push' _ _
      refine wpAny_pure ⟨_, rfl, "set_iterator", _, ⟨_, Heap.get?_push_size _ rfl, rfl⟩, slot_seti_next.lookup, ?_⟩
      have hfm : ∀ l : List Nat, (∀ j ∈ l, j < es.size) → (l.filterMap fun j => (es[j]?).map (·.2)) = (l.filterMap fun j => es[j]?).map (·.2) := by
        intro l _; rw [List.map_filterMap]
      have hpe : (ps.filterMap fun j => es[j]?).Perm es.toList := by
        refine (hp.filterMap _).trans (.of_eq ?_)
        have : ∀ (l : List (Int × Value)), (List.range l.length).filterMap (fun j => l[j]?) = l := by
          intro l
          induction l with
          | nil => rfl
          | cons x r ih =>
            rw [List.length_cons, List.range_succ_eq_map, List.filterMap_cons, List.filterMap_map]
            simp only [List.getElem?_cons_zero]
            congr 1
        have e := this es.toList
        rw [Array.length_toList] at e
        simpa using e
      have hW : ∀ A' : Around, A'.handled = none → Walks prog w A' (s.heap.push (placesObj ps)).objs.size [(s.heap.push (placesObj ps)).objs.size, a, s.heap.objs.size] [(s.heap.push (placesObj ps)).objs.size] ks.length
          (fun i v => (ps.filterMap fun j => (es[j]?).map (·.2))[i]? = some v) (fun i h => SetIt h (s.heap.push (placesObj ps)).objs.size a (.ref s.heap.objs.size) i ks.length ep ∧ h.get? a = some o ∧ h.get? s.heap.objs.size = some (placesObj ps)) :=
        fun A' hh' => walksD hh' (hsz ▸ hp) (neN (by omega)) (neN (by omega)) hd hf hsz
      refine h (s.heap.push (placesObj ps)).objs.size _ dr _ _ _
        { walks := hW
          st := ⟨⟨_, Heap.get?_push_size _ rfl, rfl, by rw [← hsz]; rfl⟩, Heap.get?_push_of_some _ hoa, Heap.get?_push_of_some _ (Heap.get?_push_size _ rfl)⟩
          len := ?_, nums := ?_, fps := ?_ } (fun b ob e => Heap.get?_push_of_some _ (Heap.get?_push_of_some _ e)) (by omega) ?_
      · rw [hfm ps fun j hj => List.mem_range.mp (hp.mem_iff.mp hj), List.length_map, hpe.length_eq, Array.length_toList, hsz]
      · refine ⟨keysOf (ps.filterMap fun j => es[j]?), ?_, (keysOf_perm hpe).trans (.of_eq hk)⟩
        rw [hfm ps fun j hj => List.mem_range.mp (hp.mem_iff.mp hj)]
        exact intsAre_of fun e hm => he e (hpe.mem_iff.mp hm)
      · intro b hb
        show b < ((s.heap.push (placesObj ps)).push _).objs.size
        rw [size_push']
        refine ltN ?_
        rcases List.mem_cons.mp hb with e | hb
        · rw [e]; omega
        · rcases List.mem_cons.mp hb with e | hb
          · rw [e]; omega
          · rw [List.mem_singleton.mp hb]; omega
      · intro b hb
        rcases List.mem_cons.mp hb with rfl | hb
        · right; rw [hs1]; exact Nat.le_succ _
        · rcases List.mem_cons.mp hb with rfl | hb
          · left; rfl
          · rw [List.mem_singleton.mp hb]; right; exact Nat.le_refl _
    · show (List.map _ ps).toArray.size ≤ sizeLine
      rw [List.size_toArray, List.length_map, hlen]
      exact fits_of_scanBound (by omega)
  · refine wpAny_bind (wpAny_pure ?_)
    refine wpAny_bind (wpAny_setEpoch_of ho hd hf ?_)
    refine wpAny_bind (wpAny_newObj_type ?_)
    refine wpAny_pure ⟨_, rfl, "set_iterator", _, ⟨_, Heap.get?_push_size _ rfl, rfl⟩, slot_seti_next.lookup, ?_⟩
    have fps : ∀ b ∈ [s.heap.objs.size, a], b < (s.heap.push { cls := .type "set_iterator", data := .fields #[rawInt 0, rawInt 0, .ref a, rawInt (es.size : Nat), rawInt (ep : Nat)] }).objs.size := by
      intro b hb
      rw [size_push']
      refine ltN ?_
      rcases List.mem_cons.mp hb with e | hb
      · rw [e]; omega
      · rw [List.mem_singleton.mp hb]; omega
    have fpo : ∀ b ∈ [s.heap.objs.size, a], b = a ∨ s.heap.objs.size ≤ b := by
      intro b hb
      rcases List.mem_cons.mp hb with rfl | hb
      · right; exact Nat.le_refl _
      · left; exact List.mem_singleton.mp hb
    have e0 : s.drawn = s.drawn := rfl
    by_cases hb : ByText w
    · refine h s.heap.objs.size _ s.drawn [s.heap.objs.size, a] (valsT w a ep es) _
        { walks := fun A' hh' => walksT hh' hb (neN (by omega)) hd hf hsz
          st := ⟨⟨_, Heap.get?_push_size _ rfl, rfl, by rw [← hsz]; rfl⟩, Heap.get?_push_of_some _ ho⟩
          len := ?_, nums := ?_, fps := fps } (fun b ob e => Heap.get?_push_of_some _ e) (Nat.le_refl _) fpo
      · unfold valsT; rw [List.length_map, (pickOrder_perm _ es).length_eq, Array.length_toList, hsz]
      · exact ⟨_, intsAre_of fun e hm => he e ((pickOrder_perm _ es).mem_iff.mp hm), (keysOf_perm (pickOrder_perm _ es)).trans (.of_eq hk)⟩
    · have hnd : (!t.plain && decide (es.size > 1)) = false := by
        have hb' : w.params.followText "set-order" = false := by
          cases hc : w.params.followText "set-order" with
          | true => exact absurd hc hb
          | false => rfl
        have q' : ¬ (!w.params.followText "set-order" && (!t.plain && decide (es.size > 1))) = true := q
        rw [hb'] at q'
        simpa using q'
      refine h s.heap.objs.size _ s.drawn [s.heap.objs.size, a] (es.toList.map (·.2)) _
        { walks := fun A' hh' => walksL hh' hb hnd (hl hb) hr (neN (by omega)) hd hf hsz
          st := ⟨⟨_, Heap.get?_push_size _ rfl, rfl, by rw [← hsz]; rfl⟩, Heap.get?_push_of_some _ ho⟩
          len := ?_, nums := ?_, fps := fps } (fun b ob e => Heap.get?_push_of_some _ e) (Nat.le_refl _) fpo
      · rw [List.length_map, Array.length_toList, hsz]
      · exact ⟨_, intsAre_of he, .of_eq hk⟩
end
end Mine
end
section
open PySem PySem.W PyProof.Rows PySem.Calls PySem.Spec
set_option maxRecDepth 100000
namespace Mine
section
variable {prog : Program} {w : World} {A : Around} {E : Value → Shared → Prop} {s : Shared} {a : Addr} {o : Obj} {ks : List Int}
abbrev lst (acc : Array Value) (c : Nat) : Obj := { cls := .type "list", dict := none, data := .seq acc c, slots := #[] }
/-- a set's length, asked for ahead of a list's growing, tells nothing -/
theorem hint_set {r : Addr} {Q : Bool → Shared → Prop} (ty : s.TypeIs (.ref r) "set") (h : Q false s) : wpAny (model prog w) A (Builtin.List.listLengthHint (.ref r)) Q E s := by
  have own := sub_set_self
  have name : splitId "set.__len__" = some ("set", "__len__") := by decide +kernel
  unfold Builtin.List.listLengthHint
  refine wpAny_bind (wpAny_specialOf ty F.slot_set_len.lookup ?_)
  simp only [name]
  wp_walk
  exact h
theorem items_all {items : List Value} {acc : Array Value} {n : Nat} (h : ItemsOf (fun i v => items[i]? = some v) acc n) (len : items.length = n) : acc.toList = items := by
  have size : acc.toList.length = items.length := by rw [Array.length_toList, h.1, len]
  refine List.ext_getElem size fun i p q => ?_
  have told : items[i]? = some acc.toList[i] := h.2 i acc.toList[i] (by simp)
  rw [List.getElem?_eq_getElem q] at told
  exact (Option.some.inj told).symm
/-- an empty list is made to look for room: it stays empty -/
theorem touch_empty {M : Model} {Q : Unit → Shared → Prop} {S : Addr} {c : Nat} (at' : s.heap.get? S = some (lst #[] c)) (h : ∀ h' c', Heap.SameBut S s.heap h' → h'.get? S = some (lst #[] c') → Q () { s with heap := h' }) :
    wpAny M A (Builtin.List.listTouch (.ref S)) Q E s := by
  unfold Builtin.List.listTouch Builtin.List.listUpdate
  have g1 := Heap.get?_update_self (Obj.mapSeq (·.push Value.none)) at' rfl
  refine wpAny_bind (wpAny_updateSeq at' rfl (wpAny_updateSeq (hz := by seq_fits) g1 rfl ?_))
  exact h _ _ ((Heap.SameBut.update ..).trans (Heap.SameBut.update ..)) (Heap.get?_update_self (Obj.mapSeq (·.pop)) g1 rfl)
/-- the growing list takes in all that the set's iterator gives -/
theorem set_loop {R : Result → Shared → Prop} {S I : Addr} {h₁ : Heap} {fp : List Addr} {items : List Value} {St : Nat → Heap → Prop} {c : Nat} {res : Value} (W : SetWalk prog w ks a I h₁ fp items St) (hz : ks.length < scanBound) (hh : A.handled = none)
    (off : S ∉ fp) (st : St 0 s.heap) (at' : s.heap.get? S = some (lst #[] c))
    (h : ∀ h' tk c', (∀ b ob, b ≠ S → b ≠ I → s.heap.get? b = some ob → h'.get? b = some ob) → h'.get? S = some (lst items.toArray c') → R (.ok (.ret res)) { s with heap := h', toks := tk }) :
    codeAny (model prog w) A (.builtin "list.extend.loop" ⟨[.ref S, .ref I, res], []⟩) R s := by
  refine codeAny_extend_loopS (W.walks A.in1 hh).toS (fits_of_scanBound hz) S off res _ 0 s #[] c rfl (Nat.zero_le _) st at' (ItemsOf.nil _) fun s' acc c' mv g it => ?_
  have same : acc = items.toArray := by rw [← items_all it W.len]
  subst same
  rw [mv.eq_with]
  exact h _ _ c' (fun b ob n1 n2 e => mv.heap b ob (by simp [n1, n2]) e) g
/-- «l += set», for an empty l: the set's members, in some order -/
theorem set_iadd {R : Result → Shared → Prop} {S : Addr} {c : Nat} (ho : s.heap.get? a = some o) (hI : ISet w o ks) (hz : ks.length < scanBound) (hh : A.handled = none) (ne : S ≠ a) (at' : s.heap.get? S = some (lst #[] c))
    (h : ∀ h' tk dr vs c' ns, (∀ b ob, b ≠ S → s.heap.get? b = some ob → h'.get? b = some ob) → h'.get? S = some (lst vs.toArray c') → IntsAre vs ns → ns.Perm ks → R (.ok (.ret (.ref S))) { s with heap := h', toks := tk, drawn := dr }) :
    codeAny (model prog w) A (.builtin "list.__iadd__" ⟨[.ref S, .ref a], []⟩) R s := by
  refine codeAny_builtin entry_list_iadd' ?_
  rw [Around.under_plainId F.plain_list_iadd _]
  have ty : s.TypeIs (.ref a) "set" := ⟨o, ho, hI.1.1⟩
  have other : Builtin.List.listSameRef (.ref S) (.ref a) = false := by simp [Builtin.List.listSameRef, ne]
  unfold Builtin.«list.__iadd__» Builtin.List.listExtendWith
  wp_walk using wpAny_typeOf ty, iset_iter ho hI hz
  intro I h₁ dr fp items St W keep new foot
  have off : S ∉ fp := fun m => (foot S m).elim ne fun le => absurd (Heap.lt_size at') (Nat.not_lt.mpr le)
  have old : ∀ {b ob}, s.heap.get? b = some ob → b ≠ I := fun e q => absurd (Heap.lt_size (q ▸ e)) (Nat.not_lt.mpr new)
  obtain ⟨ns, num, perm⟩ := W.nums
  have ty₁ : Shared.TypeIs { s with heap := h₁, drawn := dr } (.ref a) "set" := ⟨o, keep _ _ ho, hI.1.1⟩
  have at₁ := keep _ _ at'
  wp_walk using hint_set ty₁, touch_empty (s := { s with heap := h₁, drawn := dr }) at₁
  intro h₂ c₂ same g
  refine wpAny_pure ⟨plainId_quiet F.plain_extend_loop _, set_loop W hz hh off ?_ g fun h' tk c' k' g' => ?_⟩
  · exact (W.walks A hh).frame 0 _ _ W.st fun b m ob e => same.extBut b ob (fun q => off (q ▸ m)) e
  · exact h h' tk dr items c' ns (fun b ob n e => k' b ob n (old e) (same.extBut b ob n (keep b ob e))) g' num perm
/-- what sorted takes in -/
theorem iset_collect {R : List Value → Shared → Prop} (ho : s.heap.get? a = some o) (hI : ISet w o ks) (hz : ks.length < scanBound) (hh : A.handled = none)
    (h : ∀ h' tk dr vs ns, (∀ b o, s.heap.get? b = some o → h'.get? b = some o) → IntsAre vs ns → ns.Perm ks → R vs { s with heap := h', toks := tk, drawn := dr }) :
    wpAny (model prog w) A (collect (.ref a)) R E s := by
  unfold collect
  wp_walk
  refine codeAny_builtin entry_proto_collect' ?_
  rw [Around.under_plainId F.plain_proto_collect _]
  unfold Builtin.«proto.collect»
  wp_walk
  have new : (s.heap.push (lst #[] 0)).get? s.heap.objs.size = some (lst #[] 0) := Heap.get?_push_size _ rfl
  have ne : s.heap.objs.size ≠ a := (Nat.ne_of_lt (Heap.lt_size ho)).symm
  refine ⟨plainId_quiet F.plain_list_iadd _, set_iadd (s := { s with heap := s.heap.push (lst #[] 0) }) (Heap.get?_push_of_some _ ho) hI hz hh ne new fun h' tk dr vs c' ns k g num perm => ?_⟩
  exact wpAny_bind (wpAny_load g (wpAny_pure (h h' tk dr vs ns (fun b ob e => k b ob (Nat.ne_of_lt (Heap.lt_size e)) (Heap.get?_push_of_some _ e)) num perm)))
end
section
variable {prog : Program} {w : World} {A : Around} {E : Value → Shared → Prop} {s : Shared} {h₀ : Heap} {L sa : Addr} {m : Str → Option Value} {news : List (Addr × Obj)} {so : Obj} {ks : List Int}
theorem iset_sorted {Q : Value → Shared → Prop} (F : Fr h₀ L s.heap m) (N : News h₀ L s.heap news) (hmem : (sa, so) ∈ news) (hI : ISet w so ks) (hz : ks.length < 64) (hh : A.handled = none)
    (h : ∀ D h' tk dr vs ns e, Fr h₀ L h' m → News h₀ L h' ((D, lst vs.toArray e) :: news) → (∀ q ∈ news, q.1 < D) → IntsAre vs ns → ns.Perm ks → ns.Pairwise (· ≤ ·) → Q (.ref D) { s with heap := h', toks := tk, drawn := dr }) :
    wpAny (model prog w) A (call (.builtin "sorted") [.ref sa]) Q E s := by
  have hb : scanBound = 4096 := rfl
  refine call_function_entry kind_sorted plain_sorted entry_sorted (args_sorted1 _) ?_
  unfold Builtin.«sorted»
  refine wpAny_bind (m := checkCount "sorted" 1 1 _) (wpAny_pure ?_)
  refine wpAny_bind (iset_collect (A := A.in1) (N _ hmem).1 hI (by omega) hh fun h' tk dr vs ns hk hvs hp => ?_)
  have hlen : vs.length = ns.length := hvs.length
  have hlt : vs.length < 64 := by rw [hlen, hp.length_eq]; exact hz
  refine wpAny_bind (wpAny_newList ?_ (by rw [sizeLine_eq]; omega))
  have hoL : (h'.push (seqObj "list" vs.toArray 0)).get? h'.objs.size = some (seqObj "list" vs.toArray 0) := Heap.get?_push_size _ rfl
  refine wpAny_bind (wpAny_holding (wpAny_call_entry slot_list_sort ⟨_, hoL, rfl⟩ entry_list_sort (list_sort_tree (s := { s with heap := h'.push (seqObj "list" vs.toArray 0), toks := tk, drawn := dr }) hoL hvs hlt fun out ns' a1 a2 a3 => ⟨_, rfl, ?_⟩) (args_list_sort _)))
  refine wpAny_pure ⟨_, rfl, ?_⟩
  have hold : ∀ b ob, b ≠ h'.objs.size → (h'.push (seqObj "list" vs.toArray 0)).get? b = some ob → (sortedHeap (h'.push (seqObj "list" vs.toArray 0)) h'.objs.size vs out).get? b = some ob := by
    intro b ob hb' e
    unfold sortedHeap
    refine (Heap.get?_update_other _ _ (Ne.symm hb')).trans (Heap.get?_push_of_some _ (Heap.get?_push_of_some _ ((Heap.get?_update_other _ _ (Ne.symm hb')).trans e)))
  have hk' : ∀ b ob, s.heap.get? b = some ob → (sortedHeap (h'.push (seqObj "list" vs.toArray 0)) h'.objs.size vs out).get? b = some ob := fun b ob e =>
    hold b ob (Nat.ne_of_lt (Heap.lt_size (hk _ _ e))) (Heap.get?_push_of_some _ (hk _ _ e))
  obtain ⟨e, he⟩ := sortedHeap_at (out := out) (n := 0) hoL
  have N' : News h₀ L (sortedHeap (h'.push (seqObj "list" vs.toArray 0)) h'.objs.size vs out) ((h'.objs.size, lst out e) :: news) := by
    obtain ⟨oL, _, _, hL, _⟩ := F.ns
    intro p hp
    rcases List.mem_cons.mp hp with rfl | hp
    · refine ⟨he, Nat.ne_of_gt (Heap.lt_size (hk _ _ hL)), ?_⟩
      cases hq : h₀.get? h'.objs.size with
      | none => rfl
      | some o' => exact absurd (Heap.lt_size (hk _ _ (F.keep _ _ hq))) (Nat.lt_irrefl _)
    · exact ⟨hk' _ _ (N p hp).1, (N p hp).2⟩
  exact h h'.objs.size _ tk dr out.toList ns' e (F.keeps hk') N' (fun q hq => Heap.lt_size (hk _ _ (N q hq).1)) a1 (a2.trans hp) a3
end
end Mine
end
section
open PySem PySem.W PyProof.Rows PySem.Calls PySem.Spec
set_option maxRecDepth 100000
namespace Mine
/-! the plain side: which numbers the three sets hold -/
/-- how many turns a number may cost -/
def wt (k : Int) : Nat := if k ≤ 2048 then 1 else if k ≤ 4096 then 3 else 7
def wts (l : List Int) : Nat := (l.map wt).sum
/-- S: seen, D: need, W: ws -/
structure PInv (n : Int) (S D W : List Int) : Prop where
  wide : ∀ k ∈ W, 0 ≤ k ∧ k ≤ n ∧ (k = n ∨ k = n / 2 ∨ k = (n + 1) / 2 ∨ k ≤ 2048)
  seen : ∀ k ∈ S, 2048 < k ∧ k ≤ n ∧ (k = n ∨ k = n / 2 ∨ k = (n + 1) / 2)
  cost : S.length + wts W ≤ 7
  few : D.length ≤ S.length
  here : n ∈ S ∨ n ∈ W ∨ n ≤ 2048
  half : ∀ k ∈ S, k / 2 ∈ D ∧ (k / 2 ∈ S ∨ k / 2 ∈ W ∨ k / 2 ≤ 2048) ∧ ((k + 1) / 2 ∈ S ∨ (k + 1) / 2 ∈ W ∨ (k + 1) / 2 ≤ 2048)
  need : ∀ j ∈ D, ∃ k ∈ S, j = k / 2
theorem wt_cases (k : Int) : (k ≤ 2048 ∧ wt k = 1) ∨ (2048 < k ∧ k ≤ 4096 ∧ wt k = 3) ∨ (4096 < k ∧ wt k = 7) := by
  unfold wt
  by_cases h1 : k ≤ 2048
  · left; exact ⟨h1, if_pos h1⟩
  · by_cases h2 : k ≤ 4096
    · right; left; exact ⟨by omega, h2, by rw [if_neg h1, if_pos h2]⟩
    · right; right; exact ⟨by omega, by rw [if_neg h1, if_neg h2]⟩
theorem wt_pos (k : Int) : 1 ≤ wt k := by have := wt_cases k; omega
theorem wts_perm {l l' : List Int} (h : l.Perm l') : wts l = wts l' := by unfold wts; exact (h.map wt).sum_nat
theorem wts_append (l l' : List Int) : wts (l ++ l') = wts l + wts l' := by unfold wts; rw [List.map_append, List.sum_append]
theorem wts_cons (k : Int) (l : List Int) : wts (k :: l) = wt k + wts l := by unfold wts; rw [List.map_cons, List.sum_cons]
theorem len_wts (l : List Int) : l.length ≤ wts l := by
  induction l with
  | nil => exact Nat.zero_le _
  | cons k r ih => rw [wts_cons, List.length_cons]; have := wt_pos k; omega
theorem added_wts {ks ks' : List Int} {k : Int} (h : Added ks k ks') : wts ks' ≤ wts ks + wt k := by
  by_cases hk : k ∈ ks
  · rw [h.1 hk]; omega
  · rw [wts_perm (h.2 hk), wts_cons]; omega
theorem added_mem {ks ks' : List Int} {k : Int} (h : Added ks k ks') (x : Int) : x ∈ ks' ↔ x = k ∨ x ∈ ks := by
  by_cases hk : k ∈ ks
  · rw [h.1 hk]
    exact ⟨.inr, fun q => q.elim (fun e => e ▸ hk) id⟩
  · rw [(h.2 hk).mem_iff, List.mem_cons]
theorem added_len {ks ks' : List Int} {k : Int} (h : Added ks k ks') : ks'.length ≤ ks.length + 1 := by
  by_cases hk : k ∈ ks
  · rw [h.1 hk]; omega
  · rw [(h.2 hk).length_eq, List.length_cons]; omega
theorem pinv_start {n : Int} (h0 : 0 ≤ n) (h1 : n ≤ 4800) {W : List Int} (h : Added [] n W) : PInv n [] [] W where
  wide := fun k hk => by
    rcases (added_mem h k).mp hk with rfl | q
    · exact ⟨h0, Int.le_refl _, .inl rfl⟩
    · cases q
  seen := fun k hk => by cases hk
  cost := by
    have := added_wts h
    have e : wts [] = 0 := rfl
    have := wt_cases n
    rw [List.length_nil]
    omega
  few := Nat.le_refl _
  here := .inr (.inl ((added_mem h n).mpr (.inl rfl)))
  half := fun k hk => by cases hk
  need := fun k hk => by cases hk
/-- the turn that goes on: what it took is done already -/
theorem pinv_skip {n : Int} {S D : List Int} {pre post : List Int} {k : Int} (h : PInv n S D (pre ++ k :: post)) (hk : k ∈ S ∨ k ≤ 2048) : PInv n S D (pre ++ post) ∧ wts (pre ++ post) < wts (pre ++ k :: post) := by
  have hw : wts (pre ++ post) + wt k = wts (pre ++ k :: post) := by rw [wts_append, wts_append, wts_cons]; omega
  have hp := wt_pos k
  have sub : ∀ x ∈ pre ++ post, x ∈ pre ++ k :: post := fun x hx => by
    rcases List.mem_append.mp hx with q | q
    · exact List.mem_append_left _ q
    · exact List.mem_append_right _ (.tail _ q)
  have back : ∀ x, x ∈ pre ++ k :: post → x = k ∨ x ∈ pre ++ post := fun x hx => by
    rcases List.mem_append.mp hx with q | q
    · exact .inr (List.mem_append_left _ q)
    · rcases List.mem_cons.mp q with q | q
      · exact .inl q
      · exact .inr (List.mem_append_right _ q)
  have move : ∀ x, (x ∈ S ∨ x ∈ pre ++ k :: post ∨ x ≤ 2048) → (x ∈ S ∨ x ∈ pre ++ post ∨ x ≤ 2048) := fun x hx => by
    rcases hx with q | q | q
    · exact .inl q
    · rcases back x q with e | q
      · subst e; rcases hk with q | q
        · exact .inl q
        · exact .inr (.inr q)
      · exact .inr (.inl q)
    · exact .inr (.inr q)
  exact ⟨{ wide := fun x hx => h.wide x (sub x hx), seen := h.seen, cost := by have := h.cost; omega, few := h.few, here := move n h.here,
           half := fun x hx => let ⟨a, b, c⟩ := h.half x hx; ⟨a, move _ b, move _ c⟩, need := h.need }, by omega⟩
/-- the turn that takes a number in -/
theorem pinv_take {n : Int} (hn : n ≤ 4800) {S D : List Int} {pre post : List Int} {k : Int} (h : PInv n S D (pre ++ k :: post)) (hk : k ∉ S) (hk2 : 2048 < k) {S' D' W' W'' : List Int}
    (hS : Added S k S') (hD : Added D (k / 2) D') (hW : Added (pre ++ post) (k / 2) W') (hodd : if k % 2 = 1 then Added W' (k / 2 + 1) W'' else W'' = W') : PInv n S' D' W'' ∧ wts W'' < wts (pre ++ k :: post) := by
  have hw : wts (pre ++ post) + wt k = wts (pre ++ k :: post) := by rw [wts_append, wts_append, wts_cons]; omega
  have back : ∀ x, x ∈ pre ++ k :: post → x = k ∨ x ∈ pre ++ post := fun x hx => by
    rcases List.mem_append.mp hx with q | q
    · exact .inr (List.mem_append_left _ q)
    · rcases List.mem_cons.mp q with q | q
      · exact .inl q
      · exact .inr (List.mem_append_right _ q)
  have hkm : k ∈ pre ++ k :: post := List.mem_append_right _ (.head _)
  have hkw := h.wide k hkm
  have hkc : k = n ∨ k = n / 2 ∨ k = (n + 1) / 2 := by
    rcases hkw.2.2 with q | q | q | q
    · exact .inl q
    · exact .inr (.inl q)
    · exact .inr (.inr q)
    · omega
  have memW : ∀ x, x ∈ W'' ↔ x = k / 2 ∨ x = (k + 1) / 2 ∨ x ∈ pre ++ post := fun x => by
    split at hodd
    · rw [added_mem hodd, added_mem hW]
      have e : k / 2 + 1 = (k + 1) / 2 := by omega
      rw [e]; exact ⟨fun q => by rcases q with q | q | q <;> simp [q], fun q => by rcases q with q | q | q <;> simp [q]⟩
    · rw [hodd, added_mem hW]
      have e : k / 2 = (k + 1) / 2 := by omega
      rw [← e]; exact ⟨fun q => by rcases q with q | q <;> simp [q], fun q => by rcases q with q | q | q <;> simp [q]⟩
  have costW : wts W'' + 1 ≤ wts (pre ++ post) + wt k := by
    have c1 := added_wts hW
    split at hodd
    · have c2 := added_wts hodd
      have a := wt_cases k
      have b := wt_cases (k / 2)
      have c := wt_cases (k / 2 + 1)
      omega
    · rw [hodd]
      have a := wt_cases k
      have b := wt_cases (k / 2)
      omega
  have lenS : S'.length = S.length + 1 := by rw [(hS.2 hk).length_eq, List.length_cons]
  have memS := added_mem hS
  have memD := added_mem hD
  have move : ∀ x, (x ∈ S ∨ x ∈ pre ++ k :: post ∨ x ≤ 2048) → (x ∈ S' ∨ x ∈ W'' ∨ x ≤ 2048) := fun x hx => by
    rcases hx with q | q | q
    · exact .inl ((memS x).mpr (.inr q))
    · rcases back x q with e | q
      · exact .inl ((memS x).mpr (.inl e))
      · exact .inr (.inl ((memW x).mpr (.inr (.inr q))))
    · exact .inr (.inr q)
  have sub : ∀ x ∈ pre ++ post, x ∈ pre ++ k :: post := fun x hx => by
    rcases List.mem_append.mp hx with q | q
    · exact List.mem_append_left _ q
    · exact List.mem_append_right _ (.tail _ q)
  refine ⟨{ wide := fun x hx => ?_, seen := fun x hx => ?_, cost := by have := h.cost; omega, few := by have := h.few; have := added_len hD; omega, here := move n h.here, half := fun x hx => ?_, need := fun j hj => ?_ }, by omega⟩
  · rcases (memW x).mp hx with e | e | e
    · subst e
      refine ⟨by omega, by omega, ?_⟩
      rcases hkc with q | q | q
      · subst q; exact .inr (.inl rfl)
      · exact .inr (.inr (.inr (by omega)))
      · exact .inr (.inr (.inr (by omega)))
    · subst e
      refine ⟨by omega, by omega, ?_⟩
      rcases hkc with q | q | q
      · subst q; exact .inr (.inr (.inl rfl))
      · exact .inr (.inr (.inr (by omega)))
      · exact .inr (.inr (.inr (by omega)))
    · exact h.wide x (sub x e)
  · rcases (memS x).mp hx with e | e
    · subst e; exact ⟨hk2, hkw.2.1, hkc⟩
    · exact h.seen x e
  · rcases (memS x).mp hx with e | e
    · subst e
      exact ⟨(memD _).mpr (.inl rfl), .inr (.inl ((memW _).mpr (.inl rfl))), .inr (.inl ((memW _).mpr (.inr (.inl rfl))))⟩
    · obtain ⟨a, b, c⟩ := h.half x e
      exact ⟨(memD _).mpr (.inr a), move _ b, move _ c⟩
  · rcases (memD j).mp hj with e | e
    · exact ⟨k, (memS k).mpr (.inl rfl), e⟩
    · obtain ⟨x, hx, e⟩ := h.need j e
      exact ⟨x, (memS x).mpr (.inr hx), e⟩
end Mine
end
section
open PySem PySem.W PyProof.Rows PySem.Calls PySem.Spec
set_option maxRecDepth 100000
namespace Mine
abbrev cpM (M : Str → Option Value) (lo : Option Value) (wv : Int) (wt : Tok) : Str → Option Value := fun y => if y = Str.ofString "lo" then lo else if y = Str.ofString "w" then some (.int wv wt) else M y
/-- the state ahead of a turn: seen, need and ws hold S, D and W; c is what W may still cost -/
structure CpAt (w : World) (n : Int) (M : Str → Option Value) (dw dn ds : Addr) (news : List (Addr × Obj)) (h₀ : Heap) (L : Addr) (S D W : List Int) (lo : Option Value) (wv : Int) (wt : Tok) (h : Heap) : Prop where
  fr : Fr h₀ L h (cpM M lo wv wt)
  sets : ∃ ow od os, News h₀ L h ((dw, ow) :: (dn, od) :: (ds, os) :: news) ∧ ISet w ow W ∧ ISet w od D ∧ ISet w os S
  inv : PInv n S D W
def CpI (w : World) (n : Int) (M : Str → Option Value) (dw dn ds : Addr) (news : List (Addr × Obj)) (h₀ : Heap) (L : Addr) (s : Shared) (c : Nat) (s' : Shared) : Prop :=
  ∃ S D W lo wv wt h, CpAt w n M dw dn ds news h₀ L S D W lo wv wt h ∧ wts W = c ∧ ∃ tk dr, s' = { s with heap := h, toks := tk, drawn := dr }
/-- a turn is done: less is left -/
def CpEnd (w : World) (n : Int) (M : Str → Option Value) (dw dn ds : Addr) (news : List (Addr × Obj)) (h₀ : Heap) (L : Addr) (s : Shared) (c : Nat) (f : Flow) (s' : Shared) : Prop :=
  (f = .next ∨ f = .cont) ∧ ∃ d, d < c ∧ CpI w n M dw dn ds news h₀ L s d s'
section
variable {prog : Program} {w : World} {A : Around} {E : Value → Shared → Prop} {Q : Flow → Shared → Prop} {s : Shared} {env : Env} {h₀ : Heap} {L dw dn ds : Addr} {news : List (Addr × Obj)} {ow on os : Obj} {M : Str → Option Value} {W : List Int} {n : Int} {t : Tok}
theorem while_cp {test : Expr} {body : List Stmt} {pos : Pos} (F : Fr h₀ L s.heap M) (N : News h₀ L s.heap ((dw, ow) :: (dn, on) :: (ds, os) :: news)) (hw : ISet w ow W) (hn : ISet w on []) (hs : ISet w os []) (hW : Added [] n W) (h0 : 0 ≤ n) (h1 : n ≤ 4800)
    (hlo : M (Str.ofString "lo") = none) (hwv : M (Str.ofString "w") = some (.int n t))
    (turn : ∀ lo wv wt W S D ow od os h₁ tk₁ dr₁, Fr h₀ L h₁ (cpM M lo wv wt) → News h₀ L h₁ ((dw, ow) :: (dn, od) :: (ds, os) :: news) → ISet w ow W → ISet w od D → ISet w os S → PInv n S D W → W.length ≤ 7 → S.length ≤ 7 → D.length ≤ 7 →
      wpAny (model prog w) A (isTrue test env (eval test env)) (fun go s₂ => if go = true then wpAny (model prog w) A (execs body env) (CpEnd w n M dw dn ds news h₀ L s (wts W)) E s₂ else Q .next s₂) E { s with heap := h₁, toks := tk₁, drawn := dr₁ })
    (hE : PassesOwn (model prog w) A env E := by passes_own) :
    wpAny (model prog w) A (exec (.While test body [] pos) env) Q E s := by
  have first : M = cpM M none n t := funext fun y => by
    unfold cpM
    split
    · rename_i e; rw [e, hlo]
    · split
      · rename_i e; rw [e, hwv]
      · rfl
  refine wpAny_While (codeAny_whileLoop (CpI w n M dw dn ds news h₀ L s) ?_ (wts W) ⟨[], [], W, none, n, t, s.heap, ⟨first ▸ F, ⟨ow, on, os, N, hw, hn, hs⟩, pinv_start h0 h1 hW⟩, rfl, s.toks, s.drawn, rfl⟩)
  rintro _ _ ⟨S, D, W, lo, wv, wt, h, at', rfl, tk, dr, rfl⟩
  obtain ⟨ow, od, os, N, iw, id, is⟩ := at'.sets
  have cost := at'.inv.cost
  have few := at'.inv.few
  have long := len_wts W
  refine wpAny_mono (turn lo wv wt W S D ow od os h tk dr at'.fr N iw id is at'.inv (by omega) (by omega) (by omega)) (fun go s₂ x => ?_) hE
  cases go
  · rw [if_neg Bool.false_ne_true] at x
    exact wpAny_execs_nil x
  · rw [if_pos rfl] at x
    refine wpAny_mono x ?_ hE
    rintro _ s₃ ⟨rfl | rfl, less⟩ <;> exact less
variable {S D pre post S' D' W' W'' : List Int} {lo : Option Value} {wv k : Int} {wt tk' : Tok} {ow' od' os' : Obj} {h' : Heap} {dr : Drawn} {tk : Nat} {ks : List Int}
theorem cp_skip (F : Fr h₀ L h' (fun y => if y = Str.ofString "w" then some (.int k tk') else cpM M lo wv wt y)) (N : News h₀ L h' ((dw, ow') :: (dn, od') :: (ds, os') :: news)) (he : ks = pre ++ k :: post) (hw : ISet w ow' (pre ++ post)) (hd : ISet w od' D) (hs : ISet w os' S) (hP : PInv n S D ks) (hk : k ∈ S ∨ k ≤ 2048) :
    CpEnd w n M dw dn ds news h₀ L s (wts ks) .cont { s with heap := h', toks := tk, drawn := dr } := by
  subst he
  obtain ⟨inv, less⟩ := pinv_skip hP hk
  have names : (fun y => if y = Str.ofString "w" then some (.int k tk') else cpM M lo wv wt y) = cpM M lo k tk' := funext fun y => by
    by_cases e : y = Str.ofString "lo"
    · subst e; rw [if_neg (by decide)]; simp [cpM]
    · by_cases e2 : y = Str.ofString "w"
      · subst e2; simp [cpM, e]
      · simp [cpM, e, e2]
  exact ⟨.inr rfl, _, less, S, D, _, lo, k, tk', h', ⟨names ▸ F, ⟨_, _, _, N, hw, hd, hs⟩, inv⟩, rfl, tk, dr, rfl⟩
theorem cp_take {lo' : Option Value} (F : Fr h₀ L h' (fun y => if y = Str.ofString "lo" then lo' else if y = Str.ofString "w" then some (.int k tk') else cpM M lo wv wt y)) (N : News h₀ L h' ((dw, ow') :: (dn, od') :: (ds, os') :: news)) (he : ks = pre ++ k :: post) (hw : ISet w ow' W'') (hd : ISet w od' D') (hs : ISet w os' S') (hP : PInv n S D ks) (h1 : n ≤ 4800) (hk : k ∉ S) (hk2 : 2048 < k)
    (hS : Added S k S') (hD : Added D (k / 2) D') (hW : Added (pre ++ post) (k / 2) W') (hodd : if k % 2 = 1 then Added W' (k / 2 + 1) W'' else W'' = W') :
    CpEnd w n M dw dn ds news h₀ L s (wts ks) .next { s with heap := h', toks := tk, drawn := dr } := by
  subst he
  obtain ⟨inv, less⟩ := pinv_take h1 hP hk hk2 hS hD hW hodd
  have names : (fun y => if y = Str.ofString "lo" then lo' else if y = Str.ofString "w" then some (.int k tk') else cpM M lo wv wt y) = cpM M lo' k tk' := funext fun y => by
    by_cases e : y = Str.ofString "lo"
    · subst e; simp [cpM]
    · by_cases e2 : y = Str.ofString "w"
      · subst e2; simp [cpM, e]
      · simp [cpM, e, e2]
  exact ⟨.inl rfl, _, less, S', D', _, lo', k, tk', h', ⟨names ▸ F, ⟨_, _, _, N, hw, hd, hs⟩, inv⟩, rfl, tk, dr, rfl⟩
end
section
variable {prog : Program} {w : World} {A : Around} {E : Value → Shared → Prop} {s : Shared} {h₀ : Heap} {L sa : Addr} {m : Str → Option Value} {news : List (Addr × Obj)} {so : Obj} {ks : List Int}
theorem iset_truthy_ne {Q : Bool → Shared → Prop} (N : News h₀ L s.heap news) (hmem : (sa, so) ∈ news) (hI : ISet w so ks) (hz : ks.length < scanBound) (hne : ks ≠ []) (h : Q true { s with toks := s.toks + 1 + 1 }) :
    wpAny (model prog w) A (truthy (.ref sa)) Q E s := iset_truthy N hmem hI hz (by cases ks with | nil => exact absurd rfl hne | cons _ _ => exact h)
theorem iset_truthy_nil {Q : Bool → Shared → Prop} (N : News h₀ L s.heap news) (hmem : (sa, so) ∈ news) (hI : ISet w so []) (h : Q false { s with toks := s.toks + 1 + 1 }) :
    wpAny (model prog w) A (truthy (.ref sa)) Q E s := iset_truthy N hmem hI (by decide) h
end
end Mine
end
section
open PySem PySem.W PyProof.Rows PySem.Calls PySem.Spec
set_option maxRecDepth 100000
namespace Mine
/-! sizes of ints: at most b bits -/
def Sm (b : Nat) (x : Int) : Prop := x.natAbs < 2 ^ b
theorem Sm.bits {b : Nat} {x : Int} (h : Sm b x) : Builtin.Int.intBits x ≤ b := by
  unfold Builtin.Int.intBits
  split
  · omega
  · rename_i h0
    have h0' : x.natAbs ≠ 0 := fun e => h0 (by simp [Int.natAbs_eq_zero.mp e])
    exact (Nat.log2_lt h0').mpr h
theorem Sm.mono {b c : Nat} {x : Int} (h : Sm b x) (hbc : b ≤ c) : Sm c x := Nat.lt_of_lt_of_le h (Nat.pow_le_pow_right (by decide) hbc)
theorem Sm.mul {b c : Nat} {x y : Int} (h : Sm b x) (h' : Sm c y) : Sm (b + c) (x * y) := by
  unfold Sm at *
  rw [Int.natAbs_mul, Nat.pow_add]
  rcases Nat.eq_zero_or_pos x.natAbs with e | e
  · rw [e, Nat.zero_mul]; exact Nat.mul_pos (Nat.pow_pos (by decide)) (Nat.pow_pos (by decide))
  · exact Nat.mul_lt_mul_of_lt_of_le h (Nat.le_of_lt h') (Nat.lt_of_le_of_lt (Nat.zero_le _) h')
theorem Sm.add {b : Nat} {x y : Int} (h : Sm b x) (h' : Sm b y) : Sm (b + 1) (x + y) := by
  unfold Sm at *
  rw [Nat.pow_succ]
  have := Int.natAbs_add_le x y
  omega
theorem Sm.pow {b : Nat} {x : Int} (h : Sm b x) : ∀ n : Nat, Sm (b * n + 1) (x ^ n)
  | 0 => by unfold Sm; simp
  | n + 1 => by
    rw [Int.pow_succ]
    have := (Sm.pow h n).mul h
    exact this.mono (by rw [Nat.mul_succ]; omega)
theorem Sm.of_le {b : Nat} {x y : Int} (h : Sm b y) (h0 : 0 ≤ x) (h1 : x ≤ y) : Sm b x := by unfold Sm at *; omega
theorem Sm.lit {b : Nat} {x : Int} (h : x.natAbs < 2 ^ b) : Sm b x := h
section
variable {prog : Program} {w : World} {A : Around} {E : Value → Shared → Prop} {s : Shared} {a b : Int} {t u : Tok} {Q : Value → Shared → Prop} {i j : Nat}
theorem mulS (ha : Sm i a) (hb : Sm j b) (hs : i + j ≤ 1000000) (h : Q (.int (a * b) s.toks) { s with toks := s.toks + 1 }) : wpAny (model prog w) A (binaryOp .Mult (.int a t) (.int b u)) Q E s := by
  refine PyProof.Rows.mul_int h ?_
  unfold IntMulOk
  have h1 := ha.bits
  have h2 := hb.bits
  have e : Builtin.Int.intTooBig ((Builtin.Int.intBits a : Int) + (Builtin.Int.intBits b : Int)) = false := by
    unfold Builtin.Int.intTooBig
    refine decide_eq_false ?_
    rw [show bitsLine = 134217728 from rfl]
    omega
  rw [e, Bool.and_false]
  exact Bool.false_ne_true
theorem imulS (ha : Sm i a) (hb : Sm j b) (hs : i + j ≤ 1000000) (h : Q (.int (a * b) s.toks) { s with toks := s.toks + 1 }) : wpAny (model prog w) A (inplaceOp .Mult (.int a t) (.int b u)) Q E s := by
  refine PyProof.Rows.imul_int h ?_
  unfold IntMulOk
  have h1 := ha.bits
  have h2 := hb.bits
  have e : Builtin.Int.intTooBig ((Builtin.Int.intBits a : Int) + (Builtin.Int.intBits b : Int)) = false := by
    unfold Builtin.Int.intTooBig
    refine decide_eq_false ?_
    rw [show bitsLine = 134217728 from rfl]
    omega
  rw [e, Bool.and_false]
  exact Bool.false_ne_true
theorem shlS (ha : Sm i a) (h0 : 0 ≤ b) (hb : b ≤ 100000) (hs : i ≤ 1000000) (h : Q (.int (a * 2 ^ b.toNat) s.toks) { s with toks := s.toks + 1 }) : wpAny (model prog w) A (binaryOp .LShift (.int a t) (.int b u)) Q E s :=
  lshift_int h0 (by have := ha.bits; omega) h
theorem powS (ha : Sm i a) (h0 : 0 ≤ b) (hb : b ≤ 1000) (hs : i ≤ 100000) (h : Q (.int (a ^ b.toNat) s.toks) { s with toks := s.toks + 1 }) : wpAny (model prog w) A (binaryOp .Pow (.int a t) (.int b u)) Q E s :=
  pow_int h0 (by
    have h1 : (Builtin.Int.intBits a : Int) ≤ 100000 := by have := ha.bits; omega
    have h2 := Int.mul_le_mul h1 hb h0 (by decide)
    exact Int.le_trans h2 (by decide)) h
theorem rshift1 (h : Q (.int (a / 2) s.toks) { s with toks := s.toks + 1 }) : wpAny (model prog w) A (binaryOp .RShift (.int a t) (.int 1 u)) Q E s :=
  rshift_int (by decide) (by
    have e : a.fdiv (2 ^ Int.toNat 1) = a / 2 := by
      rw [show (2 : Int) ^ Int.toNat 1 = 2 from rfl, Int.fdiv_eq_ediv_of_nonneg _ (by decide)]
    rw [e]; exact h)
theorem and1 (h0 : 0 ≤ a) (h : Q (.int (a % 2) s.toks) { s with toks := s.toks + 1 }) : wpAny (model prog w) A (binaryOp .BitAnd (.int a t) (.int 1 u)) Q E s :=
  and_int (by
    have e : Builtin.bitAnd a 1 = a % 2 := by
      unfold Builtin.bitAnd
      rw [decide_eq_true h0]
      show ((a.toNat &&& 1 : Nat) : Int) = a % 2
      rw [Nat.and_one_is_mod]
      omega
    rw [e]; exact h)
end
theorem sm5 {k : Int} (hk : k ≤ 3000) : Sm 20000 (5 ^ k.toNat) := ((Sm.lit (b := 3) (x := 5) (by decide)).pow k.toNat).mono (by omega)
theorem sm55 {k : Int} (hk : k ≤ 3000) : Sm 20000 (5 ^ k.toNat * 5 ^ k.toNat) := (((Sm.lit (b := 3) (x := 5) (by decide)).pow k.toNat).mul ((Sm.lit (b := 3) (x := 5) (by decide)).pow k.toNat)).mono (by omega)
theorem smFive : Sm 20000 5 := (Sm.lit (b := 3) (x := 5) (by decide)).mono (by decide)
theorem bitAnd_one {a : Int} (h0 : 0 ≤ a) : Builtin.bitAnd a 1 = a % 2 := by
  unfold Builtin.bitAnd
  rw [decide_eq_true h0]
  show ((a.toNat &&& 1 : Nat) : Int) = a % 2
  rw [Nat.and_one_is_mod]
  omega
section
variable {w : World} {Q : Flow → Shared → Prop} {s : Shared} {h₀ : Heap} {L dw dn ds : Addr} {news : List (Addr × Obj)} {M : Str → Option Value} {n : Int} {S D pre post S' D' W' W'' : List Int} {lo lo' : Option Value} {wv k : Int} {wt tk' : Tok} {ow' od' os' : Obj} {h' : Heap} {dr : Drawn} {tk : Nat} {ks : List Int}
theorem cp_takeO (F : Fr h₀ L h' (fun y => if y = Str.ofString "lo" then lo' else if y = Str.ofString "w" then some (.int k tk') else cpM M lo wv wt y)) (N : News h₀ L h' ((dw, ow') :: (dn, od') :: (ds, os') :: news)) (he : ks = pre ++ k :: post) (hw : ISet w ow' W'') (hd : ISet w od' D') (hs : ISet w os' S') (hP : PInv n S D ks) (h1 : n ≤ 4800) (hk : k ∉ S) (hk2 : ¬ k ≤ 2048)
    (hS : Added S k S') (hD : Added D (k / 2) D') (hW : Added (pre ++ post) (k / 2) W') (hodd : Added W' (k / 2 + 1) W'') (hb : ¬ Builtin.bitAnd k 1 = 0) :
    CpEnd w n M dw dn ds news h₀ L s (wts ks) .next { s with heap := h', toks := tk, drawn := dr } :=
  cp_take F N he hw hd hs hP h1 hk (by omega) hS hD hW (by rw [bitAnd_one (by omega)] at hb; rw [if_pos (by omega)]; exact hodd)
theorem cp_takeE (F : Fr h₀ L h' (fun y => if y = Str.ofString "lo" then lo' else if y = Str.ofString "w" then some (.int k tk') else cpM M lo wv wt y)) (N : News h₀ L h' ((dw, ow') :: (dn, od') :: (ds, os') :: news)) (he : ks = pre ++ k :: post) (hw : ISet w ow' W') (hd : ISet w od' D') (hs : ISet w os' S') (hP : PInv n S D ks) (h1 : n ≤ 4800) (hk : k ∉ S) (hk2 : ¬ k ≤ 2048)
    (hS : Added S k S') (hD : Added D (k / 2) D') (hW : Added (pre ++ post) (k / 2) W') (hb : Builtin.bitAnd k 1 = 0) :
    CpEnd w n M dw dn ds news h₀ L s (wts ks) .next { s with heap := h', toks := tk, drawn := dr } :=
  cp_take F N he hw hd hs hP h1 hk (by omega) hS hD hW (by rw [bitAnd_one (by omega)] at hb; rw [if_neg (by omega)])
end
/-! the end of the loop: what is needed -/
theorem pinv_nil {n : Int} {S D : List Int} (h : PInv n S D []) (hn : n ≤ 2048) : D = [] := by
  cases D with
  | nil => rfl
  | cons j r =>
    obtain ⟨k, hk, _⟩ := h.need j (.head _)
    have := h.seen k hk
    omega
theorem pinv_need {n : Int} {S D : List Int} (h : PInv n S D []) (hn : 2048 < n) :
    n / 2 ∈ D ∧ (2048 < n / 2 → n / 2 / 2 ∈ D) ∧ (2048 < (n + 1) / 2 → (n + 1) / 2 / 2 ∈ D) ∧ ∀ j ∈ D, j = n / 2 ∨ (2048 < n / 2 ∧ j = n / 2 / 2) ∨ (2048 < (n + 1) / 2 ∧ j = (n + 1) / 2 / 2) := by
  have hS : n ∈ S := by
    rcases h.here with q | q | q
    · exact q
    · cases q
    · omega
  obtain ⟨a, b, c⟩ := h.half n hS
  refine ⟨a, fun q => ?_, fun q => ?_, fun j hj => ?_⟩
  · rcases b with b | b | b
    · exact (h.half _ b).1
    · cases b
    · omega
  · rcases c with c | c | c
    · exact (h.half _ c).1
    · cases c
    · omega
  · obtain ⟨k, hk, e⟩ := h.need j hj
    obtain ⟨h1, _, h3⟩ := h.seen k hk
    rcases h3 with q | q | q
    · left; omega
    · right; left; exact ⟨by omega, by omega⟩
    · right; right; exact ⟨by omega, by omega⟩
/-- the sorted list of what is needed -/
theorem need_shape {n : Int} {S D ns : List Int} (h : PInv n S D []) (hn : 2048 < n) (hn2 : n ≤ 4800) (hd : D.Nodup) (hp : ns.Perm D) (hs : ns.Pairwise (· ≤ ·)) :
    ns = [n / 2] ∧ n ≤ 4096 ∨ (2048 ≤ n / 2 ∧ ns = [n / 2 / 2, n / 2] ∧ (2048 < (n + 1) / 2 → (n + 1) / 2 / 2 = n / 2 / 2)) ∨ (2048 ≤ n / 2 ∧ ns = [n / 2 / 2, n / 2 / 2 + 1, n / 2] ∧ (n + 1) / 2 / 2 = n / 2 / 2 + 1) := by
  obtain ⟨a, b, c, d⟩ := pinv_need h hn
  have hlt : ns.Pairwise (· < ·) := by
    have hnd : ns.Pairwise (· ≠ ·) := hp.nodup_iff.mpr hd
    exact (hs.and hnd).imp fun ⟨x, y⟩ => by omega
  have a' := hp.mem_iff.mpr a
  have b' : 2048 < n / 2 → n / 2 / 2 ∈ ns := fun q => hp.mem_iff.mpr (b q)
  have c' : 2048 < (n + 1) / 2 → (n + 1) / 2 / 2 ∈ ns := fun q => hp.mem_iff.mpr (c q)
  have d' : ∀ j ∈ ns, j = n / 2 ∨ (2048 < n / 2 ∧ j = n / 2 / 2) ∨ (2048 < (n + 1) / 2 ∧ j = (n + 1) / 2 / 2) := fun j hj => d j (hp.mem_iff.mp hj)
  match ns, hlt, a', b', c', d' with
  | [], _, a', _, _, _ => cases a'
  | [x], _, a', b', c', d' =>
    left
    simp only [List.mem_singleton] at a' b' c'
    have : n ≤ 4096 := by omega
    exact ⟨by rw [a'], this⟩
  | [x, y], hlt, a', b', c', d' =>
    have hxy : x < y := by simpa using hlt
    have dx := d' x (by simp)
    have dy := d' y (by simp)
    simp only [List.mem_cons, List.not_mem_nil, or_false] at a' b' c'
    right; left
    have e1 : y = n / 2 := by omega
    have e2 : x = n / 2 / 2 := by omega
    subst e1 e2
    exact ⟨by omega, rfl, by omega⟩
  | [x, y, z], hlt, a', b', c', d' =>
    have h3 : x < y ∧ x < z ∧ y < z := by simpa [List.pairwise_cons, and_assoc] using hlt
    have dx := d' x (by simp)
    have dy := d' y (by simp)
    have dz := d' z (by simp)
    right; right
    have e1 : z = n / 2 := by omega
    have e2 : x = n / 2 / 2 := by omega
    have e3 : y = n / 2 / 2 + 1 := by omega
    subst e1 e2 e3
    exact ⟨by omega, rfl, by omega⟩
  | x :: y :: z :: v :: r, hlt, a', b', c', d' =>
    exfalso
    have h4 : x < y ∧ y < z ∧ z < v := by
      simp only [List.pairwise_cons, List.mem_cons] at hlt
      exact ⟨hlt.1 y (by simp), hlt.2.1 z (by simp), hlt.2.2.1 v (by simp)⟩
    have dx := d' x (by simp)
    have dy := d' y (by simp)
    have dz := d' z (by simp)
    have dv := d' v (by simp)
    omega
end Mine
end
section
open PySem PySem.W PyProof.Rows PySem.Calls PySem.Spec
set_option maxRecDepth 100000
namespace Mine
def LIter (o : Obj) (l : Addr) (i : Nat) : Prop := o.cls = .type "list_iterator" ∧ o.data = .fields #[.ref l, .int i 0]
section
variable {prog : Program} {w : World} {A : Around} {E : Value → Shared → Prop} {s : Shared} {h₀ : Heap} {L l it : Addr} {m : Str → Option Value} {news : List (Addr × Obj)} {g : Obj → List (Addr × Obj)} {lo io : Obj} {vs : List Value} {c i : Nat} {x : Value}
theorem LIter.at {h : Heap} (a : LIter io l i) (ho : h.get? it = some io) : h.IsListIter it l i := ⟨io, ho, a.1, a.2⟩
theorem lit_iter {Q : Value → Shared → Prop} (F : Fr h₀ L s.heap m) (N : News h₀ L s.heap news) (hp : (l, lst vs.toArray c) ∈ news)
    (h : ∀ (I : Addr) h' oI, Fr h₀ L h' m → News h₀ L h' ((I, oI) :: news) → (∀ p ∈ news, p.1 < I) → LIter oI l 0 → Q (.ref I) { s with heap := h' }) :
    wpAny (model prog w) A (call (.builtin "iter") [.ref l]) Q E s := by
  have isl : s.heap.IsList l vs.toArray := ⟨_, (N _ hp).1, rfl, c, rfl⟩
  refine call_function_entry (by decide +kernel) (by decide +kernel) kdk_entry_iter (kdk_args_iter _) ?_
  unfold Builtin.«iter»
  wp_walk using wpAny_pyIter_list isl
  exact ⟨_, rfl, h _ _ _ (F.push _) (News.push F N _ rfl) (fun q hq => Heap.lt_size (N q hq).1) ⟨rfl, rfl⟩⟩
/-- the iterator's own __next__: an item, and the end -/
theorem lit_body {Q : Value → Shared → Prop} {ol : Obj} {items : Array Value} {n : Nat} (ho : s.heap.get? it = some io) (hi : LIter io l i) (hl : s.heap.get? l = some ol) (hd : ol.data = .seq items n) (hx : items[i]? = some x)
    (h : ∀ h' o', h'.get? it = some o' → LIter o' l (i + 1) → Heap.SameBut it s.heap h' → Q x { s with heap := h' }) :
    wpAny (model prog w) A (Builtin.«list_iterator.__next__» ⟨[.ref it], []⟩) (fun fin s' => ∃ v, fin = .done (.ret v) ∧ Q v s') E s := by
  obtain ⟨cls, data⟩ := hi
  change items[(i : Int).toNat]? = _ at hx
  unfold Builtin.«list_iterator.__next__»
  wp_walk using wpAny_field ho data (i := 0) (x := .ref l) rfl, wpAny_field ho data (i := 1) (x := .int i 0) rfl, wpAny_seqItems hl hd
  rw [hx]
  wp_walk using field_put ho data
  · simp
  · exact fun h' o' g c d same => wpAny_pure ⟨x, rfl, h h' o' g ⟨c.trans cls, d⟩ same⟩
theorem lit_last {ol : Obj} {items : Array Value} {n : Nat} {Q : PySem.Fin → Shared → Prop} (hh : A.handled = none) (ho : s.heap.get? it = some io) (hi : LIter io l i) (hl : s.heap.get? l = some ol) (hd : ol.data = .seq items n) (hx : items[i]? = none)
    (h : ∀ e h' o', h'.get? it = some o' → Heap.ExtBut it s.heap h' → Shared.TypeIs { s with heap := h' } e "StopIteration" → E e { s with heap := h' }) :
    wpAny (model prog w) A (Builtin.«list_iterator.__next__» ⟨[.ref it], []⟩) Q E s := by
  obtain ⟨cls, data⟩ := hi
  change items[(i : Int).toNat]? = _ at hx
  unfold Builtin.«list_iterator.__next__»
  wp_walk using wpAny_field ho data (i := 0) (x := .ref l) rfl, wpAny_field ho data (i := 1) (x := .int i 0) rfl, wpAny_seqItems hl hd
  rw [hx]
  wp_walk using field_put ho data
  · simp
  · exact fun h₁ o₁ g _ _ same => stop_raised hh fun e h' k ty => h e h' o₁ (k _ _ g) (fun b ob n q => k b ob (same.extBut b ob n q)) ty
theorem lit_end {items : Array Value} {Q : Option Value → Shared → Prop} {c : Nat} (hh : A.handled = none) (ho : s.heap.get? it = some io) (hi : LIter io l i) (hl : s.heap.get? l = some (lst items c)) (hx : items[i]? = none)
    (hQ : ∀ h' o', h'.get? it = some o' → Heap.ExtBut it s.heap h' → Q none { s with heap := h' }) : wpAny (model prog w) A (pyNext (.ref it)) Q E s :=
  next_own ⟨_, ho, hi.1⟩ slot_listiter_next entry_listiter_next (args_listiter_next _) (lit_last hh ho hi hl rfl hx fun _ h' o' g e ty => ⟨ty, hQ h' o' g e⟩)
theorem lit_next {Q : Value → Shared → Prop} (F : Fr h₀ L s.heap m) (N : News h₀ L s.heap news) (U : UpdF it io news g) (hi : LIter io l i) (hp : (l, lst vs.toArray c) ∈ news) (hx : vs[i]? = some x)
    (h : ∀ h' o', Fr h₀ L h' m → News h₀ L h' (g o') → LIter o' l (i + 1) → Q x { s with heap := h' }) :
    wpAny (model prog w) A (call (.builtin "next") [.ref it]) Q E s := by
  obtain ⟨pre, post, rfl, back, n1, n2⟩ := U.split
  have ⟨here, off, old⟩ := N (it, io) (by simp)
  have ty : s.TypeIs (.ref it) "list_iterator" := ⟨_, here, hi.1⟩
  have go : wpAny (model prog w) A.in1 (callSpecial? (.ref it) (Str.ofString "__next__")) (fun r s' => r = some x ∧ Q x s') E s :=
    special_own ty slot_listiter_next entry_listiter_next (args_listiter_next _) (wpAny_mono (lit_body (Q := fun v s' => v = x ∧ Q x s') here hi (N _ hp).1 rfl (by rw [List.getElem?_toArray]; exact hx)
      fun h' o' g i same => ⟨rfl, h h' o' (F.change same off old) (back o' ▸ N.setIn n1 n2 same g) i⟩) (fun _ _ ⟨v, e, q⟩ => ⟨v, e, congrArg some q.1, q.2⟩) fun _ _ q => q)
  refine call_function_entry (by decide +kernel) (by decide +kernel) kdk_entry_next (kdk_args_next _) ?_
  unfold Builtin.«next»
  refine wpAny_bind (wpAny_pure (a := [Value.ref it]) ?_)
  dsimp only [List.headD_cons]
  wp_walk using wpAny_specialOf (name := Str.ofString "__next__") ty slot_listiter_next.lookup, wpAny_mono go
  · rintro _ s' ⟨rfl, q⟩
    exact wpAny_pure ⟨_, rfl, q⟩
  · exact fun _ _ q => q
end
section
variable {prog : Program} {w : World} {A : Around} {E : Value → Shared → Prop} {s : Shared} {h₀ : Heap} {L l it : Addr} {m : Str → Option Value} {news : List (Addr × Obj)} {g : Obj → List (Addr × Obj)} {lo io : Obj} {vs : List Value} {c i : Nat} {Q : Flow → Shared → Prop} {env : Env} {x : Str} {body : List Stmt}
/-- a for over a list's iterator, from its place on, turn by turn -/
def FRest (prog : Program) (w : World) (A : Around) (E : Value → Shared → Prop) (h₀ : Heap) (L l it : Addr) (vs : List Value) (env : Env) (x : Str) (body : List Stmt) (Q : Flow → Shared → Prop) : List Value → Nat → Shared → Prop
  | [], i, s => ∃ m news io c g, Fr h₀ L s.heap m ∧ News h₀ L s.heap news ∧ UpdF it io news g ∧ LIter io l i ∧ (l, lst vs.toArray c) ∈ news ∧ vs.drop i = [] ∧
      ∀ h' o', Fr h₀ L h' m → News h₀ L h' (g o') → Q .next { s with heap := h' }
  | v :: r, i, s => ∃ m news io c g, Fr h₀ L s.heap m ∧ News h₀ L s.heap news ∧ UpdF it io news g ∧ LIter io l i ∧ (l, lst vs.toArray c) ∈ news ∧ vs.drop i = v :: r ∧
      ∀ h' o', Fr h₀ L h' m → News h₀ L h' (g o') → LIter o' l (i + 1) → wpAny (model prog w) A (storeName env x v) (fun _ s₂ => wpAny (model prog w) A (execs body env) (fun f s₃ => match f with
        | .next | .cont => FRest prog w A E h₀ L l it vs env x body Q r (i + 1) s₃
        | .brk => Q .next s₃
        | .ret v => Q (.ret v) s₃) E s₂) E { s with heap := h' }
theorem frest_at {rest : List Value} (h : FRest prog w A E h₀ L l it vs env x body Q rest i s) : ∃ news io g, News h₀ L s.heap news ∧ UpdF it io news g ∧ LIter io l i := by
  cases rest with
  | nil => obtain ⟨m, news, io, c, g, F, N, U, hi, _⟩ := h; exact ⟨news, io, g, N, U, hi⟩
  | cons v r => obtain ⟨m, news, io, c, g, F, N, U, hi, _⟩ := h; exact ⟨news, io, g, N, U, hi⟩
theorem for_li {e : Expr} {p pos : Pos} {rest : List Value} (hh : A.handled = none)
    (h : wpAny (model prog w) A (eval e env) (fun v s' => v = .ref it ∧ FRest prog w A E h₀ L l it vs env x body Q rest i s') E s)
    (hf : ∀ v, foldedSetIterable e env v = pure v := by intro _; rfl) (hE : PassesOwn (model prog w) A env E := by passes_own) :
    wpAny (model prog w) A (exec (.For (.Name x p) e body [] pos) env) Q E s := by
  rw [arm_exec_For]
  refine wpAny_bind (wpAny_standAt ?_)
  refine wpAny_bind (wpAny_mono h (fun v s' hv => ?_) fun _ _ q => q)
  obtain ⟨rfl, hr⟩ := hv
  rw [hf]
  refine wpAny_bind (wpAny_pure ?_)
  refine wpAny_bind (wpAny_standAt ?_)
  obtain ⟨news, io, g, N, U, hi⟩ := frest_at hr
  have hmem : (it, io) ∈ news := by
    obtain ⟨pre, post, hl, _⟩ := U.split
    rw [hl]; exact List.mem_append_right _ (.head _)
  refine wpAny_bind (wpAny_holding (wpAny_pyIter_listiter (hi.at (N _ hmem).1) ?_))
  refine wpAny_runOwn (codeAny_forLoop (fun n s => ∃ r i, r.length = n ∧ FRest prog w A E h₀ L l it vs env x body Q r i s) ?_ rest.length ⟨rest, i, rfl, hr⟩)
  rintro n s₁ ⟨r, j, hlen, hF⟩
  cases r with
  | nil =>
    obtain ⟨m, news, io, c, g, F, N, U, hi, hp, hd, hq⟩ := hF
    obtain ⟨pre, post, hl, hg, a, b⟩ := U.split
    have hmem : (it, io) ∈ news := by rw [hl]; exact List.mem_append_right _ (.head _)
    have hm := N (it, io) hmem
    refine lit_end (items := vs.toArray) hh hm.1 hi (N _ hp).1 ?_ fun h' o' ho' he => ?_
    · rw [List.getElem?_toArray]
      have := congrArg List.length hd
      rw [List.length_drop, List.length_nil] at this
      exact List.getElem?_eq_none (by omega)
    · have F' : Fr h₀ L h' m := by
        obtain ⟨oL, es, ep, hL, r⟩ := F.ns
        exact ⟨⟨oL, es, ep, he L oL (fun e => hm.2.1 e.symm) hL, r⟩, fun b o e => he b o (fun q => by rw [q, hm.2.2] at e; cases e) (F.keep b o e), F.above⟩
      refine wpAny_execs_nil (hq h' o' F' ?_)
      rw [hg]
      intro q hq'
      rcases List.mem_append.mp hq' with z | z
      · have n := N q (by rw [hl]; exact List.mem_append_left _ z)
        exact ⟨he _ _ (a q z) n.1, n.2⟩
      · rcases List.mem_cons.mp z with rfl | z
        · exact ⟨ho', hm.2⟩
        · have n := N q (by rw [hl]; exact List.mem_append_right _ (.tail _ z))
          exact ⟨he _ _ (b q z) n.1, n.2⟩
  | cons v r =>
    obtain ⟨m, news, io, c, g, F, N, U, hi, hp, hd, hq⟩ := hF
    obtain ⟨pre, post, hl, hg, a, b⟩ := U.split
    have hmem : (it, io) ∈ news := by rw [hl]; exact List.mem_append_right _ (.head _)
    have hm := N (it, io) hmem
    refine wpAny_mono (wpAny_pyNext_list_item (items := vs.toArray) (x := v) (hi.at hm.1) ⟨_, (N _ hp).1, rfl, c, rfl⟩ ?_ fun h' hit' hs => ?_) (fun _ _ q => q) hE
    · rw [List.getElem?_toArray]
      have := congrArg (fun l => l[0]?) hd
      simpa [List.getElem?_drop] using this
    · obtain ⟨o', ho', hc', hd'⟩ := hit'
      have F' : Fr h₀ L h' m := F.change hs hm.2.1 hm.2.2
      have N' : News h₀ L h' (g o') := hg o' ▸ (show News h₀ L s₁.heap (pre ++ (it, io) :: post) from hl ▸ N).setIn a b hs ho'
      have key := hq h' o' F' N' ⟨hc', hd'⟩
      dsimp only
      refine PyProof.Rows.assign_Name (wpAny_mono key (fun _ s₂ h₂ => wpAny_mono h₂ (fun f s₃ h₃ => ?_) hE) hE)
      cases f with
      | next => exact ⟨r.length, by rw [← hlen]; exact Nat.lt_succ_self _, r, j + 1, rfl, h₃⟩
      | cont => exact ⟨r.length, by rw [← hlen]; exact Nat.lt_succ_self _, r, j + 1, rfl, h₃⟩
      | brk => exact h₃
      | ret v => exact h₃
end
end Mine
end
section
open PySem PySem.W PyProof.Rows PySem.Calls PySem.Spec
set_option maxRecDepth 100000
namespace Mine
theorem allLt_neLe {L d : Nat} {l : List (Addr × Obj)} (h : AllLt L l) (hle : L ≤ d) : ∀ p ∈ l, p.1 ≠ d := fun p hp => Nat.ne_of_lt (Nat.lt_of_lt_of_le (tb_ltOf h p hp) hle)
theorem valueAt_cons (a : Int) (x : Value) (r : List (Int × Value)) (k : Int) : valueAt ((a, x) :: r) k = if a = k then some x else valueAt r k := by
  unfold valueAt
  rw [List.find?_cons]
  by_cases h : a = k
  · simp [h]
  · simp [h]
theorem valueAt_self {k : Int} {v : Value} : ∀ (kvs : List (Int × Value)), valueAt (stored kvs k v) k = some v := by
  intro kvs
  unfold stored
  by_cases h : kvs.any (fun kv => decide (kv.1 = k)) = true
  · rw [if_pos h]
    induction kvs with
    | nil => cases h
    | cons p r ih =>
      obtain ⟨a, x⟩ := p
      rw [List.map_cons]
      by_cases e : a = k
      · simp only [e, if_true]; rw [valueAt_cons, if_pos rfl]
      · simp only [e, if_false]; rw [valueAt_cons, if_neg e]
        refine ih ?_
        simpa [e] using h
  · rw [if_neg h]
    induction kvs with
    | nil => rw [List.nil_append, valueAt_cons, if_pos rfl]
    | cons p r ih =>
      obtain ⟨a, x⟩ := p
      have h' : ¬ a = k ∧ ¬ r.any (fun kv => decide (kv.1 = k)) = true := by simpa using h
      rw [List.cons_append, valueAt_cons, if_neg h'.1]
      exact ih h'.2
theorem valueAt_ne {k k' : Int} {v : Value} (hk : k' ≠ k) : ∀ (kvs : List (Int × Value)), valueAt (stored kvs k v) k' = valueAt kvs k' := by
  intro kvs
  unfold stored
  by_cases h : kvs.any (fun kv => decide (kv.1 = k)) = true
  · rw [if_pos h]
    clear h
    induction kvs with
    | nil => rfl
    | cons p r ih =>
      obtain ⟨a, x⟩ := p
      rw [List.map_cons]
      by_cases e : a = k
      · simp only [e, if_true]; rw [valueAt_cons, valueAt_cons, if_neg (Ne.symm hk), if_neg (Ne.symm hk)]; exact ih
      · simp only [e, if_false]; rw [valueAt_cons, valueAt_cons, ih]
  · rw [if_neg h]
    clear h
    induction kvs with
    | nil => rw [List.nil_append, valueAt_cons, if_neg (Ne.symm hk)]
    | cons p r ih =>
      obtain ⟨a, x⟩ := p
      rw [List.cons_append, valueAt_cons, valueAt_cons, ih]
/-- the dict bears the power of five at k -/
def PowAt (kvs : List (Int × Value)) (k : Int) : Prop := ∃ t, valueAt kvs k = some (.int (5 ^ k.toNat) t)
def PowD (prog : Program) (w : World) (o : Obj) (n : Int) : Prop :=
  ∃ kvs, o.IsDictOf (PySem.intKind prog w) kvs ∧ (2048 < n → PowAt kvs (n / 2)) ∧ (2048 < n / 2 → PowAt kvs (n / 2 / 2)) ∧ (2048 < (n + 1) / 2 → PowAt kvs ((n + 1) / 2 / 2))
theorem powAt_self {kvs : List (Int × Value)} {k : Int} {x : Int} {t : Tok} (h : x = 5 ^ k.toNat) : PowAt (stored kvs k (.int x t)) k := ⟨t, by rw [valueAt_self, h]⟩
theorem powAt_ne {kvs : List (Int × Value)} {k k' : Int} {v : Value} (h : PowAt kvs k') (hk : k' ≠ k) : PowAt (stored kvs k v) k' := let ⟨t, e⟩ := h; ⟨t, by rw [valueAt_ne hk]; exact e⟩
theorem powD_0 {prog : Program} {w : World} {o : Obj} {n : Int} (hd : o.IsDictOf (PySem.intKind prog w) []) (h : n ≤ 2048) : PowD prog w o n := ⟨_, hd, by omega, by omega, by omega⟩
theorem powD_1 {prog : Program} {w : World} {o : Obj} {n : Int} {x : Int} {t : Tok} (hd : o.IsDictOf (PySem.intKind prog w) (stored [] (n / 2) (.int x t))) (h : n ≤ 4096) (hx : x = 5 ^ (n / 2).toNat) : PowD prog w o n :=
  ⟨_, hd, fun _ => powAt_self hx, by omega, by omega⟩
theorem powD_2 {prog : Program} {w : World} {o : Obj} {n : Int} {x y : Int} {t u : Tok} (hd : o.IsDictOf (PySem.intKind prog w) (stored (stored [] (n / 2 / 2) (.int x t)) (n / 2) (.int y u))) (h : 2048 ≤ n / 2)
    (he : 2048 < (n + 1) / 2 → (n + 1) / 2 / 2 = n / 2 / 2) (hx : x = 5 ^ (n / 2 / 2).toNat) (hy : y = 5 ^ (n / 2).toNat) : PowD prog w o n :=
  ⟨_, hd, fun _ => powAt_self hy, fun _ => powAt_ne (powAt_self hx) (by omega), fun q => by rw [he q]; exact powAt_ne (powAt_self hx) (by omega)⟩
theorem powD_3 {prog : Program} {w : World} {o : Obj} {n : Int} {x y z : Int} {t u v : Tok} (hd : o.IsDictOf (PySem.intKind prog w) (stored (stored (stored [] (n / 2 / 2) (.int x t)) (n / 2 / 2 + 1) (.int y u)) (n / 2) (.int z v))) (h : 2048 ≤ n / 2)
    (he : (n + 1) / 2 / 2 = n / 2 / 2 + 1) (hx : x = 5 ^ (n / 2 / 2).toNat) (hy : y = 5 ^ (n / 2 / 2 + 1).toNat) (hz : z = 5 ^ (n / 2).toNat) : PowD prog w o n :=
  ⟨_, hd, fun _ => powAt_self hz, fun _ => powAt_ne (powAt_ne (powAt_self hx) (by omega)) (by omega), fun _ => by rw [he]; exact powAt_ne (powAt_self hy) (by omega)⟩
/-! powers of five -/
theorem five_succ {k : Int} (h : 0 ≤ k) : (5 : Int) ^ k.toNat * 5 = 5 ^ (k + 1).toNat := by
  rw [show (k + 1).toNat = k.toNat + 1 by omega, Int.pow_succ]
theorem five_dbl {k j : Int} (h : 0 ≤ k) (e : j = 2 * k) : (5 : Int) ^ k.toNat * 5 ^ k.toNat = 5 ^ j.toNat := by
  rw [show j.toNat = k.toNat + k.toNat by omega, Int.pow_add]
theorem five_dbl1 {k j : Int} (h : 0 ≤ k) (e : j = 2 * k + 1) : (5 : Int) ^ k.toNat * 5 ^ k.toNat * 5 = 5 ^ j.toNat := by
  rw [show j.toNat = k.toNat + k.toNat + 1 by omega, Int.pow_succ, Int.pow_add]
end Mine
end
section
open PySem PySem.W PyProof.Rows PySem.Calls PySem.Spec
set_option maxRecDepth 100000
set_option maxHeartbeats 8000000
set_option linter.unusedVariables false
namespace Mine
theorem fillDzSpecPow : ∀ w, (WalkO Mine.hd.view_39 [Str.ofString "compute_powers"] (XL Mine.hd.view_39 []) (fun (w : World) (h : Heap) => Mine.hd.heap_39 w.params = Mine.hd.heap_39 w.params) Challenge.rw_dz0093_01.row.toRowW) = w → True := by
  k_fill
  intros; trivial
section
variable {prog : Program} {w : World} {p : Program} {loose : List Str} {mean : ExcName → Option Value} {mg mb : Str → Option Value}
  {dp un : Nat} {gd : Option (List Code)} {cn : Str} {cs : Scope} {a : Addr} {ccd : Value} {cl : List (Str × Addr)} {outer : List Env} {A₀ : Around} {base h₀ : Heap} {L : Addr} {m : Str → Option Value} {news : List (Addr × Obj)} {s : Shared} {Q E : Value → Shared → Prop}
local macro_rules | `(tactic| walk_at "call type:set nil nil") => `(tactic| (k_here; k_dflt (refine iset_new_K (by k_asm) (by k_asm) ?_); intro d' h' o' F' N' l1 hs'; (try k_lt l1)))
local macro_rules | `(tactic| walk_at "eval Set") => `(tactic| (k_here; k_dflt (refine' iset_disp ?F ?N ?X ?c ?p ?_; (case F => k_asm); (case N => k_asm); (case X => k_asm); (case c => first | k_is | kernel_rfl!); (case p => rfl)); intro d' h' o' F' N' l1 hs'; (try k_lt l1)))
local macro_rules | `(tactic| walk_at "setAdd int") => `(tactic| (k_here; k_dflt (refine' iset_addK ?F ?N ?U ?d ?z ?_; (case F => k_asm); (case N => k_asm); (case U => k_updF); (case d => k_asm); (case z => (unfold scanBound; (try simp only [List.length_append]); first | decide | omega))); intro h' o' k' b' F' N' hs' hA'; (have hl' := added_len hA'); (try simp only [List.length_append] at hl'); (try dsimp only at N')))
local macro_rules | `(tactic| walk_at "call builtin:set.add") => `(tactic| (k_here; k_dflt (refine' iset_call_add ?F ?N ?U ?d ?z ?_; (case F => k_asm); (case N => k_asm); (case U => k_updF); (case d => k_asm); (case z => (unfold scanBound; (try simp only [List.length_append]); first | decide | omega))); intro h' o' k' F' N' hs' hA'; (have hl' := added_len hA'); (try simp only [List.length_append] at hl'); (try dsimp only at N')))
local macro_rules | `(tactic| walk_at "call builtin:set.pop") => `(tactic| (k_here; k_dflt (refine' iset_call_pop ?F ?N ?U ?d ?e ?z ?_; (case F => k_asm); (case N => k_asm); (case U => k_updF); (case d => k_asm); (case e => assumption); (case z => (unfold scanBound; (try simp only [List.length_append]); first | decide | omega))); intro h' o' dr' pre' k' u' post' F' N' he' hs'; (have hlw := congrArg List.length he'); (simp only [List.length_append, List.length_cons] at hlw); (try dsimp only at N')))
local macro_rules | `(tactic| walk_at "getMethod ref") => `(tactic| (k_here; (with_reducible show wpAny _ _ (getMethod (Value.ref _) (Str.ofString "add") _) _ _ _); k_dflt (refine' iset_method ?N ?U ?d ?z ?_; (case N => k_asm); (case U => k_updF); (case d => k_asm); (case z => (unfold scanBound; (try simp only [List.length_append]); first | decide | omega)))))
local macro_rules | `(tactic| walk_at "getMethod ref") => `(tactic| (k_here; (with_reducible show wpAny _ _ (getMethod (Value.ref _) (Str.ofString "pop") _) _ _ _); k_dflt (refine' iset_pop_method ?N ?U ?d ?z ?_; (case N => k_asm); (case U => k_updF); (case d => k_asm); (case z => (unfold scanBound; (try simp only [List.length_append]); first | decide | omega)))))
local macro_rules | `(tactic| walk_at "compareOp In int ref") => `(tactic| (k_here; k_dflt (refine' iset_in ?N ?U ?d ?z ?_; (case N => k_asm); (case U => k_updF); (case d => k_asm); (case z => (unfold scanBound; (try simp only [List.length_append]); first | decide | omega)))))
local macro_rules | `(tactic| walk_at "truthy ref") => `(tactic| (k_here; k_dflt (first | (refine' iset_truthy_ne ?N ?U ?d ?z ?e ?_; (case N => k_asm); (case U => k_mem); (case d => k_asm); (case z => (unfold scanBound; (try simp only [List.length_append]); omega)); (case e => assumption)) | (refine' iset_truthy_nil ?N ?U ?d ?_; (case N => k_asm); (case U => k_mem); (case d => k_asm)))))
local macro_rules | `(tactic| walk_at "binaryOp RShift int int") => `(tactic| (k_here; k_dflt (refine rshift1 ?_)))
local macro_rules | `(tactic| walk_at "call builtin:next") => `(tactic| (k_here; k_dflt (refine' lit_next ?F ?N ?U ?i ?p ?x ?_; (case F => k_asm); (case N => k_asm); (case U => k_updF); (case i => k_asm); (case p => k_mem); (case x => rfl)); intro h' o' F' N' hi'; (try dsimp only at N')))
local macro_rules | `(tactic| walk_at "binaryOp Mult int int") => `(tactic| (k_here; k_dflt (refine' mulS (i := 20000) (j := 20000) ?a ?b ?c ?_; (case a => first | exact sm5 (by omega) | exact sm55 (by omega)); (case b => first | exact sm5 (by omega) | exact smFive); (case c => decide))))
local macro_rules | `(tactic| walk_at "inplaceOp Mult int int") => `(tactic| (k_here; k_dflt (refine' imulS (i := 20000) (j := 20000) ?a ?b ?c ?_; (case a => first | exact sm5 (by omega) | exact sm55 (by omega)); (case b => first | exact sm5 (by omega) | exact smFive); (case c => decide))))

set_option maxHeartbeats 40000000 in
theorem spec_powers (B : Below A₀ base outer h₀) (F : Fr h₀ L s.heap m) (X : (Mine.hd.heap_39 w.params).In h₀) (T : Top p loose mean mg mb h₀) (hk : cs.kind = .function) (hd : dp + 10 < recursionLimit) (hu : un + 80 < cLine)
   (n : Int) (t1 t2 t3 : Tok) (hn0 : 0 ≤ n) (hn : n ≤ 4800) (N : News h₀ L s.heap news)
   (ret : ∀ d o h' tk' dr', Fr h₀ L h' m → News h₀ L h' ((d, o) :: news) → (∀ q ∈ news, q.1 < d) → (d == sysModules) = false → PowD prog w o n → Q (.ref d) { s with heap := h', toks := tk', drawn := dr' }) :
   wpAny (model prog w) (ktrTop dp un gd cn cs L a ccd cl outer) (call (.ref 22) [.int n t1, .int 5 t2, .int 2048 t3]) Q E s := by
  w_on
  refine wpAny_call ?_
  k_dflt (refine' code_def ?k1 ?k2 ?k3 ?k4 ?k5 ?kA ?kF ?kK ?k6 ?k7 ?k8 ?k9 ?kB ?_ ?c2 ?c3 ?c4 ?c5; (case kA => exact rfl); (case kF => exact rfl); (case kK => assumption); (case k1 => k_asm); (case k2 => k_asm); (case k3 => k_asm); (case k4 => k_asm); (case k5 => k_asm); (case k6 => k_is); (case k7 => k_is); (case k8 => ktr_room); (case k9 => exact binds_K (by k_in) rfl (by k_is) rfl rfl rfl); (case c5 => decide); (case kB => exact locs rfl); (case c2 => exact rfl); (case c3 => exact rfl); (case c4 => exact rfl); k_whole; intro g' L' h' FG' F' N' B' X' T'; (try dsimp only); (try k_lift B'); (try k_fold))
  repeat' (first | ((fail_if_success (with_reducible show wpAny _ _ (exec (Stmt.While _ _ _ _) _) _ _ _)); first | (k_unfold; (try dsimp only)) | walk1 | (dsimp only; walk1)) | fail "stop")
  k_fold
  refine while_cp (n := n) (by k_asm) (by k_asm) (by assumption) (by assumption) (by assumption) (by assumption) hn0 hn rfl rfl ?_
  intro lo wv wt W S D ow od os h₁ tk₁ dr₁ F₁ N₁ iW iD iS hP lW lS lD
  k_sweep
  by_cases hne : W = []
  · subst hne
    repeat' (first | ((fail_if_success (with_reducible show wpAny _ _ (execs _ _) _ _ _)); first | walk1 | (dsimp only; walk1)) | fail "stop")
    k_unfold
    dsimp only
    by_cases hn2 : n ≤ 2048
    · have hD := pinv_nil hP hn2
      subst hD
      repeat' (first | (k_unfold; (try dsimp only)) | walk1 | (dsimp only; walk1) | fail "stop")
      exact ret _ _ _ _ _ (by k_asm) (cb_drop (by assumption) (by kcj_all)) (tb_ltOf (by obtain ⟨_, _, _, h9⟩ := ‹_ ∧ _ ∧ _ ∧ AllLt _ news›; exact h9)) (by assumption) (powD_0 (by assumption) hn2)
    · have hneD : D ≠ [] := fun e => by have := (pinv_need hP (by omega)).1; rw [e] at this; cases this
      repeat' (first | (k_unfold; (try dsimp only)) | walk1 | (dsimp only; walk1) | fail "stop")
      refine iset_sorted (by k_asm) (by k_asm) (by k_mem) iD (by omega) rfl ?_
      intro dl h' tk' dr' vs ns e F' N' l1 hvs hpm hsr
      k_lt l1
      have hnd : D.Nodup := by obtain ⟨_, _, _, _, _, _, _, hh, _⟩ := iD; exact hh
      rcases need_shape hP (by omega) hn hnd hpm hsr with ⟨hns, h4⟩ | ⟨h4, hns, h5⟩ | ⟨h4, hns, h5⟩
      · subst hns
        cases hvs; rename_i u1 _ hv1; cases hv1
        repeat' (first | ((fail_if_success (with_reducible show wpAny _ _ (exec (Stmt.For _ _ _ _ _) _) _ _ _)); first | (k_unfold; (try dsimp only)) | walk1 | (dsimp only; walk1)) | fail "stop")
        refine lit_iter (by k_asm) (by k_asm) (by k_mem) ?_
        intro di hi oi Fi Ni li ii
        k_lt li
        repeat' (first | ((fail_if_success (with_reducible show wpAny _ _ (exec (Stmt.For _ _ _ _ _) _) _ _ _)); first | (k_unfold; (try dsimp only)) | walk1 | (dsimp only; walk1)) | fail "stop")
        refine for_li (h₀ := g') (L := L') (it := di) (vs := [.int (n / 2) u1]) (l := dl) (i := 1) (rest := []) rfl ?_
        walk1
        refine ⟨rfl, _, _, _, _, _, by k_asm, by k_asm, by k_updF, by assumption, by k_mem, rfl, ?_⟩
        intro hh' oo' FF NN
        dsimp only
        repeat' (first | ((fail_if_success (with_reducible show wpAny _ _ (exec (Stmt.For _ _ _ _ _) _) _ _ _)); first | (k_unfold; (try dsimp only)) | walk1 | (dsimp only; walk1)) | fail "stop")
        exact ret _ _ _ _ _ (by k_asm) (cb_drop (by assumption) (by kcj_all)) (tb_ltOf (by obtain ⟨_, _, _, h9⟩ := ‹_ ∧ _ ∧ _ ∧ AllLt _ news›; exact h9)) (by assumption) (powD_1 (by assumption) h4 rfl)
      · subst hns
        cases hvs; rename_i u1 _ hv1; cases hv1; rename_i u2 _ hv2; cases hv2
        repeat' (first | ((fail_if_success (with_reducible show wpAny _ _ (exec (Stmt.For _ _ _ _ _) _) _ _ _)); first | (k_unfold; (try dsimp only)) | walk1 | (dsimp only; walk1)) | fail "stop")
        refine lit_iter (by k_asm) (by k_asm) (by k_mem) ?_
        intro di hi oi Fi Ni li ii
        k_lt li
        repeat' (first | ((fail_if_success (with_reducible show wpAny _ _ (exec (Stmt.For _ _ _ _ _) _) _ _ _)); first | (k_unfold; (try dsimp only)) | walk1 | (dsimp only; walk1)) | fail "stop")
        refine for_li (h₀ := g') (L := L') (it := di) (vs := [.int (n / 2 / 2) u1, .int (n / 2) u2]) (l := dl) (i := 1) (rest := [.int (n / 2) u2]) rfl ?_
        walk1
        refine ⟨rfl, _, _, _, _, _, by k_asm, by k_asm, by k_updF, by assumption, by k_mem, rfl, ?_⟩
        intro hh' oo' FF NN ii'
        dsimp only
        repeat' (first | ((fail_if_success (with_reducible show wpAny _ _ (exec (Stmt.For _ _ _ _ _) _) _ _ _)); first | (k_unfold; (try dsimp only)) | walk1 | (dsimp only; walk1)) | fail "stop")
        all_goals (first | (exfalso; omega) | skip)
        all_goals (
          dsimp only
          refine ⟨_, _, _, _, _, by k_asm, by k_asm, by k_updF, by assumption, by k_mem, rfl, ?_⟩
          intro hh' oo' FF NN
          dsimp only
          repeat' (first | ((fail_if_success (with_reducible show wpAny _ _ (exec (Stmt.For _ _ _ _ _) _) _ _ _)); first | (k_unfold; (try dsimp only)) | walk1 | (dsimp only; walk1)) | fail "stop")
          exact ret _ _ _ _ _ (by k_asm) (cb_drop (by assumption) (by kcj_all)) (tb_ltOf (by obtain ⟨_, _, _, h9⟩ := ‹_ ∧ _ ∧ _ ∧ AllLt _ news›; exact h9)) (by assumption) (powD_2 (by assumption) h4 h5 rfl (by first | exact five_dbl1 (by omega) (by omega) | exact five_dbl (by omega) (by omega))))
      · subst hns
        cases hvs; rename_i u1 _ hv1; cases hv1; rename_i u2 _ hv2; cases hv2; rename_i u3 _ hv3; cases hv3
        repeat' (first | ((fail_if_success (with_reducible show wpAny _ _ (exec (Stmt.For _ _ _ _ _) _) _ _ _)); first | (k_unfold; (try dsimp only)) | walk1 | (dsimp only; walk1)) | fail "stop")
        refine lit_iter (by k_asm) (by k_asm) (by k_mem) ?_
        intro di hi oi Fi Ni li ii
        k_lt li
        repeat' (first | ((fail_if_success (with_reducible show wpAny _ _ (exec (Stmt.For _ _ _ _ _) _) _ _ _)); first | (k_unfold; (try dsimp only)) | walk1 | (dsimp only; walk1)) | fail "stop")
        refine for_li (h₀ := g') (L := L') (it := di) (vs := [.int (n / 2 / 2) u1, .int (n / 2 / 2 + 1) u2, .int (n / 2) u3]) (l := dl) (i := 1) (rest := [.int (n / 2 / 2 + 1) u2, .int (n / 2) u3]) rfl ?_
        walk1
        refine ⟨rfl, _, _, _, _, _, by k_asm, by k_asm, by k_updF, by assumption, by k_mem, rfl, ?_⟩
        intro hh' oo' FF NN ii'
        dsimp only
        repeat' (first | ((fail_if_success (with_reducible show wpAny _ _ (exec (Stmt.For _ _ _ _ _) _) _ _ _)); first | (k_unfold; (try dsimp only)) | walk1 | (dsimp only; walk1)) | fail "stop")
        all_goals (first | (exfalso; omega) | skip)
        dsimp only
        refine ⟨_, _, _, _, _, by k_asm, by k_asm, by k_updF, by assumption, by k_mem, rfl, ?_⟩
        intro hh2 oo2 FF2 NN2 ii2
        dsimp only
        repeat' (first | ((fail_if_success (with_reducible show wpAny _ _ (exec (Stmt.For _ _ _ _ _) _) _ _ _)); first | (k_unfold; (try dsimp only)) | walk1 | (dsimp only; walk1)) | fail "stop")
        all_goals (first | (exfalso; omega) | skip)
        all_goals (
          dsimp only
          refine ⟨_, _, _, _, _, by k_asm, by k_asm, by k_updF, by assumption, by k_mem, rfl, ?_⟩
          intro hh' oo' FF NN
          dsimp only
          repeat' (first | ((fail_if_success (with_reducible show wpAny _ _ (exec (Stmt.For _ _ _ _ _) _) _ _ _)); first | (k_unfold; (try dsimp only)) | walk1 | (dsimp only; walk1)) | fail "stop")
          exact ret _ _ _ _ _ (by k_asm) (cb_drop (by assumption) (by kcj_all)) (tb_ltOf (by obtain ⟨_, _, _, h9⟩ := ‹_ ∧ _ ∧ _ ∧ AllLt _ news›; exact h9)) (by assumption) (powD_3 (by assumption) h4 h5 rfl (five_succ (by omega)) (by first | exact five_dbl1 (by omega) (by omega) | exact five_dbl (by omega) (by omega))))
  · repeat' (first | walk1 | (dsimp only; walk1) | fail "stop")
    all_goals (try dsimp only)
    · exact cp_skip (by k_asm) (by k_asm) (by assumption) (by assumption) (by assumption) (by assumption) hP (.inl (by assumption))
    · exact cp_skip (by k_asm) (by k_asm) (by assumption) (by assumption) (by assumption) (by assumption) hP (.inr (by assumption))
    · exact cp_takeO (by k_asm) (by k_asm) (by assumption) (by assumption) (by assumption) (by assumption) hP hn (by assumption) (by assumption) (by assumption) (by assumption) (by assumption) (by assumption) (by assumption)
    · exact cp_takeE (by k_asm) (by k_asm) (by assumption) (by assumption) (by assumption) (by assumption) hP hn (by assumption) (by assumption) (by assumption) (by assumption) (by assumption) (by assumption)

end
end Mine
end
section
open PySem PySem.W PyProof.Rows PySem.Calls PySem.Spec PySem.NumText
set_option maxRecDepth 100000
namespace Mine
/-! digits -/
theorem foldl_dig : ∀ (r : List Nat) (a : Nat), r.foldl (fun acc c => acc * 10 + (c - 48)) a = a * 10 ^ r.length + r.foldl (fun acc c => acc * 10 + (c - 48)) 0
  | [], a => by simp
  | c :: r, a => by
    rw [List.foldl_cons, foldl_dig r, List.foldl_cons, foldl_dig r (0 * 10 + (c - 48)), List.length_cons, Nat.pow_succ]
    have : (a * 10 + (c - 48)) * 10 ^ r.length = a * (10 ^ r.length * 10) + (0 * 10 + (c - 48)) * 10 ^ r.length := by
      rw [Nat.add_mul, Nat.mul_assoc, Nat.mul_comm 10, Nat.zero_mul, Nat.zero_add]
    omega
theorem dig_append (l r : List Nat) : digitsVal (l ++ r) = digitsVal l * 10 ^ r.length + digitsVal r := by
  unfold digitsVal
  rw [List.foldl_append, foldl_dig r]
theorem dig_lt : ∀ (l : List Nat), AllDigits l → digitsVal l < 10 ^ l.length
  | [], _ => by decide
  | c :: r, h => by
    rw [show c :: r = [c] ++ r from rfl, dig_append, List.length_append, Nat.pow_add]
    have h1 := dig_lt r h.tail
    have h2 := h.head
    have h3 : digitsVal [c] = c - 48 := by simp [digitsVal]
    have h4 : digitsVal [c] + 1 ≤ 10 := by omega
    have := Nat.mul_le_mul_right (10 ^ r.length) h4
    simp only [List.length_singleton, Nat.pow_one]
    rw [Nat.add_mul] at this
    omega
theorem AllDigits.sub {l r : List Nat} (h : AllDigits l) (hs : ∀ c ∈ r, c ∈ l) : AllDigits r := fun c hc => h c (hs c hc)
/-- the part of a text from i up to j -/
def part (l : List Nat) (i j : Nat) : List Nat := (l.drop i).take (j - i)
theorem part_sub {l : List Nat} {i j : Nat} : ∀ c ∈ part l i j, c ∈ l := fun c hc => List.mem_of_mem_drop (List.mem_of_mem_take hc)
theorem part_length {l : List Nat} {i j : Nat} (h : j ≤ l.length) : (part l i j).length = j - i := by
  unfold part; rw [List.length_take, List.length_drop]; omega
theorem part_split {l : List Nat} {i k j : Nat} (h1 : i ≤ k) (h2 : k ≤ j) : part l i j = part l i k ++ part l k j := by
  unfold part
  have e : j - i = (k - i) + (j - k) := by omega
  rw [e, List.take_add, List.drop_drop]
  congr 2
  congr 1
  omega
theorem part_all {l : List Nat} : part l 0 l.length = l := by unfold part; simp
/-- what a part is worth -/
def worthOf (l : List Nat) (i j : Nat) : Nat := digitsVal (part l i j)
theorem worth_split {l : List Nat} {i k j : Nat} (h1 : i ≤ k) (h2 : k ≤ j) (h3 : j ≤ l.length) : worthOf l i j = worthOf l i k * 10 ^ (j - k) + worthOf l k j := by
  unfold worthOf
  rw [part_split h1 h2, dig_append, part_length h3]
theorem worth_lt {l : List Nat} (h : AllDigits l) {i j : Nat} (h3 : j ≤ l.length) : worthOf l i j < 10 ^ (j - i) := by
  have := dig_lt (part l i j) (AllDigits.sub h part_sub)
  rw [part_length h3] at this
  exact this
theorem worth_sm {l : List Nat} (h : AllDigits l) {i j : Nat} (h3 : j ≤ l.length) (h4 : j - i ≤ 5000) : Sm 20001 ((worthOf l i j : Nat) : Int) := by
  have := worth_lt h (i := i) h3
  have h5 : 10 ^ (j - i) ≤ 16 ^ (j - i) := Nat.pow_le_pow_left (by decide) _
  have h6 : 16 ^ (j - i) = 2 ^ (4 * (j - i)) := by rw [show (16 : Nat) = 2 ^ 4 from rfl, ← Nat.pow_mul]
  unfold Sm
  exact Nat.lt_of_lt_of_le (Nat.lt_of_lt_of_le this (h6 ▸ h5)) (Nat.pow_le_pow_right (by decide) (by omega))
/-- the sum that inner makes -/
theorem inner_sum {l : List Nat} {i k j : Nat} (h1 : i ≤ k) (h2 : k ≤ j) (h3 : j ≤ l.length) :
    ((worthOf l k j : Nat) : Int) + ((worthOf l i k : Nat) : Int) * 5 ^ (j - k) * 2 ^ (j - k) = ((worthOf l i j : Nat) : Int) := by
  rw [worth_split h1 h2 h3, Int.mul_assoc, ← Int.mul_pow]
  push_cast
  exact Int.add_comm _ _

/-! which lengths the dict of powers serves -/
def Serves (kvs : List (Int × Value)) : Nat → Int → Prop
  | 0, m => m ≤ 2048
  | k + 1, m => m ≤ 2048 ∨ (PowAt kvs (m / 2) ∧ Serves kvs k (m / 2) ∧ Serves kvs k ((m + 1) / 2))
theorem serves_of {prog : Program} {w : World} {o : Obj} {n : Int} (h : PowD prog w o n) (hn : n ≤ 4800) : ∃ kvs, o.IsDictOf (PySem.intKind prog w) kvs ∧ Serves kvs 2 n := by
  obtain ⟨kvs, hd, h1, h2, h3⟩ := h
  refine ⟨kvs, hd, ?_⟩
  by_cases q : n ≤ 2048
  · exact .inl q
  · refine .inr ⟨h1 (by omega), ?_, ?_⟩
    · by_cases q2 : n / 2 ≤ 2048
      · exact .inl q2
      · exact .inr ⟨h2 (by omega), (show n / 2 / 2 ≤ 2048 by omega), (show (n / 2 + 1) / 2 ≤ 2048 by omega)⟩
    · by_cases q2 : (n + 1) / 2 ≤ 2048
      · exact .inl q2
      · exact .inr ⟨h3 (by omega), (show (n + 1) / 2 / 2 ≤ 2048 by omega), (show ((n + 1) / 2 + 1) / 2 ≤ 2048 by omega)⟩
/-! the text of inner's def, read off the row -/
def iPartsOf : List Stmt → Str × Arguments × List Stmt × Scope
  | _ :: _ :: .FunctionDef _ _ (_ :: .FunctionDef nm pr bd _ _ _ sc _ _ _ :: _) _ _ _ _ _ _ _ :: _ => (nm, pr, bd, sc)
  | _ => (Str.empty, default, [], default)
def iParts : Str × Arguments × List Stmt × Scope := iPartsOf PySem.Challenge.pw_dz0093_01.main.body
end Mine
end
section
open PySem PySem.W PyProof.Rows PySem.Calls PySem.Spec PySem.NumText
set_option maxRecDepth 100000
namespace Mine
/-- no limit of their own on figures: the limit asked for is CPython's -/
theorem limit_asked {M : Model} {A : Around} {E : Value → Shared → Prop} {s : Shared} {Q : Nat → Shared → Prop} (hN : s.heap.NoDigits) (h : Q 4300 s) : wpAny M A Builtin.intMaxStrDigits Q E s := by
  obtain ⟨mc, ns, no⟩ := hN
  unfold Builtin.intMaxStrDigits
  wp_walk using wpAny_nsGet ns
  rw [no]
  exact wpAny_pure h
/-- a text too long to be read outright, yet within the limit -/
theorem wp_textL {M : Model} {A : Around} {E : Value → Shared → Prop} {s : Shared} {Q : Value → Shared → Prop} {v : Value} {text seen : List Nat} {n : Int} (hN : s.heap.NoDigits)
    (hseen : text.takeWhile (· != 0) = seen) (long : (decide (seen.length ≤ 640)) = false) (whole : (seen.length == text.length) = true) (read : (int_private% "readNumeral") 4300 10 seen = (int_private% "Numeral.value") n)
    (h : Q (.int n s.toks) { s with toks := s.toks + 1 }) : wpAny M A ((int_private% "intFromText") v text 10) Q E s := by
  subst hseen
  repeat (first | with_reducible refine limit_asked hN ?_ | wp_step)
  rw [read]
  wp_walk
  exact h
set_option maxHeartbeats 8000000 in
/-- «int(text)», from 641 figures to the limit -/
theorem meets_textL {x : PySem.Str} {u : Tok} {n : Int} (hl : x.length ≤ 4300) (hn : PySem.intText? x = some n) (hg : ¬ (numSeenOf x).length ≤ 640) :
    Meets (Builtin.«int.__new__» ⟨[.type "int", .str x u], []⟩) (fun _ R s => s.heap.NoDigits ∧ R (.ok (.ret (.int n s.toks))) { s with toks := s.toks + 1 }) := by
  rintro prog w A R s ⟨hN, h⟩
  have told : (int_private% "readNumeral") 4300 10 (numSeenOf x) = (int_private% "Numeral.value") n ∧ ((numSeenOf x).length == (numTextOf x).length) = true := by
    have := read4300 x (Nat.le_trans hl (by decide))
    simp only [hn, Option.some.injEq, reduceCtorEq, false_and, or_false] at this
    obtain ⟨_, rfl, a, b⟩ := this
    exact ⟨b, a⟩
  obtain ⟨read, whole⟩ := told
  have go := fun {Q : Value → Shared → Prop} {E : Value → Shared → Prop} {v : Value} (q : Q (.int n s.toks) { s with toks := s.toks + 1 }) => wp_textL (M := model prog w) (A := A.in1) (E := E) (v := v) hN (Eq.refl (numSeenOf x)) (decide_eq_false hg) whole read q
  clear read whole hl hn hg hN
  have sub := F.conv_sub_int
  have made := F.madeHere_int
  have no1 := KIN.str_int
  have no2 := KIN.str_idx
  have no3 := KIN.str_trunc
  repeat (first | with_reducible refine go ?_ | wp_step)
  exact h
section
variable {prog : Program} {w : World} {A : Around} {E : Value → Shared → Prop} {s : Shared} {Q : Value → Shared → Prop} {x : PySem.Str} {t : Tok}
theorem call_intText (hN : s.heap.NoDigits) (hx : AllDigits x.cps.toList) (hne : x.cps.toList ≠ []) (hl : x.length ≤ 4300) (h : Q (.int ((digitsVal x.cps.toList : Nat) : Int) s.toks) { s with toks := s.toks + 1 }) :
    wpAny (model prog w) A (call (.type "int") [.str x t]) Q E s := by
  have hn := intText_digits hx hne hl
  by_cases hg : (numSeenOf x).length ≤ 640
  · have hlen : x.length ≤ 640 := by
      have := (numText_signs (x := x) fun c hc => .inr (hx c hc)).2
      rw [this, Array.length_toList] at hg
      exact hg
    exact KIN.call_text hn hlen h
  · exact call_int_1 (meets_textL hl hn hg) ⟨hN, ⟨typeIs_int _ _ _, h⟩⟩
end
end Mine
end
section
open PySem PySem.W PyProof.Rows PySem.Calls PySem.Spec PySem.NumText
set_option maxRecDepth 100000
namespace Mine
theorem slice_part {x : Str} {i j : Int} (h0 : 0 ≤ i) (h1 : i ≤ j) (h2 : j ≤ x.length) : (Txt.slice x (some i) (some j)).cps.toList = part x.cps.toList i.toNat j.toNat := by
  have := eq_of_beq (slice_closesL h0 h1 h2)
  rw [this]
  show ((x.cps.toList.drop i.toNat).take (j - i).toNat).toArray.toList = _
  unfold part
  rw [List.toList_toArray]
  congr 1
  omega
section
variable {prog : Program} {w : World} {A : Around} {E : Value → Shared → Prop} {s : Shared} {h₀ : Heap} {L d : Addr} {m : Str → Option Value} {news : List (Addr × Obj)} {Q : Value → Shared → Prop} {od : Obj} {kvs : List (Int × Value)} {k : Int} {u : Tok}
theorem pow_item {value slice : PySem.Expr} (N : News h₀ L s.heap news) (hp : (d, od) ∈ news) (hd : od.IsDictOf (PySem.intKind prog w) kvs) (hv : PowAt kvs k) (h : ∀ t, Q (.int (5 ^ k.toNat) t) { s with toks := s.toks + 1 })
    (hs : subscripted slice false (.ref d) (.int k u) = operate [.ref d, .int k u] (getItem (.ref d) (.int k u)) := by with_unfolding_all rfl) :
    wpAny (model prog w) A (subscriptTail value slice (.ref d) (.int k u)) Q E s := by
  obtain ⟨t, hv⟩ := hv
  exact kdt_tail N hp hd (kdt_getItem N hp hd (intKind_is _ _ _ _) hv (h t)) hs
end
end Mine
end
section
open PySem PySem.W PyProof.Rows PySem.Calls PySem.Spec
set_option maxRecDepth 100000
set_option maxHeartbeats 8000000
set_option linter.unusedVariables false
namespace Mine
theorem fillDzSpecInner : ∀ w, (WalkO Mine.hd.view_39 [Str.ofString "compute_powers"] (XL Mine.hd.view_39 []) (fun (w : World) (h : Heap) => Mine.hd.heap_39 w.params = Mine.hd.heap_39 w.params) Challenge.rw_dz0093_01.row.toRowW) = w → True := by
  k_fill
  intros; trivial
section
variable {prog : Program} {w : World} {p : Program} {loose : List Str} {mean : ExcName → Option Value} {mg mb : Str → Option Value}
  {dp un : Nat} {gd : Option (List Code)} {cn : Str} {cs : Scope} {a : Addr} {ccd : Value} {cl : List (Str × Addr)} {outer : List Env} {A₀ : Around} {base h₀ : Heap} {L : Addr} {m : Str → Option Value} {news : List (Addr × Obj)} {s : Shared} {Q E : Value → Shared → Prop}
local macro_rules | `(tactic| walk_at "binaryOp RShift int int") => `(tactic| (k_here; k_dflt (refine rshift1 ?_)))
theorem inner_small
   {nm : Str} {pr : Arguments} {bd : List Stmt} {sc : Scope} (hb : iParts = (nm, pr, bd, sc)) {f c' d cW cI cD cS : Addr} {oc oW oI oD oS od : Obj} {doc pm ctv : Value} {vs : Array Value} {qual : Str} {t0 tD tS : Tok} {x : Str} {kvs : List (Int × Value)}
   (hoc : oc.data = .fields vs) (hvs : vs[1]? = some (.str qual t0)) (dW : oW.data = .cell (some (.ref d))) (dI : oI.data = .cell (some (.ref f))) (dD : oD.data = .cell (some (.int 2048 tD))) (dS : oS.data = .cell (some (.str x tS))) (hdict : od.IsDictOf (PySem.intKind prog w) kvs)
   (hx : NumText.AllDigits x.cps.toList) (hxl : x.length ≤ 4800)
   (B : Below A₀ base outer h₀) (F : Fr h₀ L s.heap m) (X : (Mine.hd.heap_39 w.params).In h₀) (T : Top p loose mean mg mb h₀) (hk : cs.kind = .function) (hd : dp + 2 < recursionLimit) (C : CodeHd h₀ 28 24) (N : News h₀ L s.heap news)
   (mf : (f, fnMade nm qual pr bd sc [(Str.ofString "w5pow", cW), (Str.ofString "s", cS), (Str.ofString "inner", cI), (Str.ofString "DIGLIM", cD)] doc pm c' ctv) ∈ news) (mc : (c', oc) ∈ news) (mW : (cW, oW) ∈ news) (mI : (cI, oI) ∈ news) (mD : (cD, oD) ∈ news) (mS : (cS, oS) ∈ news) (md : (d, od) ∈ news)
   (i j : Int) (t1 t2 : Tok) (h0 : 0 ≤ i) (h1 : i < j) (h2 : j ≤ (x.length : Int)) (hs : j - i ≤ 2048)
   (ret : ∀ t h' tk', Fr h₀ L h' m → News h₀ L h' news → Q (.int ((worthOf x.cps.toList i.toNat j.toNat : Nat) : Int) t) { s with heap := h', toks := tk' }) :
   wpAny (model prog w) (ktrTop dp un gd cn cs L a ccd cl outer) (call (.ref f) [.int i t1, .int j t2]) Q E s := by
  cases hb
  w_on
  refine wpAny_call ?_
  k_dflt (refine' code_nest ?k1 ?k2 ?k3 ?k4 ?k5 ?kA ?kF ?kK ?k6 ?k7 ?k8 ?k9 ?kB ?_ ?c2 ?c3 ?c4 ?c5; (case kA => exact rfl); (case kF => exact rfl); (case kK => assumption); (case k1 => k_asm); (case k2 => k_asm); (case k3 => k_asm); (case k4 => k_asm); (case k5 => k_asm); (case k6 => exact mf); (case k7 => exact codeRec_news N mc hoc hvs); (case k8 => ktr_room); (case k9 => exact BindsTo.of_eq rfl); (case c5 => decide); (case kB => exact locs rfl); (case c2 => exact rfl); (case c3 => exact rfl); (case c4 => exact rfl); k_whole; intro g' L' h' FG' F' N' B' X' T'; (try dsimp only); (try k_lift B'); (try k_fold))
  have C' : CodeHd g' 28 24 := CodeHd.keeps C FG'.keep
  repeat' (first | ((fail_if_success (with_reducible show wpAny _ _ (call (Value.ref _) _) _ _ _)); (fail_if_success (with_reducible show wpAny _ _ (subscriptTail _ _ (Value.ref _) (Value.int _ _)) _ _ _)); first | (k_unfold; (try dsimp only)) | walk1 | (dsimp only; walk1)) | fail "stop")
  have hsl := slice_part (x := x) h0 (Int.le_of_lt h1) h2
  have hpl : (part x.cps.toList i.toNat j.toNat).length = j.toNat - i.toNat := part_length (by rw [Array.length_toList]; show j.toNat ≤ x.length; omega)
  refine call_intText (Heap.NoDigits.keeps (Top.nodigits T') (Fr.keep (by k_asm))) (by rw [hsl]; exact AllDigits.sub hx part_sub) (by rw [hsl]; intro e; rw [e, List.length_nil] at hpl; omega) ?_ ?_
  · show (Txt.slice x (some i) (some j)).cps.size ≤ 4300
    rw [← Array.length_toList, hsl, hpl]; omega
  · rw [hsl]
    dsimp only
    repeat' (first | ((fail_if_success (with_reducible show wpAny _ _ (call (Value.ref _) _) _ _ _)); (fail_if_success (with_reducible show wpAny _ _ (subscriptTail _ _ (Value.ref _) (Value.int _ _)) _ _ _)); first | (k_unfold; (try dsimp only)) | walk1 | (dsimp only; walk1)) | fail "stop")
    exact ret _ _ _ (by k_asm) (by k_asm)
theorem spec_inner (k : Nat) : ∀ {dp un : Nat} {gd : Option (List Code)} {cn : Str} {cs : Scope} {a : Addr} {ccd : Value} {cl : List (Str × Addr)} {outer : List Env} {A₀ : Around} {base h₀ : Heap} {L : Addr} {m : Str → Option Value} {news : List (Addr × Obj)} {s : Shared} {Q E : Value → Shared → Prop}
   {nm : Str} {pr : Arguments} {bd : List Stmt} {sc : Scope} (_ : iParts = (nm, pr, bd, sc)) {f c' d cW cI cD cS : Addr} {oc oW oI oD oS od : Obj} {doc pm ctv : Value} {vs : Array Value} {qual : Str} {t0 tD tS : Tok} {x : Str} {kvs : List (Int × Value)}
   (_ : oc.data = .fields vs) (_ : vs[1]? = some (.str qual t0)) (_ : oW.data = .cell (some (.ref d))) (_ : oI.data = .cell (some (.ref f))) (_ : oD.data = .cell (some (.int 2048 tD))) (_ : oS.data = .cell (some (.str x tS))) (_ : od.IsDictOf (PySem.intKind prog w) kvs)
   (_ : NumText.AllDigits x.cps.toList) (_ : x.length ≤ 4800)
   (_ : Below A₀ base outer h₀) (_ : Fr h₀ L s.heap m) (_ : (Mine.hd.heap_39 w.params).In h₀) (_ : Top p loose mean mg mb h₀) (_ : cs.kind = .function) (_ : dp + 2 * k + 2 < recursionLimit) (_ : CodeHd h₀ 28 24) (_ : News h₀ L s.heap news)
   (_ : (f, fnMade nm qual pr bd sc [(Str.ofString "w5pow", cW), (Str.ofString "s", cS), (Str.ofString "inner", cI), (Str.ofString "DIGLIM", cD)] doc pm c' ctv) ∈ news) (_ : (c', oc) ∈ news) (_ : (cW, oW) ∈ news) (_ : (cI, oI) ∈ news) (_ : (cD, oD) ∈ news) (_ : (cS, oS) ∈ news) (_ : (d, od) ∈ news)
   (i j : Int) (t1 t2 : Tok) (_ : 0 ≤ i) (_ : i < j) (_ : j ≤ (x.length : Int)) (_ : Serves kvs k (j - i))
   (_ : ∀ t h' tk', Fr h₀ L h' m → News h₀ L h' news → Q (.int ((worthOf x.cps.toList i.toNat j.toNat : Nat) : Int) t) { s with heap := h', toks := tk' }),
   wpAny (model prog w) (ktrTop dp un gd cn cs L a ccd cl outer) (call (.ref f) [.int i t1, .int j t2]) Q E s := by
  induction k with
  | zero =>
    intro dp un gd cn cs a ccd cl outer A₀ base h₀ L m news s Q E nm pr bd sc hb f c' d cW cI cD cS oc oW oI oD oS od doc pm ctv vs qual t0 tD tS x kvs hoc hvs dW dI dD dS hdict hx hxl B F X T hk hd C N mf mc mW mI mD mS md i j t1 t2 h0 h1 h2 hs ret
    exact inner_small hb hoc hvs dW dI dD dS hdict hx hxl B F X T hk hd C N mf mc mW mI mD mS md i j t1 t2 h0 h1 h2 hs ret
  | succ k ih =>
  intro dp un gd cn cs a ccd cl outer A₀ base h₀ L m news s Q E nm pr bd sc hb f c' d cW cI cD cS oc oW oI oD oS od doc pm ctv vs qual t0 tD tS x kvs hoc hvs dW dI dD dS hdict hx hxl B F X T hk hd C N mf mc mW mI mD mS md i j t1 t2 h0 h1 h2 hs ret
  by_cases hq : j - i ≤ 2048
  · exact inner_small hb hoc hvs dW dI dD dS hdict hx hxl B F X T hk (by omega) C N mf mc mW mI mD mS md i j t1 t2 h0 h1 h2 hq ret
  obtain ⟨hp, s1, s2⟩ := hs.resolve_left hq
  have hb0 := hb
  cases hb
  w_on
  refine wpAny_call ?_
  k_dflt (refine' code_nest ?k1 ?k2 ?k3 ?k4 ?k5 ?kA ?kF ?kK ?k6 ?k7 ?k8 ?k9 ?kB ?_ ?c2 ?c3 ?c4 ?c5; (case kA => exact rfl); (case kF => exact rfl); (case kK => assumption); (case k1 => k_asm); (case k2 => k_asm); (case k3 => k_asm); (case k4 => k_asm); (case k5 => k_asm); (case k6 => exact mf); (case k7 => exact codeRec_news N mc hoc hvs); (case k8 => ktr_room); (case k9 => exact BindsTo.of_eq rfl); (case c5 => decide); (case kB => exact locs rfl); (case c2 => exact rfl); (case c3 => exact rfl); (case c4 => exact rfl); k_whole; intro g' L' h' FG' F' N' B' X' T'; (try dsimp only); (try k_lift B'); (try k_fold))
  have C' : CodeHd g' 28 24 := CodeHd.keeps C FG'.keep
  repeat' (first | ((fail_if_success (with_reducible show wpAny _ _ (call (Value.ref _) _) _ _ _)); (fail_if_success (with_reducible show wpAny _ _ (subscriptTail _ _ (Value.ref _) (Value.int _ _)) _ _ _)); first | (k_unfold; (try dsimp only)) | walk1 | (dsimp only; walk1)) | fail "stop")
  have e1 : j - (i + j + 1) / 2 = (j - i) / 2 := by omega
  have e2 : (i + j + 1) / 2 - i = (j - i + 1) / 2 := by omega
  rw [← e1] at s1 hp
  rw [← e2] at s2
  have hx1 : (i + j + 1) / 2 ≤ (x.length : Int) := by omega
  have hlen : x.cps.toList.length = x.length := Array.length_toList
  rw [List.nil_append]
  k_dflt (refine ih hb0 hoc hvs dW dI dD dS hdict hx hxl (by k_asm) (by k_asm) (by k_asm) (by k_asm) rfl (by dsimp only [ktrTop] at *; omega) C' (by k_asm) mf mc mW mI mD mS md _ _ _ _ (by omega) (by omega) h2 s1 ?_)
  intro t9 h9 tk9 F9 N9
  dsimp only
  repeat' (first | ((fail_if_success (with_reducible show wpAny _ _ (call (Value.ref _) _) _ _ _)); (fail_if_success (with_reducible show wpAny _ _ (subscriptTail _ _ (Value.ref _) (Value.int _ _)) _ _ _)); (fail_if_success (with_reducible show wpAny _ _ (binaryOp Operator.Mult _ _) _ _ _)); (fail_if_success (with_reducible show wpAny _ _ (binaryOp Operator.LShift _ _) _ _ _)); first | (k_unfold; (try dsimp only)) | walk1 | (dsimp only; walk1)) | fail "stop")
  rw [List.nil_append]
  k_dflt (refine ih hb0 hoc hvs dW dI dD dS hdict hx hxl (by k_asm) (by k_asm) (by k_asm) (by k_asm) rfl (by dsimp only [ktrTop] at *; omega) C' (by k_asm) mf mc mW mI mD mS md _ _ _ _ h0 (by omega) hx1 s2 ?_)
  intro t8 h8 tk8 F8 N8
  dsimp only
  repeat' (first | ((fail_if_success (with_reducible show wpAny _ _ (call (Value.ref _) _) _ _ _)); (fail_if_success (with_reducible show wpAny _ _ (subscriptTail _ _ (Value.ref _) (Value.int _ _)) _ _ _)); (fail_if_success (with_reducible show wpAny _ _ (binaryOp Operator.Mult _ _) _ _ _)); (fail_if_success (with_reducible show wpAny _ _ (binaryOp Operator.LShift _ _) _ _ _)); first | (k_unfold; (try dsimp only)) | walk1 | (dsimp only; walk1)) | fail "stop")
  refine pow_item N8 md hdict hp ?_
  intro t7
  have sm1 := worth_sm hx (l := x.cps.toList) (i := i.toNat) (j := ((i + j + 1) / 2).toNat) (by omega) (by omega)
  have hpw : j - (i + j + 1) / 2 ≤ 3000 := by omega
  dsimp only
  refine mulS sm1 (sm5 hpw) (by decide) ?_
  dsimp only
  repeat' (first | ((fail_if_success (with_reducible show wpAny _ _ (call (Value.ref _) _) _ _ _)); (fail_if_success (with_reducible show wpAny _ _ (subscriptTail _ _ (Value.ref _) (Value.int _ _)) _ _ _)); (fail_if_success (with_reducible show wpAny _ _ (binaryOp Operator.Mult _ _) _ _ _)); (fail_if_success (with_reducible show wpAny _ _ (binaryOp Operator.LShift _ _) _ _ _)); first | (k_unfold; (try dsimp only)) | walk1 | (dsimp only; walk1)) | fail "stop")
  refine shlS (sm1.mul (sm5 hpw)) (by omega) (by omega) (by decide) ?_
  dsimp only
  repeat' (first | ((fail_if_success (with_reducible show wpAny _ _ (call (Value.ref _) _) _ _ _)); (fail_if_success (with_reducible show wpAny _ _ (subscriptTail _ _ (Value.ref _) (Value.int _ _)) _ _ _)); (fail_if_success (with_reducible show wpAny _ _ (binaryOp Operator.Mult _ _) _ _ _)); (fail_if_success (with_reducible show wpAny _ _ (binaryOp Operator.LShift _ _) _ _ _)); first | (k_unfold; (try dsimp only)) | walk1 | (dsimp only; walk1)) | fail "stop")
  have e3 : (j - (i + j + 1) / 2).toNat = j.toNat - ((i + j + 1) / 2).toNat := by omega
  have key := inner_sum (l := x.cps.toList) (i := i.toNat) (k := ((i + j + 1) / 2).toNat) (j := j.toNat) (by omega) (by omega) (by omega)
  rw [← e3] at key
  rw [key]
  exact ret _ _ _ (by k_asm) (by k_asm)

end
end Mine
end
section
open PySem PySem.W PyProof.Rows PySem.Calls PySem.Spec
set_option maxRecDepth 100000
set_option maxHeartbeats 8000000
set_option linter.unusedVariables false
namespace Mine
theorem fillDzSpecSti : ∀ w, (WalkO Mine.hd.view_39 [Str.ofString "compute_powers"] (XL Mine.hd.view_39 []) (fun (w : World) (h : Heap) => Mine.hd.heap_39 w.params = Mine.hd.heap_39 w.params) Challenge.rw_dz0093_01.row.toRowW) = w → True := by
  k_fill
  intros; trivial
section
variable {prog : Program} {w : World} {p : Program} {loose : List Str} {mean : ExcName → Option Value} {mg mb : Str → Option Value}
  {dp un : Nat} {gd : Option (List Code)} {cn : Str} {cs : Scope} {a : Addr} {ccd : Value} {cl : List (Str × Addr)} {outer : List Env} {A₀ : Around} {base h₀ : Heap} {L : Addr} {m : Str → Option Value} {news : List (Addr × Obj)} {s : Shared} {Q E : Value → Shared → Prop}
local macro_rules | `(tactic| k_all) => `(tactic| first | assumption | exact allLt_neLe (by assumption) (by omega))
def qualI : Str := Str.ofString "_str_to_int_inner" ++ Str.ofString ".<locals>." ++ Str.ofString "inner"
/-- the table of inner's code: empty, or the code stands in it -/
def TabOk (ps : Array Value) (ext : List (Addr × Obj)) : Prop :=
  (ps = #[] ∧ ext = []) ∨ ∃ c' oc vs t, ps = #[rawInt 46, rawInt 4, .ref c'] ∧ ext = [(c', oc)] ∧ oc.data = .fields vs ∧ vs[1]? = some (.str qualI t)
theorem spec_sti (B : Below A₀ base outer h₀) (F : Fr h₀ L s.heap m) (X : (Mine.hd.heap_39 w.params).In h₀) (T : Top p loose mean mg mb h₀) (hk : cs.kind = .function) (hd : dp + 20 < recursionLimit) (hu : un + 100 < cLine)
   (x : Str) (t : Tok) (hx : NumText.AllDigits x.cps.toList) (hxn : 0 < x.length) (hxl : x.length ≤ 4800) (C : CodeHd h₀ 28 24) {ps : Array Value} {ext : List (Addr × Obj)} (hT : TabOk ps ext) (N : News h₀ L s.heap ((24, tabObj ps) :: (ext ++ news))) (h24 : ∀ p ∈ news, p.1 ≠ 24)
   (ret : ∀ t ps' ext' h' tk' dr', Fr h₀ L h' m → News h₀ L h' ((24, tabObj ps') :: (ext' ++ news)) → TabOk ps' ext' → Q (.int ((NumText.digitsVal x.cps.toList : Nat) : Int) t) { s with heap := h', toks := tk', drawn := dr' }) :
   wpAny (model prog w) (ktrTop dp un gd cn cs L a ccd cl outer) (call (.ref 29) [.str x t]) Q E s := by
  have hT0 := hT
  rcases hT with ⟨rfl, rfl⟩ | ⟨c', oc, vs, tq, rfl, rfl, hoc, hvs⟩
  · rw [List.nil_append] at N
    w_on
    refine wpAny_call ?_
    k_dflt (refine' code_defC ?k1 ?k2 ?k3 ?k4 ?k5 ?kA ?kF ?kK ?k6 ?k7 ?k8 ?k9 ?kB ?kD ?_ ?c2 ?c3 ?c4; (case kA => exact rfl); (case kF => exact rfl); (case kK => assumption); (case k1 => k_asm); (case k2 => k_asm); (case k3 => k_asm); (case k4 => k_asm); (case k5 => k_asm); (case k6 => k_is); (case k7 => k_is); (case k8 => ktr_room); (case k9 => exact BindsTo.of_eq rfl); (case kB => exact rfl); (case kD => decide +kernel); (case c2 => exact rfl); (case c3 => exact rfl); (case c4 => exact rfl); k_whole; intro g' L' h' tk' cells' FG' F' N' Y' B' X' T' l1; (try k_lt l1); k_cells Y'; (try simp only [List.cons_append, List.nil_append] at N'); (try dsimp only); (try k_lift B'); (try k_fold))
    obtain ⟨l24, lnews⟩ := l1
    have C' : CodeHd g' 28 24 := CodeHd.keeps C FG'.keep
    repeat' (first | ((fail_if_success (with_reducible show wpAny _ _ (call (Value.ref 22) _) _ _ _)); first | (k_unfold; (try dsimp only)) | walk1 | (dsimp only; walk1)) | fail "stop")
    k_dflt (refine spec_powers (by k_asm) (by k_asm) (by k_asm) (by k_asm) rfl (by dsimp only [ktrTop] at *; omega) (by have hcL9 := cLine_is; dsimp only [ktrTop] at *; omega) _ _ _ _ (by omega) (by omega) (by k_asm) ?_)
    intro d od h9 tk9 dr9 F9 N9 l9 lsys hpd
    k_lt l9
    obtain ⟨kvs, hdict, hsv⟩ := serves_of hpd (by omega)
    dsimp only
    repeat' (first | ((fail_if_success (with_reducible show wpAny _ _ (call (Value.ref _) _) _ _ _)); first | (k_unfold; (try dsimp only)) | walk1 | (dsimp only; walk1)) | fail "stop")
    have hlen : x.cps.toList.length = x.length := Array.length_toList
    rw [List.nil_append]
    k_dflt (refine' spec_inner 2 ?hb ?a1 ?a2 ?a3 ?a4 ?a5 ?a6 hdict hx hxl (by k_asm) (by k_asm) (by k_asm) (by k_asm) rfl (by dsimp only [ktrTop] at *; omega) C' (by k_asm) (by k_mem) (by k_mem) (by k_mem) (by k_mem) (by k_mem) (by k_mem) (by k_mem) _ _ _ _ (by decide) (by omega) (Int.le_refl _) ?s ?_)
    case hb => exact rfl
    case a1 => assumption
    case a2 => assumption
    case a3 => assumption
    case a4 => assumption
    case a5 => assumption
    case a6 => assumption
    case s => rw [Int.sub_zero]; exact hsv
    intro t2 h2 tk2 F2 N2
    dsimp only
    repeat' (first | (k_unfold; (try dsimp only)) | walk1 | (dsimp only; walk1) | fail "stop")
    have hv : worthOf x.cps.toList (Int.toNat 0) (Int.toNat (x.length : Int)) = NumText.digitsVal x.cps.toList := by
      show worthOf x.cps.toList 0 x.length = _
      rw [← hlen]; unfold worthOf; rw [part_all]
    rw [hv]
    refine ret _ #[rawInt 46, rawInt 4, .ref ?c] [(?c, ?oc)] _ _ _ (by k_asm) ?n (Or.inr ⟨?c, ?oc, ?vs, ?tq, rfl, rfl, ?a, ?b⟩)
    case a => assumption
    case b => assumption
    case n =>
      refine cb_drop ‹News h₀ L _ _› (fun q hq => ?_)
      rcases List.mem_cons.mp hq with rfl | hq
      · k_mem
      rcases List.mem_cons.mp hq with rfl | hq
      · k_mem
      repeat (first | exact hq | apply List.mem_cons_of_mem)
  · rw [show ([(c', oc)] : List (Addr × Obj)) ++ news = (c', oc) :: news from rfl] at N
    w_on
    refine wpAny_call ?_
    k_dflt (refine' code_defC ?k1 ?k2 ?k3 ?k4 ?k5 ?kA ?kF ?kK ?k6 ?k7 ?k8 ?k9 ?kB ?kD ?_ ?c2 ?c3 ?c4; (case kA => exact rfl); (case kF => exact rfl); (case kK => assumption); (case k1 => k_asm); (case k2 => k_asm); (case k3 => k_asm); (case k4 => k_asm); (case k5 => k_asm); (case k6 => k_is); (case k7 => k_is); (case k8 => ktr_room); (case k9 => exact BindsTo.of_eq rfl); (case kB => exact rfl); (case kD => decide +kernel); (case c2 => exact rfl); (case c3 => exact rfl); (case c4 => exact rfl); k_whole; intro g' L' h' tk' cells' FG' F' N' Y' B' X' T' l1; (try k_lt l1); k_cells Y'; (try simp only [List.cons_append, List.nil_append] at N'); (try dsimp only); (try k_lift B'); (try k_fold))
    obtain ⟨l24, lc, lnews⟩ := l1
    have C' : CodeHd g' 28 24 := CodeHd.keeps C FG'.keep
    repeat' (first | ((fail_if_success (with_reducible show wpAny _ _ (call (Value.ref 22) _) _ _ _)); first | (k_unfold; (try dsimp only)) | walk1 | (dsimp only; walk1)) | fail "stop")
    k_dflt (refine spec_powers (by k_asm) (by k_asm) (by k_asm) (by k_asm) rfl (by dsimp only [ktrTop] at *; omega) (by have hcL9 := cLine_is; dsimp only [ktrTop] at *; omega) _ _ _ _ (by omega) (by omega) (by k_asm) ?_)
    intro d od h9 tk9 dr9 F9 N9 l9 lsys hpd
    k_lt l9
    obtain ⟨kvs, hdict, hsv⟩ := serves_of hpd (by omega)
    dsimp only
    repeat' (first | ((fail_if_success (with_reducible show wpAny _ _ (call (Value.ref _) _) _ _ _)); first | (k_unfold; (try dsimp only)) | walk1 | (dsimp only; walk1)) | fail "stop")
    have hlen : x.cps.toList.length = x.length := Array.length_toList
    rw [List.nil_append]
    k_dflt (refine' spec_inner 2 ?hb ?a1 ?a2 ?a3 ?a4 ?a5 ?a6 hdict hx hxl (by k_asm) (by k_asm) (by k_asm) (by k_asm) rfl (by dsimp only [ktrTop] at *; omega) C' (by k_asm) (by k_mem) (by k_mem) (by k_mem) (by k_mem) (by k_mem) (by k_mem) (by k_mem) _ _ _ _ (by decide) (by omega) (Int.le_refl _) ?s ?_)
    case hb => exact rfl
    case a1 => exact hoc
    case a2 => exact hvs
    case a3 => assumption
    case a4 => assumption
    case a5 => assumption
    case a6 => assumption
    case s => rw [Int.sub_zero]; exact hsv
    intro t2 h2 tk2 F2 N2
    dsimp only
    repeat' (first | (k_unfold; (try dsimp only)) | walk1 | (dsimp only; walk1) | fail "stop")
    have hv : worthOf x.cps.toList (Int.toNat 0) (Int.toNat (x.length : Int)) = NumText.digitsVal x.cps.toList := by
      show worthOf x.cps.toList 0 x.length = _
      rw [← hlen]; unfold worthOf; rw [part_all]
    rw [hv]
    refine ret _ #[rawInt 46, rawInt 4, .ref c'] [(c', oc)] _ _ _ (by k_asm) ?_ hT0
    refine cb_drop ‹News h₀ L _ _› (fun q hq => ?_)
    rcases List.mem_cons.mp hq with rfl | hq
    · k_mem
    rcases List.mem_cons.mp hq with rfl | hq
    · k_mem
    repeat (first | exact hq | apply List.mem_cons_of_mem)

end
end Mine
end
section
open PySem PySem.W PyProof.Rows PySem.Calls PySem.Spec
set_option maxRecDepth 100000
set_option maxHeartbeats 8000000
set_option linter.unusedVariables false
namespace Mine
theorem fillDzSpecIfs : ∀ w, (WalkO Mine.hd.view_39 [Str.ofString "compute_powers"] (XL Mine.hd.view_39 []) (fun (w : World) (h : Heap) => Mine.hd.heap_39 w.params = Mine.hd.heap_39 w.params) Challenge.rw_dz0093_01.row.toRowW) = w → True := by
  k_fill
  intros; trivial
section
variable {prog : Program} {w : World} {p : Program} {loose : List Str} {mean : ExcName → Option Value} {mg mb : Str → Option Value}
  {dp un : Nat} {gd : Option (List Code)} {cn : Str} {cs : Scope} {a : Addr} {ccd : Value} {cl : List (Str × Addr)} {outer : List Env} {A₀ : Around} {base h₀ : Heap} {L : Addr} {m : Str → Option Value} {news : List (Addr × Obj)} {s : Shared} {Q E : Value → Shared → Prop}
theorem rstripT {A : Around} {x : Str} {t : Tok} (h : ∀ t' k, s.toks ≤ k → (Txt.rstrip x).length ≤ x.length → Q (.str (Txt.rstrip x) t') { s with toks := k }) (hsz : x.length ≤ sizeLine) : wpAny (model prog w) A (call (.builtin "str.rstrip") [.str x t]) Q E s := by
  refine call_gives F.slot_str_rstrip (typeIs_str _ _ _) F.entry_str_rstrip (F.args_str_rstrip_1 _) (gives_str_rstrip x t) ?_
  have hl := len_rstrip x
  unfold Txt.rstrip Txt.stripBy at h hl
  split
  · rename_i hc
    rw [if_pos hc] at h hl
    exact h t s.toks (Nat.le_refl _) hl
  · rename_i hc
    rw [if_neg hc] at h hl
    exact ⟨fits_stripped _ _ _ hsz, h _ _ (Nat.le_succ _) hl⟩
theorem tok_pos {n k j : Nat} (h : n + (j + 1) ≤ k) : 0 < k := by omega
local macro_rules | `(tactic| walk_at "call builtin:str.rstrip") => `(tactic| (k_here; k_dflt (refine rstripT ?_ (by unfold sizeLine; omega)); intro _ k9 hk9 _; have hk8 := tok_pos hk9))
theorem spec_ifs (B : Below A₀ base outer h₀) (F : Fr h₀ L s.heap m) (X : (Mine.hd.heap_39 w.params).In h₀) (T : Top p loose mean mg mb h₀) (hk : cs.kind = .function) (hd : dp + 30 < recursionLimit) (hu : un + 120 < cLine)
   (x : Str) (t : Tok) (hxl : x.length ≤ 5000)  (C : CodeHd h₀ 28 24) {ps : Array Value} {ext : List (Addr × Obj)} (hT : TabOk ps ext) (N : News h₀ L s.heap ((24, tabObj ps) :: (ext ++ news))) (h24 : ∀ p ∈ news, p.1 ≠ 24)
   (hy : NumText.AllDigits (Txt.replace (Txt.rstrip x) (Str.ofString "_") (Str.ofString "")).cps.toList) (hyn : 0 < (Txt.replace (Txt.rstrip x) (Str.ofString "_") (Str.ofString "")).length) (hyl : (Txt.replace (Txt.rstrip x) (Str.ofString "_") (Str.ofString "")).length ≤ 4800)
   (ret : ∀ t ps' ext' h' tk' dr', Fr h₀ L h' m → News h₀ L h' ((24, tabObj ps') :: (ext' ++ news)) → TabOk ps' ext' → Q (.int ((NumText.digitsVal (Txt.replace (Txt.rstrip x) (Str.ofString "_") (Str.ofString "")).cps.toList : Nat) : Int) t) { s with heap := h', toks := tk', drawn := dr' }) :
   wpAny (model prog w) (ktrTop dp un gd cn cs L a ccd cl outer) (call (.ref 36) [.str x t]) Q E s := by
  w_on
  refine wpAny_call ?_
  k_dflt cell_enter
  rename_i g' L' h' FG' F' N' B' X' T'
  have C' : CodeHd g' 28 24 := CodeHd.keeps C FG'.keep
  repeat' (first | ((fail_if_success (with_reducible show wpAny _ _ (call (Value.builtin "str.replace") _) _ _ _)); first | (k_unfold; (try dsimp only)) | walk1 | (dsimp only; walk1)) | fail "stop")
  refine SC.replaceW ?r1 ?r2 ?r3 ?r4 ?r5 ?r6 ?rr
  case r1 => (show @Ne Nat _ _); dsimp only; omega
  case r2 => (show @Ne Nat _ _); dsimp only; omega
  case r3 => (show @Ne Nat _ _); dsimp only; omega
  case r4 => decide
  case r5 => omega
  case r6 => decide
  intro t9 k9
  dsimp only
  repeat' (first | ((fail_if_success (with_reducible show wpAny _ _ (call (Value.ref _) _) _ _ _)); first | (k_unfold; (try dsimp only)) | walk1 | (dsimp only; walk1)) | fail "stop")
  k_dflt (refine spec_sti (by k_asm) (by k_asm) (by k_asm) (by k_asm) rfl (by dsimp only [ktrTop] at *; omega) (by dsimp only [ktrTop] at *; omega) _ _ hy hyn hyl C' hT (by k_asm) h24 ?_)
  intro t2 ps2 ext2 h2 tk2 dr2 F2 N2 hT2
  dsimp only
  repeat' (first | (k_unfold; (try dsimp only)) | walk1 | (dsimp only; walk1) | fail "stop")
  exact ret _ _ _ _ _ _ (by k_asm) (by k_asm) hT2

end
end Mine
end
section
open PySem PySem.W PyProof.Rows PySem.Calls PySem.Spec
set_option maxRecDepth 100000
set_option maxHeartbeats 8000000
set_option linter.unusedVariables false
namespace Mine
theorem fillDzSpecJoined : ∀ w, (WalkO Mine.hd.view_39 [Str.ofString "compute_powers"] (XL Mine.hd.view_39 []) (fun (w : World) (h : Heap) => Mine.hd.heap_39 w.params = Mine.hd.heap_39 w.params) Challenge.rw_dz0093_01.row.toRowW) = w → True := by
  k_fill
  intros; trivial
section
variable {prog : Program} {w : World} {p : Program} {loose : List Str} {mean : ExcName → Option Value} {mg mb : Str → Option Value}
  {dp un : Nat} {gd : Option (List Code)} {cn : Str} {cs : Scope} {a : Addr} {ccd : Value} {cl : List (Str × Addr)} {outer : List Env} {A₀ : Around} {base h₀ : Heap} {L : Addr} {m : Str → Option Value} {news : List (Addr × Obj)} {s : Shared} {Q E : Value → Shared → Prop}
/-- a field's figures -/
def figs (wd : Int) (k : Int) : Str := Txt.zfill (Str.ofString (toString k)) wd
theorem join_fields {A : Around} {D : Addr} {ys : List Value} {ns : List Int} {g : Int → Str} {x : Str} {t : Tok} (hl : s.heap.IsList D ys.toArray) (hc : CarriedAll ys (ns.map fun k => PyData.str (g k))) (hB : ∀ a ∈ ns, (g a).length ≤ 300) (hn : ns.length ≤ 16) (hx : x.length ≤ 1)
    (h : ∀ t' k, (Txt.join x (ns.map g)).length ≤ 4816 → Q (.str (Txt.join x (ns.map g)) t') { s with toks := k }) : wpAny (model prog w) A (call (.builtin "str.join") [.str x t, .ref D]) Q E s := by
  have hsum := sumLen_le_of_bound g 300 ns hB
  have h2 : ns.length * x.length ≤ 16 * 1 := Nat.mul_le_mul hn hx
  have h3 : (ns.length - 1) * x.length ≤ 16 * 1 := Nat.mul_le_mul (by omega) hx
  refine join_list (ys := ns.map g) hl (StrsAre.of_carried (by rw [List.map_map]; exact hc)) ?_ fun t' k => h t' k ?_
  · rw [List.length_map]; omega
  · show (Builtin.Str.glued x (ns.map g)).length ≤ 4816
    rw [size_glued, List.length_map]; omega
def sepOf (k : Nat) : Str := if k % 2 = 0 then Str.ofString "_" else Str.ofString ""
def blankOf (k : Nat) : Str := if k % 4 = 0 then Str.ofString " " else if k % 4 = 1 then Str.ofString "" else if k % 4 = 2 then Str.ofString "\n" else Str.ofString "\t \u000b\u000d\u000c\n"
theorem jo0 (B : Below A₀ base outer h₀) (F : Fr h₀ L s.heap m) (X : (Mine.hd.heap_39 w.params).In h₀) (T : Top p loose mean mg mb h₀) (hk : cs.kind = .function) (hd : dp + 30 < recursionLimit) (hu : un + 120 < cLine)
   (N : News h₀ L s.heap news) {A : Addr} {vs : List Value} {ns : List Int} {n : Nat} (hA : (A, listOf vs.toArray n) ∈ news) (hi : IntsAre vs ns) (wd : Int) (t1 t2 : Tok) (hw1 : 1 ≤ wd) (hw2 : wd ≤ 300) (hns : ∀ x ∈ ns, 0 ≤ x ∧ x < 2 ^ 1000) (hf : ∀ x ∈ ns, (figs wd x).length ≤ 300) (hlen : ns.length ≤ 16)
   (ret : ∀ t h' tk', Fr h₀ L h' m → News h₀ L h' news → Q (.str (Txt.join (Str.ofString "_") (ns.map (figs wd)) ++ Str.ofString " ") t) { s with heap := h', toks := tk' }) :
   wpAny (model prog w) (ktrTop dp un gd cn cs L a ccd cl outer) (call (.ref 48) [.ref A, .int wd t1, .int 0 t2]) Q E s := by
  have hz : vs.toArray.size ≤ 16 := by rw [List.size_toArray, hi.length]; exact hlen
  w_on
  refine wpAny_call ?_
  k_dflt (refine' code_defC ?k1 ?k2 ?k3 ?k4 ?k5 ?kA ?kF ?kK ?k6 ?k7 ?k8 ?k9 ?kB ?kD ?_ ?c2 ?c3 ?c4; (case kA => exact rfl); (case kF => exact rfl); (case kK => assumption); (case k1 => k_asm); (case k2 => k_asm); (case k3 => k_asm); (case k4 => k_asm); (case k5 => k_asm); (case k6 => k_is); (case k7 => k_is); (case k8 => ktr_room); (case k9 => exact BindsTo.of_eq rfl); (case kB => exact rfl); (case kD => decide +kernel); (case c2 => exact rfl); (case c3 => exact rfl); (case c4 => exact rfl); k_whole; intro g' L' h' tk' cells' FG' F' N' Y' B' X' T' l1; (try k_lt l1); k_cells Y'; (try simp only [List.cons_append, List.nil_append] at N'); (try dsimp only); (try k_lift B'); (try k_fold))
  repeat' (first | ((fail_if_success (with_reducible show wpAny _ _ (exec (Stmt.Assign _ _ _) _) _ _ _)); first | (k_unfold; (try dsimp only)) | walk1 | (dsimp only; walk1)) | fail "stop")
  k_dflt (refine LCg.Assign_ListComp_U (F₀ := by k_asm) (by rfl) (by with_unfolding_all rfl) (by with_unfolding_all rfl) (by decide) (by rfl) (by decide) (by rfl) (by rfl) (by rfl) ?_)
  repeat' (first | ((fail_if_success (with_reducible show LCg.CompSrc _ _ _ _ _ _ _ _ _ _ _ _ _ _)); first | (k_unfold; (try dsimp only)) | walk1 | (dsimp only; walk1)) | fail "stop")
  k_dflt (refine LCg.CompSrc.ledger (by rfl) (by k_asm) (by k_asm) (List.mem_cons_of_mem _ hA) (by unfold sizeLine; omega) ?_)
  intro gg
  refine kct_list (figs wd) hi (fun k' t' I' oI' C' oC' D' m' ys' h' tk' E' hk' hC' hx' F' N' off' ne' hm' => ?_) ?_
  · repeat' (first | ((fail_if_success (with_reducible show KCtEl _ _ _ _)); first | (k_unfold; (try dsimp only)) | walk1 | (dsimp only; walk1)) | fail "stop")
    have hk9 := hns _ hk'
    refine P.str_of_int (shown (N := 2 ^ 1920) (by have : (0:Int) < 2 ^ 1920 := by decide +kernel
                                                   omega) (by have : (2:Int) ^ 1000 < 2 ^ 1920 := by decide +kernel
                                                              omega) (Int.le_refl _)) ?_
    dsimp only
    repeat' (first | ((fail_if_success (with_reducible show KCtEl _ _ _ _)); first | (k_unfold; (try dsimp only)) | walk1 | (dsimp only; walk1)) | fail "stop")
    exact ⟨_, _, _, rfl, F', N', off', Or.inr ⟨_, List.mem_cons_of_mem _ hA, rfl, _, rfl⟩, kct_el rfl rfl rfl⟩
  · unfold KPfDone
    intro ys hcs hcl
    repeat' (first | ((fail_if_success (with_reducible show wpAny _ _ (call (Value.builtin "str.join") _) _ _ _)); first | (k_unfold; (try dsimp only)) | walk1 | (dsimp only; walk1)) | fail "stop")
    dsimp only
    simp only [List.cons_append, List.nil_append]
    k_dflt (refine join_fields (News.isList (by k_asm) (by k_mem)) hcs hf hlen (by decide) ?_)
    intro t9 k9 hjl
    dsimp only
    repeat' (first | ((fail_if_success (with_reducible show wpAny _ _ (binaryOp Operator.Add (Value.str _ _) _) _ _ _)); first | (k_unfold; (try dsimp only)) | walk1 | (dsimp only; walk1)) | fail "stop")
    refine KOpn.add (by have : (Str.ofString " ").length ≤ 10 := by decide
                        omega) ?_
    intro t8 k8 hl8
    dsimp only
    repeat' (first | (k_unfold; (try dsimp only)) | walk1 | (dsimp only; walk1) | fail "stop")
    exact ret _ _ _ (by k_asm) (cb_drop ‹News h₀ L _ _› (fun q hq => by repeat (first | exact hq | apply List.mem_cons_of_mem)))
theorem jo1 (B : Below A₀ base outer h₀) (F : Fr h₀ L s.heap m) (X : (Mine.hd.heap_39 w.params).In h₀) (T : Top p loose mean mg mb h₀) (hk : cs.kind = .function) (hd : dp + 30 < recursionLimit) (hu : un + 120 < cLine)
   (N : News h₀ L s.heap news) {A : Addr} {vs : List Value} {ns : List Int} {n : Nat} (hA : (A, listOf vs.toArray n) ∈ news) (hi : IntsAre vs ns) (wd : Int) (t1 t2 : Tok) (hw1 : 1 ≤ wd) (hw2 : wd ≤ 300) (hns : ∀ x ∈ ns, 0 ≤ x ∧ x < 2 ^ 1000) (hf : ∀ x ∈ ns, (figs wd x).length ≤ 300) (hlen : ns.length ≤ 16)
   (ret : ∀ t h' tk', Fr h₀ L h' m → News h₀ L h' news → Q (.str (Txt.join (Str.ofString "") (ns.map (figs wd)) ++ Str.ofString "") t) { s with heap := h', toks := tk' }) :
   wpAny (model prog w) (ktrTop dp un gd cn cs L a ccd cl outer) (call (.ref 48) [.ref A, .int wd t1, .int 1 t2]) Q E s := by
  have hz : vs.toArray.size ≤ 16 := by rw [List.size_toArray, hi.length]; exact hlen
  w_on
  refine wpAny_call ?_
  k_dflt (refine' code_defC ?k1 ?k2 ?k3 ?k4 ?k5 ?kA ?kF ?kK ?k6 ?k7 ?k8 ?k9 ?kB ?kD ?_ ?c2 ?c3 ?c4; (case kA => exact rfl); (case kF => exact rfl); (case kK => assumption); (case k1 => k_asm); (case k2 => k_asm); (case k3 => k_asm); (case k4 => k_asm); (case k5 => k_asm); (case k6 => k_is); (case k7 => k_is); (case k8 => ktr_room); (case k9 => exact BindsTo.of_eq rfl); (case kB => exact rfl); (case kD => decide +kernel); (case c2 => exact rfl); (case c3 => exact rfl); (case c4 => exact rfl); k_whole; intro g' L' h' tk' cells' FG' F' N' Y' B' X' T' l1; (try k_lt l1); k_cells Y'; (try simp only [List.cons_append, List.nil_append] at N'); (try dsimp only); (try k_lift B'); (try k_fold))
  repeat' (first | ((fail_if_success (with_reducible show wpAny _ _ (exec (Stmt.Assign _ _ _) _) _ _ _)); first | (k_unfold; (try dsimp only)) | walk1 | (dsimp only; walk1)) | fail "stop")
  k_dflt (refine LCg.Assign_ListComp_U (F₀ := by k_asm) (by rfl) (by with_unfolding_all rfl) (by with_unfolding_all rfl) (by decide) (by rfl) (by decide) (by rfl) (by rfl) (by rfl) ?_)
  repeat' (first | ((fail_if_success (with_reducible show LCg.CompSrc _ _ _ _ _ _ _ _ _ _ _ _ _ _)); first | (k_unfold; (try dsimp only)) | walk1 | (dsimp only; walk1)) | fail "stop")
  k_dflt (refine LCg.CompSrc.ledger (by rfl) (by k_asm) (by k_asm) (List.mem_cons_of_mem _ hA) (by unfold sizeLine; omega) ?_)
  intro gg
  refine kct_list (figs wd) hi (fun k' t' I' oI' C' oC' D' m' ys' h' tk' E' hk' hC' hx' F' N' off' ne' hm' => ?_) ?_
  · repeat' (first | ((fail_if_success (with_reducible show KCtEl _ _ _ _)); first | (k_unfold; (try dsimp only)) | walk1 | (dsimp only; walk1)) | fail "stop")
    have hk9 := hns _ hk'
    refine P.str_of_int (shown (N := 2 ^ 1920) (by have : (0:Int) < 2 ^ 1920 := by decide +kernel
                                                   omega) (by have : (2:Int) ^ 1000 < 2 ^ 1920 := by decide +kernel
                                                              omega) (Int.le_refl _)) ?_
    dsimp only
    repeat' (first | ((fail_if_success (with_reducible show KCtEl _ _ _ _)); first | (k_unfold; (try dsimp only)) | walk1 | (dsimp only; walk1)) | fail "stop")
    exact ⟨_, _, _, rfl, F', N', off', Or.inr ⟨_, List.mem_cons_of_mem _ hA, rfl, _, rfl⟩, kct_el rfl rfl rfl⟩
  · unfold KPfDone
    intro ys hcs hcl
    repeat' (first | ((fail_if_success (with_reducible show wpAny _ _ (call (Value.builtin "str.join") _) _ _ _)); first | (k_unfold; (try dsimp only)) | walk1 | (dsimp only; walk1)) | fail "stop")
    dsimp only
    simp only [List.cons_append, List.nil_append]
    k_dflt (refine join_fields (News.isList (by k_asm) (by k_mem)) hcs hf hlen (by decide) ?_)
    intro t9 k9 hjl
    dsimp only
    repeat' (first | ((fail_if_success (with_reducible show wpAny _ _ (binaryOp Operator.Add (Value.str _ _) _) _ _ _)); first | (k_unfold; (try dsimp only)) | walk1 | (dsimp only; walk1)) | fail "stop")
    refine KOpn.add (by have : (Str.ofString "").length ≤ 10 := by decide
                        omega) ?_
    intro t8 k8 hl8
    dsimp only
    repeat' (first | (k_unfold; (try dsimp only)) | walk1 | (dsimp only; walk1) | fail "stop")
    exact ret _ _ _ (by k_asm) (cb_drop ‹News h₀ L _ _› (fun q hq => by repeat (first | exact hq | apply List.mem_cons_of_mem)))
theorem jo2 (B : Below A₀ base outer h₀) (F : Fr h₀ L s.heap m) (X : (Mine.hd.heap_39 w.params).In h₀) (T : Top p loose mean mg mb h₀) (hk : cs.kind = .function) (hd : dp + 30 < recursionLimit) (hu : un + 120 < cLine)
   (N : News h₀ L s.heap news) {A : Addr} {vs : List Value} {ns : List Int} {n : Nat} (hA : (A, listOf vs.toArray n) ∈ news) (hi : IntsAre vs ns) (wd : Int) (t1 t2 : Tok) (hw1 : 1 ≤ wd) (hw2 : wd ≤ 300) (hns : ∀ x ∈ ns, 0 ≤ x ∧ x < 2 ^ 1000) (hf : ∀ x ∈ ns, (figs wd x).length ≤ 300) (hlen : ns.length ≤ 16)
   (ret : ∀ t h' tk', Fr h₀ L h' m → News h₀ L h' news → Q (.str (Txt.join (Str.ofString "_") (ns.map (figs wd)) ++ Str.ofString "\n") t) { s with heap := h', toks := tk' }) :
   wpAny (model prog w) (ktrTop dp un gd cn cs L a ccd cl outer) (call (.ref 48) [.ref A, .int wd t1, .int 2 t2]) Q E s := by
  have hz : vs.toArray.size ≤ 16 := by rw [List.size_toArray, hi.length]; exact hlen
  w_on
  refine wpAny_call ?_
  k_dflt (refine' code_defC ?k1 ?k2 ?k3 ?k4 ?k5 ?kA ?kF ?kK ?k6 ?k7 ?k8 ?k9 ?kB ?kD ?_ ?c2 ?c3 ?c4; (case kA => exact rfl); (case kF => exact rfl); (case kK => assumption); (case k1 => k_asm); (case k2 => k_asm); (case k3 => k_asm); (case k4 => k_asm); (case k5 => k_asm); (case k6 => k_is); (case k7 => k_is); (case k8 => ktr_room); (case k9 => exact BindsTo.of_eq rfl); (case kB => exact rfl); (case kD => decide +kernel); (case c2 => exact rfl); (case c3 => exact rfl); (case c4 => exact rfl); k_whole; intro g' L' h' tk' cells' FG' F' N' Y' B' X' T' l1; (try k_lt l1); k_cells Y'; (try simp only [List.cons_append, List.nil_append] at N'); (try dsimp only); (try k_lift B'); (try k_fold))
  repeat' (first | ((fail_if_success (with_reducible show wpAny _ _ (exec (Stmt.Assign _ _ _) _) _ _ _)); first | (k_unfold; (try dsimp only)) | walk1 | (dsimp only; walk1)) | fail "stop")
  k_dflt (refine LCg.Assign_ListComp_U (F₀ := by k_asm) (by rfl) (by with_unfolding_all rfl) (by with_unfolding_all rfl) (by decide) (by rfl) (by decide) (by rfl) (by rfl) (by rfl) ?_)
  repeat' (first | ((fail_if_success (with_reducible show LCg.CompSrc _ _ _ _ _ _ _ _ _ _ _ _ _ _)); first | (k_unfold; (try dsimp only)) | walk1 | (dsimp only; walk1)) | fail "stop")
  k_dflt (refine LCg.CompSrc.ledger (by rfl) (by k_asm) (by k_asm) (List.mem_cons_of_mem _ hA) (by unfold sizeLine; omega) ?_)
  intro gg
  refine kct_list (figs wd) hi (fun k' t' I' oI' C' oC' D' m' ys' h' tk' E' hk' hC' hx' F' N' off' ne' hm' => ?_) ?_
  · repeat' (first | ((fail_if_success (with_reducible show KCtEl _ _ _ _)); first | (k_unfold; (try dsimp only)) | walk1 | (dsimp only; walk1)) | fail "stop")
    have hk9 := hns _ hk'
    refine P.str_of_int (shown (N := 2 ^ 1920) (by have : (0:Int) < 2 ^ 1920 := by decide +kernel
                                                   omega) (by have : (2:Int) ^ 1000 < 2 ^ 1920 := by decide +kernel
                                                              omega) (Int.le_refl _)) ?_
    dsimp only
    repeat' (first | ((fail_if_success (with_reducible show KCtEl _ _ _ _)); first | (k_unfold; (try dsimp only)) | walk1 | (dsimp only; walk1)) | fail "stop")
    exact ⟨_, _, _, rfl, F', N', off', Or.inr ⟨_, List.mem_cons_of_mem _ hA, rfl, _, rfl⟩, kct_el rfl rfl rfl⟩
  · unfold KPfDone
    intro ys hcs hcl
    repeat' (first | ((fail_if_success (with_reducible show wpAny _ _ (call (Value.builtin "str.join") _) _ _ _)); first | (k_unfold; (try dsimp only)) | walk1 | (dsimp only; walk1)) | fail "stop")
    dsimp only
    simp only [List.cons_append, List.nil_append]
    k_dflt (refine join_fields (News.isList (by k_asm) (by k_mem)) hcs hf hlen (by decide) ?_)
    intro t9 k9 hjl
    dsimp only
    repeat' (first | ((fail_if_success (with_reducible show wpAny _ _ (binaryOp Operator.Add (Value.str _ _) _) _ _ _)); first | (k_unfold; (try dsimp only)) | walk1 | (dsimp only; walk1)) | fail "stop")
    refine KOpn.add (by have : (Str.ofString "\n").length ≤ 10 := by decide
                        omega) ?_
    intro t8 k8 hl8
    dsimp only
    repeat' (first | (k_unfold; (try dsimp only)) | walk1 | (dsimp only; walk1) | fail "stop")
    exact ret _ _ _ (by k_asm) (cb_drop ‹News h₀ L _ _› (fun q hq => by repeat (first | exact hq | apply List.mem_cons_of_mem)))
theorem jo3 (B : Below A₀ base outer h₀) (F : Fr h₀ L s.heap m) (X : (Mine.hd.heap_39 w.params).In h₀) (T : Top p loose mean mg mb h₀) (hk : cs.kind = .function) (hd : dp + 30 < recursionLimit) (hu : un + 120 < cLine)
   (N : News h₀ L s.heap news) {A : Addr} {vs : List Value} {ns : List Int} {n : Nat} (hA : (A, listOf vs.toArray n) ∈ news) (hi : IntsAre vs ns) (wd : Int) (t1 t2 : Tok) (hw1 : 1 ≤ wd) (hw2 : wd ≤ 300) (hns : ∀ x ∈ ns, 0 ≤ x ∧ x < 2 ^ 1000) (hf : ∀ x ∈ ns, (figs wd x).length ≤ 300) (hlen : ns.length ≤ 16)
   (ret : ∀ t h' tk', Fr h₀ L h' m → News h₀ L h' news → Q (.str (Txt.join (Str.ofString "") (ns.map (figs wd)) ++ Str.ofString "\t \u000b\u000d\u000c\n") t) { s with heap := h', toks := tk' }) :
   wpAny (model prog w) (ktrTop dp un gd cn cs L a ccd cl outer) (call (.ref 48) [.ref A, .int wd t1, .int 3 t2]) Q E s := by
  have hz : vs.toArray.size ≤ 16 := by rw [List.size_toArray, hi.length]; exact hlen
  w_on
  refine wpAny_call ?_
  k_dflt (refine' code_defC ?k1 ?k2 ?k3 ?k4 ?k5 ?kA ?kF ?kK ?k6 ?k7 ?k8 ?k9 ?kB ?kD ?_ ?c2 ?c3 ?c4; (case kA => exact rfl); (case kF => exact rfl); (case kK => assumption); (case k1 => k_asm); (case k2 => k_asm); (case k3 => k_asm); (case k4 => k_asm); (case k5 => k_asm); (case k6 => k_is); (case k7 => k_is); (case k8 => ktr_room); (case k9 => exact BindsTo.of_eq rfl); (case kB => exact rfl); (case kD => decide +kernel); (case c2 => exact rfl); (case c3 => exact rfl); (case c4 => exact rfl); k_whole; intro g' L' h' tk' cells' FG' F' N' Y' B' X' T' l1; (try k_lt l1); k_cells Y'; (try simp only [List.cons_append, List.nil_append] at N'); (try dsimp only); (try k_lift B'); (try k_fold))
  repeat' (first | ((fail_if_success (with_reducible show wpAny _ _ (exec (Stmt.Assign _ _ _) _) _ _ _)); first | (k_unfold; (try dsimp only)) | walk1 | (dsimp only; walk1)) | fail "stop")
  k_dflt (refine LCg.Assign_ListComp_U (F₀ := by k_asm) (by rfl) (by with_unfolding_all rfl) (by with_unfolding_all rfl) (by decide) (by rfl) (by decide) (by rfl) (by rfl) (by rfl) ?_)
  repeat' (first | ((fail_if_success (with_reducible show LCg.CompSrc _ _ _ _ _ _ _ _ _ _ _ _ _ _)); first | (k_unfold; (try dsimp only)) | walk1 | (dsimp only; walk1)) | fail "stop")
  k_dflt (refine LCg.CompSrc.ledger (by rfl) (by k_asm) (by k_asm) (List.mem_cons_of_mem _ hA) (by unfold sizeLine; omega) ?_)
  intro gg
  refine kct_list (figs wd) hi (fun k' t' I' oI' C' oC' D' m' ys' h' tk' E' hk' hC' hx' F' N' off' ne' hm' => ?_) ?_
  · repeat' (first | ((fail_if_success (with_reducible show KCtEl _ _ _ _)); first | (k_unfold; (try dsimp only)) | walk1 | (dsimp only; walk1)) | fail "stop")
    have hk9 := hns _ hk'
    refine P.str_of_int (shown (N := 2 ^ 1920) (by have : (0:Int) < 2 ^ 1920 := by decide +kernel
                                                   omega) (by have : (2:Int) ^ 1000 < 2 ^ 1920 := by decide +kernel
                                                              omega) (Int.le_refl _)) ?_
    dsimp only
    repeat' (first | ((fail_if_success (with_reducible show KCtEl _ _ _ _)); first | (k_unfold; (try dsimp only)) | walk1 | (dsimp only; walk1)) | fail "stop")
    exact ⟨_, _, _, rfl, F', N', off', Or.inr ⟨_, List.mem_cons_of_mem _ hA, rfl, _, rfl⟩, kct_el rfl rfl rfl⟩
  · unfold KPfDone
    intro ys hcs hcl
    repeat' (first | ((fail_if_success (with_reducible show wpAny _ _ (call (Value.builtin "str.join") _) _ _ _)); first | (k_unfold; (try dsimp only)) | walk1 | (dsimp only; walk1)) | fail "stop")
    dsimp only
    simp only [List.cons_append, List.nil_append]
    k_dflt (refine join_fields (News.isList (by k_asm) (by k_mem)) hcs hf hlen (by decide) ?_)
    intro t9 k9 hjl
    dsimp only
    repeat' (first | ((fail_if_success (with_reducible show wpAny _ _ (binaryOp Operator.Add (Value.str _ _) _) _ _ _)); first | (k_unfold; (try dsimp only)) | walk1 | (dsimp only; walk1)) | fail "stop")
    refine KOpn.add (by have : (Str.ofString "\t \u000b\u000d\u000c\n").length ≤ 10 := by decide
                        omega) ?_
    intro t8 k8 hl8
    dsimp only
    repeat' (first | (k_unfold; (try dsimp only)) | walk1 | (dsimp only; walk1) | fail "stop")
    exact ret _ _ _ (by k_asm) (cb_drop ‹News h₀ L _ _› (fun q hq => by repeat (first | exact hq | apply List.mem_cons_of_mem)))
theorem jo4 (B : Below A₀ base outer h₀) (F : Fr h₀ L s.heap m) (X : (Mine.hd.heap_39 w.params).In h₀) (T : Top p loose mean mg mb h₀) (hk : cs.kind = .function) (hd : dp + 30 < recursionLimit) (hu : un + 120 < cLine)
   (N : News h₀ L s.heap news) {A : Addr} {vs : List Value} {ns : List Int} {n : Nat} (hA : (A, listOf vs.toArray n) ∈ news) (hi : IntsAre vs ns) (wd : Int) (t1 t2 : Tok) (hw1 : 1 ≤ wd) (hw2 : wd ≤ 300) (hns : ∀ x ∈ ns, 0 ≤ x ∧ x < 2 ^ 1000) (hf : ∀ x ∈ ns, (figs wd x).length ≤ 300) (hlen : ns.length ≤ 16)
   (ret : ∀ t h' tk', Fr h₀ L h' m → News h₀ L h' news → Q (.str (Txt.join (Str.ofString "_") (ns.map (figs wd)) ++ Str.ofString " ") t) { s with heap := h', toks := tk' }) :
   wpAny (model prog w) (ktrTop dp un gd cn cs L a ccd cl outer) (call (.ref 48) [.ref A, .int wd t1, .int 4 t2]) Q E s := by
  have hz : vs.toArray.size ≤ 16 := by rw [List.size_toArray, hi.length]; exact hlen
  w_on
  refine wpAny_call ?_
  k_dflt (refine' code_defC ?k1 ?k2 ?k3 ?k4 ?k5 ?kA ?kF ?kK ?k6 ?k7 ?k8 ?k9 ?kB ?kD ?_ ?c2 ?c3 ?c4; (case kA => exact rfl); (case kF => exact rfl); (case kK => assumption); (case k1 => k_asm); (case k2 => k_asm); (case k3 => k_asm); (case k4 => k_asm); (case k5 => k_asm); (case k6 => k_is); (case k7 => k_is); (case k8 => ktr_room); (case k9 => exact BindsTo.of_eq rfl); (case kB => exact rfl); (case kD => decide +kernel); (case c2 => exact rfl); (case c3 => exact rfl); (case c4 => exact rfl); k_whole; intro g' L' h' tk' cells' FG' F' N' Y' B' X' T' l1; (try k_lt l1); k_cells Y'; (try simp only [List.cons_append, List.nil_append] at N'); (try dsimp only); (try k_lift B'); (try k_fold))
  repeat' (first | ((fail_if_success (with_reducible show wpAny _ _ (exec (Stmt.Assign _ _ _) _) _ _ _)); first | (k_unfold; (try dsimp only)) | walk1 | (dsimp only; walk1)) | fail "stop")
  k_dflt (refine LCg.Assign_ListComp_U (F₀ := by k_asm) (by rfl) (by with_unfolding_all rfl) (by with_unfolding_all rfl) (by decide) (by rfl) (by decide) (by rfl) (by rfl) (by rfl) ?_)
  repeat' (first | ((fail_if_success (with_reducible show LCg.CompSrc _ _ _ _ _ _ _ _ _ _ _ _ _ _)); first | (k_unfold; (try dsimp only)) | walk1 | (dsimp only; walk1)) | fail "stop")
  k_dflt (refine LCg.CompSrc.ledger (by rfl) (by k_asm) (by k_asm) (List.mem_cons_of_mem _ hA) (by unfold sizeLine; omega) ?_)
  intro gg
  refine kct_list (figs wd) hi (fun k' t' I' oI' C' oC' D' m' ys' h' tk' E' hk' hC' hx' F' N' off' ne' hm' => ?_) ?_
  · repeat' (first | ((fail_if_success (with_reducible show KCtEl _ _ _ _)); first | (k_unfold; (try dsimp only)) | walk1 | (dsimp only; walk1)) | fail "stop")
    have hk9 := hns _ hk'
    refine P.str_of_int (shown (N := 2 ^ 1920) (by have : (0:Int) < 2 ^ 1920 := by decide +kernel
                                                   omega) (by have : (2:Int) ^ 1000 < 2 ^ 1920 := by decide +kernel
                                                              omega) (Int.le_refl _)) ?_
    dsimp only
    repeat' (first | ((fail_if_success (with_reducible show KCtEl _ _ _ _)); first | (k_unfold; (try dsimp only)) | walk1 | (dsimp only; walk1)) | fail "stop")
    exact ⟨_, _, _, rfl, F', N', off', Or.inr ⟨_, List.mem_cons_of_mem _ hA, rfl, _, rfl⟩, kct_el rfl rfl rfl⟩
  · unfold KPfDone
    intro ys hcs hcl
    repeat' (first | ((fail_if_success (with_reducible show wpAny _ _ (call (Value.builtin "str.join") _) _ _ _)); first | (k_unfold; (try dsimp only)) | walk1 | (dsimp only; walk1)) | fail "stop")
    dsimp only
    simp only [List.cons_append, List.nil_append]
    k_dflt (refine join_fields (News.isList (by k_asm) (by k_mem)) hcs hf hlen (by decide) ?_)
    intro t9 k9 hjl
    dsimp only
    repeat' (first | ((fail_if_success (with_reducible show wpAny _ _ (binaryOp Operator.Add (Value.str _ _) _) _ _ _)); first | (k_unfold; (try dsimp only)) | walk1 | (dsimp only; walk1)) | fail "stop")
    refine KOpn.add (by have : (Str.ofString " ").length ≤ 10 := by decide
                        omega) ?_
    intro t8 k8 hl8
    dsimp only
    repeat' (first | (k_unfold; (try dsimp only)) | walk1 | (dsimp only; walk1) | fail "stop")
    exact ret _ _ _ (by k_asm) (cb_drop ‹News h₀ L _ _› (fun q hq => by repeat (first | exact hq | apply List.mem_cons_of_mem)))
theorem jo5 (B : Below A₀ base outer h₀) (F : Fr h₀ L s.heap m) (X : (Mine.hd.heap_39 w.params).In h₀) (T : Top p loose mean mg mb h₀) (hk : cs.kind = .function) (hd : dp + 30 < recursionLimit) (hu : un + 120 < cLine)
   (N : News h₀ L s.heap news) {A : Addr} {vs : List Value} {ns : List Int} {n : Nat} (hA : (A, listOf vs.toArray n) ∈ news) (hi : IntsAre vs ns) (wd : Int) (t1 t2 : Tok) (hw1 : 1 ≤ wd) (hw2 : wd ≤ 300) (hns : ∀ x ∈ ns, 0 ≤ x ∧ x < 2 ^ 1000) (hf : ∀ x ∈ ns, (figs wd x).length ≤ 300) (hlen : ns.length ≤ 16)
   (ret : ∀ t h' tk', Fr h₀ L h' m → News h₀ L h' news → Q (.str (Txt.join (Str.ofString "") (ns.map (figs wd)) ++ Str.ofString "") t) { s with heap := h', toks := tk' }) :
   wpAny (model prog w) (ktrTop dp un gd cn cs L a ccd cl outer) (call (.ref 48) [.ref A, .int wd t1, .int 5 t2]) Q E s := by
  have hz : vs.toArray.size ≤ 16 := by rw [List.size_toArray, hi.length]; exact hlen
  w_on
  refine wpAny_call ?_
  k_dflt (refine' code_defC ?k1 ?k2 ?k3 ?k4 ?k5 ?kA ?kF ?kK ?k6 ?k7 ?k8 ?k9 ?kB ?kD ?_ ?c2 ?c3 ?c4; (case kA => exact rfl); (case kF => exact rfl); (case kK => assumption); (case k1 => k_asm); (case k2 => k_asm); (case k3 => k_asm); (case k4 => k_asm); (case k5 => k_asm); (case k6 => k_is); (case k7 => k_is); (case k8 => ktr_room); (case k9 => exact BindsTo.of_eq rfl); (case kB => exact rfl); (case kD => decide +kernel); (case c2 => exact rfl); (case c3 => exact rfl); (case c4 => exact rfl); k_whole; intro g' L' h' tk' cells' FG' F' N' Y' B' X' T' l1; (try k_lt l1); k_cells Y'; (try simp only [List.cons_append, List.nil_append] at N'); (try dsimp only); (try k_lift B'); (try k_fold))
  repeat' (first | ((fail_if_success (with_reducible show wpAny _ _ (exec (Stmt.Assign _ _ _) _) _ _ _)); first | (k_unfold; (try dsimp only)) | walk1 | (dsimp only; walk1)) | fail "stop")
  k_dflt (refine LCg.Assign_ListComp_U (F₀ := by k_asm) (by rfl) (by with_unfolding_all rfl) (by with_unfolding_all rfl) (by decide) (by rfl) (by decide) (by rfl) (by rfl) (by rfl) ?_)
  repeat' (first | ((fail_if_success (with_reducible show LCg.CompSrc _ _ _ _ _ _ _ _ _ _ _ _ _ _)); first | (k_unfold; (try dsimp only)) | walk1 | (dsimp only; walk1)) | fail "stop")
  k_dflt (refine LCg.CompSrc.ledger (by rfl) (by k_asm) (by k_asm) (List.mem_cons_of_mem _ hA) (by unfold sizeLine; omega) ?_)
  intro gg
  refine kct_list (figs wd) hi (fun k' t' I' oI' C' oC' D' m' ys' h' tk' E' hk' hC' hx' F' N' off' ne' hm' => ?_) ?_
  · repeat' (first | ((fail_if_success (with_reducible show KCtEl _ _ _ _)); first | (k_unfold; (try dsimp only)) | walk1 | (dsimp only; walk1)) | fail "stop")
    have hk9 := hns _ hk'
    refine P.str_of_int (shown (N := 2 ^ 1920) (by have : (0:Int) < 2 ^ 1920 := by decide +kernel
                                                   omega) (by have : (2:Int) ^ 1000 < 2 ^ 1920 := by decide +kernel
                                                              omega) (Int.le_refl _)) ?_
    dsimp only
    repeat' (first | ((fail_if_success (with_reducible show KCtEl _ _ _ _)); first | (k_unfold; (try dsimp only)) | walk1 | (dsimp only; walk1)) | fail "stop")
    exact ⟨_, _, _, rfl, F', N', off', Or.inr ⟨_, List.mem_cons_of_mem _ hA, rfl, _, rfl⟩, kct_el rfl rfl rfl⟩
  · unfold KPfDone
    intro ys hcs hcl
    repeat' (first | ((fail_if_success (with_reducible show wpAny _ _ (call (Value.builtin "str.join") _) _ _ _)); first | (k_unfold; (try dsimp only)) | walk1 | (dsimp only; walk1)) | fail "stop")
    dsimp only
    simp only [List.cons_append, List.nil_append]
    k_dflt (refine join_fields (News.isList (by k_asm) (by k_mem)) hcs hf hlen (by decide) ?_)
    intro t9 k9 hjl
    dsimp only
    repeat' (first | ((fail_if_success (with_reducible show wpAny _ _ (binaryOp Operator.Add (Value.str _ _) _) _ _ _)); first | (k_unfold; (try dsimp only)) | walk1 | (dsimp only; walk1)) | fail "stop")
    refine KOpn.add (by have : (Str.ofString "").length ≤ 10 := by decide
                        omega) ?_
    intro t8 k8 hl8
    dsimp only
    repeat' (first | (k_unfold; (try dsimp only)) | walk1 | (dsimp only; walk1) | fail "stop")
    exact ret _ _ _ (by k_asm) (cb_drop ‹News h₀ L _ _› (fun q hq => by repeat (first | exact hq | apply List.mem_cons_of_mem)))
theorem spec_joined (B : Below A₀ base outer h₀) (F : Fr h₀ L s.heap m) (X : (Mine.hd.heap_39 w.params).In h₀) (T : Top p loose mean mg mb h₀) (hk : cs.kind = .function) (hd : dp + 30 < recursionLimit) (hu : un + 120 < cLine)
   (N : News h₀ L s.heap news) {A : Addr} {vs : List Value} {ns : List Int} {n : Nat} (hA : (A, listOf vs.toArray n) ∈ news) (hi : IntsAre vs ns) (wd : Int) (t1 t2 : Tok) (hw1 : 1 ≤ wd) (hw2 : wd ≤ 300) (hns : ∀ x ∈ ns, 0 ≤ x ∧ x < 2 ^ 1000) (hf : ∀ x ∈ ns, (figs wd x).length ≤ 300) (hlen : ns.length ≤ 16) (k : Nat) (hk6 : k < 6)
   (ret : ∀ t h' tk', Fr h₀ L h' m → News h₀ L h' news → Q (.str (Txt.join (sepOf k) (ns.map (figs wd)) ++ blankOf k) t) { s with heap := h', toks := tk' }) :
   wpAny (model prog w) (ktrTop dp un gd cn cs L a ccd cl outer) (call (.ref 48) [.ref A, .int wd t1, .int (k : Int) t2]) Q E s :=
  match k, hk6, ret with
  | 0, _, ret => jo0 B F X T hk hd hu N hA hi wd t1 t2 hw1 hw2 hns hf hlen ret
  | 1, _, ret => jo1 B F X T hk hd hu N hA hi wd t1 t2 hw1 hw2 hns hf hlen ret
  | 2, _, ret => jo2 B F X T hk hd hu N hA hi wd t1 t2 hw1 hw2 hns hf hlen ret
  | 3, _, ret => jo3 B F X T hk hd hu N hA hi wd t1 t2 hw1 hw2 hns hf hlen ret
  | 4, _, ret => jo4 B F X T hk hd hu N hA hi wd t1 t2 hw1 hw2 hns hf hlen ret
  | 5, _, ret => jo5 B F X T hk hd hu N hA hi wd t1 t2 hw1 hw2 hns hf hlen ret

end
end Mine
end
section
open PySem PySem.W PyProof.Rows PySem.Calls PySem.Spec
set_option maxRecDepth 100000
set_option maxHeartbeats 8000000
set_option linter.unusedVariables false
namespace Mine
theorem fillDzLaw : ∀ w, (WalkO Mine.hd.view_39 [Str.ofString "compute_powers"] (XL Mine.hd.view_39 []) (fun (w : World) (h : Heap) => Mine.hd.heap_39 w.params = Mine.hd.heap_39 w.params) Challenge.rw_dz0093_01.row.toRowW) = w → True := by
  k_fill
  intros; trivial
section
variable {prog : Program} {w : World} {p : Program} {loose : List Str} {mean : ExcName → Option Value} {mg mb : Str → Option Value}
  {dp un : Nat} {gd : Option (List Code)} {cn : Str} {cs : Scope} {a : Addr} {ccd : Value} {cl : List (Str × Addr)} {outer : List Env} {A₀ : Around} {base h₀ : Heap} {L : Addr} {m : Str → Option Value} {news : List (Addr × Obj)} {s : Shared} {Q E : Value → Shared → Prop}

section laws
theorem snocInd {α : Type} {motive : List α → Prop} (h0 : motive []) (h1 : ∀ l a, motive l → motive (l ++ [a])) : ∀ l, motive l := by
  intro l
  rw [← List.reverse_reverse l]
  induction l.reverse with
  | nil => exact h0
  | cons a r ih => rw [List.reverse_cons]; exact h1 _ _ ih
/-- what the fields are worth, by the power -/
def valN (P : Int) (ns : List Int) : Int := ns.foldl (fun a x => a * P + x) 0
theorem valN_snoc (P : Int) (l : List Int) (x : Int) : valN P (l ++ [x]) = valN P l * P + x := by unfold valN; rw [List.foldl_append]; rfl
/-- the division on paper -/
def paperStep (P D : Int) (st : List Int × Int) (x : Int) : List Int × Int := (st.1 ++ [(st.2 * P + x).fdiv D], (st.2 * P + x).fmod D)
def paperOf (P D : Int) (ns : List Int) : List Int × Int := ns.foldl (paperStep P D) ([], 0)
theorem paper_snoc (P D : Int) (l : List Int) (x : Int) : paperOf P D (l ++ [x]) = paperStep P D (paperOf P D l) x := by unfold paperOf; rw [List.foldl_append]; rfl
theorem paper_rest {P D : Int} (hD : 0 < D) : ∀ ns, 0 ≤ (paperOf P D ns).2 ∧ (paperOf P D ns).2 < D := by
  refine snocInd ⟨Int.le_refl _, hD⟩ fun l x _ => ?_
  rw [paper_snoc]
  exact ⟨Int.fmod_nonneg_of_pos _ hD, Int.fmod_lt_of_pos _ hD⟩
theorem paper_len {P D : Int} : ∀ ns, (paperOf P D ns).1.length = ns.length := by
  refine snocInd rfl fun l x ih => ?_
  rw [paper_snoc]
  show (_ ++ [_]).length = _
  rw [List.length_append, List.length_append, ih]; rfl
theorem paper_law {P D : Int} : ∀ ns, valN P ns = valN P (paperOf P D ns).1 * D + (paperOf P D ns).2 := by
  refine snocInd (by show (0:Int) = 0 * D + 0; rw [Int.zero_mul, Int.zero_add]) fun l x ih => ?_
  rw [paper_snoc, valN_snoc, ih]
  show _ = valN P (_ ++ [_]) * D + _
  rw [valN_snoc]
  have e := Int.mul_fdiv_add_fmod ((paperOf P D l).2 * P + x) D
  simp only [paperStep]
  generalize ((paperOf P D l).2 * P + x).fdiv D = q at *
  generalize ((paperOf P D l).2 * P + x).fmod D = r at *
  generalize valN P (paperOf P D l).1 = V
  generalize (paperOf P D l).2 = c at *
  rw [Int.add_mul, Int.add_mul, Int.add_assoc, ← e, Int.mul_comm D q, ← Int.add_assoc, Int.mul_right_comm]
theorem paper_mem {P D : Int} (hD : 0 < D) (hP : 0 < P) : ∀ ns, (∀ x ∈ ns, 0 ≤ x ∧ x < P) → ∀ y ∈ (paperOf P D ns).1, 0 ≤ y ∧ y < P := by
  refine snocInd (fun _ y hy => nomatch hy) fun l x ih h => ?_
  rw [paper_snoc]
  have hl := ih fun a ha => h a (List.mem_append_left _ ha)
  have hx := h x (List.mem_append_right _ (List.mem_singleton.mpr rfl))
  have hr := paper_rest (P := P) hD l
  intro y hy
  rcases List.mem_append.mp hy with hy | hy
  · exact hl y hy
  · rw [List.mem_singleton.mp hy]
    have h0 : 0 ≤ (paperOf P D l).2 * P := Int.mul_nonneg hr.1 (Int.le_of_lt hP)
    have h1 : (paperOf P D l).2 * P ≤ (D - 1) * P := Int.mul_le_mul_of_nonneg_right (by omega) (Int.le_of_lt hP)
    rw [Int.sub_mul, Int.one_mul] at h1
    refine ⟨Int.fdiv_nonneg (by omega) (Int.le_of_lt hD), ?_⟩
    rw [Int.fdiv_eq_ediv_of_nonneg _ (Int.le_of_lt hD)]
    refine Int.ediv_lt_of_lt_mul hD ?_
    rw [Int.mul_comm P D]; omega
theorem valN_nonneg {P : Int} (hP : 0 < P) : ∀ ns, (∀ x ∈ ns, 0 ≤ x ∧ x < P) → 0 ≤ valN P ns ∧ valN P ns < P ^ ns.length := by
  refine snocInd (fun _ => ⟨Int.le_refl _, by show (0:Int) < P ^ 0; rw [Int.pow_zero]; decide⟩) fun l x ih h => ?_
  have hl := ih fun a ha => h a (List.mem_append_left _ ha)
  have hx := h x (List.mem_append_right _ (List.mem_singleton.mpr rfl))
  rw [valN_snoc, List.length_append, List.length_singleton, Int.pow_succ]
  have h0 : 0 ≤ valN P l * P := Int.mul_nonneg hl.1 (Int.le_of_lt hP)
  have h1 : valN P l * P ≤ (P ^ l.length - 1) * P := Int.mul_le_mul_of_nonneg_right (by omega) (Int.le_of_lt hP)
  rw [Int.sub_mul, Int.one_mul] at h1
  omega
/-- divided by what is above it, a text gives noughts -/
theorem paper_zero {P D : Int} (hP : 0 < P) {ns : List Int} (hns : ∀ x ∈ ns, 0 ≤ x ∧ x < P) (hD : D = P ^ ns.length) : valN P (paperOf P D ns).1 = 0 := by
  have hD0 : 0 < D := by rw [hD]; exact Int.pow_pos hP
  have e := paper_law (P := P) (D := D) ns
  have hr := paper_rest (P := P) hD0 ns
  have hv := valN_nonneg hP ns hns
  have hq := valN_nonneg hP _ (paper_mem hD0 hP ns hns)
  rw [← hD] at hv
  refine Int.le_antisymm ?_ hq.1
  refine Int.le_of_lt_add_one (Int.not_le.mp fun h => ?_)
  have h2 : 1 * D ≤ valN P (paperOf P D ns).1 * D := Int.mul_le_mul_of_nonneg_right (by omega) (Int.le_of_lt hD0)
  omega
end laws
section laws2
open PySem.NumText
theorem all_toDigits (n : Nat) : AllDigits ((Nat.toDigits 10 n).map Char.toNat) :=
  List.forall_mem_map.mpr fun _ m => digit_range (Nat.isDigit_of_mem_toDigits (by decide) (by decide) m)
theorem figs_list {wd : Nat} {x : Int} (hw : 1 ≤ wd) (h0 : 0 ≤ x) (h1 : x < 10 ^ wd) :
    (figs (wd : Int) x).cps.toList = List.replicate (wd - (Nat.toDigits 10 x.toNat).length) 48 ++ (Nat.toDigits 10 x.toNat).map Char.toNat := by
  obtain ⟨n, rfl⟩ := Int.eq_ofNat_of_zero_le h0
  have hn : n < 10 ^ wd := by exact_mod_cast h1
  have hle := digits10_le hw hn
  have hx := KIN.signs_num n
  have hxl : (Str.ofString (toString ((n : Nat) : Int))).length = (Nat.toDigits 10 n).length := by
    show (Str.ofString (toString ((n : Nat) : Int))).cps.size = _
    rw [← Array.length_toList, hx, List.length_map]
  unfold figs Txt.zfill
  show _ = List.replicate (wd - (Nat.toDigits 10 n).length) 48 ++ (Nat.toDigits 10 n).map Char.toNat
  generalize Str.ofString (toString ((n : Nat) : Int)) = X at *
  split
  · rename_i hc
    rw [hx]
    have : wd - (Nat.toDigits 10 n).length = 0 := by omega
    rw [this]; rfl
  · rename_i hc
    have hge := toDigits_len_ge 10 n
    have e0 : zfilled X ((wd : Int).toNat - X.length) = Builtin.Str.padded X ((wd : Int).toNat - X.length) 0 48 := by
      unfold zfilled
      have hall := all_toDigits n
      rw [← hx] at hall
      cases hcs : X.cps[0]? with
      | none => rfl
      | some c =>
        have hm : c ∈ X.cps.toList := by
          have := Array.mem_of_getElem? hcs
          exact Array.mem_toList_iff.mpr this
        have hr := hall c hm
        split
        · rename_i h; injection h with h; have := hr.1; omega
        · rename_i h; injection h with h; have := hr.1; omega
        · rfl
    rw [e0, padded_list, hx, hxl]
    simp
theorem figs_all {wd : Nat} {x : Int} (hw : 1 ≤ wd) (h0 : 0 ≤ x) (h1 : x < 10 ^ wd) : AllDigits (figs (wd : Int) x).cps.toList := by
  rw [figs_list hw h0 h1]
  intro c hc
  rcases List.mem_append.mp hc with hc | hc
  · rw [List.eq_of_mem_replicate hc]; exact ⟨by decide, by decide⟩
  · exact all_toDigits _ c hc
theorem figs_len {wd : Nat} {x : Int} (hw : 1 ≤ wd) (h0 : 0 ≤ x) (h1 : x < 10 ^ wd) : (figs (wd : Int) x).cps.toList.length = wd := by
  rw [figs_list hw h0 h1, List.length_append, List.length_replicate, List.length_map]
  have hn : x.toNat < 10 ^ wd := by
    obtain ⟨n, rfl⟩ := Int.eq_ofNat_of_zero_le h0
    show n < _
    exact_mod_cast h1
  have hle := digits10_le hw hn
  omega
theorem dig_zeros : ∀ k, digitsVal (List.replicate k 48) = 0
  | 0 => rfl
  | k + 1 => by rw [List.replicate_succ]; exact dig_zeros k
theorem figs_val {wd : Nat} {x : Int} (hw : 1 ≤ wd) (h0 : 0 ≤ x) (h1 : x < 10 ^ wd) : ((digitsVal (figs (wd : Int) x).cps.toList : Nat) : Int) = x := by
  rw [figs_list hw h0 h1, dig_append, dig_zeros, KIN.val_back, Nat.zero_mul, Nat.zero_add]
  omega
/-- all the figures, field by field -/
def allFigs (wd : Nat) (ns : List Int) : List Nat := ns.flatMap fun x => (figs (wd : Int) x).cps.toList
theorem allFigs_snoc (wd : Nat) (l : List Int) (x : Int) : allFigs wd (l ++ [x]) = allFigs wd l ++ (figs (wd : Int) x).cps.toList := by
  unfold allFigs; rw [List.flatMap_append]; simp
theorem allFigs_facts {wd : Nat} (hw : 1 ≤ wd) : ∀ ns, (∀ x ∈ ns, 0 ≤ x ∧ x < 10 ^ wd) → AllDigits (allFigs wd ns) ∧ (allFigs wd ns).length = wd * ns.length ∧ ((digitsVal (allFigs wd ns) : Nat) : Int) = valN (10 ^ wd) ns := by
  refine snocInd (fun _ => ⟨(fun c hc => nomatch hc), rfl, rfl⟩) fun l x ih h => ?_
  obtain ⟨i1, i2, i3⟩ := ih fun a ha => h a (List.mem_append_left _ ha)
  obtain ⟨hx0, hx1⟩ := h x (List.mem_append_right _ (List.mem_singleton.mpr rfl))
  rw [allFigs_snoc, valN_snoc]
  refine ⟨fun c hc => ?_, ?_, ?_⟩
  · rcases List.mem_append.mp hc with hc | hc
    · exact i1 c hc
    · exact figs_all hw hx0 hx1 c hc
  · rw [List.length_append, List.length_append, i2, figs_len hw hx0 hx1, List.length_singleton, Nat.mul_add, Nat.mul_one]
  · rw [dig_append, figs_len hw hx0 hx1, Int.natCast_add, Int.natCast_mul, i3, figs_val hw hx0 hx1, Int.natCast_pow]
    rfl
theorem join_nil_list : ∀ l : List Str, (Str.join ⟨#[]⟩ l).cps.toList = l.flatMap fun x => x.cps.toList
  | [] => rfl
  | [p] => by show p.cps.toList = _; simp
  | p :: q :: r => by
    have ih := join_nil_list (q :: r)
    show (p ++ ⟨#[]⟩ ++ Str.join ⟨#[]⟩ (q :: r)).cps.toList = _
    rw [Str.cps_append, Str.cps_append, Array.toList_append, Array.toList_append, ih]
    simp
theorem filter_digits {l : List Nat} (h : AllDigits l) : l.filter (· != 95) = l := filter_free 95 l fun hm => by have := (h 95 hm).2; omega

theorem rstrip_app {J K : Str} (h1 : ∀ c ∈ J.cps.toList, Unicode.isSpace c = false) (h2 : ∀ c ∈ K.cps.toList, Unicode.isSpace c = true) : Txt.rstrip (J ++ K) = J := by
  obtain ⟨_, h0, ha, hb⟩ := hi_facts Unicode.isSpace (J ++ K) 0 (Nat.zero_le _)
  have e : Txt.rstrip (J ++ K) = Builtin.Str.strSub (J ++ K) 0 (stripHi Unicode.isSpace true (J ++ K) 0) := by unfold Txt.rstrip; rw [PyProof.Rows.stripBy_eq]; rfl
  have hl : (J ++ K).length = J.length + K.length := by
    show (J ++ K).cps.size = J.cps.size + K.cps.size
    rw [Str.cps_append, Array.size_append]
  have gJ : ∀ i, i < J.length → (J ++ K).cps.getD i 0 ∈ J.cps.toList := by
    intro i hi
    have hi' : i < J.cps.size := hi
    rw [Str.cps_append]
    have : (J.cps ++ K.cps).getD i 0 = J.cps[i] := by
      simp [Array.getD, Array.size_append, hi', Nat.lt_of_lt_of_le hi' (Nat.le_add_right _ _), Array.getElem_append_left]
    rw [this]
    exact Array.mem_toList_iff.mpr (Array.getElem_mem _)
  have gK : ∀ i, J.length ≤ i → i < J.length + K.length → (J ++ K).cps.getD i 0 ∈ K.cps.toList := by
    intro i hi hi2
    have hi' : J.cps.size ≤ i := hi
    have hi2' : i < J.cps.size + K.cps.size := hi2
    rw [Str.cps_append]
    have : (J.cps ++ K.cps).getD i 0 = K.cps[i - J.cps.size]'(by omega) := by
      simp [Array.getD, Array.size_append, hi2', Array.getElem_append_right hi']
    rw [this]
    exact Array.mem_toList_iff.mpr (Array.getElem_mem _)
  generalize hH : stripHi Unicode.isSpace true (J ++ K) 0 = H at *
  have eH : H = J.length := by
    rcases Nat.lt_trichotomy H J.length with hlt | heq | hgt
    · have := ha H (Nat.le_refl _) (by omega)
      rw [h1 _ (gJ H hlt)] at this
      exact absurd this (by decide)
    · exact heq
    · rcases hb with hb | hb
      · omega
      · rw [h2 _ (gK (H - 1) (by omega) (by omega))] at hb
        exact absurd hb (by decide)
  rw [e, eH]
  apply Str.ext'
  apply Array.toList_inj.mp
  rw [StrLaws.strSub_toList, Str.cps_append, Array.toList_append]
  have : J.length = J.cps.toList.length := by show J.cps.size = _; rw [Array.length_toList]
  rw [this]
  simp
theorem join_mem {sep : Str} {c : Nat} : ∀ {l : List Str}, c ∈ (Str.join sep l).cps.toList → c ∈ sep.cps.toList ∨ ∃ p ∈ l, c ∈ p.cps.toList
  | [], h => nomatch h
  | [p], h => .inr ⟨p, List.mem_singleton.mpr rfl, h⟩
  | p :: q :: r, h => by
    have h' : c ∈ (p ++ sep ++ Str.join sep (q :: r)).cps.toList := h
    rw [Str.cps_append, Str.cps_append, Array.toList_append, Array.toList_append] at h'
    rcases List.mem_append.mp h' with h' | h'
    · rcases List.mem_append.mp h' with h' | h'
      · exact .inr ⟨p, List.mem_cons_self, h'⟩
      · exact .inl h'
    · rcases join_mem h' with h' | ⟨p', hp, hc⟩
      · exact .inl h'
      · exact .inr ⟨p', List.mem_cons_of_mem _ hp, hc⟩
theorem digit_noSpace {c : Nat} (h : 48 ≤ c ∧ c ≤ 57) : Unicode.isSpace c = false := by
  have := (show ∀ c ∈ List.range' 48 10, Unicode.isSpace c = false by decide +kernel) c (List.mem_range'.mpr ⟨c - 48, by omega, by omega⟩)
  exact this
theorem text_law {wd : Nat} (hw : 1 ≤ wd) {ns : List Int} (hns : ∀ x ∈ ns, 0 ≤ x ∧ x < 10 ^ wd) (k : Nat) :
    (Txt.replace (Txt.rstrip (Txt.join (sepOf k) (ns.map (figs (wd : Int))) ++ blankOf k)) (Str.ofString "_") (Str.ofString "")).cps.toList = allFigs wd ns := by
  have hd : ∀ q ∈ ns.map (figs (wd : Int)), AllDigits q.cps.toList := fun q hq => by
    obtain ⟨x, hx, rfl⟩ := List.mem_map.mp hq
    exact figs_all hw (hns x hx).1 (hns x hx).2
  have hj : Txt.join (sepOf k) (ns.map (figs (wd : Int))) = Str.join (sepOf k) (ns.map (figs (wd : Int))) := by
    show Builtin.Str.glued _ _ = _
    rw [StrLaws.glued_eq_join]
  have hall := (allFigs_facts hw ns hns).1
  have e95 : Str.ofString "_" = ⟨#[95]⟩ := by decide
  have e00 : Str.ofString "" = ⟨#[]⟩ := by decide
  rw [hj, rstrip_app ?a ?b, e95, e00, replace_strikes]
  case a =>
    intro c hc
    rcases join_mem hc with hc | ⟨q, hq, hc⟩
    · unfold sepOf at hc
      split at hc
      · rw [e95] at hc
        have : c = 95 := by simpa using hc
        rw [this]; decide +kernel
      · rw [e00] at hc; exact nomatch hc
    · exact digit_noSpace (hd q hq c hc)
  case b =>
    unfold blankOf
    split
    · decide +kernel
    split
    · decide +kernel
    split
    · decide +kernel
    · decide +kernel
  have efl : (Str.join ⟨#[]⟩ (ns.map (figs (wd : Int)))).cps.toList = allFigs wd ns := by
    rw [join_nil_list]; unfold allFigs; rw [List.flatMap_map]
  unfold sepOf
  split
  · rw [e95, rem_join 95 _ (fun q hq hm => by have := (hd q hq 95 hm).2; omega), efl]
  · rw [e00, efl, filter_digits hall]
end laws2

end
end Mine
end
section
open PySem PySem.W PyProof.Rows PySem.Calls PySem.Spec
set_option maxRecDepth 100000
set_option maxHeartbeats 8000000
set_option linter.unusedVariables false
namespace Mine
theorem fillDzSpecPaper : ∀ w, (WalkO Mine.hd.view_39 [Str.ofString "compute_powers"] (XL Mine.hd.view_39 []) (fun (w : World) (h : Heap) => Mine.hd.heap_39 w.params = Mine.hd.heap_39 w.params) Challenge.rw_dz0093_01.row.toRowW) = w → True := by
  k_fill
  intros; trivial
section
variable {prog : Program} {w : World} {p : Program} {loose : List Str} {mean : ExcName → Option Value} {mg mb : Str → Option Value}
  {dp un : Nat} {gd : Option (List Code)} {cn : Str} {cs : Scope} {a : Addr} {ccd : Value} {cl : List (Str × Addr)} {outer : List Env} {A₀ : Around} {base h₀ : Heap} {L : Addr} {m : Str → Option Value} {news : List (Addr × Obj)} {s : Shared} {Q E : Value → Shared → Prop}
theorem noPylong_paper {x D P : Int} (h0 : 0 ≤ x) (h1 : x < D * P) (hD : 0 < D) (hP : Sm 1000 P) (hP0 : 0 < P) : Builtin.divisionGoesByPylong x D = false := by
  have key : (if x == 0 then 0 else x.natAbs.log2 / 30 + 1) ≤ (if D == 0 then 0 else D.natAbs.log2 / 30 + 1) + 150 := by
    by_cases hx : (x == 0) = true
    · rw [if_pos hx]; exact Nat.zero_le _
    · rw [if_neg hx, if_neg (by simp; omega)]
      have hx0 : x.natAbs ≠ 0 := fun e => hx (by simp [Int.natAbs_eq_zero.mp e])
      have hlt : x.natAbs < 2 ^ (D.natAbs.log2 + 1 + 1000) := by
        have e1 : x.natAbs < D.natAbs * P.natAbs := by rw [← Int.natAbs_mul]; omega
        have e2 : D.natAbs < 2 ^ (D.natAbs.log2 + 1) := Nat.lt_log2_self
        have e3 : P.natAbs < 2 ^ 1000 := hP
        rw [Nat.pow_add]
        exact Nat.lt_of_lt_of_le e1 (Nat.mul_le_mul (Nat.le_of_lt e2) (Nat.le_of_lt e3))
      have := (Nat.log2_lt hx0).mpr hlt
      omega
  show (_ && decide ((if x == 0 then 0 else x.natAbs.log2 / 30 + 1) > (if D == 0 then 0 else D.natAbs.log2 / 30 + 1) + 150)) = false
  rw [decide_eq_false (Nat.not_lt.mpr key), Bool.and_false]
theorem spec_paper (B : Below A₀ base outer h₀) (F : Fr h₀ L s.heap m) (X : (Mine.hd.heap_39 w.params).In h₀) (T : Top p loose mean mg mb h₀) (hk : cs.kind = .function) (hd : dp + 10 < recursionLimit) (hu : un + 80 < cLine)
   (N : News h₀ L s.heap news) {A : Addr} {vs : List Value} {ns : List Int} {n : Nat} (hA : (A, listOf vs.toArray n) ∈ news) (hi : IntsAre vs ns) (D P : Int) (t1 t2 : Tok) (hlen : ns.length ≤ 16) (hD : 0 < D) (hP : 0 < P) (hDs : Sm 16000 D) (hPs : Sm 1000 P) (hns : ∀ x ∈ ns, 0 ≤ x ∧ x < P)
   (ret : ∀ d lq us c tr h' tk', Fr h₀ L h' m → News h₀ L h' ((d, { cls := .type "tuple", data := .seq #[.ref lq, .int (paperOf P D ns).2 tr] }) :: (lq, listOf us.toArray c) :: news) → IntsAre us (paperOf P D ns).1 → (∀ q ∈ news, q.1 < lq) → (lq < d ∧ ∀ q ∈ news, q.1 < d) → Q (.ref d) { s with heap := h', toks := tk' }) :
   wpAny (model prog w) (ktrTop dp un gd cn cs L a ccd cl outer) (call (.ref 55) [.ref A, .int D t1, .int P t2]) Q E s := by
  have hz : vs.toArray.size ≤ 16 := by rw [List.size_toArray, hi.length]; exact hlen
  w_on
  refine wpAny_call ?_
  k_dflt cell_enter
  rename_i g' L' h' FG' F' N' B' X' T'
  repeat' (first | ((fail_if_success (with_reducible show wpAny _ _ (pyIter _) _ _ _)); first | (k_unfold; (try dsimp only)) | walk1 | (dsimp only; walk1)) | fail "stop")
  rename_i lq hx l1 hp hq F9 N9
  have hi9 : IntsAre vs ns := by assumption
  k_dflt (with_unfolding_all refine' kst_listL (σ := (Int × Tok) × (List Value × Nat)) (fun c => (lq, listOf c.2.1.toArray c.2.2) :: news) (fun c => [(Str.ofString "rest", .int c.1.1 c.1.2), (Str.ofString "quotient", .ref lq)]) (fun _ => True) [Str.ofString "told"] (fun pre c => IntsAre c.2.1 (paperOf P D pre).1 ∧ c.1.1 = (paperOf P D pre).2) ((0, _), ([], 0)) (by rfl) (fun c => List.mem_cons_of_mem _ hA) hi9 F9 ?kn ?kf ?kk ?kp ?_ ?_)
  case kn => exact N9
  case kf => trivial
  case kk => kst_all
  case kp => exact ⟨.nil, rfl⟩
  · rintro ⟨⟨r, tr⟩, us, kk⟩ pre post f tf u h tk own heq hfm hoff _ ⟨hus, rfl⟩ F8 N8
    dsimp only at *
    simp only [List.cons_append] at N8
    (try k_fold)
    have hul : us.toArray.size ≤ 16 := by
      rw [List.size_toArray, hus.length, paper_len]
      have := congrArg List.length heq
      rw [List.length_append] at this
      omega
    have hlt9 : lq < h.objs.size := Heap.lt_size (N8 _ List.mem_cons_self).1
    have hr := paper_rest (P := P) hD pre
    have hsr : Sm 16000 (paperOf P D pre).2 := hDs.of_le hr.1 (Int.le_of_lt hr.2)
    have hf := hns f hfm
    have hallq : ∀ p ∈ news ++ own, p.1 ≠ lq := by
      intro p hp
      rcases List.mem_append.mp hp with hp | hp
      · exact Nat.ne_of_lt (l1 p hp)
      · exact fun e => hoff p hp lq (List.mem_map.mpr ⟨_, List.mem_cons_self, rfl⟩) e
    generalize hR : (paperOf P D pre).2 = R at *
    repeat' (first | ((fail_if_success (with_reducible show wpAny _ _ (binaryOp Operator.Mult _ _) _ _ _)); first | (k_unfold; (try dsimp only)) | walk1 | (dsimp only; walk1)) | fail "stop")
    k_dflt (refine mulS hsr hPs (by decide) ?_)
    repeat' (first | ((fail_if_success (with_reducible show wpAny _ _ (call (Value.builtin "divmod") _) _ _ _)); first | (k_unfold; (try dsimp only)) | walk1 | (dsimp only; walk1)) | fail "stop")
    have hRP0 : 0 ≤ R * P := Int.mul_nonneg hr.1 (Int.le_of_lt hP)
    have hRP1 : R * P ≤ (D - 1) * P := Int.mul_le_mul_of_nonneg_right (by omega) (Int.le_of_lt hP)
    rw [Int.sub_mul, Int.one_mul] at hRP1
    k_dflt (refine divmod_N (by k_asm) (by k_asm) (by omega) ?_ (Or.inl (noPylong_paper (by omega) (by omega) hD hPs hP)))
    intro h7 F7 N7
    dsimp only
    repeat' (first | (k_unfold; (try dsimp only)) | walk1 | (dsimp only; walk1) | fail "stop")
    dsimp only
    simp only [List.cons_append, List.nil_append]
    k_dflt (refine' append_K ?k1 ?k2 (Upd.tail ?k3 (Upd.head hallq)) ?_ ?z)
    case k1 => k_asm
    case k2 => k_asm
    case k3 => first | exact Nat.ne_of_lt hlt9 | exact Nat.ne_of_gt hlt9
    case z => size_fits
    intro h6 F6 N6
    dsimp only
    repeat' (first | (k_unfold; (try dsimp only)) | walk1 | (dsimp only; walk1) | fail "stop")
    simp only [List.push_toArray] at N6
    obtain ⟨tq, ad, ob, N5⟩ : ∃ tq ad ob, News g' L' h6 ((ad, ob) :: (lq, listOf (us ++ [Value.int ((R * P + f).fdiv D) tq]).toArray (kk + 1)) :: (news ++ own)) := ⟨_, _, _, N6⟩
    k_dflt (refine' kst_end ((_, _), (us ++ [Value.int ((R * P + f).fdiv D) tq], kk + 1)) F6 N5 ?e1 ?e2 ?e3 ?e4 ?e5 ?e6 ?e7)
    case e5 => kst_all
    case e1 => exact List.forall_mem_cons.mpr ⟨List.mem_cons_of_mem _ List.mem_cons_self, fun q hq => List.mem_cons_of_mem _ (List.mem_cons_of_mem _ (List.mem_append_left _ hq))⟩
    case e2 => exact fun q hq => List.mem_cons_of_mem _ (List.mem_cons_of_mem _ (List.mem_append_right _ hq))
    case e3 => rfl
    case e4 => trivial
    case e6 =>
      intro z z1 z2 z3
      have a1 : z ≠ Str.ofString "rest" := z2 _ List.mem_cons_self
      have a2 : z ≠ Str.ofString "quotient" := z2 _ (List.mem_cons_of_mem _ List.mem_cons_self)
      have a3 : z ≠ Str.ofString "told" := fun e => by rw [e] at z3; exact absurd z3 (by decide)
      simp only [kstB, a1, a2, a3, z1, z3, if_false, Bool.false_eq_true]
    case e7 =>
      rw [paper_snoc]
      refine ⟨?_, ?_⟩
      · show IntsAre (us ++ [_]) ((paperOf P D pre).1 ++ [_])
        rw [hR]
        exact intsAre_append hus (.cons _ _ .nil)
      · show _ = ((paperOf P D pre).2 * P + f).fmod D
        rw [hR]
  · rintro ⟨⟨r, tr⟩, us, kk⟩ u h tk _ ⟨hus, rfl⟩ F8 N8
    dsimp only at *
    (try k_fold)
    repeat' (first | (k_unfold; (try dsimp only)) | walk1 | (dsimp only; walk1) | fail "stop")
    exact ret _ _ _ _ _ _ _ (by k_asm) (by k_asm) hus l1 (by have hl9 := ‹lq < _ ∧ AllLt _ news›; exact ⟨hl9.1, fun q hq => tb_ltOf hl9.2 q hq⟩)

end
end Mine
end
section
open PySem PySem.W PyProof.Rows PySem.Calls PySem.Spec
set_option maxRecDepth 100000
set_option maxHeartbeats 8000000
set_option linter.unusedVariables false
namespace Mine
theorem fillDzRead : ∀ w, (WalkO Mine.hd.view_39 [Str.ofString "compute_powers"] (XL Mine.hd.view_39 []) (fun (w : World) (h : Heap) => Mine.hd.heap_39 w.params = Mine.hd.heap_39 w.params) Challenge.rw_dz0093_01.row.toRowW) = w → True := by
  k_fill
  intros; trivial
section
variable {prog : Program} {w : World} {p : Program} {loose : List Str} {mean : ExcName → Option Value} {mg mb : Str → Option Value}
  {dp un : Nat} {gd : Option (List Code)} {cn : Str} {cs : Scope} {a : Addr} {ccd : Value} {cl : List (Str × Addr)} {outer : List Env} {A₀ : Around} {base h₀ : Heap} {L : Addr} {m : Str → Option Value} {news : List (Addr × Obj)} {s : Shared} {Q E : Value → Shared → Prop}
theorem joined_len {wd : Nat} (hw1 : 1 ≤ wd) (hw2 : wd ≤ 300) {ns : List Int} (hlen : ns.length ≤ 16) (hns : ∀ x ∈ ns, 0 ≤ x ∧ x < 10 ^ wd) (k : Nat) : (Txt.join (sepOf k) (ns.map (figs (wd : Int))) ++ blankOf k).length ≤ 5000 := by
  have hB : ∀ a ∈ ns, (figs (wd : Int) a).length ≤ 300 := fun a ha => by
    have := figs_len hw1 (hns a ha).1 (hns a ha).2
    rw [Array.length_toList] at this
    show (figs (wd : Int) a).cps.size ≤ 300
    omega
  have hsum := sumLen_le_of_bound (figs (wd : Int)) 300 ns hB
  have hsep : (sepOf k).length ≤ 1 := by unfold sepOf; split <;> decide
  have hbl : (blankOf k).length ≤ 10 := by
    unfold blankOf
    split
    · decide
    split
    · decide
    split
    · decide
    · decide
  have h3 : (ns.length - 1) * (sepOf k).length ≤ 16 * 1 := Nat.mul_le_mul (by omega) hsep
  have e : (Txt.join (sepOf k) (ns.map (figs (wd : Int)))).length ≤ 4816 := by
    show (Builtin.Str.glued (sepOf k) (ns.map (figs (wd : Int)))).length ≤ 4816
    rw [size_glued, List.length_map]; omega
  show (Txt.join (sepOf k) (ns.map (figs (wd : Int))) ++ blankOf k).cps.size ≤ 5000
  rw [Str.cps_append, Array.size_append]
  have e1 : (Txt.join (sepOf k) (ns.map (figs (wd : Int)))).cps.size ≤ 4816 := e
  have e2 : (blankOf k).cps.size ≤ 10 := hbl
  omega
theorem spec_read (B : Below A₀ base outer h₀) (F : Fr h₀ L s.heap m) (X : (Mine.hd.heap_39 w.params).In h₀) (T : Top p loose mean mg mb h₀) (hk : cs.kind = .function) (hd : dp + 30 < recursionLimit) (hu : un + 120 < cLine)
   (C : CodeHd h₀ 28 24) {ps : Array Value} {ext : List (Addr × Obj)} (hT : TabOk ps ext) (N : News h₀ L s.heap ((24, tabObj ps) :: (ext ++ news))) (h24 : ∀ p ∈ news, p.1 ≠ 24)
   {wd : Nat} (hw1 : 1 ≤ wd) (hw2 : wd ≤ 300) {ns : List Int} (hn1 : 0 < ns.length) (hlen : ns.length ≤ 16) (hns : ∀ x ∈ ns, 0 ≤ x ∧ x < 10 ^ wd) (k : Nat) (t : Tok)
   (ret : ∀ t ps' ext' h' tk' dr', Fr h₀ L h' m → News h₀ L h' ((24, tabObj ps') :: (ext' ++ news)) → TabOk ps' ext' → Q (.int (valN (10 ^ wd) ns) t) { s with heap := h', toks := tk', drawn := dr' }) :
   wpAny (model prog w) (ktrTop dp un gd cn cs L a ccd cl outer) (call (.ref 36) [.str (Txt.join (sepOf k) (ns.map (figs (wd : Int))) ++ blankOf k) t]) Q E s := by
  have e := text_law hw1 hns k
  obtain ⟨f1, f2, f3⟩ := allFigs_facts hw1 ns hns
  have f2' : (Txt.replace (Txt.rstrip (Txt.join (sepOf k) (ns.map (figs (wd : Int))) ++ blankOf k)) (Str.ofString "_") (Str.ofString "")).length = wd * ns.length := by
    rw [← f2, ← e, Array.length_toList]; rfl
  have hm1 : 1 * 1 ≤ wd * ns.length := Nat.mul_le_mul hw1 hn1
  have hm2 : wd * ns.length ≤ 300 * 16 := Nat.mul_le_mul hw2 hlen
  refine spec_ifs B F X T hk hd hu _ t (joined_len hw1 hw2 hlen hns k) C hT N h24 (by rw [e]; exact f1) (by omega) (by omega) ?_
  intro t' ps' ext' h' tk' dr' F' N' hT'
  rw [e, f3]
  exact ret t' ps' ext' h' tk' dr' F' N' hT'
def gPartsOf : List Stmt → Scope × List Stmt
  | _ :: _ :: _ :: _ :: _ :: _ :: _ :: _ :: .FunctionDef _ _ (_ :: _ :: .For _ _ bd _ _ :: _) _ _ _ sc _ _ _ :: _ => (sc, bd)
  | _ => (default, [])
def gParts : Scope × List Stmt := gPartsOf PySem.Challenge.pw_dz0093_01.main.body
theorem tenS {wd : Nat} (h : wd ≤ 300) : Sm 1000 (10 ^ wd) := by
  unfold Sm
  rw [Int.natAbs_pow]
  exact Nat.lt_of_le_of_lt (Nat.pow_le_pow_right (by decide) h) (by decide +kernel)
theorem tenN {wd n : Nat} (h : wd ≤ 300) (hn : n ≤ 16) : Sm 16000 ((10 ^ wd) ^ n) := by
  unfold Sm
  rw [Int.natAbs_pow, Int.natAbs_pow, ← Nat.pow_mul]
  exact Nat.lt_of_le_of_lt (Nat.pow_le_pow_right (by decide) (Nat.mul_le_mul h hn)) (by decide +kernel)

end
end Mine
end
section
open PySem PySem.W PyProof.Rows PySem.Calls PySem.Spec
set_option maxRecDepth 100000
set_option maxHeartbeats 8000000
set_option linter.unusedVariables false
namespace Mine
theorem fillDzTurn : ∀ w, (WalkO Mine.hd.view_39 [Str.ofString "compute_powers"] (XL Mine.hd.view_39 []) (fun (w : World) (h : Heap) => Mine.hd.heap_39 w.params = Mine.hd.heap_39 w.params) Challenge.rw_dz0093_01.row.toRowW) = w → True := by
  k_fill
  intros; trivial
section
variable {prog : Program} {w : World} {p : Program} {loose : List Str} {mean : ExcName → Option Value} {mg mb : Str → Option Value}
  {dp un : Nat} {gd : Option (List Code)} {cn : Str} {cs : Scope} {a : Addr} {ccd : Value} {cl : List (Str × Addr)} {outer : List Env} {A₀ : Around} {base h₀ : Heap} {L : Addr} {m : Str → Option Value} {news : List (Addr × Obj)} {s : Shared} {Q E : Value → Shared → Prop}
theorem canon {g h : Heap} {L : Addr} {m : Str → Option Value} {a b c d : Option Value} (F : Fr g L h m) (h1 : m (Str.ofString "kind") = a) (h2 : m (Str.ofString "fields") = b) (h3 : m (Str.ofString "power") = c) (h4 : m (Str.ofString "width") = d) :
    Fr g L h (fun y => if y = Str.ofString "kind" then a else if y = Str.ofString "fields" then b else if y = Str.ofString "power" then c else if y = Str.ofString "width" then d else m y) := by
  have e : m = (fun y => if y = Str.ofString "kind" then a else if y = Str.ofString "fields" then b else if y = Str.ofString "power" then c else if y = Str.ofString "width" then d else m y) := by
    funext y
    split
    · rename_i e; rw [e, h1]
    split
    · rename_i e; rw [e, h2]
    split
    · rename_i e; rw [e, h3]
    split
    · rename_i e; rw [e, h4]
    · rfl
  rw [e] at F
  exact F
theorem goes_turn {sc : Scope} {bd : List Stmt} (hg : gParts = (sc, bd)) {L' : Addr} {g' : Heap} {u : Str → Option Value} {Qf : Flow → Shared → Prop} {Ef : Value → Shared → Prop}
   (B' : Below (ktrTop dp un gd cn cs L a ccd cl outer) base (envX cn cs L a ccd cl :: outer) g') (X' : (Mine.hd.heap_39 w.params).In g') (T' : Top p loose mean mg mb g') (hd : dp + 50 < recursionLimit) (hu : un + 220 < cLine) (C' : CodeHd g' 28 24)
   {A : Addr} {vs : List Value} {ns : List Int} {n : Nat} {D : Int} {k wd : Nat} {tD tk tp tw : Tok}
   (F' : Fr g' L' s.heap (fun y => if y = Str.ofString "divisor" then some (.int D tD) else if y = Str.ofString "kind" then some (.int k tk) else if y = Str.ofString "fields" then some (.ref A) else if y = Str.ofString "power" then some (.int (10 ^ wd) tp) else if y = Str.ofString "width" then some (.int wd tw) else u y))
   {ps : Array Value} {ext : List (Addr × Obj)} (hT : TabOk ps ext) (N' : News g' L' s.heap ((A, listOf vs.toArray n) :: (24, tabObj ps) :: (ext ++ news))) (h24 : ∀ p ∈ news, p.1 ≠ 24) (hA24 : A ≠ 24) (hi : IntsAre vs ns)
   (hw1 : 1 ≤ wd) (hw2 : wd ≤ 300) (hn1 : 0 < ns.length) (hlen : ns.length ≤ 16) (hns : ∀ x ∈ ns, 0 ≤ x ∧ x < 10 ^ wd) (hk4 : k < 4) (hD : 0 < D) (hDs : Sm 16000 D)
   (ret : ∀ A' vs' n' tk2 (u' : Str → Option Value) ps' ext' h' tk' dr', Fr g' L' h' (fun y => if y = Str.ofString "kind" then some (.int ((k + 1 : Nat) : Int) tk2) else if y = Str.ofString "fields" then some (.ref A') else if y = Str.ofString "power" then some (.int (10 ^ wd) tp) else if y = Str.ofString "width" then some (.int wd tw) else u' y) →
     News g' L' h' ((A', listOf vs'.toArray n') :: (24, tabObj ps') :: (ext' ++ news)) → IntsAre vs' (paperOf (10 ^ wd) D ns).1 → TabOk ps' ext' → A' ≠ 24 → Qf .next { s with heap := h', toks := tk', drawn := dr' }) :
   wpAny (model prog w) ((ktrTop dp un gd cn cs L a ccd cl outer).deeper (envOf (Str.ofString "_law_goes") sc L' 62 (.ref 61))) (execs bd (envOf (Str.ofString "_law_goes") sc L' 62 (.ref 61))) Qf Ef s := by
  cases hg
  have hPs : Sm 1000 (10 ^ wd) := tenS hw2
  have hP0 : (0 : Int) < 10 ^ wd := Int.pow_pos (by decide)
  w_on
  (try k_fold)
  repeat' (first | ((fail_if_success (with_reducible show wpAny _ _ (call (Value.ref 55) _) _ _ _)); first | (k_unfold; (try dsimp only)) | walk1 | (dsimp only; walk1)) | fail "stop")
  k_dflt (refine spec_paper (by k_asm) (by k_asm) (by k_asm) (by k_asm) rfl (by dsimp only [ktrTop] at *; omega) (by dsimp only [ktrTop] at *; omega) (by k_asm) (A := A) List.mem_cons_self ‹IntsAre vs ns› _ _ _ _ hlen hD hP0 hDs hPs hns ?_)
  intro d lq us c tr h9 tk9 F9 N9 hus l9 l8
  (try dsimp only)
  have hlq24 : @LT.lt Nat _ 24 lq := l9 (24, tabObj ps) (List.mem_cons_of_mem _ List.mem_cons_self)
  have hf1 : ∀ x ∈ ns, 0 ≤ x ∧ x < 2 ^ 1000 := fun x hx => ⟨(hns x hx).1, Int.lt_trans (hns x hx).2 (by have := hPs; unfold Sm at this; omega)⟩
  have hf2 : ∀ x ∈ ns, (figs (wd : Int) x).length ≤ 300 := fun x hx => by
    have := figs_len hw1 (hns x hx).1 (hns x hx).2
    rw [Array.length_toList] at this
    show (figs (wd : Int) x).cps.size ≤ 300
    omega
  have hqs := paper_mem (P := 10 ^ wd) (D := D) hD hP0 ns hns
  have hql := paper_len (P := 10 ^ wd) (D := D) ns
  have hq1 : ∀ x ∈ (paperOf (10 ^ wd) D ns).1, 0 ≤ x ∧ x < 2 ^ 1000 := fun x hx => ⟨(hqs x hx).1, Int.lt_trans (hqs x hx).2 (by have := hPs; unfold Sm at this; omega)⟩
  have hq2 : ∀ x ∈ (paperOf (10 ^ wd) D ns).1, (figs (wd : Int) x).length ≤ 300 := fun x hx => by
    have := figs_len hw1 (hqs x hx).1 (hqs x hx).2
    rw [Array.length_toList] at this
    show (figs (wd : Int) x).cps.size ≤ 300
    omega
  have hlaw := paper_law (P := 10 ^ wd) (D := D) ns
  have hval := valN_nonneg hP0 _ hqs
  have hWs : Sm 16000 (valN (10 ^ wd) (paperOf (10 ^ wd) D ns).1) := (tenN hw2 (by omega)).of_le hval.1 (Int.le_of_lt hval.2)
  have hrest := paper_rest (P := 10 ^ wd) hD ns
  have h249 : ∀ q ∈ (lq, listOf us.toArray c) :: (A, listOf vs.toArray n) :: news, q.1 ≠ 24 := List.forall_mem_cons.mpr ⟨Nat.ne_of_gt hlq24, List.forall_mem_cons.mpr ⟨hA24, h24⟩⟩
  have hiv : IntsAre vs ns := by assumption
  repeat' (first | ((fail_if_success (with_reducible show wpAny _ _ (call (Value.ref 48) _) _ _ _)); first | (k_unfold; (try dsimp only)) | walk1 | (dsimp only; walk1)) | fail "stop")
  k_dflt (refine spec_joined (by k_asm) (by k_asm) (by k_asm) (by k_asm) rfl (by dsimp only [ktrTop] at *; omega) (by dsimp only [ktrTop] at *; omega) (by k_asm) (A := A) (List.mem_cons_of_mem _ (List.mem_cons_of_mem _ List.mem_cons_self)) hiv _ _ _ (by omega) (by omega) hf1 hf2 hlen k (by omega) ?_)
  intro t8 h8 tk8 F8 N8
  (try dsimp only)
  have N8' := cb_drop (news := (24, tabObj ps) :: (ext ++ ((lq, listOf us.toArray c) :: (A, listOf vs.toArray n) :: news))) N8 (by
    intro q hq
    rcases List.mem_cons.mp hq with rfl | hq
    · exact .tail _ (.tail _ (.tail _ (.head _)))
    rcases List.mem_append.mp hq with hq | hq
    · exact .tail _ (.tail _ (.tail _ (.tail _ (List.mem_append_left _ hq))))
    rcases List.mem_cons.mp hq with rfl | hq
    · exact .tail _ (.head _)
    rcases List.mem_cons.mp hq with rfl | hq
    · exact .tail _ (.tail _ (.head _))
    · exact .tail _ (.tail _ (.tail _ (.tail _ (List.mem_append_right _ hq)))))
  clear N8
  repeat' (first | ((fail_if_success (with_reducible show wpAny _ _ (call (Value.ref 36) _) _ _ _)); first | (k_unfold; (try dsimp only)) | walk1 | (dsimp only; walk1)) | fail "stop")
  k_dflt (refine spec_read (by k_asm) (by k_asm) (by k_asm) (by k_asm) rfl (by dsimp only [ktrTop] at *; omega) (by dsimp only [ktrTop] at *; omega) C' hT (by assumption) h249 hw1 hw2 hn1 hlen hns k _ ?_)
  intro t7 ps7 ext7 h7 tk7 dr7 F7 N7 hT7
  (try dsimp only)
  repeat' (first | ((fail_if_success (with_reducible show wpAny _ _ (call (Value.ref 48) _) _ _ _)); first | (k_unfold; (try dsimp only)) | walk1 | (dsimp only; walk1)) | fail "stop")
  have ek2 : (k : Int) + 2 = ((k + 2 : Nat) : Int) := by omega
  rw [ek2]
  k_dflt (refine spec_joined (by k_asm) (by k_asm) (by k_asm) (by k_asm) rfl (by dsimp only [ktrTop] at *; omega) (by dsimp only [ktrTop] at *; omega) (by k_asm) (A := lq) (List.mem_cons_of_mem _ (List.mem_append_right _ List.mem_cons_self)) hus _ _ _ (by omega) (by omega) hq1 hq2 (by omega) (k + 2) (by omega) ?_)
  intro t6 h6 tk6 F6 N6
  (try dsimp only)
  repeat' (first | ((fail_if_success (with_reducible show wpAny _ _ (call (Value.ref 36) _) _ _ _)); first | (k_unfold; (try dsimp only)) | walk1 | (dsimp only; walk1)) | fail "stop")
  k_dflt (refine spec_read (by k_asm) (by k_asm) (by k_asm) (by k_asm) rfl (by dsimp only [ktrTop] at *; omega) (by dsimp only [ktrTop] at *; omega) C' hT7 (by assumption) h249 hw1 hw2 (by omega) (by omega) hqs (k + 2) _ ?_)
  intro t5 ps5 ext5 h5 tk5 dr5 F5 N5 hT5
  (try dsimp only)
  generalize valN (10 ^ wd) ns = V at *
  generalize valN (10 ^ wd) (paperOf (10 ^ wd) D ns).1 = W9 at *
  generalize (paperOf (10 ^ wd) D ns).2 = R9 at *
  repeat' (first | ((fail_if_success (with_reducible show wpAny _ _ (binaryOp Operator.Mult _ _) _ _ _)); first | (k_unfold; (try dsimp only)) | walk1 | (dsimp only; walk1)) | fail "stop")
  k_dflt (refine mulS hWs hDs (by decide) ?_)
  repeat' (first | (k_unfold; (try dsimp only)) | walk1 | (dsimp only; walk1) | fail "stop")
  · contradiction
  · have N4 := cb_drop (news := (lq, listOf us.toArray c) :: (24, tabObj ps5) :: (ext5 ++ news)) ‹News g' L' _ ((24, tabObj ps5) :: (ext5 ++ _))› (by
      intro q hq
      rcases List.mem_cons.mp hq with rfl | hq
      · exact .tail _ (List.mem_append_right _ (.head _))
      rcases List.mem_cons.mp hq with rfl | hq
      · exact .head _
      rcases List.mem_append.mp hq with hq | hq
      · exact .tail _ (List.mem_append_left _ hq)
      · exact .tail _ (List.mem_append_right _ (.tail _ (.tail _ hq))))
    have F4 := canon ‹Fr g' L' _ _› rfl rfl rfl rfl
    have ek1 : (k : Int) + 1 = ((k + 1 : Nat) : Int) := by omega
    dsimp only at F4
    exact ret _ _ _ _ _ _ _ _ _ _ F4 N4 hus hT5 (Nat.ne_of_gt hlq24)

end
end Mine
end
section
open PySem PySem.W PyProof.Rows PySem.Calls PySem.Spec
set_option maxRecDepth 100000
set_option maxHeartbeats 8000000
set_option linter.unusedVariables false
namespace Mine
theorem fillDzSpecGoes : ∀ w, (WalkO Mine.hd.view_39 [Str.ofString "compute_powers"] (XL Mine.hd.view_39 []) (fun (w : World) (h : Heap) => Mine.hd.heap_39 w.params = Mine.hd.heap_39 w.params) Challenge.rw_dz0093_01.row.toRowW) = w → True := by
  k_fill
  intros; trivial
section
variable {prog : Program} {w : World} {p : Program} {loose : List Str} {mean : ExcName → Option Value} {mg mb : Str → Option Value}
  {dp un : Nat} {gd : Option (List Code)} {cn : Str} {cs : Scope} {a : Addr} {ccd : Value} {cl : List (Str × Addr)} {outer : List Env} {A₀ : Around} {base h₀ : Heap} {L : Addr} {m : Str → Option Value} {news : List (Addr × Obj)} {s : Shared} {Q E : Value → Shared → Prop}
theorem for_l {A : Around} {E : Value → Shared → Prop} {Q : Flow → Shared → Prop} {env : Env} {x : Str} {body : List Stmt} {e : Expr} {p pos : Pos} (hh : A.handled = none)
    (h : wpAny (model prog w) A (eval e env) (fun v s' => ∃ l vs m news c, v = .ref l ∧ Fr h₀ L s'.heap m ∧ News h₀ L s'.heap news ∧ (l, lst vs.toArray c) ∈ news ∧
       ∀ I io h', Fr h₀ L h' m → News h₀ L h' ((I, io) :: news) → LIter io l 0 → (∀ q ∈ news, q.1 < I) → FRest prog w A E h₀ L l I vs env x body Q vs 0 { s' with heap := h' }) E s)
    (hf : ∀ v, foldedSetIterable e env v = pure v := by intro _; rfl) (hE : PassesOwn (model prog w) A env E := by passes_own) :
    wpAny (model prog w) A (exec (.For (.Name x p) e body [] pos) env) Q E s := by
  rw [arm_exec_For]
  refine wpAny_bind (wpAny_standAt ?_)
  refine wpAny_bind (wpAny_mono h (fun v s' hv => ?_) fun _ _ q => q)
  obtain ⟨l, vs, m, news, c, rfl, F, N, hp, hr⟩ := hv
  rw [hf]
  refine wpAny_bind (wpAny_pure ?_)
  refine wpAny_bind (wpAny_standAt ?_)
  refine wpAny_bind (wpAny_holding (wpAny_pyIter_list (items := vs.toArray) ⟨_, (N _ hp).1, rfl, c, rfl⟩ ?_))
  replace hr := hr _ _ _ (F.push _) (News.push F N { cls := .type "list_iterator", data := .fields #[.ref l, .int 0 0] } rfl) ⟨rfl, rfl⟩ (fun q hq => Heap.lt_size (N q hq).1)
  generalize hit : s'.heap.objs.size = it at hr
  refine wpAny_runOwn (codeAny_forLoop (fun n s => ∃ r i, r.length = n ∧ FRest prog w A E h₀ L l it vs env x body Q r i s) ?_ vs.length ⟨vs, 0, rfl, hr⟩)
  clear hr
  rintro n s₁ ⟨r, j, hlen, hF⟩
  cases r with
  | nil =>
    obtain ⟨m, news, io, c, g, F, N, U, hi, hp, hd, hq⟩ := hF
    obtain ⟨pre, post, hl, hg, a, b⟩ := U.split
    have hmem : (it, io) ∈ news := by rw [hl]; exact List.mem_append_right _ (.head _)
    have hm := N (it, io) hmem
    refine lit_end (items := vs.toArray) hh hm.1 hi (N _ hp).1 ?_ fun h' o' ho' he => ?_
    · rw [List.getElem?_toArray]
      have := congrArg List.length hd
      rw [List.length_drop, List.length_nil] at this
      exact List.getElem?_eq_none (by omega)
    · have F' : Fr h₀ L h' m := by
        obtain ⟨oL, es, ep, hL, r⟩ := F.ns
        exact ⟨⟨oL, es, ep, he L oL (fun e => hm.2.1 e.symm) hL, r⟩, fun b o e => he b o (fun q => by rw [q, hm.2.2] at e; cases e) (F.keep b o e), F.above⟩
      refine wpAny_execs_nil (hq h' o' F' ?_)
      rw [hg]
      intro q hq'
      rcases List.mem_append.mp hq' with z | z
      · have n := N q (by rw [hl]; exact List.mem_append_left _ z)
        exact ⟨he _ _ (a q z) n.1, n.2⟩
      · rcases List.mem_cons.mp z with rfl | z
        · exact ⟨ho', hm.2⟩
        · have n := N q (by rw [hl]; exact List.mem_append_right _ (.tail _ z))
          exact ⟨he _ _ (b q z) n.1, n.2⟩
  | cons v r =>
    obtain ⟨m, news, io, c, g, F, N, U, hi, hp, hd, hq⟩ := hF
    obtain ⟨pre, post, hl, hg, a, b⟩ := U.split
    have hmem : (it, io) ∈ news := by rw [hl]; exact List.mem_append_right _ (.head _)
    have hm := N (it, io) hmem
    refine wpAny_mono (wpAny_pyNext_list_item (items := vs.toArray) (x := v) (hi.at hm.1) ⟨_, (N _ hp).1, rfl, c, rfl⟩ ?_ fun h' hit' hs => ?_) (fun _ _ q => q) hE
    · rw [List.getElem?_toArray]
      have := congrArg (fun l => l[0]?) hd
      simpa [List.getElem?_drop] using this
    · obtain ⟨o', ho', hc', hd'⟩ := hit'
      have F' : Fr h₀ L h' m := F.change hs hm.2.1 hm.2.2
      have N' : News h₀ L h' (g o') := hg o' ▸ (show News h₀ L s₁.heap (pre ++ (it, io) :: post) from hl ▸ N).setIn a b hs ho'
      have key := hq h' o' F' N' ⟨hc', hd'⟩
      dsimp only
      refine PyProof.Rows.assign_Name (wpAny_mono key (fun _ s₂ h₂ => wpAny_mono h₂ (fun f s₃ h₃ => ?_) hE) hE)
      cases f with
      | next => exact ⟨r.length, by rw [← hlen]; exact Nat.lt_succ_self _, r, j + 1, rfl, h₃⟩
      | cont => exact ⟨r.length, by rw [← hlen]; exact Nat.lt_succ_self _, r, j + 1, rfl, h₃⟩
      | brk => exact h₃
      | ret v => exact h₃
/-- the iterator lies apart from all the rest -/
theorem iter_off {h₀ h : Heap} {L I l A l4 : Addr} {io : Obj} {i n4 n : Nat} {its4 its : Array Value} {ps : Array Value} {ext news : List (Addr × Obj)} (N : News h₀ L h ((A, listOf its n) :: (24, tabObj ps) :: (ext ++ ((I, io) :: (l4, listOf its4 n4) :: news)))) (hi : LIter io l i) (hT : TabOk ps ext) (hn : ∀ q ∈ news, q.1 ≠ I) :
    ∀ q ∈ (l4, listOf its4 n4) :: (A, listOf its n) :: (24, tabObj ps) :: (ext ++ news), q.1 ≠ I := by
  have hI := N (I, io) (List.mem_cons_of_mem _ (List.mem_cons_of_mem _ (List.mem_append_right _ List.mem_cons_self)))
  have key : ∀ q, q ∈ (A, listOf its n) :: (24, tabObj ps) :: (ext ++ ((I, io) :: (l4, listOf its4 n4) :: news)) → q.2 ≠ io → q.1 ≠ I := by
    intro q hq hne e
    have h1 := (N q hq).1
    rw [e, hI.1] at h1
    exact hne (Option.some.inj h1).symm
  refine List.forall_mem_cons.mpr ⟨?_, List.forall_mem_cons.mpr ⟨?_, List.forall_mem_cons.mpr ⟨?_, ?_⟩⟩⟩
  · exact key _ (List.mem_cons_of_mem _ (List.mem_cons_of_mem _ (List.mem_append_right _ (List.mem_cons_of_mem _ List.mem_cons_self)))) fun e => by
      have := hi.1; rw [← e] at this; exact absurd (show Value.type "list" = Value.type "list_iterator" from this) (by decide)
  · exact key _ List.mem_cons_self fun e => by
      have := hi.1; rw [← e] at this; exact absurd (show Value.type "list" = Value.type "list_iterator" from this) (by decide)
  · exact key _ (List.mem_cons_of_mem _ List.mem_cons_self) fun e => by
      have := hi.1; rw [← e] at this; exact nomatch this
  · intro q hq
    rcases List.mem_append.mp hq with hq | hq
    · refine key q (List.mem_cons_of_mem _ (List.mem_cons_of_mem _ (List.mem_append_left _ hq))) fun e => ?_
      rcases hT with ⟨_, rfl⟩ | ⟨c', oc, vs, t, _, rfl, hoc, hvs⟩
      · exact nomatch hq
      · have eq := List.mem_singleton.mp hq
        rw [eq] at e
        have h2 := hi.2
        rw [← e, hoc] at h2
        injection h2 with h2
        rw [h2] at hvs
        exact nomatch hvs
    · exact hn q hq
theorem spec_goes (B : Below A₀ base outer h₀) (F : Fr h₀ L s.heap m) (X : (Mine.hd.heap_39 w.params).In h₀) (T : Top p loose mean mg mb h₀) (hk : cs.kind = .function) (hd : dp + 60 < recursionLimit) (hu : un + 260 < cLine)
   {ps : Array Value} {ext : List (Addr × Obj)} {A Ad : Addr} {vs : List Value} {ns : List Int} {n n2 : Nat} {d1 d2 d3 : Int} {u1 u2 u3 : Tok} (C : CodeHd h₀ 28 24) (hT : TabOk ps ext)
   (N : News h₀ L s.heap ((A, listOf vs.toArray n) :: (Ad, listOf #[.int d1 u1, .int d2 u2, .int d3 u3] n2) :: (24, tabObj ps) :: (ext ++ news))) (h24 : ∀ p ∈ news, p.1 ≠ 24) (hA24 : A ≠ 24)
   (hi : IntsAre vs ns) (wd : Nat) (t1 : Tok) (hw1 : 1 ≤ wd) (hw2 : wd ≤ 300) (hn1 : 0 < ns.length) (hlen : ns.length ≤ 16) (hns : ∀ x ∈ ns, 0 ≤ x ∧ x < 10 ^ wd)
   (hd1 : 0 < d1 ∧ Sm 1000 d1) (hd2 : 0 < d2 ∧ Sm 1000 d2) (hd3 : 0 < d3 ∧ Sm 1000 d3)
   (ret : ∀ ps' ext' h' tk' dr', Fr h₀ L h' m → News h₀ L h' ((24, tabObj ps') :: (ext' ++ news)) → TabOk ps' ext' → Q (.bool true) { s with heap := h', toks := tk', drawn := dr' }) :
   wpAny (model prog w) (ktrTop dp un gd cn cs L a ccd cl outer) (call (.ref 62) [.ref A, .ref Ad, .int wd t1]) Q E s := by
  have hz : vs.toArray.size ≤ 16 := by rw [List.size_toArray, hi.length]; exact hlen
  w_on
  refine wpAny_call ?_
  k_dflt cell_enter
  rename_i g' L' h' FG' F' N' B' X' T'
  have C' : CodeHd g' 28 24 := CodeHd.keeps C FG'.keep
  repeat' (first | ((fail_if_success (with_reducible show wpAny _ _ (binaryOp Operator.Pow _ _) _ _ _)); (fail_if_success (with_reducible show wpAny _ _ (exec (Stmt.For _ _ _ _ _) _) _ _ _)); first | (k_unfold; (try dsimp only)) | walk1 | (dsimp only; walk1)) | fail "stop")
  k_dflt (refine powS (Sm.lit (b := 4) (x := 10) (by decide)) (by omega) (by omega) (by decide) ?_)
  rw [show ((wd : Int)).toNat = wd from rfl]
  repeat' (first | ((fail_if_success (with_reducible show wpAny _ _ (exec (Stmt.For _ _ _ _ _) _) _ _ _)); first | (k_unfold; (try dsimp only)) | walk1 | (dsimp only; walk1)) | fail "stop")
  refine for_l (h₀ := g') (L := L') rfl ?_
  have hiv : IntsAre vs ns := by assumption
  repeat' (first | ((fail_if_success (with_reducible show wpAny _ _ (binaryOp Operator.Pow _ _) _ _ _)); (fail_if_success (with_reducible show wpAny _ _ (call (Value.builtin "len") _) _ _ _)); first | (k_unfold; (try dsimp only)) | walk1 | (dsimp only; walk1)) | fail "stop")
  k_dflt (refine kst_len (by k_asm) List.mem_cons_self hiv.length (by omega) ?_)
  k_dflt (refine powS (tenS hw2) (by omega) (by omega) (by decide) ?_)
  rw [show ((ns.length : Int)).toNat = ns.length from rfl]
  repeat' (first | ((fail_if_success (with_reducible show ∃ _, _)); first | (k_unfold; (try dsimp only)) | walk1 | (dsimp only; walk1)) | fail "stop")
  rename_i l4 h4 F4 N4 l4s
  have hP0 : (0 : Int) < 10 ^ wd := Int.pow_pos (by decide)
  obtain ⟨_, _, _, l41, l42⟩ := l4s
  obtain ⟨t4, n4, N1⟩ : ∃ t4 n4, News g' L' h4 ((l4, listOf #[.int d1 u1, .int d2 u2, .int d3 u3, .int ((10 ^ wd) ^ ns.length) t4] n4) :: (A, listOf vs.toArray n) :: (24, tabObj ps) :: (ext ++ news)) := ⟨_, _, cb_drop N4 (by
    intro q hq
    rcases List.mem_cons.mp hq with rfl | hq
    · exact .head _
    rcases List.mem_cons.mp hq with rfl | hq
    · exact .tail _ (.tail _ (.head _))
    rcases List.mem_cons.mp hq with rfl | hq
    · exact .tail _ (.tail _ (.tail _ (.tail _ (.head _))))
    · exact .tail _ (.tail _ (.tail _ (.tail _ (.tail _ hq)))))⟩
  have F5 := canon (a := some (.int ((0 : Nat) : Int) _)) F4 rfl rfl rfl rfl
  dsimp only at F5
  refine ⟨l4, [.int d1 u1, .int d2 u2, .int d3 u3, .int ((10 ^ wd) ^ ns.length) t4], _, _, n4, rfl, F5, N1, List.mem_cons_self, ?_⟩
  clear N4 F4
  intro I io h6 F6 N6 hio hlt
  have hI24 : @LT.lt Nat _ 24 I := hlt (24, tabObj ps) (.tail _ (.tail _ (.head _)))
  have hnI : ∀ q ∈ news, q.1 ≠ I := fun q hq => Nat.ne_of_lt (hlt q (.tail _ (.tail _ (.tail _ (List.mem_append_right _ hq)))))
  have hoff : ∀ q ∈ (l4, listOf #[.int d1 u1, .int d2 u2, .int d3 u3, .int ((10 ^ wd) ^ ns.length) t4] n4) :: (A, listOf vs.toArray n) :: (24, tabObj ps) :: (ext ++ news), q.1 ≠ I := fun q hq => Nat.ne_of_lt (hlt q hq)
  refine ⟨_, _, io, n4, _, F6, N6, UpdF.head hoff, hio, .tail _ (.head _), rfl, ?_⟩
  clear F5 N1
  have hD4 : 0 < ((10 ^ wd : Int)) ^ ns.length := Int.pow_pos hP0
  have hDs4 : Sm 16000 (((10 ^ wd : Int)) ^ ns.length) := tenN hw2 hlen
  intro h7_0 o_0 F7 N7 hio_0
  dsimp only
  walk1
  (try dsimp only)
  have N8_0 := cb_drop (news := (A, listOf vs.toArray n) :: (24, tabObj ps) :: (ext ++ ((I, o_0) :: (l4, listOf #[.int d1 u1, .int d2 u2, .int d3 u3, .int ((10 ^ wd) ^ ns.length) t4] n4) :: news))) ‹News g' L' _ ((I, o_0) :: _)› (by
    intro q hq
    rcases List.mem_cons.mp hq with rfl | hq
    · exact .tail _ (.tail _ (.head _))
    rcases List.mem_cons.mp hq with rfl | hq
    · exact .tail _ (.tail _ (.tail _ (.head _)))
    rcases List.mem_append.mp hq with hq | hq
    · exact .tail _ (.tail _ (.tail _ (.tail _ (List.mem_append_left _ hq))))
    rcases List.mem_cons.mp hq with rfl | hq
    · exact .head _
    rcases List.mem_cons.mp hq with rfl | hq
    · exact .tail _ (.head _)
    · exact .tail _ (.tail _ (.tail _ (.tail _ (List.mem_append_right _ hq)))))
  have h24_0 : ∀ q ∈ (I, o_0) :: (l4, listOf #[.int d1 u1, .int d2 u2, .int d3 u3, .int ((10 ^ wd) ^ ns.length) t4] n4) :: news, q.1 ≠ 24 := List.forall_mem_cons.mpr ⟨Nat.ne_of_gt hI24, List.forall_mem_cons.mpr ⟨Nat.ne_of_gt l41, h24⟩⟩
  k_dflt (refine goes_turn (k := 0) (D := d1) (ns := ns) (vs := vs) (A := A) (n := n) (ps := ps) (ext := ext) rfl (by k_asm) (by k_asm) (by k_asm) (by omega) (by omega) C' (by assumption) hT N8_0 h24_0 hA24 hiv hw1 hw2 hn1 hlen hns (by decide) hd1.1 (hd1.2.mono (by decide)) ?_)
  intro A_0 vs_0 n_0 tk_0 u_0 ps_0 ext_0 h8_0 tk8_0 dr_0 F9_0 N9_0 hi_0 hT_0 hA_0
  have mem_0 := paper_mem (P := 10 ^ wd) (D := d1) hd1.1 hP0 ns hns
  have len_0 := paper_len (P := 10 ^ wd) (D := d1) ns
  have hoff_0 := iter_off N9_0 hio_0 hT_0 hnI
  have N10_0 := cb_drop (news := (I, o_0) :: (l4, listOf #[.int d1 u1, .int d2 u2, .int d3 u3, .int ((10 ^ wd) ^ ns.length) t4] n4) :: (A_0, listOf vs_0.toArray n_0) :: (24, tabObj ps_0) :: (ext_0 ++ news)) N9_0 (by
    intro q hq
    rcases List.mem_cons.mp hq with rfl | hq
    · exact .tail _ (.tail _ (List.mem_append_right _ (.head _)))
    rcases List.mem_cons.mp hq with rfl | hq
    · exact .tail _ (.tail _ (List.mem_append_right _ (.tail _ (.head _))))
    rcases List.mem_cons.mp hq with rfl | hq
    · exact .head _
    rcases List.mem_cons.mp hq with rfl | hq
    · exact .tail _ (.head _)
    rcases List.mem_append.mp hq with hq | hq
    · exact .tail _ (.tail _ (List.mem_append_left _ hq))
    · exact .tail _ (.tail _ (List.mem_append_right _ (.tail _ (.tail _ hq)))))
  refine ⟨_, _, o_0, n4, _, F9_0, N10_0, UpdF.head hoff_0, hio_0, .tail _ (.head _), rfl, ?_⟩
  clear N8_0 N9_0 N10_0 F9_0
  intro h7_1 o_1 F7 N7 hio_1
  dsimp only
  walk1
  (try dsimp only)
  have N8_1 := cb_drop (news := (A_0, listOf vs_0.toArray n_0) :: (24, tabObj ps_0) :: (ext_0 ++ ((I, o_1) :: (l4, listOf #[.int d1 u1, .int d2 u2, .int d3 u3, .int ((10 ^ wd) ^ ns.length) t4] n4) :: news))) ‹News g' L' _ ((I, o_1) :: _)› (by
    intro q hq
    rcases List.mem_cons.mp hq with rfl | hq
    · exact .tail _ (.tail _ (.head _))
    rcases List.mem_cons.mp hq with rfl | hq
    · exact .tail _ (.tail _ (.tail _ (.head _)))
    rcases List.mem_append.mp hq with hq | hq
    · exact .tail _ (.tail _ (.tail _ (.tail _ (List.mem_append_left _ hq))))
    rcases List.mem_cons.mp hq with rfl | hq
    · exact .head _
    rcases List.mem_cons.mp hq with rfl | hq
    · exact .tail _ (.head _)
    · exact .tail _ (.tail _ (.tail _ (.tail _ (List.mem_append_right _ hq)))))
  have h24_1 : ∀ q ∈ (I, o_1) :: (l4, listOf #[.int d1 u1, .int d2 u2, .int d3 u3, .int ((10 ^ wd) ^ ns.length) t4] n4) :: news, q.1 ≠ 24 := List.forall_mem_cons.mpr ⟨Nat.ne_of_gt hI24, List.forall_mem_cons.mpr ⟨Nat.ne_of_gt l41, h24⟩⟩
  k_dflt (refine goes_turn (k := 1) (D := d2) (ns := (paperOf (10 ^ wd) d1 ns).1) (vs := vs_0) (A := A_0) (n := n_0) (ps := ps_0) (ext := ext_0) rfl (by k_asm) (by k_asm) (by k_asm) (by omega) (by omega) C' (by assumption) hT_0 N8_1 h24_1 hA_0 hi_0 hw1 hw2 (by omega) (by omega) mem_0 (by decide) hd2.1 (hd2.2.mono (by decide)) ?_)
  intro A_1 vs_1 n_1 tk_1 u_1 ps_1 ext_1 h8_1 tk8_1 dr_1 F9_1 N9_1 hi_1 hT_1 hA_1
  have mem_1 := paper_mem (P := 10 ^ wd) (D := d2) hd2.1 hP0 (paperOf (10 ^ wd) d1 ns).1 mem_0
  have len_1 := paper_len (P := 10 ^ wd) (D := d2) (paperOf (10 ^ wd) d1 ns).1
  have hoff_1 := iter_off N9_1 hio_1 hT_1 hnI
  have N10_1 := cb_drop (news := (I, o_1) :: (l4, listOf #[.int d1 u1, .int d2 u2, .int d3 u3, .int ((10 ^ wd) ^ ns.length) t4] n4) :: (A_1, listOf vs_1.toArray n_1) :: (24, tabObj ps_1) :: (ext_1 ++ news)) N9_1 (by
    intro q hq
    rcases List.mem_cons.mp hq with rfl | hq
    · exact .tail _ (.tail _ (List.mem_append_right _ (.head _)))
    rcases List.mem_cons.mp hq with rfl | hq
    · exact .tail _ (.tail _ (List.mem_append_right _ (.tail _ (.head _))))
    rcases List.mem_cons.mp hq with rfl | hq
    · exact .head _
    rcases List.mem_cons.mp hq with rfl | hq
    · exact .tail _ (.head _)
    rcases List.mem_append.mp hq with hq | hq
    · exact .tail _ (.tail _ (List.mem_append_left _ hq))
    · exact .tail _ (.tail _ (List.mem_append_right _ (.tail _ (.tail _ hq)))))
  refine ⟨_, _, o_1, n4, _, F9_1, N10_1, UpdF.head hoff_1, hio_1, .tail _ (.head _), rfl, ?_⟩
  clear N8_1 N9_1 N10_1 F9_1
  intro h7_2 o_2 F7 N7 hio_2
  dsimp only
  walk1
  (try dsimp only)
  have N8_2 := cb_drop (news := (A_1, listOf vs_1.toArray n_1) :: (24, tabObj ps_1) :: (ext_1 ++ ((I, o_2) :: (l4, listOf #[.int d1 u1, .int d2 u2, .int d3 u3, .int ((10 ^ wd) ^ ns.length) t4] n4) :: news))) ‹News g' L' _ ((I, o_2) :: _)› (by
    intro q hq
    rcases List.mem_cons.mp hq with rfl | hq
    · exact .tail _ (.tail _ (.head _))
    rcases List.mem_cons.mp hq with rfl | hq
    · exact .tail _ (.tail _ (.tail _ (.head _)))
    rcases List.mem_append.mp hq with hq | hq
    · exact .tail _ (.tail _ (.tail _ (.tail _ (List.mem_append_left _ hq))))
    rcases List.mem_cons.mp hq with rfl | hq
    · exact .head _
    rcases List.mem_cons.mp hq with rfl | hq
    · exact .tail _ (.head _)
    · exact .tail _ (.tail _ (.tail _ (.tail _ (List.mem_append_right _ hq)))))
  have h24_2 : ∀ q ∈ (I, o_2) :: (l4, listOf #[.int d1 u1, .int d2 u2, .int d3 u3, .int ((10 ^ wd) ^ ns.length) t4] n4) :: news, q.1 ≠ 24 := List.forall_mem_cons.mpr ⟨Nat.ne_of_gt hI24, List.forall_mem_cons.mpr ⟨Nat.ne_of_gt l41, h24⟩⟩
  k_dflt (refine goes_turn (k := 2) (D := d3) (ns := (paperOf (10 ^ wd) d2 (paperOf (10 ^ wd) d1 ns).1).1) (vs := vs_1) (A := A_1) (n := n_1) (ps := ps_1) (ext := ext_1) rfl (by k_asm) (by k_asm) (by k_asm) (by omega) (by omega) C' (by assumption) hT_1 N8_2 h24_2 hA_1 hi_1 hw1 hw2 (by omega) (by omega) mem_1 (by decide) hd3.1 (hd3.2.mono (by decide)) ?_)
  intro A_2 vs_2 n_2 tk_2 u_2 ps_2 ext_2 h8_2 tk8_2 dr_2 F9_2 N9_2 hi_2 hT_2 hA_2
  have mem_2 := paper_mem (P := 10 ^ wd) (D := d3) hd3.1 hP0 (paperOf (10 ^ wd) d2 (paperOf (10 ^ wd) d1 ns).1).1 mem_1
  have len_2 := paper_len (P := 10 ^ wd) (D := d3) (paperOf (10 ^ wd) d2 (paperOf (10 ^ wd) d1 ns).1).1
  have hoff_2 := iter_off N9_2 hio_2 hT_2 hnI
  have N10_2 := cb_drop (news := (I, o_2) :: (l4, listOf #[.int d1 u1, .int d2 u2, .int d3 u3, .int ((10 ^ wd) ^ ns.length) t4] n4) :: (A_2, listOf vs_2.toArray n_2) :: (24, tabObj ps_2) :: (ext_2 ++ news)) N9_2 (by
    intro q hq
    rcases List.mem_cons.mp hq with rfl | hq
    · exact .tail _ (.tail _ (List.mem_append_right _ (.head _)))
    rcases List.mem_cons.mp hq with rfl | hq
    · exact .tail _ (.tail _ (List.mem_append_right _ (.tail _ (.head _))))
    rcases List.mem_cons.mp hq with rfl | hq
    · exact .head _
    rcases List.mem_cons.mp hq with rfl | hq
    · exact .tail _ (.head _)
    rcases List.mem_append.mp hq with hq | hq
    · exact .tail _ (.tail _ (List.mem_append_left _ hq))
    · exact .tail _ (.tail _ (List.mem_append_right _ (.tail _ (.tail _ hq)))))
  refine ⟨_, _, o_2, n4, _, F9_2, N10_2, UpdF.head hoff_2, hio_2, .tail _ (.head _), rfl, ?_⟩
  clear N8_2 N9_2 N10_2 F9_2
  intro h7_3 o_3 F7 N7 hio_3
  dsimp only
  walk1
  (try dsimp only)
  have N8_3 := cb_drop (news := (A_2, listOf vs_2.toArray n_2) :: (24, tabObj ps_2) :: (ext_2 ++ ((I, o_3) :: (l4, listOf #[.int d1 u1, .int d2 u2, .int d3 u3, .int ((10 ^ wd) ^ ns.length) t4] n4) :: news))) ‹News g' L' _ ((I, o_3) :: _)› (by
    intro q hq
    rcases List.mem_cons.mp hq with rfl | hq
    · exact .tail _ (.tail _ (.head _))
    rcases List.mem_cons.mp hq with rfl | hq
    · exact .tail _ (.tail _ (.tail _ (.head _)))
    rcases List.mem_append.mp hq with hq | hq
    · exact .tail _ (.tail _ (.tail _ (.tail _ (List.mem_append_left _ hq))))
    rcases List.mem_cons.mp hq with rfl | hq
    · exact .head _
    rcases List.mem_cons.mp hq with rfl | hq
    · exact .tail _ (.head _)
    · exact .tail _ (.tail _ (.tail _ (.tail _ (List.mem_append_right _ hq)))))
  have h24_3 : ∀ q ∈ (I, o_3) :: (l4, listOf #[.int d1 u1, .int d2 u2, .int d3 u3, .int ((10 ^ wd) ^ ns.length) t4] n4) :: news, q.1 ≠ 24 := List.forall_mem_cons.mpr ⟨Nat.ne_of_gt hI24, List.forall_mem_cons.mpr ⟨Nat.ne_of_gt l41, h24⟩⟩
  k_dflt (refine goes_turn (k := 3) (D := ((10 ^ wd) ^ ns.length)) (ns := (paperOf (10 ^ wd) d3 (paperOf (10 ^ wd) d2 (paperOf (10 ^ wd) d1 ns).1).1).1) (vs := vs_2) (A := A_2) (n := n_2) (ps := ps_2) (ext := ext_2) rfl (by k_asm) (by k_asm) (by k_asm) (by omega) (by omega) C' (by assumption) hT_2 N8_3 h24_3 hA_2 hi_2 hw1 hw2 (by omega) (by omega) mem_2 (by decide) hD4 hDs4 ?_)
  intro A_3 vs_3 n_3 tk_3 u_3 ps_3 ext_3 h8_3 tk8_3 dr_3 F9_3 N9_3 hi_3 hT_3 hA_3
  have mem_3 := paper_mem (P := 10 ^ wd) (D := ((10 ^ wd) ^ ns.length)) hD4 hP0 (paperOf (10 ^ wd) d3 (paperOf (10 ^ wd) d2 (paperOf (10 ^ wd) d1 ns).1).1).1 mem_2
  have len_3 := paper_len (P := 10 ^ wd) (D := ((10 ^ wd) ^ ns.length)) (paperOf (10 ^ wd) d3 (paperOf (10 ^ wd) d2 (paperOf (10 ^ wd) d1 ns).1).1).1
  have zero := paper_zero (D := (10 ^ wd) ^ ns.length) hP0 mem_2 (by rw [len_2, len_1, len_0])
  have hoff_3 := iter_off N9_3 hio_3 hT_3 hnI
  have N10_3 := cb_drop (news := (I, o_3) :: (l4, listOf #[.int d1 u1, .int d2 u2, .int d3 u3, .int ((10 ^ wd) ^ ns.length) t4] n4) :: (A_3, listOf vs_3.toArray n_3) :: (24, tabObj ps_3) :: (ext_3 ++ news)) N9_3 (by
    intro q hq
    rcases List.mem_cons.mp hq with rfl | hq
    · exact .tail _ (.tail _ (List.mem_append_right _ (.head _)))
    rcases List.mem_cons.mp hq with rfl | hq
    · exact .tail _ (.tail _ (List.mem_append_right _ (.tail _ (.head _))))
    rcases List.mem_cons.mp hq with rfl | hq
    · exact .head _
    rcases List.mem_cons.mp hq with rfl | hq
    · exact .tail _ (.head _)
    rcases List.mem_append.mp hq with hq | hq
    · exact .tail _ (.tail _ (List.mem_append_left _ hq))
    · exact .tail _ (.tail _ (List.mem_append_right _ (.tail _ (.tail _ hq)))))
  refine ⟨_, _, o_3, n4, _, F9_3, N10_3, UpdF.head hoff_3, hio_3, .tail _ (.head _), rfl, ?_⟩
  clear N8_3 N9_3 N10_3 F9_3
  generalize hq4 : (paperOf (10 ^ wd) ((10 ^ wd) ^ ns.length) (paperOf (10 ^ wd) d3 (paperOf (10 ^ wd) d2 (paperOf (10 ^ wd) d1 ns).1).1).1).1 = q4 at *
  intro h7 o7 F7 N7
  (try dsimp only)
  have hf1 : ∀ x ∈ q4, 0 ≤ x ∧ x < 2 ^ 1000 := fun x hx => ⟨(mem_3 x hx).1, Int.lt_trans (mem_3 x hx).2 (by have := tenS hw2; unfold Sm at this; omega)⟩
  have hf2 : ∀ x ∈ q4, (figs (wd : Int) x).length ≤ 300 := fun x hx => by
    have := figs_len hw1 (mem_3 x hx).1 (mem_3 x hx).2
    rw [Array.length_toList] at this
    show (figs (wd : Int) x).cps.size ≤ 300
    omega
  repeat' (first | ((fail_if_success (with_reducible show wpAny _ _ (call (Value.ref 48) _) _ _ _)); first | (k_unfold; (try dsimp only)) | walk1 | (dsimp only; walk1)) | fail "stop")
  k_dflt (refine spec_joined (by k_asm) (by k_asm) (by k_asm) (by k_asm) rfl (by dsimp only [ktrTop] at *; omega) (by dsimp only [ktrTop] at *; omega) (by k_asm) (A := A_3) (List.mem_cons_of_mem _ (List.mem_cons_of_mem _ List.mem_cons_self)) hi_3 _ _ _ (by omega) (by omega) hf1 hf2 (by omega) (3 + 1) (by omega) ?_)
  intro t6 h6 tk6 F6 N6
  (try dsimp only)
  have N5 := cb_drop (news := (24, tabObj ps_3) :: (ext_3 ++ news)) N6 (fun q hq => .tail _ (.tail _ (.tail _ hq)))
  clear N6
  repeat' (first | ((fail_if_success (with_reducible show wpAny _ _ (call (Value.ref 36) _) _ _ _)); first | (k_unfold; (try dsimp only)) | walk1 | (dsimp only; walk1)) | fail "stop")
  k_dflt (refine spec_read (by k_asm) (by k_asm) (by k_asm) (by k_asm) rfl (by dsimp only [ktrTop] at *; omega) (by dsimp only [ktrTop] at *; omega) C' hT_3 (by assumption) h24 hw1 hw2 (by omega) (by omega) mem_3 (3 + 1) _ ?_)
  intro t5 ps5 ext5 h5 tk5 dr5 F5 N5 hT5
  rw [zero]
  (try dsimp only)
  repeat' (first | (k_unfold; (try dsimp only)) | walk1 | (dsimp only; walk1) | fail "stop")
  exact ret _ _ _ _ _ (by k_asm) (by k_asm) hT5

end
end Mine
end
section
open PySem PySem.W PyProof.Rows PySem.Calls PySem.Spec
set_option maxRecDepth 100000
set_option maxHeartbeats 8000000
set_option linter.unusedVariables false
namespace Mine
theorem fillDzSpecCell : ∀ w, (WalkO Mine.hd.view_39 [Str.ofString "compute_powers"] (XL Mine.hd.view_39 []) (fun (w : World) (h : Heap) => Mine.hd.heap_39 w.params = Mine.hd.heap_39 w.params) Challenge.rw_dz0093_01.row.toRowW) = w → True := by
  k_fill
  intros; trivial
section
variable {prog : Program} {w : World} {p : Program} {loose : List Str} {mean : ExcName → Option Value} {mg mb : Str → Option Value}
  {dp un : Nat} {gd : Option (List Code)} {cn : Str} {cs : Scope} {a : Addr} {ccd : Value} {cl : List (Str × Addr)} {outer : List Env} {A₀ : Around} {base h₀ : Heap} {L : Addr} {m : Str → Option Value} {news : List (Addr × Obj)} {s : Shared} {Q E : Value → Shared → Prop}
theorem spec_cell (B : Below A₀ base outer h₀) (F : Fr h₀ L s.heap m) (X : (Mine.hd.heap_39 w.params).In h₀) (T : Top p loose mean mg mb h₀) (hk : cs.kind = .function) (hd : dp + 30 < recursionLimit) (hu : un + 120 < cLine)
   {A : Addr} {vs : List Value} {ns : List Int} {n : Nat} (N : News h₀ L s.heap ((A, listOf vs.toArray n) :: news)) (hi : IntsAre vs ns) (hlen : ns.length ≤ 63) (i : Nat) (o : Int) (t1 t2 : Tok) (hi9 : i < 10)
   (ret : ∀ t h' tk', Fr h₀ L h' m → News h₀ L h' ((A, listOf vs.toArray n) :: news) → Q (.int (ns.getD i o) t) { s with heap := h', toks := tk' }) :
   wpAny (model prog w) (ktrTop dp un gd cn cs L a ccd cl outer) (call (.ref 43) [.ref A, .int i t1, .int o t2]) Q E s := by
  have hz : vs.toArray.size ≤ 63 := by rw [List.size_toArray, hi.length]; exact hlen
  w_on
  refine wpAny_call ?_
  k_dflt cell_enter
  rename_i g' L' h' FG' F' N' B' X' T'
  have hiv : IntsAre vs ns := by assumption
  repeat' (first | ((fail_if_success (with_reducible show wpAny _ _ (call (Value.builtin "len") _) _ _ _)); first | (k_unfold; (try dsimp only)) | walk1 | (dsimp only; walk1)) | fail "stop")
  k_dflt (refine kst_len (by k_asm) List.mem_cons_self hiv.length (by omega) ?_)
  repeat' (first | (k_unfold; (try dsimp only)) | walk1 | (dsimp only; walk1) | fail "stop")
  · have e : ns.getD (i : Int).toNat 0 = ns.getD i o := by
      show ns.getD i 0 = ns.getD i o
      have hlt : i < ns.length := by omega
      rw [List.getD_eq_getElem?_getD, List.getD_eq_getElem?_getD, List.getElem?_eq_getElem hlt]; rfl
    rw [e]
    exact ret _ _ _ (by k_asm) (by k_asm)
  · have e : ns.getD i o = o := by
      rw [List.getD_eq_getElem?_getD, List.getElem?_eq_none (by omega)]; rfl
    have r := ret t2
    rw [e] at r
    exact r _ _ (by k_asm) (by k_asm)

end
end Mine
end
section
open PySem PySem.W PyProof.Rows PySem.Calls PySem.Spec
set_option maxRecDepth 100000
set_option maxHeartbeats 8000000
set_option linter.unusedVariables false
namespace Mine
theorem fillLaw : ∀ w, (WalkO Mine.hd.view_39 [Str.ofString "compute_powers"] (XL Mine.hd.view_39 []) (fun (w : World) (h : Heap) => Mine.hd.heap_39 w.params = Mine.hd.heap_39 w.params) Challenge.rw_dz0093_01.row.toRowW) = w → True := by
  k_fill
  intros; trivial
theorem take63 (l : List Int) : (l.take 63).length ≤ 63 := by rw [List.length_take]; omega
theorem ints3 {ys : List Value} {a b c : Int} (h : IntsAre ys [a, b, c]) : ∃ t1 t2 t3, ys = [.int a t1, .int b t2, .int c t3] := by
  cases h with
  | cons _ t1 h => cases h with
    | cons _ t2 h => cases h with
      | cons _ t3 h => cases h; exact ⟨t1, t2, t3, rfl⟩
theorem one_fmod (c : Int) (n : Nat) (hn : 0 < n) : ∃ k : Nat, 1 + c.fmod n = (k : Int) ∧ 1 ≤ k ∧ k ≤ n := by
  have h1 := Int.fmod_nonneg_of_pos c (b := (n : Int)) (by omega)
  have h2 := Int.fmod_lt_of_pos c (b := (n : Int)) (by omega)
  exact ⟨(1 + c.fmod n).toNat, by omega, by omega, by omega⟩
def dvOf (k : Int) : Int := 1 + (if k < 0 then -k else k).fmod (10 ^ 300)
theorem divs_ok (k : Int) : 0 < dvOf k ∧ Sm 1000 (dvOf k) := by
  unfold dvOf
  have hp : (0 : Int) < 10 ^ 300 := Int.pow_pos (by decide)
  have h1 := Int.fmod_nonneg_of_pos (if k < 0 then -k else k) hp
  have h2 := Int.fmod_lt_of_pos (if k < 0 then -k else k) hp
  exact ⟨by omega, (tenS (wd := 300) (Nat.le_refl _)).of_le (by omega) (by omega)⟩
theorem fmod_all (wd : Nat) (ms : List Int) : ∀ x ∈ ms.map (fun k => k.fmod (10 ^ wd)), 0 ≤ x ∧ x < 10 ^ wd := by
  intro x hx
  obtain ⟨k, _, rfl⟩ := List.mem_map.mp hx
  have hp : (0 : Int) < 10 ^ wd := Int.pow_pos (by decide)
  exact ⟨Int.fmod_nonneg_of_pos _ hp, Int.fmod_lt_of_pos _ hp⟩
theorem post_true (args : List WData) : Challenge.rw_dz0093_01.row.claim.post args (WData.bool true) args = true := by
  refine postW_of (r := Challenge.rw_dz0093_01.row.toRowW) (X := true) ?_ ?_ rfl
  · first | rfl | with_unfolding_all rfl | decide
  · first | rfl | with_unfolding_all rfl | (simp [WTm.value]; done)
section
variable {prog : Program} {w : World} {p : Program} {loose : List Str} {mean : ExcName → Option Value} {mg mb : Str → Option Value}
  {dp un : Nat} {gd : Option (List Code)} {cn : Str} {cs : Scope} {a : Addr} {ccd : Value} {cl : List (Str × Addr)} {outer : List Env} {A₀ : Around} {base h₀ : Heap} {L : Addr} {m : Str → Option Value} {news : List (Addr × Obj)} {s : Shared} {Q E : Value → Shared → Prop}
theorem spec_cellA (B : Below A₀ base outer h₀) (F : Fr h₀ L s.heap m) (X : (Mine.hd.heap_39 w.params).In h₀) (T : Top p loose mean mg mb h₀) (hk : cs.kind = .function) (hd : dp + 30 < recursionLimit) (hu : un + 120 < cLine)
   {A : Addr} {vs : List Value} {ns : List Int} {n : Nat} (N : News h₀ L s.heap ((A, listOf vs.toArray n) :: news)) (hi : IntsAre vs ns) (hlen : ns.length ≤ 63) (i : Nat) (o : Int) (t1 t2 : Tok) (hi9 : i < 10)
   (ret : ∀ (v : Int) t h' tk', Fr h₀ L h' m → News h₀ L h' ((A, listOf vs.toArray n) :: news) → Q (.int v t) { s with heap := h', toks := tk' }) :
   wpAny (model prog w) (ktrTop dp un gd cn cs L a ccd cl outer) (call (.ref 43) [.ref A, .int i t1, .int o t2]) Q E s :=
  spec_cell B F X T hk hd hu N hi hlen i o t1 t2 hi9 fun t h' tk' F' N' => ret _ t h' tk' F' N'
theorem mulRow {A : Around} {l : Addr} {vs : List Value} {ns : List Int} {tn : Nat} {u : Tok} (Fm : Fr h₀ L s.heap m) (N : News h₀ L s.heap news) (hl : s.heap.IsList l vs.toArray) (hi : IntsAre vs ns) (h1 : 0 < ns.length) (h2 : ns.length ≤ 63) (t1 : 1 ≤ tn) (t2 : tn ≤ 16)
   (h : ∀ D us (ns' : List Int) h', Fr h₀ L h' m → News h₀ L h' ((D, listOf (List.toArray us) 0) :: news) → (∀ p ∈ news, p.1 < D) → IntsAre us ns' → 0 < ns'.length → ns'.length ≤ 1008 → Q (.ref D) { s with heap := h' }) : wpAny (model prog w) A (binaryOp .Mult (.ref l) (.int (tn : Int) u)) Q E s := by
  have hm1 : 1 * 1 ≤ ns.length * tn := Nat.mul_le_mul h1 t1
  have hm2 : ns.length * tn ≤ 63 * 16 := Nat.mul_le_mul h2 t2
  refine KM.mul Fm N hl hi (by omega) (by omega) ?_ ?_
  · rw [hi.length]; show ns.length * tn ≤ 2 ^ 24; omega
  · intro D h' F' N' l1 hI n e1 e2 e3 e4
    have e5 : n = ns.length * tn := by
      have := e4 (by omega)
      rw [← Int.natCast_mul] at this
      omega
    exact h D _ _ h' F' N' l1 hI (by rw [e2]; omega) (by rw [e2]; omega)
theorem sliceRow {A : Around} {l : Addr} {vs : List Value} {ns : List Int} {value slice : Expr} {vl : Value} {tu : Tok} (F : Fr h₀ L s.heap m) (N : News h₀ L s.heap news) (hl : s.heap.IsList l vs.toArray) (pl : IsPart vl none) (hi' : IntsAre vs ns) (h1 : 0 < ns.length) (h2 : ns.length ≤ 1008)
   (h : ∀ D ws (ms : List Int) h', Fr h₀ L h' m → News h₀ L h' ((D, listOf (List.toArray ws) 0) :: news) → (∀ p ∈ news, p.1 < D) → IntsAre ws ms → 0 < ms.length → ms.length ≤ 16 → Q (.ref D) { s with heap := h' })
   (hs : subscripted slice false (.ref l) (.ref s.heap.objs.size) = operate [.ref s.heap.objs.size, .ref l] (getItem (.ref l) (.ref s.heap.objs.size))) :
   wpAny (model prog w) A (subscriptTail value slice (.ref l) (.ref s.heap.objs.size)) Q E { s with heap := s.heap.push { cls := .type "slice", data := .fields #[vl, .int 16 tu, .none] } } := by
  refine kba_turn (value' := Expr.Name (Str.ofString "_") ⟨0, 0, 0, 0⟩) (fun _ => rfl) (kmk_slice_ints F N hl pl (IsPart.int _ _) hi' (kmk_upto hi' (by decide)) rfl ?_ hs (fun _ => rfl) ?_)
  · intro D ws h' F' N' l1 hI hc hle
    exact h D ws _ h' F' N' l1 hI (by rw [List.length_take]; show 0 < min 16 ns.length; omega) (by rw [List.length_take]; show min 16 ns.length ≤ 16; omega)
  · rw [List.size_toArray, hi'.length]; unfold sizeLine; omega
end
theorem lawHolds : PySem.Challenge.rw_dz0093_01.Holds := Mine.hd (by
  w_on
  w_strict (
    k_go0
    (all_goals try k_fold)
    (repeat' (first | ((fail_if_success (with_reducible show wpAny _ _ (call (Value.ref 43) _) _ _ _)); (fail_if_success (with_reducible show wpAny _ _ (binaryOp Operator.Add _ _) _ _ _)); (fail_if_success (with_reducible show wpAny _ _ (binaryOp Operator.Pow _ _) _ _ _)); (fail_if_success (with_reducible show wpAny _ _ (exec (Stmt.Assign _ (Expr.ListComp _ _ _ _) _) _) _ _ _)); first | (k_unfold; (try dsimp only)) | walk1 | (dsimp only; walk1)) | fail "stop"))
    k_dflt (refine spec_cellA (by k_asm) (by k_asm) (by k_asm) (by k_asm) rfl (by decide +kernel) (by decide +kernel) (by k_asm) (by assumption) (take63 _) 0 200 _ _ (by decide) ?_)
    intro c0 t0 h0 tk0 F0 N0
    (try dsimp only)
    (repeat' (first | ((fail_if_success (with_reducible show wpAny _ _ (call (Value.ref 43) _) _ _ _)); (fail_if_success (with_reducible show wpAny _ _ (binaryOp Operator.Add _ _) _ _ _)); (fail_if_success (with_reducible show wpAny _ _ (binaryOp Operator.Pow _ _) _ _ _)); (fail_if_success (with_reducible show wpAny _ _ (exec (Stmt.Assign _ (Expr.ListComp _ _ _ _) _) _) _ _ _)); first | (k_unfold; (try dsimp only)) | walk1 | (dsimp only; walk1)) | fail "stop"))
    walk1
    obtain ⟨wd, hwd, hw1, hw2⟩ := one_fmod c0 300 (by decide)
    rw [show (1 + c0.fmod 300 : Int) = (wd : Int) from hwd]
    (repeat' (first | ((fail_if_success (with_reducible show wpAny _ _ (call (Value.ref 43) _) _ _ _)); (fail_if_success (with_reducible show wpAny _ _ (binaryOp Operator.Add _ _) _ _ _)); (fail_if_success (with_reducible show wpAny _ _ (binaryOp Operator.Pow _ _) _ _ _)); (fail_if_success (with_reducible show wpAny _ _ (exec (Stmt.Assign _ (Expr.ListComp _ _ _ _) _) _) _ _ _)); first | (k_unfold; (try dsimp only)) | walk1 | (dsimp only; walk1)) | fail "stop"))
    k_dflt (refine spec_cellA (by k_asm) (by k_asm) (by k_asm) (by k_asm) rfl (by decide +kernel) (by decide +kernel) (by k_asm) (by assumption) (take63 _) 1 5 _ _ (by decide) ?_)
    intro c1 t1 h1 tk1 F1 N1
    (try dsimp only)
    (repeat' (first | ((fail_if_success (with_reducible show wpAny _ _ (call (Value.ref 43) _) _ _ _)); (fail_if_success (with_reducible show wpAny _ _ (binaryOp Operator.Add _ _) _ _ _)); (fail_if_success (with_reducible show wpAny _ _ (binaryOp Operator.Pow _ _) _ _ _)); (fail_if_success (with_reducible show wpAny _ _ (exec (Stmt.Assign _ (Expr.ListComp _ _ _ _) _) _) _ _ _)); first | (k_unfold; (try dsimp only)) | walk1 | (dsimp only; walk1)) | fail "stop"))
    walk1
    obtain ⟨tn, htn, ht1, ht2⟩ := one_fmod c1 16 (by decide)
    rw [show (1 + c1.fmod 16 : Int) = (tn : Int) from htn]
    (repeat' (first | ((fail_if_success (with_reducible show wpAny _ _ (call (Value.ref 43) _) _ _ _)); (fail_if_success (with_reducible show wpAny _ _ (binaryOp Operator.Add _ _) _ _ _)); (fail_if_success (with_reducible show wpAny _ _ (binaryOp Operator.Pow _ _) _ _ _)); (fail_if_success (with_reducible show wpAny _ _ (exec (Stmt.Assign _ (Expr.ListComp _ _ _ _) _) _) _ _ _)); first | (k_unfold; (try dsimp only)) | walk1 | (dsimp only; walk1)) | fail "stop"))
    k_dflt (refine spec_cellA (by k_asm) (by k_asm) (by k_asm) (by k_asm) rfl (by decide +kernel) (by decide +kernel) (by k_asm) (by assumption) (take63 _) 2 6 _ _ (by decide) ?_)
    intro c2 t2 h2 tk2 F2 N2
    (try dsimp only)
    (repeat' (first | ((fail_if_success (with_reducible show wpAny _ _ (call (Value.ref 43) _) _ _ _)); (fail_if_success (with_reducible show wpAny _ _ (binaryOp Operator.Add _ _) _ _ _)); (fail_if_success (with_reducible show wpAny _ _ (binaryOp Operator.Pow _ _) _ _ _)); (fail_if_success (with_reducible show wpAny _ _ (exec (Stmt.Assign _ (Expr.ListComp _ _ _ _) _) _) _ _ _)); first | (k_unfold; (try dsimp only)) | walk1 | (dsimp only; walk1)) | fail "stop"))
    k_dflt (refine spec_cellA (by k_asm) (by k_asm) (by k_asm) (by k_asm) rfl (by decide +kernel) (by decide +kernel) (by k_asm) (by assumption) (take63 _) 3 (-1) _ _ (by decide) ?_)
    intro c3 t3 h3 tk3 F3 N3
    (try dsimp only)
    (repeat' (first | ((fail_if_success (with_reducible show wpAny _ _ (call (Value.ref 43) _) _ _ _)); (fail_if_success (with_reducible show wpAny _ _ (binaryOp Operator.Add _ _) _ _ _)); (fail_if_success (with_reducible show wpAny _ _ (binaryOp Operator.Pow _ _) _ _ _)); (fail_if_success (with_reducible show wpAny _ _ (exec (Stmt.Assign _ (Expr.ListComp _ _ _ _) _) _) _ _ _)); first | (k_unfold; (try dsimp only)) | walk1 | (dsimp only; walk1)) | fail "stop"))
    k_dflt (refine powS (Sm.lit (b := 4) (x := 10) (by decide)) (by decide) (by decide) (by decide) ?_)
    (repeat' (first | ((fail_if_success (with_reducible show wpAny _ _ (call (Value.ref 43) _) _ _ _)); (fail_if_success (with_reducible show wpAny _ _ (binaryOp Operator.Add _ _) _ _ _)); (fail_if_success (with_reducible show wpAny _ _ (binaryOp Operator.Pow _ _) _ _ _)); (fail_if_success (with_reducible show wpAny _ _ (exec (Stmt.Assign _ (Expr.ListComp _ _ _ _) _) _) _ _ _)); first | (k_unfold; (try dsimp only)) | walk1 | (dsimp only; walk1)) | fail "stop"))
    k_dflt (refine spec_cellA (by k_asm) (by k_asm) (by k_asm) (by k_asm) rfl (by decide +kernel) (by decide +kernel) (by k_asm) (by assumption) (take63 _) 4 _ _ _ (by decide) ?_)
    intro c4 t4 h4 tk4 F4 N4
    (try dsimp only)
    (repeat' (first | ((fail_if_success (with_reducible show wpAny _ _ (call (Value.ref 43) _) _ _ _)); (fail_if_success (with_reducible show wpAny _ _ (binaryOp Operator.Add _ _) _ _ _)); (fail_if_success (with_reducible show wpAny _ _ (binaryOp Operator.Pow _ _) _ _ _)); (fail_if_success (with_reducible show wpAny _ _ (exec (Stmt.Assign _ (Expr.ListComp _ _ _ _) _) _) _ _ _)); first | (k_unfold; (try dsimp only)) | walk1 | (dsimp only; walk1)) | fail "stop"))
    k_dflt (refine LCg.Assign_ListComp_U (F₀ := by k_asm) (by rfl) (by with_unfolding_all rfl) (by with_unfolding_all rfl) (by decide) (by rfl) (by decide) (by rfl) (by rfl) (by rfl) ?_)
    (repeat' (first | ((fail_if_success (with_reducible show LCg.CompSrc _ _ _ _ _ _ _ _ _ _ _ _ _ _)); (fail_if_success (with_reducible show wpAny _ _ (binaryOp Operator.Mult _ _) _ _ _)); (fail_if_success (with_reducible show wpAny _ _ (subscriptTail _ _ _ _) _ _ _)); first | (k_unfold; (try dsimp only)) | walk1 | (dsimp only; walk1)) | fail "stop"))
    k_dflt (refine LCg.CompSrc.ledger (by rfl) (by k_asm) (by k_asm) (by k_mem) (by exact (show 3 ≤ sizeLine by decide)) ?_)
    intro gg
    refine kcf_list dvOf (.cons _ _ (.cons _ _ (.cons _ _ .nil))) (fun k' t' I' oI' C' oC' D' m' ys' h' tk' E' hk' hC' hx' F' N' off' ne' hm' => ?_) ?_
    · (repeat' (first | ((fail_if_success (with_reducible show LCg.CompEnd _ _ _ _ _ _ _ _ _ _ _ _ _ _)); (fail_if_success (with_reducible show wpAny _ _ (binaryOp Operator.Pow _ _) _ _ _)); (fail_if_success (with_reducible show wpAny _ _ (binaryOp Operator.Mod _ _) _ _ _)); first | (k_unfold; (try dsimp only)) | walk1 | (dsimp only; walk1)) | fail "stop"))
      k_dflt (refine powS (Sm.lit (b := 4) (x := 10) (by decide)) (by decide) (by decide) (by decide) ?_)
      generalize hP : (10 : Int) ^ (Int.toNat 300) = P3
      have hP3 : P3 ≠ 0 := by rw [← hP]; exact Int.pow_ne_zero (by decide)
      (repeat' (first | ((fail_if_success (with_reducible show LCg.CompEnd _ _ _ _ _ _ _ _ _ _ _ _ _ _)); (fail_if_success (with_reducible show wpAny _ _ (binaryOp Operator.Pow _ _) _ _ _)); (fail_if_success (with_reducible show wpAny _ _ (binaryOp Operator.Mod _ _) _ _ _)); first | (k_unfold; (try dsimp only)) | walk1 | (dsimp only; walk1)) | fail "stop"))
      k_dflt (refine mod_int' hP3 ?_)
      (repeat' (first | ((fail_if_success (with_reducible show LCg.CompEnd _ _ _ _ _ _ _ _ _ _ _ _ _ _)); (fail_if_success (with_reducible show wpAny _ _ (binaryOp Operator.Pow _ _) _ _ _)); (fail_if_success (with_reducible show wpAny _ _ (binaryOp Operator.Mod _ _) _ _ _)); first | (k_unfold; (try dsimp only)) | walk1 | (dsimp only; walk1)) | fail "stop"))
      exact ⟨_, _, _, rfl, F', N', off', Or.inr ⟨_, List.mem_cons_self, rfl, _, rfl⟩, kcf_el (by rw [← hP]; rfl) rfl rfl⟩
    · unfold KPfDone
      intro ys hys
      have hys' : IntsAre ys [dvOf c2, dvOf c3, dvOf c4] := hys
      obtain ⟨u1, u2, u3, rfl⟩ := ints3 hys'
      clear hys hys'
      obtain ⟨e1, e1s⟩ := divs_ok c2
      obtain ⟨e2, e2s⟩ := divs_ok c3
      obtain ⟨e3, e3s⟩ := divs_ok c4
      generalize dvOf c2 = d1 at *
      generalize dvOf c3 = d2 at *
      generalize dvOf c4 = d3 at *
      (repeat' (first | ((fail_if_success (with_reducible show wpAny _ _ (exec (Stmt.Assign _ (Expr.ListComp _ _ _ _) _) _) _ _ _)); first | (k_unfold; (try dsimp only)) | walk1 | (dsimp only; walk1)) | fail "stop"))
      all_goals k_dflt (refine LCg.Assign_ListComp_U (F₀ := by k_asm) (by rfl) (by with_unfolding_all rfl) (by with_unfolding_all rfl) (by decide) (by rfl) (by decide) (by rfl) (by rfl) (by rfl) ?_)
      all_goals (repeat' (first | ((fail_if_success (with_reducible show LCg.CompSrc _ _ _ _ _ _ _ _ _ _ _ _ _ _)); (fail_if_success (with_reducible show wpAny _ _ (binaryOp Operator.Mult _ _) _ _ _)); (fail_if_success (with_reducible show wpAny _ _ (subscriptTail _ _ _ _) _ _ _)); first | (k_unfold; (try dsimp only)) | walk1 | (dsimp only; walk1)) | fail "stop"))
      all_goals (first
        | k_dflt (refine mulRow (by k_asm) (by k_asm) (News.isList (by k_asm) (by k_mem)) ‹IntsAre _ (List.drop 5 _)› (by omega) (by omega) ht1 ht2 ?_)
        | k_dflt (refine mulRow (by k_asm) (by k_asm) (News.isList (by k_asm) (by k_mem)) (.cons _ _ (.cons _ _ (.cons _ _ .nil))) (by decide) (by decide) ht1 ht2 ?_))
      all_goals (
        intro Dm um nm hm Fm Nm lm hum hn1 hn2
        (try k_lt lm)
        (try dsimp only)
        (repeat' (first | ((fail_if_success (with_reducible show LCg.CompSrc _ _ _ _ _ _ _ _ _ _ _ _ _ _)); (fail_if_success (with_reducible show wpAny _ _ (binaryOp Operator.Mult _ _) _ _ _)); (fail_if_success (with_reducible show wpAny _ _ (subscriptTail _ _ _ _) _ _ _)); first | (k_unfold; (try dsimp only)) | walk1 | (dsimp only; walk1)) | fail "stop")))
      all_goals (
        k_dflt (refine sliceRow (by k_asm) (by k_asm) (News.isList (by k_asm) List.mem_cons_self) IsPart.none hum hn1 hn2 ?_ (by with_unfolding_all rfl))
        intro Ds us9 ms9 hs9 Fs Ns ls hums hms1 hms2
        (try k_lt ls)
        (try dsimp only)
        (repeat' (first | ((fail_if_success (with_reducible show LCg.CompSrc _ _ _ _ _ _ _ _ _ _ _ _ _ _)); (fail_if_success (with_reducible show wpAny _ _ (binaryOp Operator.Mult _ _) _ _ _)); (fail_if_success (with_reducible show wpAny _ _ (subscriptTail _ _ _ _) _ _ _)); first | (k_unfold; (try dsimp only)) | walk1 | (dsimp only; walk1)) | fail "stop"))
        k_dflt (refine LCg.CompSrc.ledger (by rfl) (by k_asm) (by k_asm) List.mem_cons_self (by rw [List.size_toArray, hums.length]; unfold sizeLine; omega) ?_)
        intro gg9
        refine kcf_list (fun k => k.fmod (10 ^ wd)) hums (fun k' t' I' oI' C' oC' D' m' ys' h' tk' E' hk' hC' hx' F' N' off' ne' hm' => ?_) ?_
        · (repeat' (first | ((fail_if_success (with_reducible show LCg.CompEnd _ _ _ _ _ _ _ _ _ _ _ _ _ _)); (fail_if_success (with_reducible show wpAny _ _ (binaryOp Operator.Pow _ _) _ _ _)); (fail_if_success (with_reducible show wpAny _ _ (binaryOp Operator.Mod _ _) _ _ _)); first | (k_unfold; (try dsimp only)) | walk1 | (dsimp only; walk1)) | fail "stop"))
          k_dflt (refine powS (Sm.lit (b := 4) (x := 10) (by decide)) (by omega) (by omega) (by decide) ?_)
          rw [show ((wd : Int)).toNat = wd from rfl]
          have hPw : (10 : Int) ^ wd ≠ 0 := Int.pow_ne_zero (by decide)
          (repeat' (first | ((fail_if_success (with_reducible show LCg.CompEnd _ _ _ _ _ _ _ _ _ _ _ _ _ _)); (fail_if_success (with_reducible show wpAny _ _ (binaryOp Operator.Pow _ _) _ _ _)); (fail_if_success (with_reducible show wpAny _ _ (binaryOp Operator.Mod _ _) _ _ _)); first | (k_unfold; (try dsimp only)) | walk1 | (dsimp only; walk1)) | fail "stop"))
          k_dflt (refine mod_int' hPw ?_)
          (repeat' (first | ((fail_if_success (with_reducible show LCg.CompEnd _ _ _ _ _ _ _ _ _ _ _ _ _ _)); (fail_if_success (with_reducible show wpAny _ _ (binaryOp Operator.Pow _ _) _ _ _)); (fail_if_success (with_reducible show wpAny _ _ (binaryOp Operator.Mod _ _) _ _ _)); first | (k_unfold; (try dsimp only)) | walk1 | (dsimp only; walk1)) | fail "stop"))
          exact ⟨_, _, _, rfl, F', N', off', Or.inr ⟨_, List.mem_cons_self, rfl, _, rfl⟩, kcf_el rfl rfl rfl⟩
        · unfold KPfDone
          intro yf hyf
          (repeat' (first | ((fail_if_success (with_reducible show wpAny _ _ (call (Value.ref 62) _) _ _ _)); first | (k_unfold; (try dsimp only)) | walk1 | (dsimp only; walk1)) | fail "stop"))
          k_dflt (refine spec_goes (ps := #[]) (ext := []) (news := []) (vs := yf) (d1 := d1) (d2 := d2) (d3 := d3) (u1 := u1) (u2 := u2) (u3 := u3) (by k_asm) (by k_asm) (by k_asm) (by k_asm) rfl (by decide +kernel) (by decide +kernel) (by assumption) (Or.inl ⟨rfl, rfl⟩) (cb_drop (by k_asm) (List.forall_mem_cons.mpr ⟨by k_mem, List.forall_mem_cons.mpr ⟨by k_mem, List.forall_mem_cons.mpr ⟨by k_mem, List.forall_mem_nil _⟩⟩⟩)) (List.forall_mem_nil _) (by k_ne) hyf wd _ hw1 hw2 (by rw [List.length_map]; exact hms1) (by rw [List.length_map]; exact hms2) (fmod_all wd ms9) ⟨e1, e1s⟩ ⟨e2, e2s⟩ ⟨e3, e3s⟩ ?_)
          intro ps' ext' h' tk' dr' F' N' hT'
          have N9 := cb_drop (news := [(24, tabObj ps')]) N' (List.forall_mem_cons.mpr ⟨.head _, List.forall_mem_nil _⟩)
          clear N' hT'
          (try dsimp only)
          refine ⟨⟨Or.inl ⟨_, _, _, rfl, fun _ => rfl, ReadsW.bool true, ?g1, ?g2⟩, ?g3, rfl, ?g4⟩, ?g5⟩
          case g5 => exact ⟨⟨_, (N9 _ (.head _)).1⟩, trivial⟩
          case g3 => exact Fr.keep (by k_asm)
          case g4 => first | rfl | assumption | (simp_all; done)
          case g1 => exact post_true _
          case g2 => exact fun _ => ⟨List.nodup_nil, List.forall_mem_nil _⟩)))
end Mine
end
theorem PySem.Challenge.cw_dz0093_01_holds : PySem.Challenge.rw_dz0093_01.Holds :=
  Mine.lawHolds
