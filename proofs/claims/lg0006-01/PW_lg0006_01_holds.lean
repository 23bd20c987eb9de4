import PyProof.Rows.All
import Wide.All
import OpenK.AllK
import Wide.FinOn
import PySem.Challenge.RW_lg0006_01
set_option Elab.async false
noncomputable section
/-! Laid -/
namespace Mine
open PySem PySem.SetTable

def hop (mask i : Nat) : Nat := (i * 5 + 1) % (mask + 1)
noncomputable def hops (mask : Nat) : Nat → Nat → Nat
  | 0, i => i
  | t + 1, i => hops mask t (hop mask i)

noncomputable def orbit (mask : Nat) : Nat → Nat → List Nat
  | 0, _ => []
  | t + 1, i => i :: orbit mask t (hop mask i)

def Full (mask : Nat) : Prop := ∀ i j, i ≤ mask → j ≤ mask → ∃ t, t ≤ mask ∧ hops mask t i = j

theorem hops_add (mask : Nat) : ∀ a b i, hops mask (a + b) i = hops mask b (hops mask a i)
  | 0, b, i => by rw [Nat.zero_add]; rfl
  | a + 1, b, i => by rw [show a + 1 + b = (a + b) + 1 by omega]; exact hops_add mask a b _
theorem mem_orbit (mask : Nat) : ∀ n i j, j ∈ orbit mask n i → ∃ t, t < n ∧ hops mask t i = j
  | 0, _, _, h => nomatch h
  | n + 1, i, j, h => by
    rcases List.mem_cons.mp h with rfl | h
    · exact ⟨0, by omega, rfl⟩
    · obtain ⟨t, ht, e⟩ := mem_orbit mask n _ j h
      exact ⟨t + 1, by omega, e⟩
def fullOk (mask : Nat) : Bool := (List.range (mask + 1)).all (fun j => (orbit mask (mask + 1) 0).contains j) && hops mask (mask + 1) 0 == 0
theorem full_of_ok {mask : Nat} (h : fullOk mask = true) : Full mask := by
  unfold fullOk at h
  rw [Bool.and_eq_true, List.all_eq_true] at h
  obtain ⟨h1, h2⟩ := h
  have at0 : ∀ j, j ≤ mask → ∃ t, t ≤ mask ∧ hops mask t 0 = j := fun j hj => by
    obtain ⟨t, ht, e⟩ := mem_orbit mask _ _ _ (List.contains_iff_mem.mp (h1 j (List.mem_range.mpr (by omega))))
    exact ⟨t, by omega, e⟩
  have h2 : hops mask (mask + 1) 0 = 0 := beq_iff_eq.mp h2
  intro i j hi hj
  obtain ⟨a, ha, ea⟩ := at0 i hi
  obtain ⟨b, hb, eb⟩ := at0 j hj
  by_cases hab : a ≤ b
  · exact ⟨b - a, by omega, by rw [← ea, ← hops_add, show a + (b - a) = b by omega, eb]⟩
  · refine ⟨mask + 1 - a + b, by omega, ?_⟩
    rw [← ea, ← hops_add, show a + (mask + 1 - a + b) = mask + 1 + b by omega, hops_add, h2, eb]
theorem full7 : Full 7 := full_of_ok (by decide +kernel)
theorem full15 : Full 15 := full_of_ok (by decide +kernel)
theorem full31 : Full 31 := full_of_ok (by decide +kernel)
theorem full63 : Full 63 := full_of_ok (by decide +kernel)
theorem full127 : Full 127 := full_of_ok (by decide +kernel)

section
variable {mask : Nat} {owner : Array (Option Nat)}
theorem free_is : ∀ (fuel i p : Nat) (j : Nat), layClean.free mask owner fuel i p = some j → owner[j]? = some none
  | 0, _, _, _, h => by simp [layClean.free] at h
  | fuel + 1, i, p, j, h => by
    unfold layClean.free at h
    split at h
    · rename_i k hk
      have hp := List.find?_some hk
      obtain rfl := Option.some.inj h
      simp only [Array.getD_eq_getD_getElem?] at hp
      cases ho : owner[i + k]? with
      | none => rw [ho] at hp; simp at hp
      | some x =>
        rw [ho] at hp
        cases x with
        | none => rfl
        | some y => simp at hp
    · exact free_is fuel _ _ j h
theorem free_at {fuel i p j : Nat} (hj : owner[j]? = some none) (e : i = j) : ∃ r, layClean.free mask owner (fuel + 1) i p = some r := by
  subst e
  unfold layClean.free
  split
  · exact ⟨_, rfl⟩
  · rename_i hn
    exfalso
    have := List.find?_eq_none.mp hn 0 (List.mem_range.mpr (by unfold runEnd; split <;> omega))
    rw [Nat.add_zero, Array.getD_eq_getD_getElem?, hj] at this
    simp at this
theorem free_hops : ∀ (t fuel i j : Nat), owner[j]? = some none → hops mask t i = j → t < fuel → ∃ r, layClean.free mask owner fuel i 0 = some r
  | t, 0, i, j, _, _, h => by omega
  | 0, fuel + 1, i, j, hj, e, h => free_at hj e
  | t + 1, fuel + 1, i, j, hj, e, h => by
    unfold layClean.free
    split
    · exact ⟨_, rfl⟩
    · show ∃ r, layClean.free mask owner fuel _ _ = some r
      exact free_hops t fuel (hop mask i) j hj e (by omega)
theorem free_shift : ∀ (d fuel i p : Nat), p < 32 ^ d → d ≤ fuel → (∀ i', i' ≤ mask → ∃ r, layClean.free mask owner (fuel - d) i' 0 = some r) → i ≤ mask → ∃ r, layClean.free mask owner fuel i p = some r
  | 0, fuel, i, p, hp, _, h, hi => by
    obtain rfl : p = 0 := by simpa using hp
    exact h i hi
  | d + 1, 0, i, p, hp, hd, h, hi => by omega
  | d + 1, fuel + 1, i, p, hp, hd, h, hi => by
    unfold layClean.free
    split
    · exact ⟨_, rfl⟩
    · show ∃ r, layClean.free mask owner fuel _ _ = some r
      refine free_shift d fuel _ _ ?_ (by omega) (fun i' hi' => ?_) ?_
      · rw [Nat.pow_succ] at hp; exact Nat.div_lt_of_lt_mul (by rw [Nat.mul_comm]; exact hp)
      · rw [show fuel - d = fuel + 1 - (d + 1) by omega]; exact h i' hi'
      · show (i * 5 + 1 + p / 32) % (mask + 1) ≤ mask
        have := Nat.mod_lt (i * 5 + 1 + p / 32) (show 0 < mask + 1 by omega)
        omega
theorem free_some (hF : Full mask) {j : Nat} (hj : owner[j]? = some none) (hm : owner.size = mask + 1) (h : Int) : ∃ r, layClean.free mask owner (turns mask) (bits h % (mask + 1)) (bits h) = some r := by
  have hjm : j ≤ mask := by have := (Array.getElem?_eq_some_iff.mp hj).1; omega
  have hb : bits h < 32 ^ 13 := by
    unfold bits
    have h1 : h % (2 ^ 64 : Int) < 2 ^ 64 := Int.emod_lt_of_pos _ (by decide)
    have h0 : 0 ≤ h % (2 ^ 64 : Int) := Int.emod_nonneg _ (by decide)
    have : (h % (2 ^ 64 : Int)).toNat < 2 ^ 64 := by omega
    exact Nat.lt_of_lt_of_le this (by decide)
  refine free_shift 13 _ _ _ hb (by unfold turns; omega) (fun i' hi' => ?_) (by have := Nat.mod_lt (bits h) (show 0 < mask + 1 by omega); omega)
  obtain ⟨t, ht, e⟩ := hF i' j hi' hjm
  exact free_hops t _ i' j hj e (by unfold turns; omega)
end

def filled (l : List (Option Nat)) : List Nat := l.filterMap id
theorem filled_set : ∀ (l : List (Option Nat)) (j k : Nat), l[j]? = some none → List.Perm (filled (l.set j (some k))) (k :: filled l)
  | [], _, _, h => by simp at h
  | x :: l, 0, k, h => by
    obtain rfl : x = none := by simpa using h
    exact .refl _
  | x :: l, j + 1, k, h => by
    have ih := filled_set l j k (by simpa using h)
    cases x with
    | none => exact ih
    | some y => exact (List.Perm.cons y ih).trans (List.Perm.swap k y _)
theorem filled_room : ∀ (l : List (Option Nat)), (filled l).length < l.length → ∃ j : Nat, l[j]? = some (none : Option Nat)
  | [], h => by simp at h
  | none :: l, _ => ⟨0, rfl⟩
  | some y :: l, h => by
    obtain ⟨j, hj⟩ := filled_room l (by simp [filled] at h ⊢; omega)
    exact ⟨j + 1, by simpa using hj⟩

theorem layClean_from (mask : Nat) (hF : Full mask) : ∀ (hs : List Int) (owner : Array (Option Nat)) (k : Nat), owner.size = mask + 1 → List.Perm (filled owner.toList) (List.range k) → k + hs.length ≤ mask + 1 →
    ∃ owner', hs.foldl (init := some (owner, k)) (fun acc h => do
      let (owner, k) ← acc
      let j ← layClean.free mask owner (turns mask) (bits h % (mask + 1)) (bits h)
      pure (owner.setIfInBounds j (some k), k + 1)) = some (owner', k + hs.length) ∧ owner'.size = mask + 1 ∧ List.Perm (filled owner'.toList) (List.range (k + hs.length))
  | [], owner, k, hz, hp, _ => ⟨owner, rfl, hz, hp⟩
  | h :: hs, owner, k, hz, hp, hk => by
    have hlen : (filled owner.toList).length < owner.toList.length := by
      rw [hp.length_eq, List.length_range, Array.length_toList, hz]
      simp only [List.length_cons] at hk
      omega
    obtain ⟨j, hj⟩ := filled_room _ hlen
    obtain ⟨r, hr⟩ := free_some hF (owner := owner) (j := j) (by simpa using hj) hz h
    have hrn := free_is _ _ _ _ hr
    have hp' : List.Perm (filled (owner.setIfInBounds r (some k)).toList) (List.range (k + 1)) := by
      rw [Array.toList_setIfInBounds, List.range_succ]
      exact ((filled_set _ r k (by simpa using hrn)).trans (hp.cons k)).trans (List.perm_append_singleton k _).symm
    obtain ⟨o', e, z, p⟩ := layClean_from mask hF hs (owner.setIfInBounds r (some k)) (k + 1) (by simp [hz]) hp' (by simp only [List.length_cons] at hk; omega)
    refine ⟨o', ?_, z, ?_⟩
    · rw [List.foldl_cons]
      simp only [Option.bind_eq_bind, Option.bind_some, hr]
      rw [show k + (h :: hs).length = k + 1 + hs.length by simp only [List.length_cons]; omega]
      exact e
    · rw [show k + (h :: hs).length = k + 1 + hs.length by simp only [List.length_cons]; omega]
      exact p

theorem filled_replicate (n : Nat) : filled (List.replicate n none) = [] := by
  unfold filled
  rw [List.filterMap_eq_nil_iff]
  intro a ha
  rw [List.eq_of_mem_replicate ha]; rfl
theorem layClean_ok {mask : Nat} (hF : Full mask) {hs : Array Int} (hn : hs.size ≤ mask + 1) : ∃ owner, layClean mask hs = some owner ∧ owner.size = mask + 1 ∧ List.Perm (filled owner.toList) (List.range hs.size) := by
  obtain ⟨o, e, z, p⟩ := layClean_from mask hF hs.toList (Array.replicate (mask + 1) none) 0 (by simp) (by rw [Array.toList_replicate, filled_replicate]; exact .refl _) (by simpa using hn)
  refine ⟨o, ?_, z, by simpa using p⟩
  unfold layClean
  rw [← Array.foldl_toList, e]
  rfl

theorem live_of {n : Nat} {owner : Array (Option Nat)} : ∀ (l : List (Option Nat)) (s : Nat), (∀ i : Nat, i < l.length → owner.getD (s + i) none = l.getD i none) →
    (((List.range' s l.length).filterMap fun j => (owner.getD j none).map (j, ·)).map (·.2)) = filled l
  | [], s, _ => rfl
  | x :: l, s, h => by
    have h0 := h 0 (by simp)
    have ih := live_of (n := n) l (s + 1) fun i hi => by
      have := h (i + 1) (by simpa using hi)
      rw [show s + 1 + i = s + (i + 1) by omega, this]; simp
    simp only [Nat.add_zero, List.getD_cons_zero] at h0
    rw [List.length_cons, List.range'_succ, List.filterMap_cons, h0]
    cases x with
    | none => simpa [filled] using ih
    | some y => simp only [Option.map_some, List.map_cons, ih]; rfl

theorem laid_ok {mask finger moves : Nat} {led plain : Bool} (hF : Full mask) {hs : Array Int} (hn : hs.size ≤ mask) :
    ∃ t order, laid mask finger moves led plain hs = some (t, order) ∧ List.Perm order.toList (List.range hs.size) ∧ t.place.size = hs.size ∧ t.fits hs.size = true ∧ t.mask = mask ∧ t.dummies = #[] := by
  obtain ⟨o, e, z, p⟩ := layClean_ok hF (hs := hs) (by omega)
  have hl := live_of (n := mask) (owner := o) o.toList 0 fun i hi => by
    rw [Nat.zero_add, Array.getD_eq_getD_getElem?, List.getD_eq_getElem?_getD, Array.getElem?_toList]
  rw [Array.length_toList, z, ← List.range_eq_range'] at hl
  have hlen : (((List.range (mask + 1)).filterMap fun j => (o.getD j none).map (j, ·))).length = hs.size := by
    have := congrArg List.length hl
    rw [List.length_map, p.length_eq, List.length_range] at this
    exact this
  unfold laid
  rw [e]
  refine ⟨_, _, rfl, ?_, ?_, ?_, rfl, rfl⟩
  · show List.Perm ((((List.range (mask + 1)).filterMap fun j => (o.getD j none).map (j, ·)).map (·.2)).toArray).toList _
    rw [hl]; exact p
  · show ((((List.range (mask + 1)).filterMap fun j => (o.getD j none).map (j, ·)).map (·.1)).toArray).size = _
    rw [List.size_toArray, List.length_map]; exact hlen
  · unfold SetTable.fits SetTable.fill
    show ((((((List.range (mask + 1)).filterMap fun j => (o.getD j none).map (j, ·)).map (·.1)).toArray).size == hs.size) && _) = true
    rw [List.size_toArray, List.length_map, hlen]
    simpa using hn
end Mine
/-! SetA -/
namespace Mine
open PySem PySem.SetTable

theorem perm_of_cover : ∀ {l ks : List Str}, l.Nodup → (∀ k ∈ l, k ∈ ks) → ks.length = l.length → ks.Perm l
  | [], ks, _, _, hl => by
    obtain rfl : ks = [] := List.eq_nil_of_length_eq_zero hl
    exact .refl _
  | k :: l, ks, hn, hc, hl => by
    have hk := hc k (.head _)
    have hp := List.perm_cons_erase hk
    have hn' := List.nodup_cons.mp hn
    refine hp.trans (List.Perm.cons k (perm_of_cover hn'.2 (fun x hx => ?_) ?_))
    · have hne : x ≠ k := fun e => hn'.1 (e ▸ hx)
      exact (List.mem_erase_of_ne hne).mpr (hc x (.tail _ hx))
    · rw [List.length_erase_of_mem hk, hl]; rfl

def keyOf : Value → Str
  | .str x _ => x
  | _ => default

def SL (w : World) (h : Heap) (a : Addr) (l : List Str) : Prop :=
  ∃ o es ep t, h.get? a = some o ∧ o.ExactSet ∧ o.data = .set es ep t ∧ t.fits es.size = true ∧ (∀ e ∈ es.toList, ∃ k u, e = (hashStr w k, Value.str k u)) ∧
    (es.toList.map fun e => keyOf e.2).Perm l ∧ l.Nodup ∧ l.length < 4000

theorem SL.size {_w : World} {es : Array (Int × Value)} {l : List Str} (hp : (es.toList.map fun e => keyOf e.2).Perm l) : es.size = l.length := by
  have := hp.length_eq
  rw [List.length_map, Array.length_toList] at this
  exact this

theorem elems_of {prog : Program} {w : World} {l : List (Int × Value)} (h : ∀ e ∈ l, ∃ k u, e = (hashStr w k, Value.str k u)) : ElemsOf (strKind prog w) l := fun e he => by
  obtain ⟨k, u, rfl⟩ := h e he
  exact ⟨⟨k, strKind_is _ _ _ _, rfl⟩, rfl⟩
theorem is_key {prog : Program} {w : World} {k x : Str} {u : Tok} : (strKind prog w).is k (Value.str x u) = true ↔ k = x := by
  constructor
  · intro h
    exact (strKind prog w).inj _ _ _ h (strKind_is _ _ _ _)
  · rintro rfl; exact strKind_is _ _ _ _
theorem mem_keys {prog : Program} {w : World} {l : List (Int × Value)} (h : ∀ e ∈ l, ∃ k u, e = (hashStr w k, Value.str k u)) (k : Str) :
    (∃ e ∈ l, (strKind prog w).is k e.2 = true) ↔ k ∈ l.map fun e => keyOf e.2 := by
  rw [List.mem_map]
  constructor
  · rintro ⟨e, he, hk⟩
    obtain ⟨x, u, rfl⟩ := h e he
    exact ⟨_, he, (is_key.mp hk).symm⟩
  · rintro ⟨e, he, hk⟩
    obtain ⟨x, u, rfl⟩ := h e he
    exact ⟨_, he, is_key.mpr hk.symm⟩

theorem SL.setOf {prog : Program} {w : World} {h : Heap} {a : Addr} {l : List Str} (S : SL w h a l) : h.SetOf (strKind prog w) a (fun k => decide (k ∈ l)) l.length := by
  obtain ⟨o, es, ep, t, ho, hex, hd, hf, hel, hp, hn, hb⟩ := S
  have hz := SL.size (_w := w) hp
  refine ⟨o, es, ep, t, ho, hex, hd, elems_of hel, fun k => ?_, by rw [hz]; unfold scanBound; omega, hf, hz⟩
  rw [decide_eq_true_eq, mem_keys hel, hp.mem_iff]
theorem shape_of {prog : Program} {w : World} {l : List (Int × Value)} (h : ElemsOf (strKind prog w) l) : ∀ e ∈ l, ∃ k u, e = (hashStr w k, Value.str k u) := fun e he => by
  obtain ⟨⟨k, hk, hh⟩, _⟩ := h e he
  obtain ⟨u, hu⟩ := Value.isStrOf_shape hk
  exact ⟨k, u, by rw [← hu]; exact Prod.ext hh rfl⟩
theorem SL.of_setOf {prog : Program} {w : World} {h : Heap} {a : Addr} {l : List Str} {S : Str → Bool} {n : Nat} (H : h.SetOf (strKind prog w) a S n) (hS : ∀ k, S k = true ↔ k ∈ l) (hn : l.Nodup) (hl : n = l.length) (hb : l.length < 4000) : SL w h a l := by
  obtain ⟨o, es, ep, t, ho, hex, hd, hel, hm, hbd, hf, hz⟩ := H
  have hsh := shape_of hel
  refine ⟨o, es, ep, t, ho, hex, hd, hf, hsh, perm_of_cover hn (fun k hk => ?_) ?_, hn, hb⟩
  · exact (mem_keys (prog := prog) hsh k).mp ((hm k).mp ((hS k).mpr hk))
  · rw [List.length_map, Array.length_toList, hz, hl]
theorem SL.congr {w : World} {h : Heap} {a : Addr} {l l' : List Str} (S : SL w h a l) (p : l.Perm l') : SL w h a l' := by
  obtain ⟨o, es, ep, t, ho, hex, hd, hf, hel, hp, hn, hb⟩ := S
  exact ⟨o, es, ep, t, ho, hex, hd, hf, hel, hp.trans p, p.nodup_iff.mp hn, p.length_eq ▸ hb⟩
theorem SL.at {w : World} {h h' : Heap} {a : Addr} {l : List Str} (S : SL w h a l) (k : ∀ o, h.get? a = some o → h'.get? a = some o) : SL w h' a l := by
  obtain ⟨o, es, ep, t, ho, r⟩ := S
  exact ⟨o, es, ep, t, k o ho, r⟩
theorem SL.typeIs {w : World} {s : Shared} {a : Addr} {l : List Str} (S : SL w s.heap a l) : s.TypeIs (.ref a) "set" :=
  let ⟨o, _, _, _, ho, hc, _⟩ := S; ⟨o, ho, hc.1⟩

section
variable {prog : Program} {w : World} {A : Around} {E : Value → Shared → Prop} {s : Shared} {a b : Addr} {l l' : List Str}

theorem add_new {k : Str} {u : Tok} {Q : Bool → Shared → Prop} (S : SL w s.heap a l) (hk : k ∉ l) (hb : l.length < 3000)
    (h : ∀ h', Heap.SameBut a s.heap h' → SL w h' a (l ++ [k]) → Q true { s with heap := h' }) : wpAny (model prog w) A (setAddHashed a (.str k u) (hashStr w k)) Q E s := by
  obtain ⟨o, es, ep, t, ho, hex, hd, hf, hel, hp, hn, hbd⟩ := id S
  refine wpAny_setAddHashed_of (knd := strKind prog w) (k := k) (strKind_is _ _ _ _) rfl S.setOf (by unfold scanBound; omega) fun h' hsb H => ?_
  rw [show decide (k ∈ l) = false from decide_eq_false hk, if_neg Bool.false_ne_true] at H
  rw [show decide (k ∈ l) = false from decide_eq_false hk]
  refine h h' hsb (SL.of_setOf H (fun k' => ?_) ?_ ?_ ?_)
  · simp
  · rw [List.nodup_append]; exact ⟨hn, by simp, fun x hx y hy e => hk (by rw [List.mem_singleton.mp hy] at e; exact e ▸ hx)⟩
  · simp
  · simp; omega
theorem find_is {k : Str} {u : Tok} {Q : Option Nat → Shared → Prop} (S : SL w s.heap a l) (h : ∀ r : Option Nat, r.isSome = decide (k ∈ l) → Q r s) :
    wpAny (model prog w) A (setFind a (.str k u) (hashStr w k)) Q E s :=
  wpAny_setFind_of (knd := strKind prog w) (k := k) (strKind_is _ _ _ _) rfl S.setOf h

theorem toList_eraseAt {α : Type} (xs : Array α) (p : Nat) : (SetTable.eraseAt xs p).toList = xs.toList.take p ++ xs.toList.drop (p + 1) := by
  simp [SetTable.eraseAt, List.extract_eq_take_drop, List.take_of_length_le]
theorem drop_fits {t : SetTable} {n i : Nat} (hf : t.fits n = true) (hi : i < n) : (t.drop i).fits (n - 1) = true := by
  unfold SetTable.fits SetTable.fill at hf ⊢
  rw [Bool.and_eq_true, beq_iff_eq, decide_eq_true_eq] at hf
  have hi' : i < t.place.size := by omega
  unfold SetTable.drop
  rw [Array.getElem?_eq_getElem hi']
  dsimp only
  have e1 : (SetTable.eraseAt t.place i).size = t.place.size - 1 := by
    rw [← Array.length_toList, toList_eraseAt]; simp; omega
  have e2 : ∀ p x, (SetTable.insertAt t.dummies p x).size = t.dummies.size + 1 := fun p x => by
    rw [← Array.length_toList, (SetTable.insertAt_perm t.dummies p x).length_eq]; simp
  rw [e1, e2, Bool.and_eq_true, beq_iff_eq, decide_eq_true_eq]
  omega

theorem find_at {k : Str} {u : Tok} {o : Obj} {es : Array (Int × Value)} {ep : Nat} {t : SetTable} {Q : Option Nat → Shared → Prop} (ho : s.heap.get? a = some o) (hd : o.data = .set es ep t) (hf : t.fits es.size = true)
    (hel : ∀ e ∈ es.toList, ∃ k u, e = (hashStr w k, Value.str k u)) (hb : es.size < 4000) (h : Q (es.toList.findIdx? fun e => (strKind prog w).is k e.2) s) :
    wpAny (model prog w) A (setFind a (.str k u) (hashStr w k)) Q E s := by
  unfold setFind setFindIn
  refine wpAny_bind (wpAny_setState_of ho hd hf ?_)
  dsimp only
  rw [byScan_of (knd := strKind prog w) rfl (by unfold scanBound; omega) (elems_of hel)]
  simp only [↓reduceIte]
  refine wpAny_bind (wpAny_rule ?_)
  refine wpAny_bind (wpAny_setScan_of (knd := strKind prog w) (k := k) (strKind_is _ _ _ _) ho hd hf (elems_of hel) ?_)
  cases hr : List.findIdx? (fun e => (strKind prog w).is k e.2) es.toList with
  | none => rw [hr] at h; exact wpAny_pure h
  | some j => rw [hr] at h; dsimp only; rw [Nat.zero_add]; exact wpAny_pure h

theorem discard_in {k : Str} {u : Tok} {Q : Bool → Shared → Prop} (S : SL w s.heap a l) (hk : k ∈ l)
    (h : ∀ h', Heap.SameBut a s.heap h' → SL w h' a (l.erase k) → Q true { s with heap := h' }) : wpAny (model prog w) A (setDiscardHashed a (.str k u) (hashStr w k)) Q E s := by
  obtain ⟨o, es, ep, t, ho, hex, hd, hf, hel, hp, hn, hbd⟩ := S
  have hz := SL.size (_w := w) hp
  unfold setDiscardHashed
  refine wpAny_bind (find_at ho hd hf hel (by omega) ?_)
  have hmem : k ∈ es.toList.map fun e => keyOf e.2 := hp.mem_iff.mpr hk
  cases hr : List.findIdx? (fun e => (strKind prog w).is k e.2) es.toList with
  | none =>
    obtain ⟨e, he, hke⟩ := (mem_keys (prog := prog) hel k).mpr hmem
    have := List.findIdx?_eq_none_iff.mp hr e he
    rw [hke] at this; cases this
  | some i =>
    obtain ⟨hi, hki, _⟩ := List.findIdx?_eq_some_iff_getElem.mp hr
    have hi' : i < es.size := by simpa using hi
    dsimp only
    refine wpAny_bind (wpAny_setState_of ho hd hf ?_)
    dsimp only
    refine wpAny_bind (wpAny_storeSet_of ho hd ?_ ?_)
    · have hg : (s.heap.update a (Obj.putSet (SetTable.eraseAt es i) (t.drop i))).get? a = some { o with data := .set (SetTable.eraseAt es i) (ep + 1) (t.drop i) } := by
        have := Heap.get?_update_self (Obj.putSet (SetTable.eraseAt es i) (t.drop i)) ho (by rw [putSet_of _ _ hd]; rfl)
        rw [putSet_of _ _ hd] at this; exact this
      have hsplit : es.toList = es.toList.take i ++ es.toList[i] :: es.toList.drop (i + 1) := by
        rw [List.getElem_cons_drop hi, List.take_append_drop]
      have hperm : List.Perm es.toList (es.toList[i] :: (SetTable.eraseAt es i).toList) := by
        rw [toList_eraseAt]
        conv => lhs; rw [hsplit]
        exact List.perm_middle
      have hkey : keyOf es.toList[i].2 = k := by
        obtain ⟨x, v, e⟩ := hel _ (List.getElem_mem hi)
        rw [e] at hki ⊢
        exact (is_key.mp hki).symm
      have hsz : (SetTable.eraseAt es i).size = es.size - 1 := by
        have := hperm.length_eq
        simp only [Array.length_toList, List.length_cons] at this
        omega
      have hpk : List.Perm ((SetTable.eraseAt es i).toList.map fun e => keyOf e.2) (l.erase k) := by
        have q := (hperm.map fun e => keyOf e.2).symm.trans hp
        rw [List.map_cons, hkey] at q
        exact (List.perm_cons k).mp (q.trans (List.perm_cons_erase hk))
      refine wpAny_bind (wpAny_point (wpAny_pure (h _ (Heap.SameBut.update ..) ⟨_, _, _, _, hg, hex, rfl, ?_, fun e he => hel e (hperm.mem_iff.mpr (.tail _ he)), hpk, hn.erase k, ?_⟩)))
      · rw [hsz]; exact drop_fits hf hi'
      · rw [List.length_erase_of_mem hk]; omega
    · have : (SetTable.eraseAt es i).size ≤ es.size := by
        rw [← Array.length_toList, toList_eraseAt]; simp; omega
      rw [sizeLine_eq]; omega
theorem discard_out {k : Str} {u : Tok} {Q : Bool → Shared → Prop} (S : SL w s.heap a l) (hk : k ∉ l) (h : Q false s) : wpAny (model prog w) A (setDiscardHashed a (.str k u) (hashStr w k)) Q E s := by
  unfold setDiscardHashed
  refine wpAny_bind (find_is S fun r hr => ?_)
  rw [show decide (k ∈ l) = false from decide_eq_false hk] at hr
  cases r with
  | none => exact wpAny_pure h
  | some _ => cases hr

theorem store_same {o : Obj} {es es' : Array (Int × Value)} {ep : Nat} {t t' : SetTable} {Q : Unit → Shared → Prop} (ho : s.heap.get? a = some o) (hex : o.ExactSet) (hd : o.data = .set es ep t)
    (hel : ∀ e ∈ es'.toList, ∃ k u, e = (hashStr w k, Value.str k u)) (hp : (es'.toList.map fun e => keyOf e.2).Perm l) (hn : l.Nodup) (hb : l.length < 4000) (hf : t'.fits es'.size = true)
    (h : ∀ h' o' ep', Heap.SameBut a s.heap h' → h'.get? a = some o' → o'.ExactSet → o'.data = .set es' ep' t' → SL w h' a l → Q () { s with heap := h' }) : wpAny (model prog w) A (storeSet a es' t') Q E s := by
  have hg : (s.heap.update a (Obj.putSet es' t')).get? a = some { o with data := .set es' (ep + 1) t' } := by
    have := Heap.get?_update_self (Obj.putSet es' t') ho (by rw [putSet_of _ _ hd]; rfl)
    rw [putSet_of _ _ hd] at this; exact this
  have hz := SL.size (_w := w) hp
  exact wpAny_storeSet_of ho hd (h _ _ _ (Heap.SameBut.update ..) hg hex rfl ⟨_, _, _, _, hg, hex, rfl, hf, hel, hp, hn, hb⟩) (by rw [sizeLine_eq]; omega)

theorem order_perm {es : Array (Int × Value)} {order : Array Nat} (hp : List.Perm order.toList (List.range es.size)) : List.Perm (order.filterMap (es[·]?)).toList es.toList := by
  rw [Array.toList_filterMap]
  exact (hp.filterMap _).trans (by rw [filterMap_getElem?_range])
theorem relay {wanted : Nat} {Q : Unit → Shared → Prop} (S : SL w s.heap a l) (hF : Full (sizeAbove wanted - 1)) (hl : l.length ≤ sizeAbove wanted - 1) (hz : sizeAbove wanted ≤ 1000)
    (h : ∀ h', Heap.SameBut a s.heap h' → SL w h' a l → Q () { s with heap := h' }) : wpAny (model prog w) A (setRelay a wanted) Q E s := by
  obtain ⟨o, es, ep, t, ho, hex, hd, hf, hel, hp, hn, hbd⟩ := S
  have hsz := SL.size (_w := w) hp
  unfold setRelay
  refine wpAny_bind (wpAny_setState_of ho hd hf ?_)
  dsimp only
  rw [if_neg (by rw [sizeLine_eq]; omega)]
  obtain ⟨t', order, e, hpo, hps, hfit, _, _⟩ := laid_ok (mask := sizeAbove wanted - 1) (finger := t.finger) (moves := t.movedTo (sizeAbove wanted - 1)) (led := t.led) (plain := t.plain) hF (hs := es.map (·.1)) (by simp; omega)
  have er : t.relaid (es.map (·.1)) wanted = some (t', order) := e
  rw [Array.size_map] at hpo hps hfit
  have hperm := order_perm hpo
  have hsz' : (order.filterMap (es[·]?)).size = es.size := by
    have := hperm.length_eq
    simpa only [Array.length_toList] using this
  have key : wpAny (model prog w) A (storeSet a (order.filterMap (es[·]?)) t') Q E s :=
    store_same (w := w) (l := l) ho hex hd (fun e he => hel e (hperm.mem_iff.mp he)) ((hperm.map _).trans hp) hn hbd (by rw [hsz']; exact hfit) fun h' _ _ hsb _ _ _ hS => h h' hsb hS
  rw [er]
  change wpAny _ _ (Sem.bind (if ((order.filterMap (es[·]?)).size != es.size) = true then _ else _) _) _ _ _
  rw [if_neg (by rw [hsz']; simp)]
  exact key
end
end Mine
/-! SetB -/
namespace Mine
open PySem PySem.SetTable

theorem erase_perm {α : Type} : ∀ (l : List α) (i : Nat) (h : i < l.length), List.Perm (l[i] :: l.eraseIdx i) l
  | x :: l, 0, _ => .refl _
  | x :: l, i + 1, h => by
    have ih := erase_perm l i (by simpa using h)
    simp only [List.getElem_cons_succ, List.eraseIdx_cons_succ]
    exact (List.Perm.swap x _ _).trans (List.Perm.cons x ih)
theorem pick_go {α : Type} (next : Nat → Nat) : ∀ (fuel k : Nat) (left : List α) (out : Array α), left.length ≤ fuel → List.Perm (pickOrder.go next fuel k left out).toList (out.toList ++ left)
  | 0, k, left, out, h => by
    obtain rfl : left = [] := List.eq_nil_of_length_eq_zero (by omega)
    unfold pickOrder.go
    rw [List.append_nil]
  | fuel + 1, k, left, out, h => by
    unfold pickOrder.go
    split
    · rename_i x hx
      have hlt := (List.getElem?_eq_some_iff.mp hx).1
      refine (pick_go next fuel (k + 1) _ _ ?_).trans ?_
      · rw [List.length_eraseIdx]; split <;> omega
      · rw [Array.toList_push, List.append_assoc]
        refine List.Perm.append_left _ ?_
        rw [List.singleton_append]
        have := List.getElem?_eq_some_iff.mp hx
        rw [← this.2]
        exact erase_perm _ _ hlt
    · rename_i hx
      have hn := List.getElem?_eq_none_iff.mp hx
      cases left with
      | nil => rw [List.append_nil]
      | cons y r =>
        exfalso
        have := Nat.mod_lt (next k) (show 0 < (y :: r).length by simp)
        omega
theorem pick_perm {α : Type} (next : Nat → Nat) (xs : Array α) : List.Perm (pickOrder next xs).toList xs.toList := by
  unfold pickOrder
  exact (pick_go next xs.size 0 xs.toList #[] (by simp)).trans (by simp)

def Strs (w : World) (l : List (Int × Value)) (ks : List Str) : Prop := (∀ e ∈ l, ∃ k u, e = (hashStr w k, Value.str k u)) ∧ (l.map fun e => keyOf e.2).Perm ks

section
variable {prog : Program} {w : World} {A : Around} {E : Value → Shared → Prop} {s : Shared} {a b : Addr} {l l' : List Str}

theorem walk_is {es : Array (Int × Value)} {ep : Nat} {t : SetTable} {o : Obj} {Q : Array (Int × Value) → Shared → Prop} (ho : s.heap.get? a = some o) (hd : o.data = .set es ep t) (hf : t.fits es.size = true)
    (hok : w.params.followText "set-order" = true ∨ ((!t.plain && decide (es.size > 1)) = false ∧ (!t.led && decide (es.size > 1)) = false))
    (h : ∀ xs : Array (Int × Value), List.Perm xs.toList es.toList → Q xs s) : wpAny (model prog w) A (setWalk a) Q E s := by
  unfold setWalk setsByText
  refine wpAny_bind (wpAny_setState_of ho hd hf ?_)
  dsimp only
  refine wpAny_bind (wpAny_bind (wpAny_askSetting (wpAny_pure ?_)))
  show wpAny _ _ (if w.params.followText "set-order" = true then _ else _) _ _ _
  split
  · exact wpAny_bind (wpAny_askSetting (wpAny_pure (h _ (pick_perm _ _))))
  · rename_i hb
    obtain ⟨h1, h2⟩ := hok.resolve_left hb
    change wpAny _ _ (if (!t.plain && decide (es.size > 1)) = true then _ else _) _ _ _
    rw [h1, if_neg Bool.false_ne_true]
    change wpAny _ _ (Sem.bind (if (!t.led && decide (es.size > 1)) = true then _ else _) _) _ _ _
    rw [h2, if_neg Bool.false_ne_true]
    exact wpAny_pure (h _ (.refl _))

theorem quiet_strs {xs : List (Int × Value)} (hx : ∀ e ∈ xs, ∃ k u, e = (hashStr w k, Value.str k u)) {f : (Int × Value) → PUnit → Sem (ForInStep PUnit)} (hf : ∀ h x t u, f (h, .str x t) u = pure (.yield ⟨⟩)) {Q : PUnit → Shared → Prop} (h : Q ⟨⟩ s) :
    wpAny (model prog w) A (forIn xs PUnit.unit f) Q E s := by
  induction xs with
  | nil => rw [List.forIn_nil]; exact wpAny_pure h
  | cons e r ih =>
    obtain ⟨k, u, rfl⟩ := hx e (.head _)
    rw [List.forIn_cons, hf, pure_bind]
    exact ih fun e he => hx e (.tail _ he)
theorem quiet_sets : ∀ (as : List Addr), (∀ a ∈ as, ∃ l, SL w s.heap a l) → ∀ {Q : Bool → Shared → Prop}, Q true s → wpAny (model prog w) A (setsQuiet as) Q E s := by
  intro as hs Q h
  unfold setsQuiet
  refine wpAny_bind (wpAny_forIn_list _ (fun rest b s' => (∀ a ∈ rest, ∃ l, SL w s.heap a l) ∧ b = ⟨none, ⟨⟩⟩ ∧ s' = s) (fun b s' => wpAny _ _ _ _ _ s') ?_ ?_ as _ ⟨hs, rfl, rfl⟩)
  · rintro x rest b s' ⟨hr, rfl, rfl⟩
    obtain ⟨l, o, es, ep, t, ho, hex, hd, hf, hel, hp, hn, hb⟩ := hr x (.head _)
    refine wpAny_bind (wpAny_setEntries_of ho hd hf ?_)
    rw [← Array.forIn_toList]
    refine wpAny_bind (wpAny_forIn_list _ (fun rest b s'' => (∀ e ∈ rest, ∃ k u, e = (hashStr w k, Value.str k u)) ∧ b = ⟨none, ⟨⟩⟩ ∧ s'' = s') (fun b s'' => wpAny _ _ _ _ _ s'') ?_ ?_ es.toList _ ⟨hel, rfl, rfl⟩)
    · rintro e r b s'' ⟨hr', rfl, rfl⟩
      obtain ⟨k, u, rfl⟩ := hr' e (.head _)
      exact wpAny_pure ⟨fun e he => hr' e (.tail _ he), rfl, rfl⟩
    · rintro b s'' ⟨_, rfl, rfl⟩
      exact wpAny_pure ⟨fun a ha => hr a (.tail _ ha), rfl, rfl⟩
  · rintro b s' ⟨_, rfl, rfl⟩
    exact wpAny_pure h

theorem unseen {f : Addr} {lf : List Str} {others : List Addr} {Q : Array (Int × Value) → Shared → Prop} (S : SL w s.heap a l) (Sf : SL w s.heap f lf) (hne : f ≠ a) (ho : ∀ x ∈ others, ∃ l, SL w s.heap x l)
    (h : ∀ xs h', Strs w xs.toList l → Heap.SameBut f s.heap h' → SL w h' f lf → Q xs { s with heap := h' }) : wpAny (model prog w) A (setWalkUnseen a others (some f)) Q E s := by
  obtain ⟨o, es, ep, t, hoa, hex, hd, hf, hel, hp, hn, hb⟩ := id S
  have same : ∀ xs : Array (Int × Value), List.Perm xs.toList es.toList → Q xs s := fun xs hx =>
    h xs s.heap ⟨fun e he => hel e (hx.mem_iff.mp he), (hx.map _).trans hp⟩ (Heap.SameBut.refl _ _) Sf
  unfold setWalkUnseen setsByText
  refine wpAny_bind (wpAny_setState_of hoa hd hf ?_)
  dsimp only
  refine wpAny_bind (wpAny_bind (wpAny_askSetting (wpAny_pure ?_)))
  show wpAny _ _ (if (w.params.followText "set-order" || (t.led && t.plain) || decide (es.size ≤ 1)) = true then _ else _) _ _ _
  split
  · rename_i hc
    refine walk_is hoa hd hf ?_ same
    rw [Bool.or_eq_true, Bool.or_eq_true, Bool.and_eq_true, decide_eq_true_eq] at hc
    rcases hc with (hc | ⟨h1, h2⟩) | hc
    · exact .inl hc
    · exact .inr ⟨by rw [h2]; rfl, by rw [h1]; rfl⟩
    · have : decide (es.size > 1) = false := decide_eq_false (by omega)
      exact .inr ⟨by rw [this, Bool.and_false], by rw [this, Bool.and_false]⟩
  · refine wpAny_bind (quiet_sets (a :: others) (fun x hx => ?_) ?_)
    · rcases List.mem_cons.mp hx with rfl | hx
      · exact ⟨l, S⟩
      · exact ho x hx
    · rw [if_neg (by simp)]
      refine wpAny_bind (wpAny_rule ?_)
      obtain ⟨of, ef, epf, tf, hof, hexf, hdf, hff, helf, hpf, hnf, hbf⟩ := id Sf
      refine wpAny_bind (wpAny_setState_of hof hdf hff ?_)
      dsimp only
      split
      · refine wpAny_bind (store_same (w := w) (l := lf) hof hexf hdf helf hpf hnf hbf hff fun h' _ _ hsb _ _ _ hS => ?_)
        exact wpAny_pure (h es h' ⟨hel, hp⟩ hsb hS)
      · exact wpAny_pure (same es (.refl _))
theorem unseen0 {others : List Addr} {Q : Array (Int × Value) → Shared → Prop} (S : SL w s.heap a l) (ho : ∀ x ∈ others, ∃ l, SL w s.heap x l)
    (h : ∀ xs, Strs w xs.toList l → Q xs s) : wpAny (model prog w) A (setWalkUnseen a others none) Q E s := by
  obtain ⟨o, es, ep, t, hoa, hex, hd, hf, hel, hp, hn, hb⟩ := id S
  have same : ∀ xs : Array (Int × Value), List.Perm xs.toList es.toList → Q xs s := fun xs hx =>
    h xs ⟨fun e he => hel e (hx.mem_iff.mp he), (hx.map _).trans hp⟩
  unfold setWalkUnseen setsByText
  refine wpAny_bind (wpAny_setState_of hoa hd hf ?_)
  dsimp only
  refine wpAny_bind (wpAny_bind (wpAny_askSetting (wpAny_pure ?_)))
  show wpAny _ _ (if (w.params.followText "set-order" || (t.led && t.plain) || decide (es.size ≤ 1)) = true then _ else _) _ _ _
  split
  · rename_i hc
    refine walk_is hoa hd hf ?_ same
    rw [Bool.or_eq_true, Bool.or_eq_true, Bool.and_eq_true, decide_eq_true_eq] at hc
    rcases hc with (hc | ⟨h1, h2⟩) | hc
    · exact .inl hc
    · exact .inr ⟨by rw [h2]; rfl, by rw [h1]; rfl⟩
    · have : decide (es.size > 1) = false := decide_eq_false (by omega)
      exact .inr ⟨by rw [this, Bool.and_false], by rw [this, Bool.and_false]⟩
  · refine wpAny_bind (quiet_sets (a :: others) (fun x hx => ?_) ?_)
    · rcases List.mem_cons.mp hx with rfl | hx
      · exact ⟨l, S⟩
      · exact ho x hx
    · rw [if_neg (by simp)]
      refine wpAny_bind (wpAny_rule ?_)
      exact wpAny_pure (same es (.refl _))

theorem sizeAbove_cases {n : Nat} (h : n < 128) : (sizeAbove n = 8 ∧ n < 8) ∨ (sizeAbove n = 16 ∧ n < 16) ∨ (sizeAbove n = 32 ∧ n < 32) ∨ (sizeAbove n = 64 ∧ n < 64) ∨ (sizeAbove n = 128 ∧ n < 128) := by
  revert n
  decide +kernel
theorem full_above {n : Nat} (h : n < 128) : Full (sizeAbove n - 1) ∧ n ≤ sizeAbove n - 1 ∧ sizeAbove n ≤ 1000 := by
  rcases sizeAbove_cases h with ⟨e, q⟩ | ⟨e, q⟩ | ⟨e, q⟩ | ⟨e, q⟩ | ⟨e, q⟩ <;> rw [e]
  · exact ⟨full7, by omega, by omega⟩
  · exact ⟨full15, by omega, by omega⟩
  · exact ⟨full31, by omega, by omega⟩
  · exact ⟨full63, by omega, by omega⟩
  · exact ⟨full127, by omega, by omega⟩
theorem room {more : Nat} {Q : Unit → Shared → Prop} (S : SL w s.heap a l) (hl : l.length + more < 60)
    (h : ∀ h', Heap.SameBut a s.heap h' → SL w h' a l → Q () { s with heap := h' }) : wpAny (model prog w) A (setRoomFor a more) Q E s := by
  obtain ⟨o, es, ep, t, hoa, hex, hd, hf, hel, hp, hn, hb⟩ := id S
  have hz := SL.size (_w := w) hp
  unfold setRoomFor
  refine wpAny_bind (wpAny_setState_of hoa hd hf ?_)
  dsimp only
  unfold roomFor
  have hpl : t.place.size = es.size := by
    unfold SetTable.fits at hf
    rw [Bool.and_eq_true, beq_iff_eq] at hf
    exact hf.1
  split
  · rename_i wanted hw
    split at hw
    · obtain rfl := Option.some.inj hw
      obtain ⟨f1, f2, f3⟩ := full_above (n := (t.place.size + more) * 2) (by omega)
      exact relay S f1 (by omega) f3 h
    · cases hw
  · exact wpAny_pure (h s.heap (Heap.SameBut.refl _ _) S)

def freshObj (t : SetTable) (ep : Nat) : Obj := { cls := .type "set", dict := none, data := .set #[] ep t }
structure Blank (t : SetTable) (n : Nat) : Prop where
  place : t.place = #[]
  dummies : t.dummies = #[]
  full : Full t.mask
  big : n ≤ t.mask
theorem Blank.fits {t : SetTable} {n : Nat} (B : Blank t n) : t.fits 0 = true := by
  unfold SetTable.fits SetTable.fill
  rw [B.place, B.dummies]; rfl
theorem blank_get {h : Heap} {r : Addr} {t t' : SetTable} {ep : Nat} (ho : h.get? r = some (freshObj t ep)) : (h.update r (Obj.putSet #[] t')).get? r = some (freshObj t' (ep + 1)) := by
  have := Heap.get?_update_self (Obj.putSet #[] t') ho (by rw [putSet_of (es := #[]) (ep := ep) (t := t) _ _ rfl]; rfl)
  rw [putSet_of (es := #[]) (ep := ep) (t := t) _ _ rfl] at this; exact this
theorem room_blank {r : Addr} {led : Bool} {n : Nat} {Q : Unit → Shared → Prop} (hr : s.heap.get? r = some (freshObj (.fresh 0 0 led) 0)) (hn : n < 60)
    (h : ∀ h' t ep, Heap.SameBut r s.heap h' → h'.get? r = some (freshObj t ep) → Blank t n → Q () { s with heap := h' }) : wpAny (model prog w) A (setRoomFor r n) Q E s := by
  unfold setRoomFor
  refine wpAny_bind (wpAny_setState_of hr rfl rfl ?_)
  dsimp only
  unfold roomFor
  split
  · rename_i wanted hw
    split at hw
    · obtain rfl := Option.some.inj hw
      have e0 : ((SetTable.fresh 0 0 led).place.size + n) * 2 = n * 2 := by show (0 + n) * 2 = _; omega
      rw [e0]
      obtain ⟨f1, f2, f3⟩ := full_above (n := n * 2) (by omega)
      unfold setRelay
      refine wpAny_bind (wpAny_setState_of hr rfl rfl ?_)
      dsimp only
      rw [if_neg (by rw [sizeLine_eq]; omega)]
      obtain ⟨t', order, e, hpo, hps, hfit, hm, hdm⟩ := laid_ok (mask := sizeAbove (n * 2) - 1) (finger := 0) (moves := (SetTable.fresh 0 0 led).movedTo (sizeAbove (n * 2) - 1)) (led := led) (plain := true) f1 (hs := #[]) (by simp)
      have er : (SetTable.fresh 0 0 led).relaid (Array.map (·.1) (#[] : Array (Int × Value))) (n * 2) = some (t', order) := by
        rw [show Array.map (·.1) (#[] : Array (Int × Value)) = #[] by simp]; exact e
      rw [er]
      have ho : order = #[] := by
        have := hpo.length_eq
        simp only [Array.length_toList, List.length_range] at this
        exact Array.eq_empty_of_size_eq_zero this
      subst ho
      change wpAny _ _ (storeSet r #[] t') _ _ _
      refine wpAny_storeSet_of hr rfl (h _ t' 1 (Heap.SameBut.update ..) (blank_get hr) ⟨Array.eq_empty_of_size_eq_zero hps, hdm, by rw [hm]; exact f1, by rw [hm]; omega⟩) (by rw [sizeLine_eq]; simp)
    · cases hw
  · rename_i hw
    split at hw
    · exact (hw _ rfl).elim
    · rename_i hlt
      have h7 : ¬ ((0 + n) * 5 ≥ 7 * 3) := hlt
      exact wpAny_pure (h s.heap _ 0 (Heap.SameBut.refl _ _) hr ⟨rfl, rfl, full7, by show n ≤ 7; omega⟩)

theorem fits_of_fields {t t' : SetTable} {n : Nat} (h : t.fits n = true) (h1 : t'.place = t.place) (h2 : t'.dummies = t.dummies) (h3 : t'.mask = t.mask) : t'.fits n = true := by
  unfold SetTable.fits SetTable.fill at h ⊢
  rw [h1, h2, h3]; exact h

theorem merge_blank {r o : Addr} {led : Bool} {each : Sem Unit} {Q : Unit → Shared → Prop} (S : SL w s.heap o l) (hne : r ≠ o) (hr : s.heap.get? r = some (freshObj (.fresh 0 0 led) 0)) (hl : l.length < 60)
    (h : ∀ h', Heap.SameBut r s.heap h' → SL w h' r l → Q () { s with heap := h' }) : wpAny (model prog w) A (setMerge r o each) Q E s := by
  obtain ⟨oo, eo, epo, to, hoo, hex, hd, hf, hel, hp, hn, hb⟩ := id S
  have hz := SL.size (_w := w) hp
  unfold setMerge
  rw [if_neg (by simpa using hne)]
  refine wpAny_bind (wpAny_setState_of hoo hd hf ?_)
  dsimp only
  split
  · rename_i he
    have he' : eo = #[] := by simpa using he
    have hl0 : l = [] := by
      apply List.eq_nil_of_length_eq_zero
      rw [← hz, he']; rfl
    subst hl0
    exact wpAny_pure (h s.heap (Heap.SameBut.refl _ _) ⟨_, #[], 0, _, hr, ⟨rfl, rfl, rfl⟩, rfl, rfl, fun e he => by simp at he, .refl _, List.nodup_nil, by simp⟩)
  · refine wpAny_bind (room_blank hr (n := eo.size) (by omega) fun h' t ep hsb hr' B => ?_)
    refine wpAny_bind (wpAny_setState_of hr' rfl B.fits ?_)
    dsimp only
    have hfill : (t.fill != 0) = false := by unfold SetTable.fill; rw [B.place, B.dummies]; rfl
    unfold SetTable.road
    rw [hfill, if_neg Bool.false_ne_true]
    split
    · rename_i hroad
      refine store_same (w := w) (l := l) hr' ⟨rfl, rfl, rfl⟩ rfl hel hp hn hb (fits_of_fields hf rfl rfl rfl) fun h'' _ _ hsb' _ _ _ hS => h h'' (hsb.trans hsb') hS
    · rename_i hroad
      obtain ⟨t', order, e, hpo, hps, hfit, hm, hdm⟩ := laid_ok (mask := t.mask) (finger := t.finger) (moves := t.moves) (led := t.led && to.led) (plain := t.plain && to.plain) B.full (hs := eo.map (·.1)) (by rw [Array.size_map]; exact B.big)
      rw [Array.size_map] at hpo hps hfit
      have hperm := order_perm hpo
      have hsz' : (order.filterMap (eo[·]?)).size = eo.size := by
        have := hperm.length_eq
        simpa only [Array.length_toList] using this
      rw [e]
      change wpAny _ _ (Sem.bind (if ((order.filterMap (eo[·]?)).size != eo.size) = true then _ else _) _) _ _ _
      rw [if_neg (by rw [hsz']; simp)]
      exact store_same (w := w) (l := l) hr' ⟨rfl, rfl, rfl⟩ rfl (fun e he => hel e (hperm.mem_iff.mp he)) ((hperm.map _).trans hp) hn hb (by rw [hsz']; exact hfit) fun h'' _ _ hsb' _ _ _ hS => h h'' (hsb.trans hsb') hS
    · rename_i hroad
      split at hroad <;> cases hroad
end
end Mine
/-! SetC -/
namespace Mine
open PySem PySem.SetTable PySem.Builtin PySem.Builtin.Frozenset

section
variable {prog : Program} {w : World} {A : Around} {E : Value → Shared → Prop} {s : Shared} {a b : Addr} {l l' : List Str}

theorem anySet {Q : Bool → Shared → Prop} (S : SL w s.heap a l) (h : Q true s) : wpAny (model prog w) A (isAnySet (.ref a)) Q E s := by
  unfold isAnySet
  show wpAny _ _ (isInstance _ _ >>= _) _ _ _
  refine wpAny_bind (wpAny_isInstance S.typeIs sub_set_self ?_)
  exact wpAny_pure h
theorem base_is {Q : Value → Shared → Prop} (S : SL w s.heap a l) (h : Q (.type "set") s) : wpAny (model prog w) A (baseOf a) Q E s := by
  unfold baseOf
  refine wpAny_bind (wpAny_isInstance S.typeIs sub_set_self ?_)
  exact wpAny_pure h
theorem size_is {Q : Nat → Shared → Prop} (S : SL w s.heap a l) (h : Q l.length s) : wpAny (model prog w) A (Frozenset.sizeOf a) Q E s := by
  obtain ⟨o, es, ep, t, ho, hex, hd, hf, hel, hp, hn, hb⟩ := S
  unfold Frozenset.sizeOf
  refine wpAny_bind (wpAny_setEntries_of ho hd hf (wpAny_pure ?_))
  rw [SL.size (_w := w) hp]; exact h
theorem new_set {Q : Value → Shared → Prop}
    (h : ∀ led : Bool, (s.heap.push (freshObj (.fresh 0 0 led) 0)).get? s.heap.objs.size = some (freshObj (.fresh 0 0 led) 0) → Q (.ref s.heap.objs.size) { s with heap := s.heap.push (freshObj (.fresh 0 0 led) 0) }) :
    wpAny (model prog w) A (newSet (.type "set")) Q E s :=
  wpAny_newSet_of (knd := strKind prog w) fun led _ => h led (Heap.get?_push_size _ rfl)
theorem SL.lt {h : Heap} (S : SL w h a l) : a < h.objs.size := let ⟨_, _, _, _, ho, _⟩ := S; Heap.lt_size ho
theorem SL.push {h : Heap} {o : Obj} (S : SL w h a l) : SL w (h.push o) a l := S.at fun _ e => Heap.get?_push_of_some _ e
theorem SL.but {h h' : Heap} (S : SL w h a l) (x : Heap.SameBut b h h') (hne : a ≠ b) : SL w h' a l := S.at fun _ e => (x.2 a hne).trans e

def Grown (h h' : Heap) (n : Nat) : Prop := h'.objs.size = h.objs.size + n ∧ ∀ b o, h.get? b = some o → h'.get? b = some o
theorem Grown.push_but {h h' : Heap} {o : Obj} (x : Heap.SameBut h.objs.size (h.push o) h') : Grown h h' 1 :=
  ⟨by rw [x.1, Heap.size_push], fun b o' e => (x.2 b (Nat.ne_of_lt (Heap.lt_size e))).trans (Heap.get?_push_of_some _ e)⟩
theorem Grown.but {h h' h'' : Heap} {n : Nat} {r : Addr} (x : Grown h h' n) (y : Heap.SameBut r h' h'') (hr : h.objs.size ≤ r) : Grown h h'' n :=
  ⟨by rw [y.1, x.1], fun b o e => (y.2 b (Nat.ne_of_lt (Nat.lt_of_lt_of_le (Heap.lt_size e) hr))).trans (x.2 b o e)⟩
theorem Grown.trans {h h' h'' : Heap} {n m : Nat} (x : Grown h h' n) (y : Grown h' h'' m) : Grown h h'' (n + m) :=
  ⟨by rw [y.1, x.1]; omega, fun b o e => y.2 b o (x.2 b o e)⟩
theorem SL.grown {h h' : Heap} {n : Nat} (S : SL w h a l) (x : Grown h h' n) : SL w h' a l := S.at fun o e => x.2 a o e

theorem copy_is {Q : Value → Shared → Prop} (S : SL w s.heap a l) (hl : l.length < 60)
    (h : ∀ h', Grown s.heap h' 1 → SL w h' s.heap.objs.size l → Q (.ref s.heap.objs.size) { s with heap := h' }) : wpAny (model prog w) A (copyOf a) Q E s := by
  unfold copyOf
  refine wpAny_bind (base_is S (wpAny_bind (new_set fun led hg => ?_)))
  unfold addrOf
  refine wpAny_bind (wpAny_pure (wpAny_bind (merge_blank (led := led) (l := l) S.push (Nat.ne_of_gt S.lt) hg hl fun h' hsb hS => ?_)))
  exact wpAny_pure (h h' (Grown.push_but hsb) hS)

theorem unchanged_is {id : String} {o : Obj} {es : Array (Int × Value)} {ep : Nat} {t : SetTable} {Q : Unit → Shared → Prop} (ho : s.heap.get? a = some o) (hd : o.data = .set es ep t) (hf : t.fits es.size = true)
    (h : Q () s) : wpAny (model prog w) A (unchanged id a ep) Q E s := by
  unfold unchanged
  refine wpAny_bind (wpAny_setEpoch_of ho hd hf ?_)
  rw [if_neg (by simp)]
  exact wpAny_pure h

theorem merge_more {r o : Addr} {each : Sem Unit} {Q : Unit → Shared → Prop} (S : SL w s.heap r l) (S' : SL w s.heap o l') (hne : r ≠ o) (hl0 : l ≠ []) (hd' : (l ++ l').Nodup) (hl : l.length + l'.length < 60)
    (heach : ∀ (s' : Shared) (P : Unit → Shared → Prop), s'.heap.get? o = s.heap.get? o → P () s' → wpAny (model prog w) A each P E s')
    (h : ∀ h', Heap.SameBut r s.heap h' → SL w h' r (l ++ l') → Q () { s with heap := h' }) : wpAny (model prog w) A (setMerge r o each) Q E s := by
  obtain ⟨oo, eo, epo, to, hoo, hex, hd, hf, hel, hp, hn, hb⟩ := id S'
  have hz := SL.size (_w := w) hp
  unfold setMerge
  rw [if_neg (by simpa using hne)]
  refine wpAny_bind (wpAny_setState_of hoo hd hf ?_)
  dsimp only
  split
  · rename_i he
    have he' : eo = #[] := by simpa using he
    have hl0' : l' = [] := by
      apply List.eq_nil_of_length_eq_zero
      rw [← hz, he']; rfl
    subst hl0'
    exact wpAny_pure (h s.heap (Heap.SameBut.refl _ _) (by rw [List.append_nil]; exact S))
  · refine wpAny_bind (room S (more := eo.size) (by omega) fun h₁ hsb S₁ => ?_)
    obtain ⟨or, er, epr, tr, hor, hexr, hdr, hfr, helr, hpr, hnr, hbr⟩ := id S₁
    have hzr := SL.size (_w := w) hpr
    refine wpAny_bind (wpAny_setState_of hor hdr hfr ?_)
    dsimp only
    have hfill : (tr.fill != 0) = true := by
      unfold SetTable.fits SetTable.fill at hfr
      rw [Bool.and_eq_true, beq_iff_eq] at hfr
      have : 0 < l.length := List.length_pos_iff.mpr hl0
      unfold SetTable.fill
      simp only [bne_iff_ne, ne_eq]
      omega
    unfold SetTable.road
    rw [hfill, if_pos rfl]
    dsimp only
    have S'₁ : SL w h₁ o l' := S'.but hsb (Ne.symm hne)
    refine wpAny_bind (unseen (s := { s with heap := h₁ }) (others := [r]) (f := r) (lf := l) (a := o) (l := l') S'₁ S₁ hne (fun x hx => by rw [List.mem_singleton.mp hx]; exact ⟨l, S₁⟩) fun xs h₂ hxs hsb₂ S₂ => ?_)
    rw [← Array.forIn_toList]
    have hok : ∀ (ys : List (Int × Value)) (done : List Str) (h₃ : Heap), (∀ e ∈ ys, ∃ k u, e = (hashStr w k, Value.str k u)) → (l ++ done ++ ys.map fun e => keyOf e.2).Nodup → Heap.SameBut r s.heap h₃ → SL w h₃ r (l ++ done) → (l ++ done).length + ys.length < 60 →
        List.Perm (done ++ ys.map fun e => keyOf e.2) l' → wpAny (model prog w) A (forIn ys PUnit.unit fun x _ => (do
          let _ ← holding [x.2] (setAddHashed r x.2 x.1)
          each
          let st ← setState o
          if (st.2.1 != epo) = true then (do
            unsupported "set.changed-during-merge"
            pure (ForInStep.yield PUnit.unit)) else pure (ForInStep.yield PUnit.unit) : Sem (ForInStep PUnit))) (fun _ s' => Q () s') E { s with heap := h₃ } := by
      intro ys
      induction ys with
      | nil =>
        intro done h₃ _ _ hsb₃ S₃ _ hperm
        rw [List.forIn_nil]
        exact wpAny_pure (h h₃ hsb₃ (S₃.congr (List.Perm.append_left l (by simpa using hperm))))
      | cons e r' ih =>
        intro done h₃ hstr hnd hsb₃ S₃ hlen hperm
        obtain ⟨k, u, rfl⟩ := hstr e (.head _)
        rw [List.forIn_cons]
        refine wpAny_bind (wpAny_bind (wpAny_holding (add_new (s := { s with heap := h₃ }) S₃ ?_ (by simp only [List.length_cons] at hlen; omega) fun h₄ hsb₄ S₄ => ?_)))
        · intro hk
          rw [List.nodup_append] at hnd
          exact hnd.2.2 k hk k (.head _) rfl
        · have ho₄ : h₄.get? o = s.heap.get? o := ((hsb₃.trans hsb₄).2 o (Ne.symm hne))
          refine wpAny_bind (heach _ _ ho₄ ?_)
          refine wpAny_bind (wpAny_setState_of (s := { s with heap := h₄ }) (ho₄.trans hoo) hd hf ?_)
          rw [if_neg (by simp)]
          refine wpAny_pure ?_
          refine ih (done ++ [k]) h₄ (fun e he => hstr e (.tail _ he)) ?_ (hsb₃.trans hsb₄) (by rw [← List.append_assoc]; exact S₄) ?_ ?_
          · simpa [keyOf] using hnd
          · simp only [List.length_append, List.length_cons, List.length_nil] at hlen ⊢; omega
          · simpa [keyOf] using hperm
    refine wpAny_bind (wpAny_mono (hok xs.toList [] h₂ hxs.1 ?_ (hsb.trans hsb₂) (by rw [List.append_nil]; exact S₂) ?_ (by simpa using hxs.2)) (fun _ _ x => wpAny_pure x) fun _ _ x => x)
    · rw [List.append_nil]; exact (List.Perm.append_left l hxs.2).nodup_iff.mpr hd'
    · have := hxs.2.length_eq
      rw [List.length_map] at this
      rw [List.append_nil, this]; exact hl
end
end Mine
/-! SetD -/
namespace Mine
open PySem PySem.SetTable PySem.Builtin PySem.Builtin.Frozenset

theorem entry_set_or : entryFor table "set.__or__" = some Builtin.«frozenset.__or__» :=
  entryFor_alias (id' := "frozenset.__or__") (by rw [fastTable_eq_tree]; kernel_rfl) rfl (by rw [PySem.W.S.canonicalZ_eq]; decide +kernel) (by rw [fastTable_eq_tree]; kernel_rfl)
theorem entry_set_sub : entryFor table "set.__sub__" = some Builtin.«frozenset.__sub__» :=
  entryFor_alias (id' := "frozenset.__sub__") (by rw [fastTable_eq_tree]; kernel_rfl) rfl (by rw [PySem.W.S.canonicalZ_eq]; decide +kernel) (by rw [fastTable_eq_tree]; kernel_rfl)

section
variable {prog : Program} {w : World} {A : Around} {E : Value → Shared → Prop} {s : Shared} {a b : Addr} {l l' : List Str}

theorem and_sets {Q : Bool → Shared → Prop} (S : SL w s.heap a l) (S' : SL w s.heap b l') (h : Q true s) : wpAny (model prog w) A (isAnySet (.ref a) <&&> isAnySet (.ref b)) Q E s := by
  show wpAny _ _ (isAnySet (.ref a) >>= _) _ _ _
  refine wpAny_bind (anySet S ?_)
  exact anySet S' h

theorem merge_in {id : String} {r o : Addr} {Q : Unit → Shared → Prop} (S : SL w s.heap r l) (S' : SL w s.heap o l') (hne : r ≠ o) (hl0 : l ≠ []) (hd' : (l ++ l').Nodup) (hl : l.length + l'.length < 60)
    (h : ∀ h', Heap.SameBut r s.heap h' → SL w h' r (l ++ l') → Q () { s with heap := h' }) : wpAny (model prog w) A (Frozenset.merge id r o) Q E s := by
  obtain ⟨oo, eo, epo, to, hoo, hex, hd, hf, hel, hp, hn, hb⟩ := S'
  have S' : SL w s.heap o l' := ⟨oo, eo, epo, to, hoo, hex, hd, hf, hel, hp, hn, hb⟩
  unfold Frozenset.merge
  refine wpAny_bind (wpAny_setEpoch_of hoo hd hf ?_)
  exact merge_more S S' hne hl0 hd' hl (fun s' P e hP => unchanged_is (e.trans hoo) hd hf hP) h

theorem update_in {id : String} {r o : Addr} {Q : Unit → Shared → Prop} (S : SL w s.heap r l) (S' : SL w s.heap o l') (hne : r ≠ o) (hl0 : l ≠ []) (hd' : (l ++ l').Nodup) (hl : l.length + l'.length < 60)
    (h : ∀ h', Heap.SameBut r s.heap h' → SL w h' r (l ++ l') → Q () { s with heap := h' }) : wpAny (model prog w) A (updateFrom id r (.ref o)) Q E s := by
  unfold updateFrom
  refine wpAny_bind (anySet S' ?_)
  rw [if_pos rfl]
  unfold addrOf
  refine wpAny_bind (wpAny_pure ?_)
  exact merge_in S S' hne hl0 hd' hl h

theorem or_is {Q : Value → Shared → Prop} (S : SL w s.heap a l) (S' : SL w s.heap b l') (hab : a ≠ b) (hl0 : l ≠ []) (hd' : (l ++ l').Nodup) (hl : l.length + l'.length < 60)
    (h : ∀ h', Grown s.heap h' 1 → SL w h' s.heap.objs.size (l ++ l') → Q (.ref s.heap.objs.size) { s with heap := h' }) :
    wpAny (model prog w) A (binaryOp .BitOr (.ref a) (.ref b)) Q E s := by
  refine wpAny_binaryOp_same S.typeIs S'.typeIs F.fills_set_or F.slot_set_or (wpAny_call_entry F.slot_set_or S.typeIs entry_set_or ?_ (F.args_set_or_2 _ _))
  show wpAny _ _ ((isAnySet (.ref a) <&&> isAnySet (.ref b)) >>= _) _ _ _
  refine wpAny_bind (and_sets S S' ?_)
  show wpAny _ _ (addrOf (.ref a) >>= _) _ _ _
  unfold addrOf
  refine wpAny_bind (wpAny_pure ?_)
  refine wpAny_bind ?_
  show wpAny _ _ (copyOf a >>= _) _ _ _
  refine wpAny_bind (copy_is S (by omega) fun h₁ g₁ S₁ => ?_)
  have hne : s.heap.objs.size ≠ b := Nat.ne_of_gt S'.lt
  rw [if_pos (by simp; exact fun e => hab e.symm)]
  unfold addrOf
  refine wpAny_bind (wpAny_pure ?_)
  refine wpAny_bind (wpAny_holding ?_)
  refine update_in (s := { s with heap := h₁ }) S₁ (S'.grown g₁) hne hl0 hd' hl fun h₂ hsb S₂ => ?_
  refine wpAny_pure ?_
  refine wpAny_pure ⟨_, rfl, Value.noConfusion, ?_⟩
  exact h h₂ (g₁.but hsb (Nat.le_refl _)) S₂

theorem tidy {Q : Unit → Shared → Prop} (S : SL w s.heap a l) (hl : l.length < 30)
    (h : ∀ h', Heap.SameBut a s.heap h' → SL w h' a l → Q () { s with heap := h' }) : wpAny (model prog w) A (setTidy a) Q E s := by
  obtain ⟨o, es, ep, t, ho, hex, hd, hf, hel, hp, hn, hb⟩ := _root_.id S
  have hz := SL.size (_w := w) hp
  unfold setTidy
  refine wpAny_bind (wpAny_setState_of ho hd hf ?_)
  dsimp only
  split
  · have hg : SetTable.grown es.size = es.size * 4 ∨ SetTable.grown es.size = es.size * 2 := by
      unfold SetTable.grown; split <;> simp
    have hlt : SetTable.grown es.size < 128 := by omega
    obtain ⟨f1, f2, f3⟩ := full_above hlt
    exact relay S f1 (by omega) f3 h
  · exact wpAny_pure (h s.heap (Heap.SameBut.refl _ _) S)

theorem diff_copy_one {id : String} {k : Str} {Q : Unit → Shared → Prop} (S : SL w s.heap a l) (S' : SL w s.heap b [k]) (hab : a ≠ b) (hk : k ∈ l) (hl : l.length < 30)
    (h : ∀ h', Heap.SameBut a s.heap h' → SL w h' a (l.erase k) → Q () { s with heap := h' }) : wpAny (model prog w) A (differenceUpdate id a (.ref b)) Q E s := by
  obtain ⟨oo, eo, epo, to, hoo, hexo, hdo, hfo, helo, hpo, hno, hbo⟩ := _root_.id S'
  unfold differenceUpdate
  rw [if_neg (by simp; exact fun e => hab e.symm)]
  refine wpAny_bind (anySet S' ?_)
  rw [if_pos rfl]
  unfold addrOf
  refine wpAny_bind (wpAny_pure ?_)
  refine wpAny_bind (size_is S' ?_)
  refine wpAny_bind (size_is S ?_)
  rw [if_neg (by show ¬ (1 / 8 > l.length); omega)]
  refine wpAny_bind (wpAny_setEpoch_of hoo hdo hfo ?_)
  refine wpAny_bind (wpAny_holding ?_)
  refine wpAny_bind (unseen0 S' (fun x hx => by rw [List.mem_singleton.mp hx]; exact ⟨l, S⟩) fun xs hxs => ?_)
  rw [← Array.forIn_toList]
  obtain ⟨hx1, hx2⟩ := hxs
  have hlen : xs.toList.length = 1 := by have := hx2.length_eq; simpa using this
  obtain ⟨e, he⟩ := List.length_eq_one_iff.mp hlen
  rw [he] at hx1 hx2 ⊢
  obtain ⟨k', u, rfl⟩ := hx1 e (.head _)
  have hkk : k' = k := by simpa [keyOf] using hx2
  subst hkk
  rw [List.forIn_cons]
  refine wpAny_bind ?_
  dsimp only
  refine wpAny_bind (wpAny_bind (wpAny_holding (discard_in S hk fun h₁ hsb S₁ => ?_)))
  refine wpAny_bind (unchanged_is (s := { s with heap := h₁ }) ((hsb.2 b (Ne.symm hab)).trans hoo) hdo hfo ?_)
  refine wpAny_pure ?_
  dsimp only
  rw [List.forIn_nil]
  refine wpAny_pure ?_
  refine wpAny_pure ?_
  refine tidy (s := { s with heap := h₁ }) S₁ (by rw [List.length_erase_of_mem hk]; omega) fun h₂ hsb₂ S₂ => h h₂ (hsb.trans hsb₂) S₂

theorem sub_one {k : Str} {Q : Value → Shared → Prop} (S : SL w s.heap a l) (S' : SL w s.heap b [k]) (hk : k ∈ l) (hlo : 8 ≤ l.length) (hl : l.length < 30)
    (h : ∀ h', Grown s.heap h' 1 → SL w h' s.heap.objs.size (l.erase k) → Q (.ref s.heap.objs.size) { s with heap := h' }) :
    wpAny (model prog w) A (binaryOp .Sub (.ref a) (.ref b)) Q E s := by
  refine wpAny_binaryOp_same S.typeIs S'.typeIs F.fills_set_sub F.slot_set_sub (wpAny_call_entry F.slot_set_sub S.typeIs entry_set_sub ?_ (F.args_set_sub_2 _ _))
  show wpAny _ _ ((isAnySet (.ref a) <&&> isAnySet (.ref b)) >>= _) _ _ _
  refine wpAny_bind (and_sets S S' ?_)
  show wpAny _ _ (addrOf (.ref a) >>= _) _ _ _
  unfold addrOf
  refine wpAny_bind (wpAny_pure ?_)
  refine wpAny_bind ?_
  unfold difference
  refine wpAny_bind (anySet S' ?_)
  dsimp only
  rw [if_neg (by simp)]
  unfold addrOf
  refine wpAny_bind (wpAny_pure ?_)
  rw [if_neg (by simp)]
  rw [if_pos rfl]
  refine wpAny_bind (size_is S' ?_)
  refine wpAny_bind (size_is S ?_)
  rw [if_pos (by show l.length / 4 > 1; omega)]
  refine wpAny_bind (wpAny_rule ?_)
  refine wpAny_bind (copy_is S (by omega) fun h₁ g₁ S₁ => ?_)
  refine wpAny_bind (wpAny_pure ?_)
  refine wpAny_bind (wpAny_holding ?_)
  refine diff_copy_one (s := { s with heap := h₁ }) S₁ (S'.grown g₁) (Nat.ne_of_gt S'.lt) hk hl fun h₂ hsb S₂ => ?_
  refine wpAny_pure ?_
  refine wpAny_pure ⟨_, rfl, Value.noConfusion, ?_⟩
  exact h h₂ (g₁.but hsb (Nat.le_refl _)) S₂
end
end Mine
/-! SetE -/
namespace Mine
open PySem PySem.SetTable PySem.Builtin PySem.Builtin.Frozenset

section
variable {prog : Program} {w : World} {A : Around} {E : Value → Shared → Prop} {s : Shared} {a b : Addr} {l l' : List Str}

theorem SL.blank {h : Heap} {r : Addr} {led : Bool} {ep : Nat} (hr : h.get? r = some (freshObj (.fresh 0 0 led) ep)) : SL w h r [] :=
  ⟨_, #[], ep, _, hr, ⟨rfl, rfl, rfl⟩, rfl, rfl, fun e he => by simp at he, .refl _, List.nodup_nil, by simp⟩

theorem walk_loop {id : String} {r o a : Addr} {oa : Obj} {es : Array (Int × Value)} {ep : Nat} {t : SetTable} {Q : PUnit → Shared → Prop} (hne : r ≠ o) (hra : r ≠ a) :
    ∀ (ys : List (Int × Value)) (done : List Str) (s : Shared), s.heap.get? a = some oa → oa.data = .set es ep t → t.fits es.size = true → SL w s.heap o l' →
      (∀ e ∈ ys, ∃ k u, e = (hashStr w k, Value.str k u)) → (done ++ ys.map fun e => keyOf e.2).Nodup → SL w s.heap r (done.filter fun k => !decide (k ∈ l')) → done.length + ys.length < 60 →
      (∀ h', Heap.SameBut r s.heap h' → SL w h' r ((done ++ ys.map fun e => keyOf e.2).filter fun k => !decide (k ∈ l')) → Q ⟨⟩ { s with heap := h' }) →
      wpAny (model prog w) A (forIn ys PUnit.unit fun x _ => (do
        holding [x.2] (do
          let found ← setFind o x.2 x.1
          let there ← (pure found.isSome : Sem Bool)
          if (!there) = true then (do
            let _ ← setAddHashed r x.2 x.1
            pure PUnit.unit) else pure PUnit.unit)
        unchanged id a ep
        pure (ForInStep.yield PUnit.unit) : Sem (ForInStep PUnit))) Q E s
  | [], done, s, _, _, _, _, _, _, S, _, h => by
    rw [List.forIn_nil]
    exact wpAny_pure (h s.heap (Heap.SameBut.refl _ _) (by simpa using S))
  | e :: ys, done, s, ha, hd, hf, So, hel, hnd, S, hlen, h => by
    obtain ⟨k, u, rfl⟩ := hel e (.head _)
    rw [List.forIn_cons]
    have hnd' : ((done ++ [k]) ++ ys.map fun e => keyOf e.2).Nodup := by simpa [keyOf] using hnd
    refine wpAny_bind (wpAny_bind (wpAny_holding (wpAny_bind (find_is So fun r' hr => wpAny_bind (wpAny_pure ?_)))))
    rw [hr]
    by_cases hk : k ∈ l'
    · rw [decide_eq_true hk, if_neg (by simp)]
      refine wpAny_pure (wpAny_bind (unchanged_is ha hd hf (wpAny_pure ?_)))
      refine walk_loop hne hra ys (done ++ [k]) s ha hd hf So (fun e he => hel e (.tail _ he)) hnd' ?_ (by simp only [List.length_append, List.length_cons, List.length_nil] at hlen ⊢; omega) fun h' hsb S' => h h' hsb ?_
      · rw [List.filter_append]; simpa [hk] using S
      · simpa [keyOf] using S'
    · rw [decide_eq_false hk, if_pos (by simp)]
      refine wpAny_bind (add_new S ?_ ?_ fun h₁ hsb S₁ => wpAny_pure ?_)
      · intro hk'
        have := (List.mem_filter.mp hk').1
        rw [List.nodup_append] at hnd
        exact hnd.2.2 k this k (.head _) rfl
      · have := List.length_filter_le (fun k => !decide (k ∈ l')) done
        simp only [List.length_cons] at hlen; omega
      · have ha' := (hsb.2 a (Ne.symm hra)).trans ha
        refine wpAny_bind (unchanged_is (s := { s with heap := h₁ }) ha' hd hf (wpAny_pure ?_))
        refine walk_loop hne hra ys (done ++ [k]) { s with heap := h₁ } ha' hd hf (So.but hsb (Ne.symm hne)) (fun e he => hel e (.tail _ he)) hnd' ?_ (by simp only [List.length_append, List.length_cons, List.length_nil] at hlen ⊢; omega) fun h' hsb' S' => h h' (hsb.trans hsb') ?_
        · rw [List.filter_append]; simpa [hk] using S₁
        · simpa [keyOf] using S'

theorem sub_walk {Q : Value → Shared → Prop} (S : SL w s.heap a l) (S' : SL w s.heap b l') (hlo : ¬ l.length / 4 > l'.length) (hl : l.length < 60)
    (h : ∀ h', Grown s.heap h' 1 → SL w h' s.heap.objs.size (l.filter fun k => !decide (k ∈ l')) → Q (.ref s.heap.objs.size) { s with heap := h' }) :
    wpAny (model prog w) A (binaryOp .Sub (.ref a) (.ref b)) Q E s := by
  obtain ⟨oa, es, ep, t, hoa, hexa, hda, hfa, hela, hpa, hna, hba⟩ := _root_.id S
  refine wpAny_binaryOp_same S.typeIs S'.typeIs F.fills_set_sub F.slot_set_sub (wpAny_call_entry F.slot_set_sub S.typeIs entry_set_sub ?_ (F.args_set_sub_2 _ _))
  show wpAny _ _ ((isAnySet (.ref a) <&&> isAnySet (.ref b)) >>= _) _ _ _
  refine wpAny_bind (and_sets S S' ?_)
  show wpAny _ _ (addrOf (.ref a) >>= _) _ _ _
  unfold addrOf
  refine wpAny_bind (wpAny_pure ?_)
  refine wpAny_bind ?_
  unfold difference
  refine wpAny_bind (anySet S' ?_)
  dsimp only
  rw [if_neg (by simp)]
  unfold addrOf
  refine wpAny_bind (wpAny_pure ?_)
  rw [if_neg (by simp)]
  rw [if_pos rfl]
  refine wpAny_bind (size_is S' ?_)
  refine wpAny_bind (size_is S ?_)
  rw [if_neg hlo]
  refine wpAny_bind (base_is S (wpAny_bind (new_set fun led hg => ?_)))
  refine wpAny_bind (wpAny_pure ?_)
  have hoa' := Heap.get?_push_of_some (freshObj (.fresh 0 0 led) 0) hoa
  refine wpAny_bind (wpAny_setEpoch_of (s := { s with heap := s.heap.push (freshObj (.fresh 0 0 led) 0) }) hoa' hda hfa ?_)
  refine wpAny_bind (wpAny_holding ?_)
  rw [if_pos rfl]
  have Sr : SL w (s.heap.push (freshObj (.fresh 0 0 led) 0)) s.heap.objs.size [] := SL.blank hg
  refine wpAny_bind (unseen (s := { s with heap := s.heap.push (freshObj (.fresh 0 0 led) 0) }) (a := a) (l := l) (f := s.heap.objs.size) (lf := []) S.push Sr (Nat.ne_of_gt S.lt) ?_ fun xs h₁ hxs hsb S₁ => ?_)
  · intro x hx
    rcases List.mem_cons.mp hx with rfl | hx
    · exact ⟨l', S'.push⟩
    · rw [List.mem_singleton.mp hx]; exact ⟨[], Sr⟩
  rw [← Array.forIn_toList]
  have ha₁ := (hsb.2 a (Nat.ne_of_lt S.lt)).trans hoa'
  have hS' : SL w h₁ b l' := S'.push.but hsb (Nat.ne_of_lt S'.lt)
  simp only [↓reduceIte]
  refine wpAny_bind (wpAny_mono (walk_loop (Q := fun _ s' => ∃ h', Heap.SameBut s.heap.objs.size h₁ h' ∧ SL w h' s.heap.objs.size (l.filter fun k => !decide (k ∈ l')) ∧ s' = { s with heap := h' }) (l' := l') (r := s.heap.objs.size) (o := b) (a := a) (Nat.ne_of_gt S'.lt) (Nat.ne_of_gt S.lt) xs.toList [] { s with heap := h₁ } ha₁ hda hfa hS' hxs.1 ?_ S₁ ?_ ?_) ?_ fun _ _ x => x)
  · exact hxs.2.nodup_iff.mpr hna
  · have := hxs.2.length_eq
    rw [List.length_map] at this
    show 0 + _ < _
    omega
  · intro h' hsb' S₂
    exact ⟨h', hsb', S₂.congr ((hxs.2).filter _), rfl⟩
  · rintro _ s' ⟨h', hsb', S₂, rfl⟩
    refine wpAny_pure ?_
    refine wpAny_pure ?_
    refine wpAny_pure ⟨_, rfl, Value.noConfusion, ?_⟩
    exact h h' (Grown.push_but (hsb.trans hsb')) S₂
end
end Mine
/-! SetF -/
namespace Mine
open PySem PySem.SetTable PySem.Builtin PySem.Builtin.Frozenset
set_option maxRecDepth 100000

section
variable {prog : Program} {w : World} {A : Around} {E : Value → Shared → Prop} {s : Shared} {a b : Addr} {l l' : List Str}

theorem Grown.refl (h : Heap) : Grown h h 0 := ⟨rfl, fun _ _ e => e⟩
/-- grown by n, but the object at it may have turned -/
def GrownBut (it : Addr) (h h' : Heap) (n : Nat) : Prop := h'.objs.size = h.objs.size + n ∧ ∀ b o, b ≠ it → h.get? b = some o → h'.get? b = some o

theorem next_end {it : Addr} {x : Str} {t : Tok} {i : Nat} {Q : Option Value → Shared → Prop} (hh : A.handled = none)
    (hit : s.heap.IsStrIter it "str_ascii_iterator" x t i) (hx : x.cps[i]? = none)
    (hQ : ∀ h', GrownBut it s.heap h' 2 → Q none { s with heap := h' }) : wpAny (model prog w) A (pyNext (.ref it)) Q E s := by
  obtain ⟨o, ho, hc, hd⟩ := id hit
  unfold pyNext
  refine wpAny_bind (wpAny_attempt (wpAny_callSpecial?_slot (name := Str.ofString "__next__") hit.typeIs F.slot_str_ascii_iterator_next
    (wpAny_call_entry F.slot_str_ascii_iterator_next hit.typeIs F.entry_str_ascii_iterator_next ?_ (F.args_str_ascii_iterator_next_1 _))))
  show wpAny _ _ (field (.ref it) 0 >>= _) _ _ s
  refine wpAny_bind (wpAny_field ho hd (x := .str x t) rfl ?_)
  show wpAny _ _ (field (.ref it) 1 >>= _) _ _ s
  refine wpAny_bind (wpAny_field ho hd (x := .int i 0) rfl ?_)
  simp only [Int.toNat_natCast, hx]
  refine wpAny_bind (wpAny_rule (wpAny_bind (wpAny_setField ho hd (by simp) (wpAny_bind (wpAny_letGo ?_)))))
  show wpAny _ _ (newExc (.type "StopIteration") [] >>= _) _ _ _
  refine wpAny_bind ?_
  simp only [newExc, newTuple]
  refine wpAny_bind (wpAny_newObj_type ?_ (by size_fits))
  refine wpAny_bind (m := firstArgMember _ _) (wpAny_of_eq (a := Value.none) (by first | rfl | (simp only [firstArgMember]; rfl)) ?_)
  refine wpAny_newObj_type ?_ (by size_fits)
  simp only [raiseNew]
  refine wpAny_bind (wpAny_handled ?_)
  rw [show A.in1.handled = none from hh]
  refine wpAny_bind (wpAny_pure (wpAny_throw ?_))
  refine wpAny_bind (wpAny_isInstance (T := "StopIteration") (b := true) ⟨_, Heap.get?_push_size _ rfl, rfl⟩ isSubtype_stop ?_)
  refine wpAny_pure (hQ _ ⟨?_, ?_⟩)
  · rw [Heap.size_push, Heap.size_push]
    exact congrArg (· + 2) (Heap.SameBut.update s.heap it _).1
  · exact ((Heap.SameBut.update ..).extBut.push _).push _

def oneStr (c : Nat) : Str := ⟨#[c]⟩

theorem update_loop {R : Result → Shared → Prop} {r it : Addr} {x : Str} {t : Tok} (hh : A.handled = none) (hne : r ≠ it) (hx : x.cps.size < 60) (hnd : (x.cps.toList.map oneStr).Nodup) :
    ∀ (k i : Nat) (s : Shared), x.cps.size - i = k → i ≤ x.cps.size → s.heap.IsStrIter it "str_ascii_iterator" x t i → SL w s.heap r ((x.cps.toList.take i).map oneStr) →
      (∀ h', h'.objs.size = s.heap.objs.size + 2 → (∀ b o, b ≠ it → b ≠ r → s.heap.get? b = some o → h'.get? b = some o) → SL w h' r (x.cps.toList.map oneStr) → R (.ok (.ret .none)) { s with heap := h', toks := s.toks + 2 * k }) →
      codeAny (model prog w) A (.builtin "set.update.loop" ⟨[.ref r, .ref it], []⟩) R s := by
  intro k
  induction k with
  | zero =>
    intro i s hk hi hst hS hR
    have hin : i = x.cps.size := by omega
    refine codeAny_builtin PyProof.Rows.F.entry_set_update_loop ?_
    rw [Around.under_plainId PyProof.Rows.F.plain_set_update_loop _]
    show wpAny _ A.in1 (pyNext (.ref it) >>= _) _ _ s
    refine wpAny_bind (next_end hh hst (by rw [hin]; simp) fun h' hg => ?_)
    show wpAny _ A.in1 (ret Value.none) _ _ _
    refine wpAny_pure ?_
    have e := hR h' hg.1 (fun b o hb _ => hg.2 b o hb) ?_
    · simpa using e
    · rw [hin, List.take_of_length_le (by simp)] at hS
      exact hS.at fun o e => hg.2 r o hne e
  | succ k ih =>
    intro i s hk hi hst hS hR
    have hlt : i < x.cps.size := by omega
    refine codeAny_builtin PyProof.Rows.F.entry_set_update_loop ?_
    rw [Around.under_plainId PyProof.Rows.F.plain_set_update_loop _]
    show wpAny _ A.in1 (pyNext (.ref it) >>= _) _ _ s
    refine wpAny_bind (wpAny_pyNext_ascii_item hst (c := x.cps[i]) (by simp [hlt]) fun h₁ hst₁ hsb₁ => ?_)
    show wpAny _ A.in1 (holding [Value.str _ _] (setAdd r _) >>= _) _ _ _
    refine wpAny_bind (wpAny_holding ?_)
    unfold setAdd
    refine wpAny_holding ?_
    refine wpAny_bind ((strKind prog w).pyHash (k := ⟨#[x.cps[i]]⟩) (strKind_is _ _ _ _) ?_)
    have htake : (x.cps.toList.take (i + 1)).map oneStr = (x.cps.toList.take i).map oneStr ++ [oneStr x.cps[i]] := by
      rw [List.take_add_one, List.map_append]
      simp [hlt]
    have hnew : oneStr x.cps[i] ∉ (x.cps.toList.take i).map oneStr := by
      intro hm
      have h2 : ((x.cps.toList.take (i + 1)).map oneStr).Nodup := by
        rw [List.map_take]; exact hnd.sublist (List.take_sublist _ _)
      rw [htake, List.nodup_append] at h2
      exact h2.2.2 _ hm _ (.head _) rfl
    have S₁ : SL w h₁ r ((x.cps.toList.take i).map oneStr) := hS.but hsb₁ hne
    refine add_new (s := { s with heap := h₁, toks := s.toks + 1 + 1 }) S₁ hnew (by simp; omega) fun h₂ hsb₂ S₂ => ?_
    refine wpAny_pure ⟨plainId_quiet PyProof.Rows.F.plain_set_update_loop _, ?_⟩
    refine ih (i + 1) _ (by omega) hlt ?_ (by rw [htake]; exact S₂) fun h' hz hk' hS' => ?_
    · obtain ⟨o, ho, r'⟩ := hst₁
      exact ⟨o, (hsb₂.2 it (Ne.symm hne)).trans ho, r'⟩
    · have e := hR h' (by rw [hz]; show h₂.objs.size + 2 = _; rw [hsb₂.1, hsb₁.1]) (fun b o h1 h2 ho => hk' b o h1 h2 ((hsb₂.2 b h2).trans ((hsb₁.2 b h1).trans ho))) hS'
      have et : s.toks + 2 * (k + 1) = s.toks + 1 + 1 + 2 * k := by omega
      rw [et] at e
      exact e

theorem sub_str_set : isSubtype (.type "str") (.type "set") = pure false := by rw [isSubtype_type]; kernel_rfl
theorem sub_str_frozenset : isSubtype (.type "str") (.type "frozenset") = pure false := by rw [isSubtype_type]; kernel_rfl

set_option maxHeartbeats 3200000 in
theorem set_str {x : Str} {t : Tok} {Q : Value → Shared → Prop} (hh : A.handled = none) (hasc : x.cps.all (· < 128) = true) (hx : x.cps.size < 60) (hnd : (x.cps.toList.map oneStr).Nodup)
    (h : ∀ h', Grown s.heap h' 4 → SL w h' s.heap.objs.size (x.cps.toList.map oneStr) → Q (.ref s.heap.objs.size) { s with heap := h', toks := s.toks + 2 * x.cps.size }) :
    wpAny (model prog w) A (call (.type "set") [.str x t]) Q E s := by
  obtain ⟨c, tl, hmro⟩ := F.called_set.mro
  have hmade := F.called_set.made
  have hsub := F.called_set.sub
  refine wpAny_call (codeAny_of_tree ?_)
  show wpAny _ _ (callAny (.type "set") _) _ _ _
  refine wpAny_pure ⟨Code.quiet_builtin _ (by decide +kernel), codeAny_builtin F.entry_type_call ?_⟩
  rw [Around.under_plain (weight_type_call_type "set" [.str x t] []) rfl]
  have h1 := F.called_set.notType
  have h2 := F.called_set.canCreate
  have hct := F.typeCall_set_1 (.str x t)
  repeat (any_goals (first | assumption | wp_step))
  refine codeAny_mono (code_set_new_1 (.str x t) (E := E) (Q₁ := fun obj s₁ => ∃ led : Bool, obj = .ref s.heap.objs.size ∧ s₁ = { s with heap := s.heap.push (freshObj (.fresh 0 0 led) 0) }) fun led => ⟨led, rfl, rfl⟩) fun r s₁ hr => ?_
  cases r with
  | error e => exact hr
  | ok fl =>
    cases fl with
    | ret obj =>
      obtain ⟨led, rfl, rfl⟩ := hr
      have hS : (s.heap.push (freshObj (.fresh 0 0 led) 0)).get? s.heap.objs.size = some (freshObj (.fresh 0 0 led) 0) := Heap.get?_push_size _ rfl
      have hT : Shared.TypeIs { s with heap := s.heap.push (freshObj (.fresh 0 0 led) 0) } (.ref s.heap.objs.size) "set" := ⟨_, hS, rfl⟩
      have hli := F.called_set.init.lookup
      have hbi := F.called_set.init.bind (.ref s.heap.objs.size)
      repeat (any_goals (first | assumption | wp_step))
      refine codeAny_mono (codeAny_call_builtin (R := wants (fun r s₂ => r = .none ∧ ∃ h', Grown s.heap h' 4 ∧ SL w h' s.heap.objs.size (x.cps.toList.map oneStr) ∧ s₂ = { s with heap := h', toks := s.toks + 2 * x.cps.size }) E) F.called_set.init.plain F.entry_set_init (check_set_init_1 hT ?_)) fun r₂ s₂ hr₂ => ?_
      · have hsls := sub_str_set
        have hslf := sub_str_frozenset
        have hne : (Value.type "str" == Value.type "dict") = false := by decide
        unfold freshObj at hS
        unfold Builtin.«set.__init__» noKeywords Builtin.Frozenset.updateFrom
        generalize hPI : pyIter = PI
        wp_walk
        subst hPI
        refine wpAny_pyIter_ascii hasc ?_
        refine wpAny_bind (wpAny_runValue ?_)
        have hne' : s.heap.objs.size ≠ (s.heap.push (freshObj (.fresh 0 0 led) 0)).objs.size := by rw [Heap.size_push]; omega
        refine update_loop (r := s.heap.objs.size) (x := x) (t := t) (by simp [hh]) hne' hx hnd (x.cps.size - 0) 0 _ (by omega) (Nat.zero_le _) ⟨_, Heap.get?_push_size _ rfl, rfl, rfl⟩ ?_ ?_
        · exact (SL.blank (w := w) (led := led) (ep := 0) (Heap.get?_push_size _ rfl)).push
        · intro h' hz hk hS'
          refine wpAny_pure ?_
          show wpAny _ _ (ret Value.none) _ _ _
          refine wpAny_pure ⟨rfl, h', ⟨?_, fun b o e => ?_⟩, hS', ?_⟩
          · rw [hz]; show ((s.heap.push _).push _).objs.size + 2 = _; rw [Heap.size_push, Heap.size_push]
          · have hb := Heap.lt_size e
            refine hk b o ?_ (Nat.ne_of_lt hb) (Heap.get?_push_of_some _ (Heap.get?_push_of_some _ e))
            rw [Heap.size_push]; exact Nat.ne_of_lt (Nat.lt_succ_of_lt hb)
          · rw [Nat.sub_zero]
      · cases r₂ with
        | error e => exact hr₂
        | ok fl₂ =>
          cases fl₂ with
          | ret r =>
            obtain ⟨rfl, h', hg, hS', rfl⟩ := hr₂
            repeat (any_goals (first | assumption | wp_step))
            exact h _ hg hS'
          | _ => exact hr₂.elim
    | _ => exact hr.elim
end
end Mine
/-! SetG -/
namespace Mine
open PySem PySem.W PyProof.Rows

section
variable {prog : Program} {w : World} {A : Around} {E : Value → Shared → Prop} {s : Shared}

theorem add_one {r : Addr} {l : List Str} {k : Str} {u : Tok} {Q : Bool → Shared → Prop} (S : SL w s.heap r l) (hk : k ∉ l) (hb : l.length < 3000)
    (h : ∀ h', Heap.SameBut r s.heap h' → SL w h' r (l ++ [k]) → Q true { s with heap := h', toks := s.toks + 1 }) : wpAny (model prog w) A (setAdd r (.str k u)) Q E s := by
  unfold setAdd
  refine wpAny_holding ?_
  refine wpAny_bind ((strKind prog w).pyHash (k := k) (strKind_is _ _ _ _) ?_)
  exact add_new (s := { s with toks := s.toks + 1 }) S hk hb h

theorem disp_two {env : Env} {x y : Str} {kx ky k : Nat} {px py pos : Pos} {c : Addr} {o : Obj} {vs : Array Value} {Q : Value → Shared → Prop} (hc : env.code = .ref c) (ho : s.heap.get? c = some o) (hd : o.data = .fields vs) (hxy : y ≠ x) (hk : k = 0)
    (h : ∀ h', Grown s.heap h' 1 → SL w h' s.heap.objs.size [x, y] → Q (.ref s.heap.objs.size) { s with heap := h', toks := s.toks + 4 }) :
    wpAny (model prog w) A (eval (.Set [.Constant (.str x) kx px, .Constant (.str y) ky py] k pos) env) Q E s := by
  subst hk
  rw [arm_eval_Set]
  refine wpAny_bind (wpAny_standAt ?_)
  have hmain : ∀ {Q : Bool → Shared → Prop}, (∀ b, Q b s) → wpAny (model prog w) A (inMainModule env) Q E s := fun {Q} h => by
    unfold inMainModule
    try dsimp only
    rw [hc]
    split
    · exact wpAny_pure (h _)
    · refine wpAny_bind (wpAny_fieldsOf ho hd ?_)
      split
      · exact wpAny_bind (wpAny_askSetting (wpAny_pure (h _)))
      · exact wpAny_pure (h _)
  refine wpAny_bind (hmain fun b => ?_)
  rw [kds_star _ rfl, List.map_map]
  refine kds_core (ts := (evalEach [.Constant (.str x) kx px, .Constant (.str y) ky py] env).map fun t => do let v ← t; standAt pos; pure v) rfl ?_ ?_ ?_ fun led => ?_
  · refine List.findIdx?_eq_none_iff.mpr fun x hx => ?_
    obtain ⟨t, _, rfl⟩ := List.mem_map.mp hx
    rfl
  · rw [List.length_map, kds_len]; exact (by decide : 2 ≤ 30)
  · rw [List.map_map]; try rfl
  · refine kds_all pos _ _ _ ?_
    refine wpAny_Constant_str ?_
    refine wpAny_Constant_str ?_
    refine kds_fill_cons ?_
    have S0 : SL w (s.heap.push (freshObj (.fresh 0 0 led) 0)) s.heap.objs.size [] := SL.blank (led := led) (ep := 0) (Heap.get?_push_size _ rfl)
    refine add_one (s := { s with heap := s.heap.push (freshObj (.fresh 0 0 led) 0), toks := s.toks + 1 + 1 }) S0 (by simp) (by simp) fun h₁ hsb₁ S₁ => ?_
    refine kds_fill_cons ?_
    refine add_one (s := { s with heap := h₁, toks := s.toks + 1 + 1 + 1 }) S₁ (by simpa using hxy) (by simp) fun h₂ hsb₂ S₂ => ?_
    refine kds_fill_nil rfl ?_
    exact h h₂ (Grown.push_but (hsb₁.trans hsb₂)) S₂
end
end Mine
/-! Plain -/
namespace Mine.Plain
abbrev Part := Nat × List Nat
section
variable (white wsp e : Nat → Bool)

noncomputable def toldF : Nat → List Nat → List Part
  | 0, _ => []
  | _ + 1, [] => []
  | n + 1, c :: r =>
    if wsp c then (0, (c :: r).takeWhile white) :: toldF n ((c :: r).dropWhile white)
    else if e c then (1, [c]) :: toldF n r
    else (2, c :: r.takeWhile fun x => !e x) :: toldF n (r.dropWhile fun x => !e x)

def kind (last : Option Part) (c : Nat) : Nat :=
  if wsp c || ((last.map (·.1)) == some 0 && white c) then 0 else if e c then 1 else 2
def add (P : List Part) (c : Nat) : List Part :=
  let k := kind white wsp e P.getLast? c
  match P.getLast? with
  | some (k', a) => if k != 1 && k' == k then P.dropLast ++ [(k, a ++ [c])] else P ++ [(k, [c])]
  | none => P ++ [(k, [c])]

variable {white wsp e}
theorem add_same {P : List Part} {k : Nat} {a : List Nat} {c : Nat} (hk : kind white wsp e (some (k, a)) c = k) (h1 : k ≠ 1) : add white wsp e (P ++ [(k, a)]) c = P ++ [(k, a ++ [c])] := by
  unfold add
  simp [hk, h1]
theorem add_new {P : List Part} {c : Nat} {k : Nat} (hk : kind white wsp e P.getLast? c = k) (h : ∀ k' a, P.getLast? = some (k', a) → k = 1 ∨ k' ≠ k) : add white wsp e P c = P ++ [(k, [c])] := by
  unfold add
  cases hP : P.getLast? with
  | none => rw [hP] at hk; simp [hk]
  | some x =>
    obtain ⟨k', a⟩ := x
    rw [hP] at hk
    rcases h k' a hP with h | h
    · simp [hk, h]
    · simp [hk, h]
theorem run_white {P : List Part} : ∀ (l : List Nat) (a : List Nat), (l.takeWhile white).foldl (add white wsp e) (P ++ [(0, a)]) = P ++ [(0, a ++ l.takeWhile white)]
  | [], a => by simp
  | c :: l, a => by
    by_cases hc : white c = true
    · rw [List.takeWhile_cons, if_pos hc, List.foldl_cons, add_same (by unfold kind; simp [hc]) (by decide), run_white l (a ++ [c])]
      simp
    · rw [List.takeWhile_cons, if_neg hc]; simp
theorem run_two (he : ∀ c, wsp c = true → e c = true) {P : List Part} : ∀ (l : List Nat) (a : List Nat), (l.takeWhile fun x => !e x).foldl (add white wsp e) (P ++ [(2, a)]) = P ++ [(2, a ++ l.takeWhile fun x => !e x)]
  | [], a => by simp
  | c :: l, a => by
    by_cases hc : e c = true
    · rw [List.takeWhile_cons, if_neg (by simp [hc])]; simp
    · have hw : wsp c = false := by cases h : wsp c with | false => rfl | true => exact absurd (he c h) hc
      rw [List.takeWhile_cons, if_pos (by simp [hc]), List.foldl_cons, add_same (by unfold kind; simp [hc, hw]) (by decide), run_two he l (a ++ [c])]
      simp

/-- what may follow the last part -/
def Fresh (white e : Nat → Bool) (P : List Part) (l : List Nat) : Prop := ∀ k a c r, P.getLast? = some (k, a) → l = c :: r → (k = 0 → white c = false) ∧ (k = 2 → e c = true)
theorem head_dropWhile {p : Nat → Bool} : ∀ {l : List Nat} {c : Nat} {r : List Nat}, l.dropWhile p = c :: r → p c = false
  | [], _, _, h => by cases h
  | x :: l, c, r, h => by
    by_cases hx : p x = true
    · rw [List.dropWhile_cons, if_pos hx] at h; exact head_dropWhile h
    · rw [List.dropWhile_cons, if_neg hx] at h
      cases h; simpa using hx
theorem length_dropWhile (p : Nat → Bool) : ∀ l : List Nat, (l.dropWhile p).length ≤ l.length
  | [] => Nat.le_refl _
  | x :: l => by
    rw [List.dropWhile_cons]
    split
    · exact Nat.le_succ_of_le (length_dropWhile p l)
    · exact Nat.le_refl _

theorem told_due (hww : ∀ c, wsp c = true → white c = true) (he : ∀ c, wsp c = true → e c = true) : ∀ (n : Nat) (l : List Nat) (P : List Part), l.length ≤ n → Fresh white e P l → l.foldl (add white wsp e) P = P ++ toldF white wsp e n l
  | 0, [], P, _, _ => by simp [toldF]
  | 0, c :: r, P, h, _ => by simp at h
  | n + 1, [], P, _, _ => by simp [toldF]
  | n + 1, c :: r, P, h, hF => by
    have hr : r.length ≤ n := by simpa using h
    unfold toldF
    by_cases hc : wsp c = true
    · rw [if_pos hc]
      have hwc := hww c hc
      have e1 : (c :: r).takeWhile white = c :: r.takeWhile white := by rw [List.takeWhile_cons, if_pos hwc]
      have e2 : (c :: r).dropWhile white = r.dropWhile white := by rw [List.dropWhile_cons, if_pos hwc]
      rw [e1, e2, List.foldl_cons, add_new (k := 0) (by unfold kind; simp [hc]) ?_]
      · conv => lhs; rw [← List.takeWhile_append_dropWhile (p := white) (l := r)]
        rw [List.foldl_append, run_white r [c], told_due hww he n (r.dropWhile white) _ (Nat.le_trans (length_dropWhile _ _) hr) ?_]
        · simp
        · intro k a c' r' hl hd
          simp at hl
          obtain ⟨rfl, rfl⟩ := hl
          exact ⟨fun _ => head_dropWhile hd, fun h => absurd h (by decide)⟩
      · intro k' a hl
        by_cases h0 : k' = 0
        · subst h0
          have := (hF 0 a c r hl rfl).1 rfl
          rw [hwc] at this; cases this
        · exact .inr h0
    · rw [if_neg hc]
      have hc' : wsp c = false := by simpa using hc
      have hk : ∀ x, kind white wsp e P.getLast? c = x ↔ (if e c then 1 else 2) = x := by
        intro x
        unfold kind
        cases hl : P.getLast? with
        | none => simp [hc']
        | some y =>
          obtain ⟨k', a⟩ := y
          by_cases h0 : k' = 0
          · subst h0
            have := (hF 0 a c r hl rfl).1 rfl
            simp [hc', this]
          · simp [hc', h0]
      by_cases hec : e c = true
      · rw [if_pos hec, List.foldl_cons, add_new (k := 1) ((hk 1).mpr (by simp [hec])) (fun _ _ _ => .inl rfl), told_due hww he n r _ hr ?_]
        · simp
        · intro k a c' r' hl hd
          simp at hl
          obtain ⟨rfl, rfl⟩ := hl
          exact ⟨fun h => absurd h (by decide), fun h => absurd h (by decide)⟩
      · rw [if_neg hec, List.foldl_cons, add_new (k := 2) ((hk 2).mpr (by simp [hec])) ?_]
        · conv => lhs; rw [← List.takeWhile_append_dropWhile (p := fun x => !e x) (l := r)]
          rw [List.foldl_append, run_two he r [c], told_due hww he n (r.dropWhile fun x => !e x) _ (Nat.le_trans (length_dropWhile _ _) hr) ?_]
          · simp
          · intro k a c' r' hl hd
            simp at hl
            obtain ⟨rfl, rfl⟩ := hl
            refine ⟨fun h => absurd h (by decide), fun _ => ?_⟩
            have := head_dropWhile hd
            simpa using this
        · intro k' a hl
          refine .inr fun h2 => ?_
          subst h2
          exact hec ((hF 2 a c r hl rfl).2 rfl)
end
end Mine.Plain
/-! Rules8 -/
namespace Mine.Plain
def wspC (c : Nat) : Bool := c == 32 || c == 9
def plainC (c : Nat) : Bool := (decide (97 ≤ c) && decide (c ≤ 122)) || (decide (65 ≤ c) && decide (c ≤ 90)) || (decide (48 ≤ c) && decide (c ≤ 57))
def dueE (marks more : List Nat) (c : Nat) : Bool := more.contains c || (decide (32 < c) && decide (c < 127) && !plainC c && !marks.contains c)
def ruleOk (ends marks more : List Nat) : Bool := (List.range 128).all (fun c => ends.contains c == (wspC c || dueE marks more c)) && ends.all (fun c => decide (c < 128)) && more.all (fun c => decide (c < 128))
theorem not_in {l : List Nat} {c : Nat} (h : l.all (fun c => decide (c < 128)) = true) (hc : 128 ≤ c) : l.contains c = false := by
  cases hl : l.contains c with
  | false => rfl
  | true =>
    have := List.all_eq_true.mp h c (by simpa using hl)
    simp at this; omega
theorem rule_ok {ends marks more : List Nat} (h : ruleOk ends marks more = true) (c : Nat) : ends.contains c = (wspC c || dueE marks more c) := by
  unfold ruleOk at h
  simp only [Bool.and_eq_true] at h
  obtain ⟨⟨h1, h2⟩, h3⟩ := h
  by_cases hc : c < 128
  · have := List.all_eq_true.mp h1 c (List.mem_range.mpr hc)
    exact beq_iff_eq.mp this
  · rw [not_in h2 (by omega)]
    unfold dueE wspC
    rw [not_in h3 (by omega)]
    have a : (c == 32) = false := by simp; omega
    have b : (c == 9) = false := by simp; omega
    have d : decide (c < 127) = false := by simp; omega
    simp [a, b, d]
end Mine.Plain
/-! HeadA -/
namespace Mine
open PySem PySem.W PyProof.Rows PySem.Calls
set_option maxRecDepth 100000

section
variable {den : Code → Sem Fin} {prog : Program} {w : World}
theorem ni_running : ∀ (n : Nat) (s : Shared) (t : Thread) (s' : Shared) (t' : Thread), runNI den prog w n s t = .running s' t' →
    runNK den prog w n s t = .running s' t' ∧ ∀ k, k < n → ∀ s₁ t₁, runNK den prog w k s t = .running s₁ t₁ → t₁.calm = true
  | 0, s, t, s', t', h => ⟨h, fun k hk => by omega⟩
  | n + 1, s, t, s', t', h => by
    unfold runNI at h
    cases hl : t.loud with
    | true => rw [stepI_loud den prog w hl] at h; cases h
    | false =>
      rw [stepI_quiet den prog w hl] at h
      have hcalm : t.calm = true := by
        rw [Thread.calm_eq, hl]
        cases hr : t.refused with
        | false => rfl
        | true =>
          obtain ⟨what, e⟩ := stepK_refused den prog w (s := s) hr
          rw [e] at h; cases h
      cases hs : stepK den prog w s t with
      | halt o s₂ => rw [hs] at h; cases h
      | go s₂ t₂ =>
        rw [hs] at h
        obtain ⟨a, b⟩ := ni_running n s₂ t₂ s' t' h
        refine ⟨by unfold runNK; rw [hs]; exact a, fun k hk s₁ t₁ e => ?_⟩
        cases k with
        | zero => injection e with _ e; exact e ▸ hcalm
        | succ k =>
          unfold runNK at e
          rw [hs] at e
          exact b k (by omega) s₁ t₁ e

theorem sched_of_run : ∀ (n : Nat) (s : Shared) (t : Thread) (s' : Shared) (t' : Thread), s.asleep → runN den prog w n s t = .running s' t' → (∀ k, k < n → ∀ s₁ t₁, runN den prog w k s t = .running s₁ t₁ → t₁.calm = true) →
    schedN den prog w n (.single s t) = .running (.single s' t') ∧ s'.heap.life = s.heap.life
  | 0, s, t, s', t', _, h, _ => by
    obtain ⟨rfl, rfl⟩ : s = s' ∧ t = t' := by simpa [runN] using h
    exact ⟨rfl, rfl⟩
  | n + 1, s, t, s', t', hz, h, hc => by
    have hcalm := hc 0 (by omega) s t rfl
    unfold runN at h
    cases hs : step den prog w s t with
    | halt o s₂ => rw [hs] at h; cases h
    | go s₂ t₂ =>
      rw [hs] at h
      have hl := step_life den prog w s s₂ t t₂ hs
      obtain ⟨a, b⟩ := sched_of_run n s₂ t₂ s' t' (Shared.asleep_of_life hl hz) h fun k hk s₁ t₁ e => hc (k + 1) (by omega) s₁ t₁ (by unfold runN; rw [hs]; exact e)
      have e : sstep den prog w (.single s t) = .go (.single s₂ t₂) := by
        rcases sstep_single den prog w s t hcalm hz with e | e
        · rw [e, hs]; rfl
        · rw [hs] at e; cases e
      exact ⟨by simp only [schedN, e]; exact a, b.trans hl⟩

/-- a run of the ideal machine that comes to an empty stack is a run -/
theorem sched_of_ideal {n : Nat} {s s' : Shared} {t t' : Thread} (hz : s.asleep) (h : runNI den prog w n s t = .running s' t') (ht : t'.stack = []) (hg : s'.gens = #[]) :
    schedN den prog w n (.single s t) = .running (.single s' t') ∧ s'.heap.life = s.heap.life := by
  obtain ⟨a, b⟩ := ni_running n s t s' t' h
  have e := runNK_same den prog w n (s₁ := s) (s₂ := s) (t₁ := t) (t₂ := t) rfl rfl
  rw [a] at e
  cases hr : runN den prog w n s t with
  | halted o s₂ => rw [hr] at e; cases e
  | running s₂ t₂ =>
    rw [hr] at e
    simp only [Run.forget] at e
    injection e with e1 e2
    have es : s₂ = s' := Shared.eq_of_forget_eq e1.symm hg
    have et : t₂ = t' := by
      obtain ⟨c1, d1, p1, st1⟩ := t₂
      obtain ⟨c2, d2, p2, st2⟩ := t'
      simp only at ht
      subst ht
      simp only [Thread.forget, Thread.mk.injEq] at e2
      obtain ⟨rfl, rfl, rfl, q⟩ := e2
      have : st1 = [] := by
        cases st1 with
        | nil => rfl
        | cons x y => rw [forgetAll_cons, forgetAll_nil] at q; cases q
      rw [this]
    subst es et
    refine sched_of_run n s t _ _ hz hr fun k hk s₁ t₁ ek => ?_
    have e' := runNK_same den prog w k (s₁ := s) (s₂ := s) (t₁ := t) (t₂ := t) rfl rfl
    rw [ek] at e'
    cases hk' : runNK den prog w k s t with
    | halted o s₂ => rw [hk'] at e'; cases e'
    | running s₃ t₃ =>
      rw [hk'] at e'
      simp only [Run.forget] at e'
      injection e' with _ e3
      rw [← Thread.calm_forget t₁, ← e3, Thread.calm_forget]
      exact b k hk s₃ t₃ hk'
end

theorem runs_cons {M : Model} {Γ : Ctx} {p : Pos} {t : Sem Fin} {k : Result → Sem Fin} {hd : Option Value} {g : Bool} {l : List Value} {c₁ : Code} {p₁ : Pos} {kp : List Value} {s s' : Shared} {r : Result}
    (h : Runs M Γ p t [.ret k hd g l c₁ p₁ kp] s (.ret r) s') : ∃ r₁ s₁, Runs M (Γ.over [.ret k hd g l c₁ p₁ kp]) p t [] s (.ret r₁) s₁ ∧ Runs M (Γ.goto c₁) p₁ (k r₁) [] s₁ (.ret r) s' := by
  cases h with
  | segRet a b => exact ⟨_, _, a, b⟩
  | segSuspGen hs => simp [splitAtGen] at hs

theorem run_of_go {tb : String → Option Builtin} {p : Program} {w : World} {n₀ : Nat} {ann : Option Value} {b : Nat} : ∀ {n : Nat} {s s' : Shared} {t t' : Thread}, segGo tb p w n₀ ann b n s t = some (s', t') →
    runN (denote tb) p w n s t = .running s' t' ∧ ∀ k, k < n → ∀ s₁ t₁, runN (denote tb) p w k s t = .running s₁ t₁ → t₁.calm = true
  | 0, s, s', t, t', h => by
    obtain ⟨rfl, rfl⟩ : s = s' ∧ t = t' := by simpa [segGo] using h
    exact ⟨rfl, fun k hk => by omega⟩
  | n + 1, s, s', t, t', h => by
    unfold segGo at h
    cases he : endAt b t with
    | some f => rw [he] at h; cases h
    | none =>
      rw [he] at h
      cases hk : stepOk n₀ ann t with
      | false => rw [hk] at h; cases h
      | true =>
        rw [hk] at h
        cases hs : step (denote tb) p w s t with
        | halt o s₂ => rw [hs] at h; cases h
        | go s₂ t₂ =>
          rw [hs] at h
          obtain ⟨x, y⟩ := run_of_go h
          refine ⟨by unfold runN; rw [hs]; exact x, fun k hk' s₁ t₁ e => ?_⟩
          cases k with
          | zero => injection e with _ e; subst e; exact (Bool.and_eq_true_iff.mp hk).1
          | succ k =>
            unfold runN at e
            rw [hs] at e
            exact y k (by omega) s₁ t₁ e

theorem runN_one {den : Code → Sem Fin} {p : Program} {w : World} (n : Nat) (s : Shared) (t : Thread) : runN den p w (n + 1) s t = match step den p w s t with
    | .go s' t' => runN den p w n s' t'
    | .halt o s' => .halted o s' := rfl
theorem runN_add {den : Code → Sem Fin} {p : Program} {w : World} : ∀ {n m : Nat} {s s' : Shared} {t t' : Thread}, runN den p w n s t = .running s' t' → runN den p w (n + m) s t = runN den p w m s' t'
  | 0, m, s, s', t, t', h => by
    obtain ⟨rfl, rfl⟩ : s = s' ∧ t = t' := by simpa [runN] using h
    rw [Nat.zero_add]
  | n + 1, m, s, s', t, t', h => by
    rw [show n + 1 + m = n + m + 1 by omega, runN_one]
    rw [runN_one] at h
    cases hs : step den p w s t with
    | halt o s₂ => rw [hs] at h; cases h
    | go s₂ t₂ => rw [hs] at h; exact runN_add h

abbrev retFrame (q : Pos) : Frame := .ret leafOf none false [] (.builtin "claim.caller" {}) q []
theorem ctx_ret (c : Code) (q : Pos) : Ctx.of c [retFrame q] = Ctx.of c [topFrame q] := rfl

/-- what a run of a piece shows of it -/
theorem wp_of_go {p : Program} {w : World} {n₀ : Nat} {ann : Option Value} {n : Nat} {s s' : Shared} {l : List Stmt} {env : Env} {c c' : Code} {pos p' q : Pos}
    (h : segGo treeTable p w n₀ ann 1 n s (piecesOf l env c pos [retFrame q]) = some (s', ⟨doneF .next, c', p', [retFrame q]⟩)) (hg : s'.gens = #[]) :
    Sem.wp (model p w) (Ctx.of c [topFrame q]) (execs l env) (fun f _ s₁ => f = .next ∧ s₁ = s') (fun _ _ _ => False) pos s := by
  rw [← table_eq_tree] at h
  obtain ⟨hr, hc⟩ := run_of_go h
  have hlc : leftWithCleanup s'.gens = false := by rw [hg]; simp [leftWithCleanup]
  have e1 : step (denote table) p w s' ⟨doneF .next, c', p', [retFrame q]⟩ = .go s' ⟨leafOf (.ok .next), .builtin "claim.caller" {}, q, []⟩ := rfl
  have e2 : step (denote table) p w s' ⟨leafOf (.ok .next), .builtin "claim.caller" {}, q, []⟩ = .halt (.done .next) s' := by
    show finish _ _ = _
    unfold finish
    rw [hlc]; rfl
  have h2 : ∀ j, runN (denote table) p w (j + 2) s' ⟨doneF .next, c', p', [retFrame q]⟩ = .halted (outcomeOf (.ok .next)) s' := fun j => by
    rw [runN_one (j + 1), e1]
    dsimp only
    rw [runN_one j, e2]; rfl
  have hh : runN (denote table) p w (n + 2) s (piecesOf l env c pos [retFrame q]) = .halted (outcomeOf (.ok .next)) s' := by rw [runN_add hr, h2 0]
  have hcalm : ∀ k s₁ t₁, runN (denote table) p w k s (piecesOf l env c pos [retFrame q]) = .running s₁ t₁ → t₁.calm = true := fun k s₁ t₁ e => by
    rcases Nat.lt_or_ge k n with hk | hk
    · exact hc k hk s₁ t₁ e
    · obtain ⟨j, rfl⟩ := Nat.exists_eq_add_of_le hk
      rw [runN_add hr] at e
      match j, e with
      | 0, e => injection e with _ e; subst e; rfl
      | 1, e => injection e with _ e; subst e; rfl
      | j + 2, e => rw [h2 j] at e; cases e
  obtain ⟨m, s₂, hm, hf⟩ := (halts_real_iff (M := model p w) (r := .ok .next) (s := s) (t := (execs l env).wrap doneF deadEnd id id) (c := c) (p := pos) (st := [retFrame q]) s'.forget).mp ⟨n + 2, s', hh, rfl, hcalm⟩
  have hs2 : s₂ = s' := Shared.eq_of_forget_eq hf hg
  subst hs2
  obtain ⟨hR, _⟩ := halts_iff.mp ⟨m, hm⟩
  obtain ⟨r₁, s₁, ha, hb⟩ := runs_cons hR
  have hr1 : r₁ = .ok .next ∧ s₁ = s₂ := by
    cases r₁ with
    | error e => cases hb
    | ok f => cases hb; exact ⟨rfl, rfl⟩
  obtain ⟨rfl, rfl⟩ := hr1
  have hwp : Sem.wp (model p w) (Ctx.of c [topFrame q]) ((execs l env).wrap doneF deadEnd id id) (Sem.finPost (model p w) (Ctx.of c [topFrame q]) fun r s₃ => r = .ok .next ∧ s₃ = s₁) (fun e _ s₃ => (Except.error e : Result) = .ok .next ∧ s₃ = s₁) pos s := by
    refine (Sem.wp_iff_runs (model p w) (Ctx.of c [topFrame q]) _ (fun r s₃ => r = .ok .next ∧ s₃ = s₁) pos s).mpr ⟨.ok .next, s₁, ?_, rfl, rfl⟩
    have eo : Ctx.of c [topFrame q] = (⟨c, none, none, [], none⟩ : Ctx).over [retFrame q] := Ctx.of_append c [retFrame q] []
    rw [eo]; exact ha
  have key : ∀ (x : Sem Flow) (pos : Pos) (s : Shared), Sem.wp (model p w) (Ctx.of c [topFrame q]) (x.wrap doneF deadEnd id id) (Sem.finPost (model p w) (Ctx.of c [topFrame q]) fun r s₃ => r = .ok .next ∧ s₃ = s₁) (fun e _ s₃ => (Except.error e : Result) = .ok .next ∧ s₃ = s₁) pos s →
      Sem.wp (model p w) (Ctx.of c [topFrame q]) x (fun f _ s₃ => f = .next ∧ s₃ = s₁) (fun _ _ _ => False) pos s := by
    intro x
    induction x with
    | pure f => intro pos s h; exact ⟨by have := h.1; injection this, h.2⟩
    | raise e => intro pos s h; exact h.elim
    | unsupported | finish | yield | fork | await | register => intro pos s h; exact h
    | rule _ k ih | «at» _ k ih | alloc _ k ih | loadIfAlive _ k ih | point _ k ih | fresh k ih | ask k ih | os _ _ k ih | handled _ k ih | newGen _ k ih | stack k ih | thread k ih => intro pos s h; exact ih _ _ _ h
    | load a _ k ih | genState a k ih => rintro pos s ⟨o, ho, h⟩; exact ⟨o, ho, ih _ _ _ h⟩
    | update a _ f k ih | choose _ _ k ih => rintro pos s ⟨ha, h⟩; exact ⟨ha, ih _ _ _ h⟩
    | call c h g l k ih => rintro pos s ⟨r, s', a, b⟩; exact ⟨r, s', a, ih _ _ _ b⟩
    | resume g r l k ih => rintro pos s ⟨r, s', a, b⟩; exact ⟨r, s', a, ih _ _ _ b⟩
  exact key _ _ _ hwp

theorem wp_app {M : Model} {Γ : Ctx} {env : Env} {Q : Flow → Pos → Shared → Prop} {E : Value → Pos → Shared → Prop} (rest : List Stmt) : ∀ (l : List Stmt) (p : Pos) (s : Shared),
    Sem.wp M Γ (execs l env) (fun f p s => match f with | .next => Sem.wp M Γ (execs rest env) Q E p s | f => Q f p s) E p s → Sem.wp M Γ (execs (l ++ rest) env) Q E p s
  | [], p, s, h => h
  | st :: l, p, s, h => by
    rw [List.cons_append, execs_cons, Sem.wp_bind']
    rw [execs_cons, Sem.wp_bind'] at h
    refine Sem.wp_mono M Γ _ (fun f p' s' h' => ?_) (fun _ _ _ h' => h') _ _ h
    cases f <;> first | exact wp_app rest l p' s' h' | exact h'

/-- the body of a text, from its statements -/
theorem wp_body {p : Program} {w : World} {Γ : Ctx} {b : List Stmt} {env : Env} {R : Result → Shared → Prop} {E : Value → Pos → Shared → Prop} {pos : Pos} {s : Shared} (hb : blockStart b env = pure ())
    (h : Sem.wp (model p w) Γ (execs b env) (fun f _ s' => R (.ok f) s') (fun _ _ _ => False) pos s) :
    Sem.wp (model p w) Γ (denote table (.body b env)) (Sem.finPost (model p w) Γ R) E pos s := by
  show Sem.wp _ _ ((blockStart b env).bind (fun _ => ((execs b env).onRaise (leaving env)).bind fun f => (Sem.pure (Fin.done f) : Sem Fin))) _ _ _ _
  rw [hb]
  show Sem.wp _ _ (((execs b env).onRaise (leaving env)).bind fun f => (Sem.pure (Fin.done f) : Sem Fin)) _ _ _ _
  rw [Sem.wp_bind, Sem.wp_onRaise]
  exact Sem.wp_mono _ _ _ (fun f p' s' h' => h') (fun _ _ _ h' => h'.elim) _ _ h
end Mine
/-! TopS -/
namespace Mine
open PySem PySem.W PyProof.Rows
set_option Elab.async false
set_option maxRecDepth 100000
set_option linter.unusedVariables false
noncomputable section
abbrev prog : Program := PySem.Challenge.pw_lg0006_01
noncomputable def stIn : List Nat → List Stmt → Stmt
  | [], _ => .Pass default
  | i :: r, l => match l.drop i with
    | [] => .Pass default
    | st :: _ => match r with
      | [] => st
      | _ :: _ => match st with
        | .ClassDef _ _ _ b .. => stIn r b
        | _ => .Pass default
def stAt (r : List Nat) : Stmt := stIn r prog.main.body
def fParams : Stmt → Arguments
  | .FunctionDef _ a .. => a
  | _ => { posonlyargs := [], args := [], vararg := none, kwonlyargs := [], kw_defaults := [], kwarg := none, defaults := [] }
def fBody : Stmt → List Stmt
  | .FunctionDef _ _ b .. => b
  | _ => []
def fScope : Stmt → Scope
  | .FunctionDef _ _ _ _ _ _ sc .. => sc
  | _ => { kind := .function, names := [], isGenerator := false, isCoroutine := false, more := [] }
def topEnv : Env := { scope := prog.main.scope, locals := mainNs, globals := mainNs, cells := [], code := .ref 13, frame := some 14 }
def topCode : Code := .body (behindTheImports prog) topEnv
abbrev topB : List Frame := [topFrame ⟨0, 0, 0, 0⟩]
def qpre_11 (P : Params) : Obj := { cls := Value.type "tuple", data := Data.seq #[] }
def qpre_12 (P : Params) : Obj := { cls := Value.none, data := Data.fields #[] }
def qpre_13 (P : Params) : Obj := { cls := Value.type "code", data := Data.fields #[Value.str (Str.ofString "<module>") 182, Value.str (Str.ofString "<module>") 183, Value.str (Str.ofString "/claim/cut.py") 184, Value.int 1 0, Value.int 0 0, Value.int 0 0, Value.int 0 0, Value.int 0 0, Value.ref 11, Value.bool false, Value.int 181 0, Value.ref 12, Value.none, Value.none, Value.none, Value.none, Value.int 185 0, Value.int 1 0, Value.str (Str.ofString "/claim/cut.py") 186] }
def qpre_14 (P : Params) : Obj := { cls := Value.type "frame", slots := #[some (Value.ref 13), some (Value.ref 3), some (Value.ref 3), none, some (Value.str (Str.ofString "__main__") 164), none, some (Value.ref 0)] }
def tree_pre (P : Params) : BT := (.node (boot_o_0 P) (.node (boot_o_1 P) (.node (boot_o_3 P) (.node (boot_o_7 P) .nil .nil) (.node (qpre_11 P) .nil .nil)) (.node (boot_o_5 P) (.node (boot_o_9 P) .nil .nil) (.node (qpre_13 P) .nil .nil))) (.node (boot_o_2 P) (.node (boot_o_4 P) (.node (boot_o_8 P) .nil .nil) (.node (qpre_12 P) .nil .nil)) (.node (boot_o_6 P) (.node (boot_o_10 P) .nil .nil) (.node (qpre_14 P) .nil .nil))))
-- size 15 toks 187 
def q2_3 (P : Params) : Obj := { cls := Value.type "dict", data := Data.dict #[{ hash := PyData.keyHash P (Str.ofString "__name__"), key := Value.str (Str.ofString "__name__") 165, val := Value.str (Str.ofString "cpy313.email._header_value_parser") 194 }, { hash := PyData.keyHash P (Str.ofString "__doc__"), key := Value.str (Str.ofString "__doc__") 166, val := Value.none }, { hash := PyData.keyHash P (Str.ofString "__package__"), key := Value.str (Str.ofString "__package__") 167, val := Value.none }, { hash := PyData.keyHash P (Str.ofString "__loader__"), key := Value.str (Str.ofString "__loader__") 168, val := Value.builtin "__main__.__loader__#opaque" }, { hash := PyData.keyHash P (Str.ofString "__spec__"), key := Value.str (Str.ofString "__spec__") 169, val := Value.none }, { hash := PyData.keyHash P (Str.ofString "__annotations__"), key := Value.str (Str.ofString "__annotations__") 170, val := Value.ref 6 }, { hash := PyData.keyHash P (Str.ofString "__builtins__"), key := Value.str (Str.ofString "__builtins__") 171, val := Value.ref 4 }, { hash := PyData.keyHash P (Str.ofString "__file__"), key := Value.str (Str.ofString "__file__") 173, val := Value.str (Str.ofString "/claim/cut.py") 172 }, { hash := PyData.keyHash P (Str.ofString "__cached__"), key := Value.str (Str.ofString "__cached__") 174, val := Value.none }, { hash := PyData.keyHash P (Str.ofString "_wall"), key := Value.str (Str.ofString "_wall") 193, val := Value.ref 21 }, { hash := PyData.keyHash P (Str.ofString "_WSP"), key := Value.str (Str.ofString "_WSP") 197, val := Value.str (Str.ofString " \t") 196 }] 11 }
def q2_12 (P : Params) : Obj := { cls := Value.none, data := Data.fields #[Value.int 1 0, Value.int 0 0, Value.ref 20] }
def q2_15 (P : Params) : Obj := { cls := Value.type "tuple", data := Data.seq #[] }
def q2_16 (P : Params) : Obj := { cls := Value.none, data := Data.fields #[] }
def q2_17 (P : Params) : Obj := { cls := Value.type "tuple", data := Data.seq #[Value.str (Str.ofString "k") 190] }
def q2_18 (P : Params) : Obj := { cls := Value.type "tuple", data := Data.seq #[] }
def q2_19 (P : Params) : Obj := { cls := Value.none, data := Data.func { name := Str.ofString "_wall", qualname := Str.ofString "_wall", params := fParams (stAt [0]), body := FuncBody.stmts (fBody (stAt [0])), scope := fScope (stAt [0]), globals := 0, closure := [], defaults := Value.none, kwdefaults := Value.none } }
def q2_20 (P : Params) : Obj := { cls := Value.type "code", data := Data.fields #[Value.str (Str.ofString "_wall") 187, Value.str (Str.ofString "_wall") 188, Value.str (Str.ofString "/claim/cut.py") 189, Value.int 1 0, Value.int 1 0, Value.int 0 0, Value.int 0 0, Value.int 3 0, Value.ref 15, Value.bool true, Value.int 181 0, Value.ref 16, Value.none, Value.ref 17, Value.ref 18, Value.ref 19, Value.int 191 0, Value.int 1 0, Value.str (Str.ofString "/claim/cut.py") 192] }
def q2_21 (P : Params) : Obj := { cls := Value.type "function", data := Data.func { name := Str.ofString "_wall", qualname := Str.ofString "_wall", params := fParams (stAt [0]), body := FuncBody.stmts (fBody (stAt [0])), scope := fScope (stAt [0]), globals := 3, closure := [], defaults := Value.none, kwdefaults := Value.none, pyModule := Value.str (Str.ofString "__main__") 164, code := Value.ref 20 } }
def tree_2 (P : Params) : BT := (.node (boot_o_0 P) (.node (boot_o_1 P) (.node (q2_3 P) (.node (boot_o_7 P) (.node (q2_15 P) .nil .nil) .nil) (.node (qpre_11 P) (.node (q2_19 P) .nil .nil) .nil)) (.node (boot_o_5 P) (.node (boot_o_9 P) (.node (q2_17 P) .nil .nil) .nil) (.node (qpre_13 P) (.node (q2_21 P) .nil .nil) .nil))) (.node (boot_o_2 P) (.node (boot_o_4 P) (.node (boot_o_8 P) (.node (q2_16 P) .nil .nil) .nil) (.node (q2_12 P) (.node (q2_20 P) .nil .nil) .nil)) (.node (boot_o_6 P) (.node (boot_o_10 P) (.node (q2_18 P) .nil .nil) .nil) (.node (qpre_14 P) .nil .nil))))
-- size 22 toks 198 
def q15_3 (P : Params) : Obj := { cls := Value.type "dict", data := Data.dict #[{ hash := PyData.keyHash P (Str.ofString "__name__"), key := Value.str (Str.ofString "__name__") 165, val := Value.str (Str.ofString "cpy313.email._header_value_parser") 194 }, { hash := PyData.keyHash P (Str.ofString "__doc__"), key := Value.str (Str.ofString "__doc__") 166, val := Value.none }, { hash := PyData.keyHash P (Str.ofString "__package__"), key := Value.str (Str.ofString "__package__") 167, val := Value.none }, { hash := PyData.keyHash P (Str.ofString "__loader__"), key := Value.str (Str.ofString "__loader__") 168, val := Value.builtin "__main__.__loader__#opaque" }, { hash := PyData.keyHash P (Str.ofString "__spec__"), key := Value.str (Str.ofString "__spec__") 169, val := Value.none }, { hash := PyData.keyHash P (Str.ofString "__annotations__"), key := Value.str (Str.ofString "__annotations__") 170, val := Value.ref 6 }, { hash := PyData.keyHash P (Str.ofString "__builtins__"), key := Value.str (Str.ofString "__builtins__") 171, val := Value.ref 4 }, { hash := PyData.keyHash P (Str.ofString "__file__"), key := Value.str (Str.ofString "__file__") 173, val := Value.str (Str.ofString "/claim/cut.py") 172 }, { hash := PyData.keyHash P (Str.ofString "__cached__"), key := Value.str (Str.ofString "__cached__") 174, val := Value.none }, { hash := PyData.keyHash P (Str.ofString "_wall"), key := Value.str (Str.ofString "_wall") 193, val := Value.ref 21 }, { hash := PyData.keyHash P (Str.ofString "_WSP"), key := Value.str (Str.ofString "_WSP") 197, val := Value.str (Str.ofString " \t") 196 }, { hash := PyData.keyHash P (Str.ofString "WSP"), key := Value.str (Str.ofString "WSP") 202, val := Value.ref 22 }, { hash := PyData.keyHash P (Str.ofString "CFWS_LEADER"), key := Value.str (Str.ofString "CFWS_LEADER") 206, val := Value.ref 30 }, { hash := PyData.keyHash P (Str.ofString "SPECIALS"), key := Value.str (Str.ofString "SPECIALS") 234, val := Value.ref 31 }, { hash := PyData.keyHash P (Str.ofString "ATOM_ENDS"), key := Value.str (Str.ofString "ATOM_ENDS") 235, val := Value.ref 35 }, { hash := PyData.keyHash P (Str.ofString "DOT_ATOM_ENDS"), key := Value.str (Str.ofString "DOT_ATOM_ENDS") 239, val := Value.ref 40 }, { hash := PyData.keyHash P (Str.ofString "PHRASE_ENDS"), key := Value.str (Str.ofString "PHRASE_ENDS") 247, val := Value.ref 45 }, { hash := PyData.keyHash P (Str.ofString "TSPECIALS"), key := Value.str (Str.ofString "TSPECIALS") 258, val := Value.ref 55 }, { hash := PyData.keyHash P (Str.ofString "TOKEN_ENDS"), key := Value.str (Str.ofString "TOKEN_ENDS") 259, val := Value.ref 56 }, { hash := PyData.keyHash P (Str.ofString "ASPECIALS"), key := Value.str (Str.ofString "ASPECIALS") 267, val := Value.ref 61 }, { hash := PyData.keyHash P (Str.ofString "ATTRIBUTE_ENDS"), key := Value.str (Str.ofString "ATTRIBUTE_ENDS") 268, val := Value.ref 62 }, { hash := PyData.keyHash P (Str.ofString "EXTENDED_ATTRIBUTE_ENDS"), key := Value.str (Str.ofString "EXTENDED_ATTRIBUTE_ENDS") 272, val := Value.ref 67 }, { hash := PyData.keyHash P (Str.ofString "NLSET"), key := Value.str (Str.ofString "NLSET") 277, val := Value.ref 68 }, { hash := PyData.keyHash P (Str.ofString "SPECIALSNL"), key := Value.str (Str.ofString "SPECIALSNL") 278, val := Value.ref 69 }] 24 }
def tree_15 (P : Params) (X : Nat → Obj) : BT := (.node (boot_o_0 P) (.node (boot_o_1 P) (.node (q15_3 P) (.node (boot_o_7 P) (.node (q2_15 P) (.node (X 31) (.node (X 63) .nil .nil) .nil) (.node (X 47) .nil .nil)) (.node (X 23) (.node (X 39) .nil .nil) (.node (X 55) .nil .nil))) (.node (qpre_11 P) (.node (q2_19 P) (.node (X 35) (.node (X 67) .nil .nil) .nil) (.node (X 51) .nil .nil)) (.node (X 27) (.node (X 43) .nil .nil) (.node (X 59) .nil .nil)))) (.node (boot_o_5 P) (.node (boot_o_9 P) (.node (q2_17 P) (.node (X 33) (.node (X 65) .nil .nil) .nil) (.node (X 49) .nil .nil)) (.node (X 25) (.node (X 41) .nil .nil) (.node (X 57) .nil .nil))) (.node (qpre_13 P) (.node (q2_21 P) (.node (X 37) (.node (X 69) .nil .nil) .nil) (.node (X 53) .nil .nil)) (.node (X 29) (.node (X 45) .nil .nil) (.node (X 61) .nil .nil))))) (.node (boot_o_2 P) (.node (boot_o_4 P) (.node (boot_o_8 P) (.node (q2_16 P) (.node (X 32) (.node (X 64) .nil .nil) .nil) (.node (X 48) .nil .nil)) (.node (X 24) (.node (X 40) .nil .nil) (.node (X 56) .nil .nil))) (.node (q2_12 P) (.node (q2_20 P) (.node (X 36) (.node (X 68) .nil .nil) .nil) (.node (X 52) .nil .nil)) (.node (X 28) (.node (X 44) .nil .nil) (.node (X 60) .nil .nil)))) (.node (boot_o_6 P) (.node (boot_o_10 P) (.node (q2_18 P) (.node (X 34) (.node (X 66) .nil .nil) .nil) (.node (X 50) .nil .nil)) (.node (X 26) (.node (X 42) .nil .nil) (.node (X 58) .nil .nil))) (.node (qpre_14 P) (.node (X 22) (.node (X 38) .nil .nil) (.node (X 54) .nil .nil)) (.node (X 30) (.node (X 46) .nil .nil) (.node (X 62) .nil .nil))))))
-- size 70 toks 279 
def q16_2 (P : Params) : Obj := { cls := Value.none, data := Data.dict #[{ hash := PyData.keyHash P (Str.ofString "type.__subclasses__.str.0"), key := Value.str (Str.ofString "type.__subclasses__.str.0") 369, val := Value.int 141 0 }, { hash := PyData.keyHash P (Str.ofString "type.__subclasses__.str.n"), key := Value.str (Str.ofString "type.__subclasses__.str.n") 370, val := Value.int 1 0 }] 2 }
def q16_3 (P : Params) : Obj := { cls := Value.type "dict", data := Data.dict #[{ hash := PyData.keyHash P (Str.ofString "__name__"), key := Value.str (Str.ofString "__name__") 165, val := Value.str (Str.ofString "cpy313.email._header_value_parser") 194 }, { hash := PyData.keyHash P (Str.ofString "__doc__"), key := Value.str (Str.ofString "__doc__") 166, val := Value.none }, { hash := PyData.keyHash P (Str.ofString "__package__"), key := Value.str (Str.ofString "__package__") 167, val := Value.none }, { hash := PyData.keyHash P (Str.ofString "__loader__"), key := Value.str (Str.ofString "__loader__") 168, val := Value.builtin "__main__.__loader__#opaque" }, { hash := PyData.keyHash P (Str.ofString "__spec__"), key := Value.str (Str.ofString "__spec__") 169, val := Value.none }, { hash := PyData.keyHash P (Str.ofString "__annotations__"), key := Value.str (Str.ofString "__annotations__") 170, val := Value.ref 6 }, { hash := PyData.keyHash P (Str.ofString "__builtins__"), key := Value.str (Str.ofString "__builtins__") 171, val := Value.ref 4 }, { hash := PyData.keyHash P (Str.ofString "__file__"), key := Value.str (Str.ofString "__file__") 173, val := Value.str (Str.ofString "/claim/cut.py") 172 }, { hash := PyData.keyHash P (Str.ofString "__cached__"), key := Value.str (Str.ofString "__cached__") 174, val := Value.none }, { hash := PyData.keyHash P (Str.ofString "_wall"), key := Value.str (Str.ofString "_wall") 193, val := Value.ref 21 }, { hash := PyData.keyHash P (Str.ofString "_WSP"), key := Value.str (Str.ofString "_WSP") 197, val := Value.str (Str.ofString " \t") 196 }, { hash := PyData.keyHash P (Str.ofString "WSP"), key := Value.str (Str.ofString "WSP") 202, val := Value.ref 22 }, { hash := PyData.keyHash P (Str.ofString "CFWS_LEADER"), key := Value.str (Str.ofString "CFWS_LEADER") 206, val := Value.ref 30 }, { hash := PyData.keyHash P (Str.ofString "SPECIALS"), key := Value.str (Str.ofString "SPECIALS") 234, val := Value.ref 31 }, { hash := PyData.keyHash P (Str.ofString "ATOM_ENDS"), key := Value.str (Str.ofString "ATOM_ENDS") 235, val := Value.ref 35 }, { hash := PyData.keyHash P (Str.ofString "DOT_ATOM_ENDS"), key := Value.str (Str.ofString "DOT_ATOM_ENDS") 239, val := Value.ref 40 }, { hash := PyData.keyHash P (Str.ofString "PHRASE_ENDS"), key := Value.str (Str.ofString "PHRASE_ENDS") 247, val := Value.ref 45 }, { hash := PyData.keyHash P (Str.ofString "TSPECIALS"), key := Value.str (Str.ofString "TSPECIALS") 258, val := Value.ref 55 }, { hash := PyData.keyHash P (Str.ofString "TOKEN_ENDS"), key := Value.str (Str.ofString "TOKEN_ENDS") 259, val := Value.ref 56 }, { hash := PyData.keyHash P (Str.ofString "ASPECIALS"), key := Value.str (Str.ofString "ASPECIALS") 267, val := Value.ref 61 }, { hash := PyData.keyHash P (Str.ofString "ATTRIBUTE_ENDS"), key := Value.str (Str.ofString "ATTRIBUTE_ENDS") 268, val := Value.ref 62 }, { hash := PyData.keyHash P (Str.ofString "EXTENDED_ATTRIBUTE_ENDS"), key := Value.str (Str.ofString "EXTENDED_ATTRIBUTE_ENDS") 272, val := Value.ref 67 }, { hash := PyData.keyHash P (Str.ofString "NLSET"), key := Value.str (Str.ofString "NLSET") 277, val := Value.ref 68 }, { hash := PyData.keyHash P (Str.ofString "SPECIALSNL"), key := Value.str (Str.ofString "SPECIALSNL") 278, val := Value.ref 69 }, { hash := PyData.keyHash P (Str.ofString "Terminal"), key := Value.str (Str.ofString "Terminal") 372, val := Value.ref 141 }] 25 }
def q16_12 (P : Params) : Obj := { cls := Value.none, data := Data.fields #[Value.int 1 0, Value.int 0 0, Value.ref 20, Value.int 19 0, Value.int 0 0, Value.ref 76] }
def q16_70 (P : Params) : Obj := { cls := Value.type "tuple", data := Data.seq #[Value.type "str"] }
def q16_71 (P : Params) : Obj := { cls := Value.type "builtin_function_or_method", data := Data.fields #[Value.builtin "type.__prepare__", Value.type "type"] }
def q16_72 (P : Params) : Obj := { cls := Value.type "dict", data := Data.dict #[{ hash := PyData.keyHash P (Str.ofString "__module__"), key := Value.str (Str.ofString "__module__") 286, val := Value.str (Str.ofString "cpy313.email._header_value_parser") 194 }, { hash := PyData.keyHash P (Str.ofString "__qualname__"), key := Value.str (Str.ofString "__qualname__") 288, val := Value.str (Str.ofString "Terminal") 287 }, { hash := PyData.keyHash P (Str.ofString "__firstlineno__"), key := Value.str (Str.ofString "__firstlineno__") 290, val := Value.int 19 289 }, { hash := PyData.keyHash P (Str.ofString "as_ew_allowed"), key := Value.str (Str.ofString "as_ew_allowed") 291, val := Value.bool true }, { hash := PyData.keyHash P (Str.ofString "ew_combine_allowed"), key := Value.str (Str.ofString "ew_combine_allowed") 292, val := Value.bool true }, { hash := PyData.keyHash P (Str.ofString "syntactic_break"), key := Value.str (Str.ofString "syntactic_break") 293, val := Value.bool true }, { hash := PyData.keyHash P (Str.ofString "__new__"), key := Value.str (Str.ofString "__new__") 304, val := Value.ref 85 }, { hash := PyData.keyHash P (Str.ofString "__repr__"), key := Value.str (Str.ofString "__repr__") 312, val := Value.ref 93 }, { hash := PyData.keyHash P (Str.ofString "pprint"), key := Value.str (Str.ofString "pprint") 319, val := Value.ref 100 }, { hash := PyData.keyHash P (Str.ofString "all_defects"), key := Value.str (Str.ofString "all_defects") 327, val := Value.ref 108 }, { hash := PyData.keyHash P (Str.ofString "_pp"), key := Value.str (Str.ofString "_pp") 336, val := Value.ref 116 }, { hash := PyData.keyHash P (Str.ofString "pop_trailing_ws"), key := Value.str (Str.ofString "pop_trailing_ws") 343, val := Value.ref 123 }, { hash := PyData.keyHash P (Str.ofString "comments"), key := Value.str (Str.ofString "comments") 351, val := Value.ref 131 }, { hash := PyData.keyHash P (Str.ofString "__getnewargs__"), key := Value.str (Str.ofString "__getnewargs__") 358, val := Value.ref 138 }, { hash := PyData.keyHash P (Str.ofString "__static_attributes__"), key := Value.str (Str.ofString "__static_attributes__") 361, val := Value.ref 139 }, { hash := PyData.keyHash P (Str.ofString "__classcell__"), key := Value.str (Str.ofString "__classcell__") 362, val := Value.ref 73 }] 16 }
def q16_73 (P : Params) : Obj := { cls := Value.type "cell", data := Data.cell (some (Value.ref 141)) }
def q16_74 (P : Params) : Obj := { cls := Value.type "tuple", data := Data.seq #[] }
def q16_75 (P : Params) : Obj := { cls := Value.none, data := Data.fields #[Value.int 24 0, Value.int 4 0, Value.ref 84, Value.int 30 0, Value.int 4 0, Value.ref 92, Value.int 33 0, Value.int 4 0, Value.ref 99, Value.int 37 0, Value.int 4 0, Value.ref 106, Value.int 40 0, Value.int 4 0, Value.ref 115, Value.int 43 0, Value.int 4 0, Value.ref 122, Value.int 47 0, Value.int 4 0, Value.ref 129, Value.int 50 0, Value.int 4 0, Value.ref 137] }
def q16_76 (P : Params) : Obj := { cls := Value.type "code", data := Data.fields #[Value.str (Str.ofString "Terminal") 281, Value.str (Str.ofString "Terminal") 282, Value.str (Str.ofString "/claim/cut.py") 283, Value.int 19 0, Value.int 0 0, Value.int 0 0, Value.int 0 0, Value.int 0 0, Value.ref 74, Value.bool false, Value.int 181 0, Value.ref 75, Value.none, Value.none, Value.none, Value.none, Value.int 284 0, Value.int 19 0, Value.str (Str.ofString "/claim/cut.py") 285] }
def q16_77 (P : Params) : Obj := { cls := Value.type "frame", slots := #[some (Value.ref 76), some (Value.ref 3), some (Value.ref 72), none, some (Value.str (Str.ofString "cpy313.email._header_value_parser") 194), none, some (Value.ref 0)] }
def q16_78 (P : Params) : Obj := { cls := Value.type "tuple", data := Data.seq #[Value.ref 73] }
def q16_79 (P : Params) : Obj := { cls := Value.type "tuple", data := Data.seq #[Value.str (Str.ofString "__class__") 297] }
def q16_80 (P : Params) : Obj := { cls := Value.none, data := Data.fields #[] }
def q16_81 (P : Params) : Obj := { cls := Value.type "tuple", data := Data.seq #[Value.str (Str.ofString "cls") 298, Value.str (Str.ofString "value") 299, Value.str (Str.ofString "token_type") 300, Value.str (Str.ofString "self") 301] }
def q16_82 (P : Params) : Obj := { cls := Value.type "tuple", data := Data.seq #[] }
def q16_83 (P : Params) : Obj := { cls := Value.none, data := Data.func { name := Str.ofString "__new__", qualname := Str.ofString "Terminal.__new__", params := fParams (stAt [16, 3]), body := FuncBody.stmts (fBody (stAt [16, 3])), scope := fScope (stAt [16, 3]), globals := 0, closure := [], defaults := Value.none, kwdefaults := Value.none } }
def q16_84 (P : Params) : Obj := { cls := Value.type "code", data := Data.fields #[Value.str (Str.ofString "__new__") 294, Value.str (Str.ofString "Terminal.__new__") 295, Value.str (Str.ofString "/claim/cut.py") 296, Value.int 24 0, Value.int 3 0, Value.int 0 0, Value.int 0 0, Value.int 3 0, Value.ref 79, Value.bool true, Value.int 181 0, Value.ref 80, Value.none, Value.ref 81, Value.ref 82, Value.ref 83, Value.int 302 0, Value.int 24 0, Value.str (Str.ofString "/claim/cut.py") 303] }
def q16_85 (P : Params) : Obj := { cls := Value.type "function", data := Data.func { name := Str.ofString "__new__", qualname := Str.ofString "Terminal.__new__", params := fParams (stAt [16, 3]), body := FuncBody.stmts (fBody (stAt [16, 3])), scope := fScope (stAt [16, 3]), globals := 3, closure := [(Str.ofString "__class__", 73)], defaults := Value.none, kwdefaults := Value.none, pyModule := Value.str (Str.ofString "cpy313.email._header_value_parser") 194, code := Value.ref 84, closureTuple := Value.ref 78 } }
def q16_86 (P : Params) : Obj := { cls := Value.type "tuple", data := Data.seq #[Value.ref 73] }
def q16_87 (P : Params) : Obj := { cls := Value.type "tuple", data := Data.seq #[Value.str (Str.ofString "__class__") 308] }
def q16_88 (P : Params) : Obj := { cls := Value.none, data := Data.fields #[] }
def q16_89 (P : Params) : Obj := { cls := Value.type "tuple", data := Data.seq #[Value.str (Str.ofString "self") 309] }
def q16_90 (P : Params) : Obj := { cls := Value.type "tuple", data := Data.seq #[] }
def q16_91 (P : Params) : Obj := { cls := Value.none, data := Data.func { name := Str.ofString "__repr__", qualname := Str.ofString "Terminal.__repr__", params := fParams (stAt [16, 4]), body := FuncBody.stmts (fBody (stAt [16, 4])), scope := fScope (stAt [16, 4]), globals := 0, closure := [], defaults := Value.none, kwdefaults := Value.none } }
def q16_92 (P : Params) : Obj := { cls := Value.type "code", data := Data.fields #[Value.str (Str.ofString "__repr__") 305, Value.str (Str.ofString "Terminal.__repr__") 306, Value.str (Str.ofString "/claim/cut.py") 307, Value.int 30 0, Value.int 1 0, Value.int 0 0, Value.int 0 0, Value.int 3 0, Value.ref 87, Value.bool true, Value.int 181 0, Value.ref 88, Value.none, Value.ref 89, Value.ref 90, Value.ref 91, Value.int 310 0, Value.int 30 0, Value.str (Str.ofString "/claim/cut.py") 311] }
def q16_93 (P : Params) : Obj := { cls := Value.type "function", data := Data.func { name := Str.ofString "__repr__", qualname := Str.ofString "Terminal.__repr__", params := fParams (stAt [16, 4]), body := FuncBody.stmts (fBody (stAt [16, 4])), scope := fScope (stAt [16, 4]), globals := 3, closure := [(Str.ofString "__class__", 73)], defaults := Value.none, kwdefaults := Value.none, pyModule := Value.str (Str.ofString "cpy313.email._header_value_parser") 194, code := Value.ref 92, closureTuple := Value.ref 86 } }
def q16_94 (P : Params) : Obj := { cls := Value.type "tuple", data := Data.seq #[] }
def q16_95 (P : Params) : Obj := { cls := Value.none, data := Data.fields #[] }
def q16_96 (P : Params) : Obj := { cls := Value.type "tuple", data := Data.seq #[Value.str (Str.ofString "self") 316] }
def q16_97 (P : Params) : Obj := { cls := Value.type "tuple", data := Data.seq #[] }
def q16_98 (P : Params) : Obj := { cls := Value.none, data := Data.func { name := Str.ofString "pprint", qualname := Str.ofString "Terminal.pprint", params := fParams (stAt [16, 5]), body := FuncBody.stmts (fBody (stAt [16, 5])), scope := fScope (stAt [16, 5]), globals := 0, closure := [], defaults := Value.none, kwdefaults := Value.none } }
def q16_99 (P : Params) : Obj := { cls := Value.type "code", data := Data.fields #[Value.str (Str.ofString "pprint") 313, Value.str (Str.ofString "Terminal.pprint") 314, Value.str (Str.ofString "/claim/cut.py") 315, Value.int 33 0, Value.int 1 0, Value.int 0 0, Value.int 0 0, Value.int 3 0, Value.ref 94, Value.bool true, Value.int 181 0, Value.ref 95, Value.none, Value.ref 96, Value.ref 97, Value.ref 98, Value.int 317 0, Value.int 33 0, Value.str (Str.ofString "/claim/cut.py") 318] }
def q16_100 (P : Params) : Obj := { cls := Value.type "function", data := Data.func { name := Str.ofString "pprint", qualname := Str.ofString "Terminal.pprint", params := fParams (stAt [16, 5]), body := FuncBody.stmts (fBody (stAt [16, 5])), scope := fScope (stAt [16, 5]), globals := 3, closure := [], defaults := Value.none, kwdefaults := Value.none, pyModule := Value.str (Str.ofString "cpy313.email._header_value_parser") 194, code := Value.ref 99 } }
def q16_101 (P : Params) : Obj := { cls := Value.type "tuple", data := Data.seq #[] }
def q16_102 (P : Params) : Obj := { cls := Value.none, data := Data.fields #[] }
def q16_103 (P : Params) : Obj := { cls := Value.type "tuple", data := Data.seq #[Value.str (Str.ofString "self") 323] }
def q16_104 (P : Params) : Obj := { cls := Value.type "tuple", data := Data.seq #[] }
def q16_105 (P : Params) : Obj := { cls := Value.none, data := Data.func { name := Str.ofString "all_defects", qualname := Str.ofString "Terminal.all_defects", params := fParams (stAt [16, 6]), body := FuncBody.stmts (fBody (stAt [16, 6])), scope := fScope (stAt [16, 6]), globals := 0, closure := [], defaults := Value.none, kwdefaults := Value.none } }
def q16_106 (P : Params) : Obj := { cls := Value.type "code", data := Data.fields #[Value.str (Str.ofString "all_defects") 320, Value.str (Str.ofString "Terminal.all_defects") 321, Value.str (Str.ofString "/claim/cut.py") 322, Value.int 36 0, Value.int 1 0, Value.int 0 0, Value.int 0 0, Value.int 3 0, Value.ref 101, Value.bool true, Value.int 181 0, Value.ref 102, Value.none, Value.ref 103, Value.ref 104, Value.ref 105, Value.int 324 0, Value.int 36 0, Value.str (Str.ofString "/claim/cut.py") 325] }
def q16_107 (P : Params) : Obj := { cls := Value.type "function", data := Data.func { name := Str.ofString "all_defects", qualname := Str.ofString "Terminal.all_defects", params := fParams (stAt [16, 6]), body := FuncBody.stmts (fBody (stAt [16, 6])), scope := fScope (stAt [16, 6]), globals := 3, closure := [], defaults := Value.none, kwdefaults := Value.none, pyModule := Value.str (Str.ofString "cpy313.email._header_value_parser") 194, code := Value.ref 106 } }
def q16_108 (P : Params) : Obj := { cls := Value.type "property", data := Data.fields #[Value.ref 107, Value.none, Value.none, Value.none, Value.str (Str.ofString "all_defects") 327, Value.bool false] }
def q16_109 (P : Params) : Obj := { cls := Value.type "tuple", data := Data.seq #[Value.str (Str.ofString "") 328] }
def q16_110 (P : Params) : Obj := { cls := Value.type "tuple", data := Data.seq #[] }
def q16_111 (P : Params) : Obj := { cls := Value.none, data := Data.fields #[] }
def q16_112 (P : Params) : Obj := { cls := Value.type "tuple", data := Data.seq #[Value.str (Str.ofString "self") 332, Value.str (Str.ofString "indent") 333] }
def q16_113 (P : Params) : Obj := { cls := Value.type "tuple", data := Data.seq #[] }
def q16_114 (P : Params) : Obj := { cls := Value.none, data := Data.func { name := Str.ofString "_pp", qualname := Str.ofString "Terminal._pp", params := fParams (stAt [16, 7]), body := FuncBody.stmts (fBody (stAt [16, 7])), scope := fScope (stAt [16, 7]), globals := 0, closure := [], defaults := Value.none, kwdefaults := Value.none } }
def q16_115 (P : Params) : Obj := { cls := Value.type "code", data := Data.fields #[Value.str (Str.ofString "_pp") 329, Value.str (Str.ofString "Terminal._pp") 330, Value.str (Str.ofString "/claim/cut.py") 331, Value.int 40 0, Value.int 2 0, Value.int 0 0, Value.int 0 0, Value.int 3 0, Value.ref 110, Value.bool true, Value.int 181 0, Value.ref 111, Value.none, Value.ref 112, Value.ref 113, Value.ref 114, Value.int 334 0, Value.int 40 0, Value.str (Str.ofString "/claim/cut.py") 335] }
def q16_116 (P : Params) : Obj := { cls := Value.type "function", data := Data.func { name := Str.ofString "_pp", qualname := Str.ofString "Terminal._pp", params := fParams (stAt [16, 7]), body := FuncBody.stmts (fBody (stAt [16, 7])), scope := fScope (stAt [16, 7]), globals := 3, closure := [], defaults := Value.ref 109, kwdefaults := Value.none, pyModule := Value.str (Str.ofString "cpy313.email._header_value_parser") 194, code := Value.ref 115 } }
def q16_117 (P : Params) : Obj := { cls := Value.type "tuple", data := Data.seq #[] }
def q16_118 (P : Params) : Obj := { cls := Value.none, data := Data.fields #[] }
def q16_119 (P : Params) : Obj := { cls := Value.type "tuple", data := Data.seq #[Value.str (Str.ofString "self") 340] }
def q16_120 (P : Params) : Obj := { cls := Value.type "tuple", data := Data.seq #[] }
def q16_121 (P : Params) : Obj := { cls := Value.none, data := Data.func { name := Str.ofString "pop_trailing_ws", qualname := Str.ofString "Terminal.pop_trailing_ws", params := fParams (stAt [16, 8]), body := FuncBody.stmts (fBody (stAt [16, 8])), scope := fScope (stAt [16, 8]), globals := 0, closure := [], defaults := Value.none, kwdefaults := Value.none } }
def q16_122 (P : Params) : Obj := { cls := Value.type "code", data := Data.fields #[Value.str (Str.ofString "pop_trailing_ws") 337, Value.str (Str.ofString "Terminal.pop_trailing_ws") 338, Value.str (Str.ofString "/claim/cut.py") 339, Value.int 43 0, Value.int 1 0, Value.int 0 0, Value.int 0 0, Value.int 3 0, Value.ref 117, Value.bool true, Value.int 181 0, Value.ref 118, Value.none, Value.ref 119, Value.ref 120, Value.ref 121, Value.int 341 0, Value.int 43 0, Value.str (Str.ofString "/claim/cut.py") 342] }
def q16_123 (P : Params) : Obj := { cls := Value.type "function", data := Data.func { name := Str.ofString "pop_trailing_ws", qualname := Str.ofString "Terminal.pop_trailing_ws", params := fParams (stAt [16, 8]), body := FuncBody.stmts (fBody (stAt [16, 8])), scope := fScope (stAt [16, 8]), globals := 3, closure := [], defaults := Value.none, kwdefaults := Value.none, pyModule := Value.str (Str.ofString "cpy313.email._header_value_parser") 194, code := Value.ref 122 } }
def q16_124 (P : Params) : Obj := { cls := Value.type "tuple", data := Data.seq #[] }
def q16_125 (P : Params) : Obj := { cls := Value.none, data := Data.fields #[] }
def q16_126 (P : Params) : Obj := { cls := Value.type "tuple", data := Data.seq #[Value.str (Str.ofString "self") 347] }
def q16_127 (P : Params) : Obj := { cls := Value.type "tuple", data := Data.seq #[] }
def q16_128 (P : Params) : Obj := { cls := Value.none, data := Data.func { name := Str.ofString "comments", qualname := Str.ofString "Terminal.comments", params := fParams (stAt [16, 9]), body := FuncBody.stmts (fBody (stAt [16, 9])), scope := fScope (stAt [16, 9]), globals := 0, closure := [], defaults := Value.none, kwdefaults := Value.none } }
def q16_129 (P : Params) : Obj := { cls := Value.type "code", data := Data.fields #[Value.str (Str.ofString "comments") 344, Value.str (Str.ofString "Terminal.comments") 345, Value.str (Str.ofString "/claim/cut.py") 346, Value.int 46 0, Value.int 1 0, Value.int 0 0, Value.int 0 0, Value.int 3 0, Value.ref 124, Value.bool true, Value.int 181 0, Value.ref 125, Value.none, Value.ref 126, Value.ref 127, Value.ref 128, Value.int 348 0, Value.int 46 0, Value.str (Str.ofString "/claim/cut.py") 349] }
def q16_130 (P : Params) : Obj := { cls := Value.type "function", data := Data.func { name := Str.ofString "comments", qualname := Str.ofString "Terminal.comments", params := fParams (stAt [16, 9]), body := FuncBody.stmts (fBody (stAt [16, 9])), scope := fScope (stAt [16, 9]), globals := 3, closure := [], defaults := Value.none, kwdefaults := Value.none, pyModule := Value.str (Str.ofString "cpy313.email._header_value_parser") 194, code := Value.ref 129 } }
def q16_131 (P : Params) : Obj := { cls := Value.type "property", data := Data.fields #[Value.ref 130, Value.none, Value.none, Value.none, Value.str (Str.ofString "comments") 351, Value.bool false] }
def q16_132 (P : Params) : Obj := { cls := Value.type "tuple", data := Data.seq #[] }
def q16_133 (P : Params) : Obj := { cls := Value.none, data := Data.fields #[] }
def q16_134 (P : Params) : Obj := { cls := Value.type "tuple", data := Data.seq #[Value.str (Str.ofString "self") 355] }
def q16_135 (P : Params) : Obj := { cls := Value.type "tuple", data := Data.seq #[] }
def q16_136 (P : Params) : Obj := { cls := Value.none, data := Data.func { name := Str.ofString "__getnewargs__", qualname := Str.ofString "Terminal.__getnewargs__", params := fParams (stAt [16, 10]), body := FuncBody.stmts (fBody (stAt [16, 10])), scope := fScope (stAt [16, 10]), globals := 0, closure := [], defaults := Value.none, kwdefaults := Value.none } }
def q16_137 (P : Params) : Obj := { cls := Value.type "code", data := Data.fields #[Value.str (Str.ofString "__getnewargs__") 352, Value.str (Str.ofString "Terminal.__getnewargs__") 353, Value.str (Str.ofString "/claim/cut.py") 354, Value.int 50 0, Value.int 1 0, Value.int 0 0, Value.int 0 0, Value.int 3 0, Value.ref 132, Value.bool true, Value.int 181 0, Value.ref 133, Value.none, Value.ref 134, Value.ref 135, Value.ref 136, Value.int 356 0, Value.int 50 0, Value.str (Str.ofString "/claim/cut.py") 357] }
def q16_138 (P : Params) : Obj := { cls := Value.type "function", data := Data.func { name := Str.ofString "__getnewargs__", qualname := Str.ofString "Terminal.__getnewargs__", params := fParams (stAt [16, 10]), body := FuncBody.stmts (fBody (stAt [16, 10])), scope := fScope (stAt [16, 10]), globals := 3, closure := [], defaults := Value.none, kwdefaults := Value.none, pyModule := Value.str (Str.ofString "cpy313.email._header_value_parser") 194, code := Value.ref 137 } }
def q16_139 (P : Params) : Obj := { cls := Value.type "tuple", data := Data.seq #[Value.str (Str.ofString "defects") 359, Value.str (Str.ofString "token_type") 360] }
def q16_140 (P : Params) : Obj := { cls := Value.type "dict", data := Data.dict #[{ hash := PyData.keyHash P (Str.ofString "__module__"), key := Value.str (Str.ofString "__module__") 286, val := Value.str (Str.ofString "cpy313.email._header_value_parser") 194 }, { hash := PyData.keyHash P (Str.ofString "__firstlineno__"), key := Value.str (Str.ofString "__firstlineno__") 290, val := Value.int 19 289 }, { hash := PyData.keyHash P (Str.ofString "as_ew_allowed"), key := Value.str (Str.ofString "as_ew_allowed") 291, val := Value.bool true }, { hash := PyData.keyHash P (Str.ofString "ew_combine_allowed"), key := Value.str (Str.ofString "ew_combine_allowed") 292, val := Value.bool true }, { hash := PyData.keyHash P (Str.ofString "syntactic_break"), key := Value.str (Str.ofString "syntactic_break") 293, val := Value.bool true }, { hash := PyData.keyHash P (Str.ofString "__new__"), key := Value.str (Str.ofString "__new__") 304, val := Value.ref 142 }, { hash := PyData.keyHash P (Str.ofString "__repr__"), key := Value.str (Str.ofString "__repr__") 312, val := Value.ref 93 }, { hash := PyData.keyHash P (Str.ofString "pprint"), key := Value.str (Str.ofString "pprint") 319, val := Value.ref 100 }, { hash := PyData.keyHash P (Str.ofString "all_defects"), key := Value.str (Str.ofString "all_defects") 327, val := Value.ref 108 }, { hash := PyData.keyHash P (Str.ofString "_pp"), key := Value.str (Str.ofString "_pp") 336, val := Value.ref 116 }, { hash := PyData.keyHash P (Str.ofString "pop_trailing_ws"), key := Value.str (Str.ofString "pop_trailing_ws") 343, val := Value.ref 123 }, { hash := PyData.keyHash P (Str.ofString "comments"), key := Value.str (Str.ofString "comments") 351, val := Value.ref 131 }, { hash := PyData.keyHash P (Str.ofString "__getnewargs__"), key := Value.str (Str.ofString "__getnewargs__") 358, val := Value.ref 138 }, { hash := PyData.keyHash P (Str.ofString "__static_attributes__"), key := Value.str (Str.ofString "__static_attributes__") 361, val := Value.ref 139 }, { hash := PyData.keyHash P (Str.ofString "__dict__"), key := Value.str (Str.ofString "__dict__") 365, val := Value.ref 143 }, { hash := PyData.keyHash P (Str.ofString "__weakref__"), key := Value.str (Str.ofString "__weakref__") 367, val := Value.ref 144 }, { hash := PyData.keyHash P (Str.ofString "__doc__"), key := Value.str (Str.ofString "__doc__") 368, val := Value.none }] 5 }
def q16_141 (P : Params) : Obj := { cls := Value.type "type", data := Data.cls { name := Str.ofString "Terminal", bases := [Value.type "str"], mro := [Value.ref 141, Value.type "str", Value.type "object"], ns := 140, qualname := Str.ofString "Terminal" }, slots := #[some (Value.ref 70), none, some (Value.str (Str.ofString "Terminal") 279), some (Value.str (Str.ofString "Terminal") 287), some Value.none, some (Value.bool true)] }
def q16_142 (P : Params) : Obj := { cls := Value.type "staticmethod", data := Data.fields #[Value.ref 85] }
def q16_143 (P : Params) : Obj := { cls := Value.type "getset_descriptor", data := Data.fields #[Value.str (Str.ofString "__dict__") 364, Value.ref 141, Value.builtin "function.__dict__", Value.builtin "function.__dict__#set"] }
def q16_144 (P : Params) : Obj := { cls := Value.type "getset_descriptor", data := Data.fields #[Value.str (Str.ofString "__weakref__") 366, Value.ref 141, Value.builtin "ExceptionGroup.__weakref__", Value.none] }
def q16_145 (P : Params) : Obj := { cls := Value.type "super", data := Data.fields #[Value.ref 141, Value.ref 141, Value.ref 141] }
def q16_146 (P : Params) : Obj := { cls := Value.type "builtin_function_or_method", data := Data.fields #[Value.builtin "object.__init_subclass__", Value.ref 141] }
def tree_16 (P : Params) (X : Nat → Obj) : BT := (.node (boot_o_0 P) (.node (boot_o_1 P) (.node (q16_3 P) (.node (boot_o_7 P) (.node (q2_15 P) (.node (X 31) (.node (X 63) (.node (q16_127 P) .nil .nil) .nil) (.node (q16_95 P) .nil .nil)) (.node (X 47) (.node (q16_79 P) (.node (q16_143 P) .nil .nil) .nil) (.node (q16_111 P) .nil .nil))) (.node (X 23) (.node (X 39) (.node (q16_71 P) (.node (q16_135 P) .nil .nil) .nil) (.node (q16_103 P) .nil .nil)) (.node (X 55) (.node (q16_87 P) .nil .nil) (.node (q16_119 P) .nil .nil)))) (.node (qpre_11 P) (.node (q2_19 P) (.node (X 35) (.node (X 67) (.node (q16_131 P) .nil .nil) .nil) (.node (q16_99 P) .nil .nil)) (.node (X 51) (.node (q16_83 P) .nil .nil) (.node (q16_115 P) .nil .nil))) (.node (X 27) (.node (X 43) (.node (q16_75 P) (.node (q16_139 P) .nil .nil) .nil) (.node (q16_107 P) .nil .nil)) (.node (X 59) (.node (q16_91 P) .nil .nil) (.node (q16_123 P) .nil .nil))))) (.node (boot_o_5 P) (.node (boot_o_9 P) (.node (q2_17 P) (.node (X 33) (.node (X 65) (.node (q16_129 P) .nil .nil) .nil) (.node (q16_97 P) .nil .nil)) (.node (X 49) (.node (q16_81 P) (.node (q16_145 P) .nil .nil) .nil) (.node (q16_113 P) .nil .nil))) (.node (X 25) (.node (X 41) (.node (q16_73 P) (.node (q16_137 P) .nil .nil) .nil) (.node (q16_105 P) .nil .nil)) (.node (X 57) (.node (q16_89 P) .nil .nil) (.node (q16_121 P) .nil .nil)))) (.node (qpre_13 P) (.node (q2_21 P) (.node (X 37) (.node (X 69) (.node (q16_133 P) .nil .nil) .nil) (.node (q16_101 P) .nil .nil)) (.node (X 53) (.node (q16_85 P) .nil .nil) (.node (q16_117 P) .nil .nil))) (.node (X 29) (.node (X 45) (.node (q16_77 P) (.node (q16_141 P) .nil .nil) .nil) (.node (q16_109 P) .nil .nil)) (.node (X 61) (.node (q16_93 P) .nil .nil) (.node (q16_125 P) .nil .nil)))))) (.node (q16_2 P) (.node (boot_o_4 P) (.node (boot_o_8 P) (.node (q2_16 P) (.node (X 32) (.node (X 64) (.node (q16_128 P) .nil .nil) .nil) (.node (q16_96 P) .nil .nil)) (.node (X 48) (.node (q16_80 P) (.node (q16_144 P) .nil .nil) .nil) (.node (q16_112 P) .nil .nil))) (.node (X 24) (.node (X 40) (.node (q16_72 P) (.node (q16_136 P) .nil .nil) .nil) (.node (q16_104 P) .nil .nil)) (.node (X 56) (.node (q16_88 P) .nil .nil) (.node (q16_120 P) .nil .nil)))) (.node (q16_12 P) (.node (q2_20 P) (.node (X 36) (.node (X 68) (.node (q16_132 P) .nil .nil) .nil) (.node (q16_100 P) .nil .nil)) (.node (X 52) (.node (q16_84 P) .nil .nil) (.node (q16_116 P) .nil .nil))) (.node (X 28) (.node (X 44) (.node (q16_76 P) (.node (q16_140 P) .nil .nil) .nil) (.node (q16_108 P) .nil .nil)) (.node (X 60) (.node (q16_92 P) .nil .nil) (.node (q16_124 P) .nil .nil))))) (.node (boot_o_6 P) (.node (boot_o_10 P) (.node (q2_18 P) (.node (X 34) (.node (X 66) (.node (q16_130 P) .nil .nil) .nil) (.node (q16_98 P) .nil .nil)) (.node (X 50) (.node (q16_82 P) (.node (q16_146 P) .nil .nil) .nil) (.node (q16_114 P) .nil .nil))) (.node (X 26) (.node (X 42) (.node (q16_74 P) (.node (q16_138 P) .nil .nil) .nil) (.node (q16_106 P) .nil .nil)) (.node (X 58) (.node (q16_90 P) .nil .nil) (.node (q16_122 P) .nil .nil)))) (.node (qpre_14 P) (.node (X 22) (.node (X 38) (.node (q16_70 P) (.node (q16_134 P) .nil .nil) .nil) (.node (q16_102 P) .nil .nil)) (.node (X 54) (.node (q16_86 P) .nil .nil) (.node (q16_118 P) .nil .nil))) (.node (X 30) (.node (X 46) (.node (q16_78 P) (.node (q16_142 P) .nil .nil) .nil) (.node (q16_110 P) .nil .nil)) (.node (X 62) (.node (q16_94 P) .nil .nil) (.node (q16_126 P) .nil .nil)))))))
-- size 147 toks 373 
def q17_3 (P : Params) : Obj := { cls := Value.type "dict", data := Data.dict #[{ hash := PyData.keyHash P (Str.ofString "__name__"), key := Value.str (Str.ofString "__name__") 165, val := Value.str (Str.ofString "cpy313.email._header_value_parser") 194 }, { hash := PyData.keyHash P (Str.ofString "__doc__"), key := Value.str (Str.ofString "__doc__") 166, val := Value.none }, { hash := PyData.keyHash P (Str.ofString "__package__"), key := Value.str (Str.ofString "__package__") 167, val := Value.none }, { hash := PyData.keyHash P (Str.ofString "__loader__"), key := Value.str (Str.ofString "__loader__") 168, val := Value.builtin "__main__.__loader__#opaque" }, { hash := PyData.keyHash P (Str.ofString "__spec__"), key := Value.str (Str.ofString "__spec__") 169, val := Value.none }, { hash := PyData.keyHash P (Str.ofString "__annotations__"), key := Value.str (Str.ofString "__annotations__") 170, val := Value.ref 6 }, { hash := PyData.keyHash P (Str.ofString "__builtins__"), key := Value.str (Str.ofString "__builtins__") 171, val := Value.ref 4 }, { hash := PyData.keyHash P (Str.ofString "__file__"), key := Value.str (Str.ofString "__file__") 173, val := Value.str (Str.ofString "/claim/cut.py") 172 }, { hash := PyData.keyHash P (Str.ofString "__cached__"), key := Value.str (Str.ofString "__cached__") 174, val := Value.none }, { hash := PyData.keyHash P (Str.ofString "_wall"), key := Value.str (Str.ofString "_wall") 193, val := Value.ref 21 }, { hash := PyData.keyHash P (Str.ofString "_WSP"), key := Value.str (Str.ofString "_WSP") 197, val := Value.str (Str.ofString " \t") 196 }, { hash := PyData.keyHash P (Str.ofString "WSP"), key := Value.str (Str.ofString "WSP") 202, val := Value.ref 22 }, { hash := PyData.keyHash P (Str.ofString "CFWS_LEADER"), key := Value.str (Str.ofString "CFWS_LEADER") 206, val := Value.ref 30 }, { hash := PyData.keyHash P (Str.ofString "SPECIALS"), key := Value.str (Str.ofString "SPECIALS") 234, val := Value.ref 31 }, { hash := PyData.keyHash P (Str.ofString "ATOM_ENDS"), key := Value.str (Str.ofString "ATOM_ENDS") 235, val := Value.ref 35 }, { hash := PyData.keyHash P (Str.ofString "DOT_ATOM_ENDS"), key := Value.str (Str.ofString "DOT_ATOM_ENDS") 239, val := Value.ref 40 }, { hash := PyData.keyHash P (Str.ofString "PHRASE_ENDS"), key := Value.str (Str.ofString "PHRASE_ENDS") 247, val := Value.ref 45 }, { hash := PyData.keyHash P (Str.ofString "TSPECIALS"), key := Value.str (Str.ofString "TSPECIALS") 258, val := Value.ref 55 }, { hash := PyData.keyHash P (Str.ofString "TOKEN_ENDS"), key := Value.str (Str.ofString "TOKEN_ENDS") 259, val := Value.ref 56 }, { hash := PyData.keyHash P (Str.ofString "ASPECIALS"), key := Value.str (Str.ofString "ASPECIALS") 267, val := Value.ref 61 }, { hash := PyData.keyHash P (Str.ofString "ATTRIBUTE_ENDS"), key := Value.str (Str.ofString "ATTRIBUTE_ENDS") 268, val := Value.ref 62 }, { hash := PyData.keyHash P (Str.ofString "EXTENDED_ATTRIBUTE_ENDS"), key := Value.str (Str.ofString "EXTENDED_ATTRIBUTE_ENDS") 272, val := Value.ref 67 }, { hash := PyData.keyHash P (Str.ofString "NLSET"), key := Value.str (Str.ofString "NLSET") 277, val := Value.ref 68 }, { hash := PyData.keyHash P (Str.ofString "SPECIALSNL"), key := Value.str (Str.ofString "SPECIALSNL") 278, val := Value.ref 69 }, { hash := PyData.keyHash P (Str.ofString "Terminal"), key := Value.str (Str.ofString "Terminal") 372, val := Value.ref 141 }, { hash := PyData.keyHash P (Str.ofString "WhiteSpaceTerminal"), key := Value.str (Str.ofString "WhiteSpaceTerminal") 403, val := Value.ref 171 }] 26 }
def q17_12 (P : Params) : Obj := { cls := Value.none, data := Data.fields #[Value.int 1 0, Value.int 0 0, Value.ref 20, Value.int 19 0, Value.int 0 0, Value.ref 76, Value.int 52 0, Value.int 0 0, Value.ref 152] }
def q17_141 (P : Params) : Obj := { cls := Value.type "type", data := Data.cls { name := Str.ofString "Terminal", bases := [Value.type "str"], mro := [Value.ref 141, Value.type "str", Value.type "object"], ns := 140, qualname := Str.ofString "Terminal", subclasses := [Value.ref 171] }, slots := #[some (Value.ref 70), none, some (Value.str (Str.ofString "Terminal") 279), some (Value.str (Str.ofString "Terminal") 287), some Value.none, some (Value.bool true)] }
def q17_147 (P : Params) : Obj := { cls := Value.type "tuple", data := Data.seq #[Value.ref 141] }
def q17_148 (P : Params) : Obj := { cls := Value.type "builtin_function_or_method", data := Data.fields #[Value.builtin "type.__prepare__", Value.type "type"] }
def q17_149 (P : Params) : Obj := { cls := Value.type "dict", data := Data.dict #[{ hash := PyData.keyHash P (Str.ofString "__module__"), key := Value.str (Str.ofString "__module__") 380, val := Value.str (Str.ofString "cpy313.email._header_value_parser") 194 }, { hash := PyData.keyHash P (Str.ofString "__qualname__"), key := Value.str (Str.ofString "__qualname__") 382, val := Value.str (Str.ofString "WhiteSpaceTerminal") 381 }, { hash := PyData.keyHash P (Str.ofString "__firstlineno__"), key := Value.str (Str.ofString "__firstlineno__") 384, val := Value.int 52 383 }, { hash := PyData.keyHash P (Str.ofString "value"), key := Value.str (Str.ofString "value") 392, val := Value.ref 161 }, { hash := PyData.keyHash P (Str.ofString "startswith_fws"), key := Value.str (Str.ofString "startswith_fws") 399, val := Value.ref 168 }, { hash := PyData.keyHash P (Str.ofString "__static_attributes__"), key := Value.str (Str.ofString "__static_attributes__") 400, val := Value.ref 169 }] 6 }
def q17_150 (P : Params) : Obj := { cls := Value.type "tuple", data := Data.seq #[] }
def q17_151 (P : Params) : Obj := { cls := Value.none, data := Data.fields #[Value.int 55 0, Value.int 4 0, Value.ref 159, Value.int 58 0, Value.int 4 0, Value.ref 167] }
def q17_152 (P : Params) : Obj := { cls := Value.type "code", data := Data.fields #[Value.str (Str.ofString "WhiteSpaceTerminal") 375, Value.str (Str.ofString "WhiteSpaceTerminal") 376, Value.str (Str.ofString "/claim/cut.py") 377, Value.int 52 0, Value.int 0 0, Value.int 0 0, Value.int 0 0, Value.int 0 0, Value.ref 150, Value.bool false, Value.int 181 0, Value.ref 151, Value.none, Value.none, Value.none, Value.none, Value.int 378 0, Value.int 52 0, Value.str (Str.ofString "/claim/cut.py") 379] }
def q17_153 (P : Params) : Obj := { cls := Value.type "frame", slots := #[some (Value.ref 152), some (Value.ref 3), some (Value.ref 149), none, some (Value.str (Str.ofString "cpy313.email._header_value_parser") 194), none, some (Value.ref 0)] }
def q17_154 (P : Params) : Obj := { cls := Value.type "tuple", data := Data.seq #[] }
def q17_155 (P : Params) : Obj := { cls := Value.none, data := Data.fields #[] }
def q17_156 (P : Params) : Obj := { cls := Value.type "tuple", data := Data.seq #[Value.str (Str.ofString "self") 388] }
def q17_157 (P : Params) : Obj := { cls := Value.type "tuple", data := Data.seq #[] }
def q17_158 (P : Params) : Obj := { cls := Value.none, data := Data.func { name := Str.ofString "value", qualname := Str.ofString "WhiteSpaceTerminal.value", params := fParams (stAt [17, 0]), body := FuncBody.stmts (fBody (stAt [17, 0])), scope := fScope (stAt [17, 0]), globals := 0, closure := [], defaults := Value.none, kwdefaults := Value.none } }
def q17_159 (P : Params) : Obj := { cls := Value.type "code", data := Data.fields #[Value.str (Str.ofString "value") 385, Value.str (Str.ofString "WhiteSpaceTerminal.value") 386, Value.str (Str.ofString "/claim/cut.py") 387, Value.int 54 0, Value.int 1 0, Value.int 0 0, Value.int 0 0, Value.int 3 0, Value.ref 154, Value.bool true, Value.int 181 0, Value.ref 155, Value.none, Value.ref 156, Value.ref 157, Value.ref 158, Value.int 389 0, Value.int 54 0, Value.str (Str.ofString "/claim/cut.py") 390] }
def q17_160 (P : Params) : Obj := { cls := Value.type "function", data := Data.func { name := Str.ofString "value", qualname := Str.ofString "WhiteSpaceTerminal.value", params := fParams (stAt [17, 0]), body := FuncBody.stmts (fBody (stAt [17, 0])), scope := fScope (stAt [17, 0]), globals := 3, closure := [], defaults := Value.none, kwdefaults := Value.none, pyModule := Value.str (Str.ofString "cpy313.email._header_value_parser") 194, code := Value.ref 159 } }
def q17_161 (P : Params) : Obj := { cls := Value.type "property", data := Data.fields #[Value.ref 160, Value.none, Value.none, Value.none, Value.str (Str.ofString "value") 392, Value.bool false] }
def q17_162 (P : Params) : Obj := { cls := Value.type "tuple", data := Data.seq #[] }
def q17_163 (P : Params) : Obj := { cls := Value.none, data := Data.fields #[] }
def q17_164 (P : Params) : Obj := { cls := Value.type "tuple", data := Data.seq #[Value.str (Str.ofString "self") 396] }
def q17_165 (P : Params) : Obj := { cls := Value.type "tuple", data := Data.seq #[] }
def q17_166 (P : Params) : Obj := { cls := Value.none, data := Data.func { name := Str.ofString "startswith_fws", qualname := Str.ofString "WhiteSpaceTerminal.startswith_fws", params := fParams (stAt [17, 1]), body := FuncBody.stmts (fBody (stAt [17, 1])), scope := fScope (stAt [17, 1]), globals := 0, closure := [], defaults := Value.none, kwdefaults := Value.none } }
def q17_167 (P : Params) : Obj := { cls := Value.type "code", data := Data.fields #[Value.str (Str.ofString "startswith_fws") 393, Value.str (Str.ofString "WhiteSpaceTerminal.startswith_fws") 394, Value.str (Str.ofString "/claim/cut.py") 395, Value.int 58 0, Value.int 1 0, Value.int 0 0, Value.int 0 0, Value.int 3 0, Value.ref 162, Value.bool true, Value.int 181 0, Value.ref 163, Value.none, Value.ref 164, Value.ref 165, Value.ref 166, Value.int 397 0, Value.int 58 0, Value.str (Str.ofString "/claim/cut.py") 398] }
def q17_168 (P : Params) : Obj := { cls := Value.type "function", data := Data.func { name := Str.ofString "startswith_fws", qualname := Str.ofString "WhiteSpaceTerminal.startswith_fws", params := fParams (stAt [17, 1]), body := FuncBody.stmts (fBody (stAt [17, 1])), scope := fScope (stAt [17, 1]), globals := 3, closure := [], defaults := Value.none, kwdefaults := Value.none, pyModule := Value.str (Str.ofString "cpy313.email._header_value_parser") 194, code := Value.ref 167 } }
def q17_169 (P : Params) : Obj := { cls := Value.type "tuple", data := Data.seq #[] }
def q17_170 (P : Params) : Obj := { cls := Value.type "dict", data := Data.dict #[{ hash := PyData.keyHash P (Str.ofString "__module__"), key := Value.str (Str.ofString "__module__") 380, val := Value.str (Str.ofString "cpy313.email._header_value_parser") 194 }, { hash := PyData.keyHash P (Str.ofString "__firstlineno__"), key := Value.str (Str.ofString "__firstlineno__") 384, val := Value.int 52 383 }, { hash := PyData.keyHash P (Str.ofString "value"), key := Value.str (Str.ofString "value") 392, val := Value.ref 161 }, { hash := PyData.keyHash P (Str.ofString "startswith_fws"), key := Value.str (Str.ofString "startswith_fws") 399, val := Value.ref 168 }, { hash := PyData.keyHash P (Str.ofString "__static_attributes__"), key := Value.str (Str.ofString "__static_attributes__") 400, val := Value.ref 169 }, { hash := PyData.keyHash P (Str.ofString "__doc__"), key := Value.str (Str.ofString "__doc__") 401, val := Value.none }] 2 }
def q17_171 (P : Params) : Obj := { cls := Value.type "type", data := Data.cls { name := Str.ofString "WhiteSpaceTerminal", bases := [Value.ref 141], mro := [Value.ref 171, Value.ref 141, Value.type "str", Value.type "object"], ns := 170, qualname := Str.ofString "WhiteSpaceTerminal" }, slots := #[some (Value.ref 147), none, some (Value.str (Str.ofString "WhiteSpaceTerminal") 373), some (Value.str (Str.ofString "WhiteSpaceTerminal") 381), some Value.none, some (Value.bool true)] }
def q17_172 (P : Params) : Obj := { cls := Value.type "super", data := Data.fields #[Value.ref 171, Value.ref 171, Value.ref 171] }
def q17_173 (P : Params) : Obj := { cls := Value.type "builtin_function_or_method", data := Data.fields #[Value.builtin "object.__init_subclass__", Value.ref 171] }
def tree_17 (P : Params) (X : Nat → Obj) : BT := (.node (boot_o_0 P) (.node (boot_o_1 P) (.node (q17_3 P) (.node (boot_o_7 P) (.node (q2_15 P) (.node (X 31) (.node (X 63) (.node (q16_127 P) .nil .nil) .nil) (.node (q16_95 P) (.node (q17_159 P) .nil .nil) .nil)) (.node (X 47) (.node (q16_79 P) (.node (q16_143 P) .nil .nil) .nil) (.node (q16_111 P) .nil .nil))) (.node (X 23) (.node (X 39) (.node (q16_71 P) (.node (q16_135 P) .nil .nil) .nil) (.node (q16_103 P) (.node (q17_167 P) .nil .nil) .nil)) (.node (X 55) (.node (q16_87 P) (.node (q17_151 P) .nil .nil) .nil) (.node (q16_119 P) .nil .nil)))) (.node (qpre_11 P) (.node (q2_19 P) (.node (X 35) (.node (X 67) (.node (q16_131 P) .nil .nil) .nil) (.node (q16_99 P) (.node (q17_163 P) .nil .nil) .nil)) (.node (X 51) (.node (q16_83 P) (.node (q17_147 P) .nil .nil) .nil) (.node (q16_115 P) .nil .nil))) (.node (X 27) (.node (X 43) (.node (q16_75 P) (.node (q16_139 P) .nil .nil) .nil) (.node (q16_107 P) (.node (q17_171 P) .nil .nil) .nil)) (.node (X 59) (.node (q16_91 P) (.node (q17_155 P) .nil .nil) .nil) (.node (q16_123 P) .nil .nil))))) (.node (boot_o_5 P) (.node (boot_o_9 P) (.node (q2_17 P) (.node (X 33) (.node (X 65) (.node (q16_129 P) .nil .nil) .nil) (.node (q16_97 P) (.node (q17_161 P) .nil .nil) .nil)) (.node (X 49) (.node (q16_81 P) (.node (q16_145 P) .nil .nil) .nil) (.node (q16_113 P) .nil .nil))) (.node (X 25) (.node (X 41) (.node (q16_73 P) (.node (q16_137 P) .nil .nil) .nil) (.node (q16_105 P) (.node (q17_169 P) .nil .nil) .nil)) (.node (X 57) (.node (q16_89 P) (.node (q17_153 P) .nil .nil) .nil) (.node (q16_121 P) .nil .nil)))) (.node (qpre_13 P) (.node (q2_21 P) (.node (X 37) (.node (X 69) (.node (q16_133 P) .nil .nil) .nil) (.node (q16_101 P) (.node (q17_165 P) .nil .nil) .nil)) (.node (X 53) (.node (q16_85 P) (.node (q17_149 P) .nil .nil) .nil) (.node (q16_117 P) .nil .nil))) (.node (X 29) (.node (X 45) (.node (q16_77 P) (.node (q17_141 P) .nil .nil) .nil) (.node (q16_109 P) (.node (q17_173 P) .nil .nil) .nil)) (.node (X 61) (.node (q16_93 P) (.node (q17_157 P) .nil .nil) .nil) (.node (q16_125 P) .nil .nil)))))) (.node (q16_2 P) (.node (boot_o_4 P) (.node (boot_o_8 P) (.node (q2_16 P) (.node (X 32) (.node (X 64) (.node (q16_128 P) .nil .nil) .nil) (.node (q16_96 P) (.node (q17_160 P) .nil .nil) .nil)) (.node (X 48) (.node (q16_80 P) (.node (q16_144 P) .nil .nil) .nil) (.node (q16_112 P) .nil .nil))) (.node (X 24) (.node (X 40) (.node (q16_72 P) (.node (q16_136 P) .nil .nil) .nil) (.node (q16_104 P) (.node (q17_168 P) .nil .nil) .nil)) (.node (X 56) (.node (q16_88 P) (.node (q17_152 P) .nil .nil) .nil) (.node (q16_120 P) .nil .nil)))) (.node (q17_12 P) (.node (q2_20 P) (.node (X 36) (.node (X 68) (.node (q16_132 P) .nil .nil) .nil) (.node (q16_100 P) (.node (q17_164 P) .nil .nil) .nil)) (.node (X 52) (.node (q16_84 P) (.node (q17_148 P) .nil .nil) .nil) (.node (q16_116 P) .nil .nil))) (.node (X 28) (.node (X 44) (.node (q16_76 P) (.node (q16_140 P) .nil .nil) .nil) (.node (q16_108 P) (.node (q17_172 P) .nil .nil) .nil)) (.node (X 60) (.node (q16_92 P) (.node (q17_156 P) .nil .nil) .nil) (.node (q16_124 P) .nil .nil))))) (.node (boot_o_6 P) (.node (boot_o_10 P) (.node (q2_18 P) (.node (X 34) (.node (X 66) (.node (q16_130 P) .nil .nil) .nil) (.node (q16_98 P) (.node (q17_162 P) .nil .nil) .nil)) (.node (X 50) (.node (q16_82 P) (.node (q16_146 P) .nil .nil) .nil) (.node (q16_114 P) .nil .nil))) (.node (X 26) (.node (X 42) (.node (q16_74 P) (.node (q16_138 P) .nil .nil) .nil) (.node (q16_106 P) (.node (q17_170 P) .nil .nil) .nil)) (.node (X 58) (.node (q16_90 P) (.node (q17_154 P) .nil .nil) .nil) (.node (q16_122 P) .nil .nil)))) (.node (qpre_14 P) (.node (X 22) (.node (X 38) (.node (q16_70 P) (.node (q16_134 P) .nil .nil) .nil) (.node (q16_102 P) (.node (q17_166 P) .nil .nil) .nil)) (.node (X 54) (.node (q16_86 P) (.node (q17_150 P) .nil .nil) .nil) (.node (q16_118 P) .nil .nil))) (.node (X 30) (.node (X 46) (.node (q16_78 P) (.node (q16_142 P) .nil .nil) .nil) (.node (q16_110 P) .nil .nil)) (.node (X 62) (.node (q16_94 P) (.node (q17_158 P) .nil .nil) .nil) (.node (q16_126 P) .nil .nil)))))))
-- size 174 toks 404 
def q18_3 (P : Params) : Obj := { cls := Value.type "dict", data := Data.dict #[{ hash := PyData.keyHash P (Str.ofString "__name__"), key := Value.str (Str.ofString "__name__") 165, val := Value.str (Str.ofString "cpy313.email._header_value_parser") 194 }, { hash := PyData.keyHash P (Str.ofString "__doc__"), key := Value.str (Str.ofString "__doc__") 166, val := Value.none }, { hash := PyData.keyHash P (Str.ofString "__package__"), key := Value.str (Str.ofString "__package__") 167, val := Value.none }, { hash := PyData.keyHash P (Str.ofString "__loader__"), key := Value.str (Str.ofString "__loader__") 168, val := Value.builtin "__main__.__loader__#opaque" }, { hash := PyData.keyHash P (Str.ofString "__spec__"), key := Value.str (Str.ofString "__spec__") 169, val := Value.none }, { hash := PyData.keyHash P (Str.ofString "__annotations__"), key := Value.str (Str.ofString "__annotations__") 170, val := Value.ref 6 }, { hash := PyData.keyHash P (Str.ofString "__builtins__"), key := Value.str (Str.ofString "__builtins__") 171, val := Value.ref 4 }, { hash := PyData.keyHash P (Str.ofString "__file__"), key := Value.str (Str.ofString "__file__") 173, val := Value.str (Str.ofString "/claim/cut.py") 172 }, { hash := PyData.keyHash P (Str.ofString "__cached__"), key := Value.str (Str.ofString "__cached__") 174, val := Value.none }, { hash := PyData.keyHash P (Str.ofString "_wall"), key := Value.str (Str.ofString "_wall") 193, val := Value.ref 21 }, { hash := PyData.keyHash P (Str.ofString "_WSP"), key := Value.str (Str.ofString "_WSP") 197, val := Value.str (Str.ofString " \t") 196 }, { hash := PyData.keyHash P (Str.ofString "WSP"), key := Value.str (Str.ofString "WSP") 202, val := Value.ref 22 }, { hash := PyData.keyHash P (Str.ofString "CFWS_LEADER"), key := Value.str (Str.ofString "CFWS_LEADER") 206, val := Value.ref 30 }, { hash := PyData.keyHash P (Str.ofString "SPECIALS"), key := Value.str (Str.ofString "SPECIALS") 234, val := Value.ref 31 }, { hash := PyData.keyHash P (Str.ofString "ATOM_ENDS"), key := Value.str (Str.ofString "ATOM_ENDS") 235, val := Value.ref 35 }, { hash := PyData.keyHash P (Str.ofString "DOT_ATOM_ENDS"), key := Value.str (Str.ofString "DOT_ATOM_ENDS") 239, val := Value.ref 40 }, { hash := PyData.keyHash P (Str.ofString "PHRASE_ENDS"), key := Value.str (Str.ofString "PHRASE_ENDS") 247, val := Value.ref 45 }, { hash := PyData.keyHash P (Str.ofString "TSPECIALS"), key := Value.str (Str.ofString "TSPECIALS") 258, val := Value.ref 55 }, { hash := PyData.keyHash P (Str.ofString "TOKEN_ENDS"), key := Value.str (Str.ofString "TOKEN_ENDS") 259, val := Value.ref 56 }, { hash := PyData.keyHash P (Str.ofString "ASPECIALS"), key := Value.str (Str.ofString "ASPECIALS") 267, val := Value.ref 61 }, { hash := PyData.keyHash P (Str.ofString "ATTRIBUTE_ENDS"), key := Value.str (Str.ofString "ATTRIBUTE_ENDS") 268, val := Value.ref 62 }, { hash := PyData.keyHash P (Str.ofString "EXTENDED_ATTRIBUTE_ENDS"), key := Value.str (Str.ofString "EXTENDED_ATTRIBUTE_ENDS") 272, val := Value.ref 67 }, { hash := PyData.keyHash P (Str.ofString "NLSET"), key := Value.str (Str.ofString "NLSET") 277, val := Value.ref 68 }, { hash := PyData.keyHash P (Str.ofString "SPECIALSNL"), key := Value.str (Str.ofString "SPECIALSNL") 278, val := Value.ref 69 }, { hash := PyData.keyHash P (Str.ofString "Terminal"), key := Value.str (Str.ofString "Terminal") 372, val := Value.ref 141 }, { hash := PyData.keyHash P (Str.ofString "WhiteSpaceTerminal"), key := Value.str (Str.ofString "WhiteSpaceTerminal") 403, val := Value.ref 171 }, { hash := PyData.keyHash P (Str.ofString "get_fws"), key := Value.str (Str.ofString "get_fws") 412, val := Value.ref 180 }] 27 }
def q18_12 (P : Params) : Obj := { cls := Value.none, data := Data.fields #[Value.int 1 0, Value.int 0 0, Value.ref 20, Value.int 19 0, Value.int 0 0, Value.ref 76, Value.int 52 0, Value.int 0 0, Value.ref 152, Value.int 60 0, Value.int 0 0, Value.ref 179] }
def q18_174 (P : Params) : Obj := { cls := Value.type "tuple", data := Data.seq #[] }
def q18_175 (P : Params) : Obj := { cls := Value.none, data := Data.fields #[] }
def q18_176 (P : Params) : Obj := { cls := Value.type "tuple", data := Data.seq #[Value.str (Str.ofString "value") 407, Value.str (Str.ofString "newvalue") 408, Value.str (Str.ofString "fws") 409] }
def q18_177 (P : Params) : Obj := { cls := Value.type "tuple", data := Data.seq #[] }
def q18_178 (P : Params) : Obj := { cls := Value.none, data := Data.func { name := Str.ofString "get_fws", qualname := Str.ofString "get_fws", params := fParams (stAt [18]), body := FuncBody.stmts (fBody (stAt [18])), scope := fScope (stAt [18]), globals := 0, closure := [], defaults := Value.none, kwdefaults := Value.none } }
def q18_179 (P : Params) : Obj := { cls := Value.type "code", data := Data.fields #[Value.str (Str.ofString "get_fws") 404, Value.str (Str.ofString "get_fws") 405, Value.str (Str.ofString "/claim/cut.py") 406, Value.int 60 0, Value.int 1 0, Value.int 0 0, Value.int 0 0, Value.int 3 0, Value.ref 174, Value.bool true, Value.int 181 0, Value.ref 175, Value.none, Value.ref 176, Value.ref 177, Value.ref 178, Value.int 410 0, Value.int 60 0, Value.str (Str.ofString "/claim/cut.py") 411] }
def q18_180 (P : Params) : Obj := { cls := Value.type "function", data := Data.func { name := Str.ofString "get_fws", qualname := Str.ofString "get_fws", params := fParams (stAt [18]), body := FuncBody.stmts (fBody (stAt [18])), scope := fScope (stAt [18]), globals := 3, closure := [], defaults := Value.none, kwdefaults := Value.none, pyModule := Value.str (Str.ofString "cpy313.email._header_value_parser") 194, code := Value.ref 179 } }
def tree_18 (P : Params) (X : Nat → Obj) : BT := (.node (boot_o_0 P) (.node (boot_o_1 P) (.node (q18_3 P) (.node (boot_o_7 P) (.node (q2_15 P) (.node (X 31) (.node (X 63) (.node (q16_127 P) .nil .nil) .nil) (.node (q16_95 P) (.node (q17_159 P) .nil .nil) .nil)) (.node (X 47) (.node (q16_79 P) (.node (q16_143 P) .nil .nil) .nil) (.node (q16_111 P) (.node (q18_175 P) .nil .nil) .nil))) (.node (X 23) (.node (X 39) (.node (q16_71 P) (.node (q16_135 P) .nil .nil) .nil) (.node (q16_103 P) (.node (q17_167 P) .nil .nil) .nil)) (.node (X 55) (.node (q16_87 P) (.node (q17_151 P) .nil .nil) .nil) (.node (q16_119 P) .nil .nil)))) (.node (qpre_11 P) (.node (q2_19 P) (.node (X 35) (.node (X 67) (.node (q16_131 P) .nil .nil) .nil) (.node (q16_99 P) (.node (q17_163 P) .nil .nil) .nil)) (.node (X 51) (.node (q16_83 P) (.node (q17_147 P) .nil .nil) .nil) (.node (q16_115 P) (.node (q18_179 P) .nil .nil) .nil))) (.node (X 27) (.node (X 43) (.node (q16_75 P) (.node (q16_139 P) .nil .nil) .nil) (.node (q16_107 P) (.node (q17_171 P) .nil .nil) .nil)) (.node (X 59) (.node (q16_91 P) (.node (q17_155 P) .nil .nil) .nil) (.node (q16_123 P) .nil .nil))))) (.node (boot_o_5 P) (.node (boot_o_9 P) (.node (q2_17 P) (.node (X 33) (.node (X 65) (.node (q16_129 P) .nil .nil) .nil) (.node (q16_97 P) (.node (q17_161 P) .nil .nil) .nil)) (.node (X 49) (.node (q16_81 P) (.node (q16_145 P) .nil .nil) .nil) (.node (q16_113 P) (.node (q18_177 P) .nil .nil) .nil))) (.node (X 25) (.node (X 41) (.node (q16_73 P) (.node (q16_137 P) .nil .nil) .nil) (.node (q16_105 P) (.node (q17_169 P) .nil .nil) .nil)) (.node (X 57) (.node (q16_89 P) (.node (q17_153 P) .nil .nil) .nil) (.node (q16_121 P) .nil .nil)))) (.node (qpre_13 P) (.node (q2_21 P) (.node (X 37) (.node (X 69) (.node (q16_133 P) .nil .nil) .nil) (.node (q16_101 P) (.node (q17_165 P) .nil .nil) .nil)) (.node (X 53) (.node (q16_85 P) (.node (q17_149 P) .nil .nil) .nil) (.node (q16_117 P) .nil .nil))) (.node (X 29) (.node (X 45) (.node (q16_77 P) (.node (q17_141 P) .nil .nil) .nil) (.node (q16_109 P) (.node (q17_173 P) .nil .nil) .nil)) (.node (X 61) (.node (q16_93 P) (.node (q17_157 P) .nil .nil) .nil) (.node (q16_125 P) .nil .nil)))))) (.node (q16_2 P) (.node (boot_o_4 P) (.node (boot_o_8 P) (.node (q2_16 P) (.node (X 32) (.node (X 64) (.node (q16_128 P) .nil .nil) .nil) (.node (q16_96 P) (.node (q17_160 P) .nil .nil) .nil)) (.node (X 48) (.node (q16_80 P) (.node (q16_144 P) .nil .nil) .nil) (.node (q16_112 P) (.node (q18_176 P) .nil .nil) .nil))) (.node (X 24) (.node (X 40) (.node (q16_72 P) (.node (q16_136 P) .nil .nil) .nil) (.node (q16_104 P) (.node (q17_168 P) .nil .nil) .nil)) (.node (X 56) (.node (q16_88 P) (.node (q17_152 P) .nil .nil) .nil) (.node (q16_120 P) .nil .nil)))) (.node (q18_12 P) (.node (q2_20 P) (.node (X 36) (.node (X 68) (.node (q16_132 P) .nil .nil) .nil) (.node (q16_100 P) (.node (q17_164 P) .nil .nil) .nil)) (.node (X 52) (.node (q16_84 P) (.node (q17_148 P) .nil .nil) .nil) (.node (q16_116 P) (.node (q18_180 P) .nil .nil) .nil))) (.node (X 28) (.node (X 44) (.node (q16_76 P) (.node (q16_140 P) .nil .nil) .nil) (.node (q16_108 P) (.node (q17_172 P) .nil .nil) .nil)) (.node (X 60) (.node (q16_92 P) (.node (q17_156 P) .nil .nil) .nil) (.node (q16_124 P) .nil .nil))))) (.node (boot_o_6 P) (.node (boot_o_10 P) (.node (q2_18 P) (.node (X 34) (.node (X 66) (.node (q16_130 P) .nil .nil) .nil) (.node (q16_98 P) (.node (q17_162 P) .nil .nil) .nil)) (.node (X 50) (.node (q16_82 P) (.node (q16_146 P) .nil .nil) .nil) (.node (q16_114 P) (.node (q18_178 P) .nil .nil) .nil))) (.node (X 26) (.node (X 42) (.node (q16_74 P) (.node (q16_138 P) .nil .nil) .nil) (.node (q16_106 P) (.node (q17_170 P) .nil .nil) .nil)) (.node (X 58) (.node (q16_90 P) (.node (q17_154 P) .nil .nil) .nil) (.node (q16_122 P) .nil .nil)))) (.node (qpre_14 P) (.node (X 22) (.node (X 38) (.node (q16_70 P) (.node (q16_134 P) .nil .nil) .nil) (.node (q16_102 P) (.node (q17_166 P) .nil .nil) .nil)) (.node (X 54) (.node (q16_86 P) (.node (q17_150 P) .nil .nil) .nil) (.node (q16_118 P) .nil .nil))) (.node (X 30) (.node (X 46) (.node (q16_78 P) (.node (q16_142 P) .nil .nil) .nil) (.node (q16_110 P) (.node (q18_174 P) .nil .nil) .nil)) (.node (X 62) (.node (q16_94 P) (.node (q17_158 P) .nil .nil) .nil) (.node (q16_126 P) .nil .nil)))))))
-- size 181 toks 413 
def q19_3 (P : Params) : Obj := { cls := Value.type "dict", data := Data.dict #[{ hash := PyData.keyHash P (Str.ofString "__name__"), key := Value.str (Str.ofString "__name__") 165, val := Value.str (Str.ofString "law_lg0006_01") 413 }, { hash := PyData.keyHash P (Str.ofString "__doc__"), key := Value.str (Str.ofString "__doc__") 166, val := Value.none }, { hash := PyData.keyHash P (Str.ofString "__package__"), key := Value.str (Str.ofString "__package__") 167, val := Value.none }, { hash := PyData.keyHash P (Str.ofString "__loader__"), key := Value.str (Str.ofString "__loader__") 168, val := Value.builtin "__main__.__loader__#opaque" }, { hash := PyData.keyHash P (Str.ofString "__spec__"), key := Value.str (Str.ofString "__spec__") 169, val := Value.none }, { hash := PyData.keyHash P (Str.ofString "__annotations__"), key := Value.str (Str.ofString "__annotations__") 170, val := Value.ref 6 }, { hash := PyData.keyHash P (Str.ofString "__builtins__"), key := Value.str (Str.ofString "__builtins__") 171, val := Value.ref 4 }, { hash := PyData.keyHash P (Str.ofString "__file__"), key := Value.str (Str.ofString "__file__") 173, val := Value.str (Str.ofString "/claim/cut.py") 172 }, { hash := PyData.keyHash P (Str.ofString "__cached__"), key := Value.str (Str.ofString "__cached__") 174, val := Value.none }, { hash := PyData.keyHash P (Str.ofString "_wall"), key := Value.str (Str.ofString "_wall") 193, val := Value.ref 21 }, { hash := PyData.keyHash P (Str.ofString "_WSP"), key := Value.str (Str.ofString "_WSP") 197, val := Value.str (Str.ofString " \t") 196 }, { hash := PyData.keyHash P (Str.ofString "WSP"), key := Value.str (Str.ofString "WSP") 202, val := Value.ref 22 }, { hash := PyData.keyHash P (Str.ofString "CFWS_LEADER"), key := Value.str (Str.ofString "CFWS_LEADER") 206, val := Value.ref 30 }, { hash := PyData.keyHash P (Str.ofString "SPECIALS"), key := Value.str (Str.ofString "SPECIALS") 234, val := Value.ref 31 }, { hash := PyData.keyHash P (Str.ofString "ATOM_ENDS"), key := Value.str (Str.ofString "ATOM_ENDS") 235, val := Value.ref 35 }, { hash := PyData.keyHash P (Str.ofString "DOT_ATOM_ENDS"), key := Value.str (Str.ofString "DOT_ATOM_ENDS") 239, val := Value.ref 40 }, { hash := PyData.keyHash P (Str.ofString "PHRASE_ENDS"), key := Value.str (Str.ofString "PHRASE_ENDS") 247, val := Value.ref 45 }, { hash := PyData.keyHash P (Str.ofString "TSPECIALS"), key := Value.str (Str.ofString "TSPECIALS") 258, val := Value.ref 55 }, { hash := PyData.keyHash P (Str.ofString "TOKEN_ENDS"), key := Value.str (Str.ofString "TOKEN_ENDS") 259, val := Value.ref 56 }, { hash := PyData.keyHash P (Str.ofString "ASPECIALS"), key := Value.str (Str.ofString "ASPECIALS") 267, val := Value.ref 61 }, { hash := PyData.keyHash P (Str.ofString "ATTRIBUTE_ENDS"), key := Value.str (Str.ofString "ATTRIBUTE_ENDS") 268, val := Value.ref 62 }, { hash := PyData.keyHash P (Str.ofString "EXTENDED_ATTRIBUTE_ENDS"), key := Value.str (Str.ofString "EXTENDED_ATTRIBUTE_ENDS") 272, val := Value.ref 67 }, { hash := PyData.keyHash P (Str.ofString "NLSET"), key := Value.str (Str.ofString "NLSET") 277, val := Value.ref 68 }, { hash := PyData.keyHash P (Str.ofString "SPECIALSNL"), key := Value.str (Str.ofString "SPECIALSNL") 278, val := Value.ref 69 }, { hash := PyData.keyHash P (Str.ofString "Terminal"), key := Value.str (Str.ofString "Terminal") 372, val := Value.ref 141 }, { hash := PyData.keyHash P (Str.ofString "WhiteSpaceTerminal"), key := Value.str (Str.ofString "WhiteSpaceTerminal") 403, val := Value.ref 171 }, { hash := PyData.keyHash P (Str.ofString "get_fws"), key := Value.str (Str.ofString "get_fws") 412, val := Value.ref 180 }] 27 }
def tree_19 (P : Params) (X : Nat → Obj) : BT := (.node (boot_o_0 P) (.node (boot_o_1 P) (.node (q19_3 P) (.node (boot_o_7 P) (.node (q2_15 P) (.node (X 31) (.node (X 63) (.node (q16_127 P) .nil .nil) .nil) (.node (q16_95 P) (.node (q17_159 P) .nil .nil) .nil)) (.node (X 47) (.node (q16_79 P) (.node (q16_143 P) .nil .nil) .nil) (.node (q16_111 P) (.node (q18_175 P) .nil .nil) .nil))) (.node (X 23) (.node (X 39) (.node (q16_71 P) (.node (q16_135 P) .nil .nil) .nil) (.node (q16_103 P) (.node (q17_167 P) .nil .nil) .nil)) (.node (X 55) (.node (q16_87 P) (.node (q17_151 P) .nil .nil) .nil) (.node (q16_119 P) .nil .nil)))) (.node (qpre_11 P) (.node (q2_19 P) (.node (X 35) (.node (X 67) (.node (q16_131 P) .nil .nil) .nil) (.node (q16_99 P) (.node (q17_163 P) .nil .nil) .nil)) (.node (X 51) (.node (q16_83 P) (.node (q17_147 P) .nil .nil) .nil) (.node (q16_115 P) (.node (q18_179 P) .nil .nil) .nil))) (.node (X 27) (.node (X 43) (.node (q16_75 P) (.node (q16_139 P) .nil .nil) .nil) (.node (q16_107 P) (.node (q17_171 P) .nil .nil) .nil)) (.node (X 59) (.node (q16_91 P) (.node (q17_155 P) .nil .nil) .nil) (.node (q16_123 P) .nil .nil))))) (.node (boot_o_5 P) (.node (boot_o_9 P) (.node (q2_17 P) (.node (X 33) (.node (X 65) (.node (q16_129 P) .nil .nil) .nil) (.node (q16_97 P) (.node (q17_161 P) .nil .nil) .nil)) (.node (X 49) (.node (q16_81 P) (.node (q16_145 P) .nil .nil) .nil) (.node (q16_113 P) (.node (q18_177 P) .nil .nil) .nil))) (.node (X 25) (.node (X 41) (.node (q16_73 P) (.node (q16_137 P) .nil .nil) .nil) (.node (q16_105 P) (.node (q17_169 P) .nil .nil) .nil)) (.node (X 57) (.node (q16_89 P) (.node (q17_153 P) .nil .nil) .nil) (.node (q16_121 P) .nil .nil)))) (.node (qpre_13 P) (.node (q2_21 P) (.node (X 37) (.node (X 69) (.node (q16_133 P) .nil .nil) .nil) (.node (q16_101 P) (.node (q17_165 P) .nil .nil) .nil)) (.node (X 53) (.node (q16_85 P) (.node (q17_149 P) .nil .nil) .nil) (.node (q16_117 P) .nil .nil))) (.node (X 29) (.node (X 45) (.node (q16_77 P) (.node (q17_141 P) .nil .nil) .nil) (.node (q16_109 P) (.node (q17_173 P) .nil .nil) .nil)) (.node (X 61) (.node (q16_93 P) (.node (q17_157 P) .nil .nil) .nil) (.node (q16_125 P) .nil .nil)))))) (.node (q16_2 P) (.node (boot_o_4 P) (.node (boot_o_8 P) (.node (q2_16 P) (.node (X 32) (.node (X 64) (.node (q16_128 P) .nil .nil) .nil) (.node (q16_96 P) (.node (q17_160 P) .nil .nil) .nil)) (.node (X 48) (.node (q16_80 P) (.node (q16_144 P) .nil .nil) .nil) (.node (q16_112 P) (.node (q18_176 P) .nil .nil) .nil))) (.node (X 24) (.node (X 40) (.node (q16_72 P) (.node (q16_136 P) .nil .nil) .nil) (.node (q16_104 P) (.node (q17_168 P) .nil .nil) .nil)) (.node (X 56) (.node (q16_88 P) (.node (q17_152 P) .nil .nil) .nil) (.node (q16_120 P) .nil .nil)))) (.node (q18_12 P) (.node (q2_20 P) (.node (X 36) (.node (X 68) (.node (q16_132 P) .nil .nil) .nil) (.node (q16_100 P) (.node (q17_164 P) .nil .nil) .nil)) (.node (X 52) (.node (q16_84 P) (.node (q17_148 P) .nil .nil) .nil) (.node (q16_116 P) (.node (q18_180 P) .nil .nil) .nil))) (.node (X 28) (.node (X 44) (.node (q16_76 P) (.node (q16_140 P) .nil .nil) .nil) (.node (q16_108 P) (.node (q17_172 P) .nil .nil) .nil)) (.node (X 60) (.node (q16_92 P) (.node (q17_156 P) .nil .nil) .nil) (.node (q16_124 P) .nil .nil))))) (.node (boot_o_6 P) (.node (boot_o_10 P) (.node (q2_18 P) (.node (X 34) (.node (X 66) (.node (q16_130 P) .nil .nil) .nil) (.node (q16_98 P) (.node (q17_162 P) .nil .nil) .nil)) (.node (X 50) (.node (q16_82 P) (.node (q16_146 P) .nil .nil) .nil) (.node (q16_114 P) (.node (q18_178 P) .nil .nil) .nil))) (.node (X 26) (.node (X 42) (.node (q16_74 P) (.node (q16_138 P) .nil .nil) .nil) (.node (q16_106 P) (.node (q17_170 P) .nil .nil) .nil)) (.node (X 58) (.node (q16_90 P) (.node (q17_154 P) .nil .nil) .nil) (.node (q16_122 P) .nil .nil)))) (.node (qpre_14 P) (.node (X 22) (.node (X 38) (.node (q16_70 P) (.node (q16_134 P) .nil .nil) .nil) (.node (q16_102 P) (.node (q17_166 P) .nil .nil) .nil)) (.node (X 54) (.node (q16_86 P) (.node (q17_150 P) .nil .nil) .nil) (.node (q16_118 P) .nil .nil))) (.node (X 30) (.node (X 46) (.node (q16_78 P) (.node (q16_142 P) .nil .nil) .nil) (.node (q16_110 P) (.node (q18_174 P) .nil .nil) .nil)) (.node (X 62) (.node (q16_94 P) (.node (q17_158 P) .nil .nil) .nil) (.node (q16_126 P) .nil .nil)))))))
-- size 181 toks 415 
def q20_3 (P : Params) : Obj := { cls := Value.type "dict", data := Data.dict #[{ hash := PyData.keyHash P (Str.ofString "__name__"), key := Value.str (Str.ofString "__name__") 165, val := Value.str (Str.ofString "law_lg0006_01") 413 }, { hash := PyData.keyHash P (Str.ofString "__doc__"), key := Value.str (Str.ofString "__doc__") 166, val := Value.none }, { hash := PyData.keyHash P (Str.ofString "__package__"), key := Value.str (Str.ofString "__package__") 167, val := Value.none }, { hash := PyData.keyHash P (Str.ofString "__loader__"), key := Value.str (Str.ofString "__loader__") 168, val := Value.builtin "__main__.__loader__#opaque" }, { hash := PyData.keyHash P (Str.ofString "__spec__"), key := Value.str (Str.ofString "__spec__") 169, val := Value.none }, { hash := PyData.keyHash P (Str.ofString "__annotations__"), key := Value.str (Str.ofString "__annotations__") 170, val := Value.ref 6 }, { hash := PyData.keyHash P (Str.ofString "__builtins__"), key := Value.str (Str.ofString "__builtins__") 171, val := Value.ref 4 }, { hash := PyData.keyHash P (Str.ofString "__file__"), key := Value.str (Str.ofString "__file__") 173, val := Value.str (Str.ofString "/claim/cut.py") 172 }, { hash := PyData.keyHash P (Str.ofString "__cached__"), key := Value.str (Str.ofString "__cached__") 174, val := Value.none }, { hash := PyData.keyHash P (Str.ofString "_wall"), key := Value.str (Str.ofString "_wall") 193, val := Value.ref 21 }, { hash := PyData.keyHash P (Str.ofString "_WSP"), key := Value.str (Str.ofString "_WSP") 197, val := Value.str (Str.ofString " \t") 196 }, { hash := PyData.keyHash P (Str.ofString "WSP"), key := Value.str (Str.ofString "WSP") 202, val := Value.ref 22 }, { hash := PyData.keyHash P (Str.ofString "CFWS_LEADER"), key := Value.str (Str.ofString "CFWS_LEADER") 206, val := Value.ref 30 }, { hash := PyData.keyHash P (Str.ofString "SPECIALS"), key := Value.str (Str.ofString "SPECIALS") 234, val := Value.ref 31 }, { hash := PyData.keyHash P (Str.ofString "ATOM_ENDS"), key := Value.str (Str.ofString "ATOM_ENDS") 235, val := Value.ref 35 }, { hash := PyData.keyHash P (Str.ofString "DOT_ATOM_ENDS"), key := Value.str (Str.ofString "DOT_ATOM_ENDS") 239, val := Value.ref 40 }, { hash := PyData.keyHash P (Str.ofString "PHRASE_ENDS"), key := Value.str (Str.ofString "PHRASE_ENDS") 247, val := Value.ref 45 }, { hash := PyData.keyHash P (Str.ofString "TSPECIALS"), key := Value.str (Str.ofString "TSPECIALS") 258, val := Value.ref 55 }, { hash := PyData.keyHash P (Str.ofString "TOKEN_ENDS"), key := Value.str (Str.ofString "TOKEN_ENDS") 259, val := Value.ref 56 }, { hash := PyData.keyHash P (Str.ofString "ASPECIALS"), key := Value.str (Str.ofString "ASPECIALS") 267, val := Value.ref 61 }, { hash := PyData.keyHash P (Str.ofString "ATTRIBUTE_ENDS"), key := Value.str (Str.ofString "ATTRIBUTE_ENDS") 268, val := Value.ref 62 }, { hash := PyData.keyHash P (Str.ofString "EXTENDED_ATTRIBUTE_ENDS"), key := Value.str (Str.ofString "EXTENDED_ATTRIBUTE_ENDS") 272, val := Value.ref 67 }, { hash := PyData.keyHash P (Str.ofString "NLSET"), key := Value.str (Str.ofString "NLSET") 277, val := Value.ref 68 }, { hash := PyData.keyHash P (Str.ofString "SPECIALSNL"), key := Value.str (Str.ofString "SPECIALSNL") 278, val := Value.ref 69 }, { hash := PyData.keyHash P (Str.ofString "Terminal"), key := Value.str (Str.ofString "Terminal") 372, val := Value.ref 141 }, { hash := PyData.keyHash P (Str.ofString "WhiteSpaceTerminal"), key := Value.str (Str.ofString "WhiteSpaceTerminal") 403, val := Value.ref 171 }, { hash := PyData.keyHash P (Str.ofString "get_fws"), key := Value.str (Str.ofString "get_fws") 412, val := Value.ref 180 }, { hash := PyData.keyHash P (Str.ofString "_law_line"), key := Value.str (Str.ofString "_law_line") 426, val := Value.ref 187 }] 28 }
def q20_12 (P : Params) : Obj := { cls := Value.none, data := Data.fields #[Value.int 1 0, Value.int 0 0, Value.ref 20, Value.int 19 0, Value.int 0 0, Value.ref 76, Value.int 52 0, Value.int 0 0, Value.ref 152, Value.int 60 0, Value.int 0 0, Value.ref 179, Value.int 65 0, Value.int 0 0, Value.ref 186] }
def q20_181 (P : Params) : Obj := { cls := Value.type "tuple", data := Data.seq #[] }
def q20_182 (P : Params) : Obj := { cls := Value.none, data := Data.fields #[] }
def q20_183 (P : Params) : Obj := { cls := Value.type "tuple", data := Data.seq #[Value.str (Str.ofString "numbers") 418, Value.str (Str.ofString "marks") 419, Value.str (Str.ofString "signs") 420, Value.str (Str.ofString "x") 421, Value.str (Str.ofString "k") 422, Value.str (Str.ofString "other") 423] }
def q20_184 (P : Params) : Obj := { cls := Value.type "tuple", data := Data.seq #[] }
def q20_185 (P : Params) : Obj := { cls := Value.none, data := Data.func { name := Str.ofString "_law_line", qualname := Str.ofString "_law_line", params := fParams (stAt [20]), body := FuncBody.stmts (fBody (stAt [20])), scope := fScope (stAt [20]), globals := 0, closure := [], defaults := Value.none, kwdefaults := Value.none } }
def q20_186 (P : Params) : Obj := { cls := Value.type "code", data := Data.fields #[Value.str (Str.ofString "_law_line") 415, Value.str (Str.ofString "_law_line") 416, Value.str (Str.ofString "/claim/cut.py") 417, Value.int 65 0, Value.int 1 0, Value.int 0 0, Value.int 0 0, Value.int 3 0, Value.ref 181, Value.bool true, Value.int 181 0, Value.ref 182, Value.none, Value.ref 183, Value.ref 184, Value.ref 185, Value.int 424 0, Value.int 65 0, Value.str (Str.ofString "/claim/cut.py") 425] }
def q20_187 (P : Params) : Obj := { cls := Value.type "function", data := Data.func { name := Str.ofString "_law_line", qualname := Str.ofString "_law_line", params := fParams (stAt [20]), body := FuncBody.stmts (fBody (stAt [20])), scope := fScope (stAt [20]), globals := 3, closure := [], defaults := Value.none, kwdefaults := Value.none, pyModule := Value.str (Str.ofString "law_lg0006_01") 413, code := Value.ref 186 } }
def tree_20 (P : Params) (X : Nat → Obj) : BT := (.node (boot_o_0 P) (.node (boot_o_1 P) (.node (q20_3 P) (.node (boot_o_7 P) (.node (q2_15 P) (.node (X 31) (.node (X 63) (.node (q16_127 P) .nil .nil) .nil) (.node (q16_95 P) (.node (q17_159 P) .nil .nil) .nil)) (.node (X 47) (.node (q16_79 P) (.node (q16_143 P) .nil .nil) .nil) (.node (q16_111 P) (.node (q18_175 P) .nil .nil) .nil))) (.node (X 23) (.node (X 39) (.node (q16_71 P) (.node (q16_135 P) .nil .nil) .nil) (.node (q16_103 P) (.node (q17_167 P) .nil .nil) .nil)) (.node (X 55) (.node (q16_87 P) (.node (q17_151 P) .nil .nil) .nil) (.node (q16_119 P) (.node (q20_183 P) .nil .nil) .nil)))) (.node (qpre_11 P) (.node (q2_19 P) (.node (X 35) (.node (X 67) (.node (q16_131 P) .nil .nil) .nil) (.node (q16_99 P) (.node (q17_163 P) .nil .nil) .nil)) (.node (X 51) (.node (q16_83 P) (.node (q17_147 P) .nil .nil) .nil) (.node (q16_115 P) (.node (q18_179 P) .nil .nil) .nil))) (.node (X 27) (.node (X 43) (.node (q16_75 P) (.node (q16_139 P) .nil .nil) .nil) (.node (q16_107 P) (.node (q17_171 P) .nil .nil) .nil)) (.node (X 59) (.node (q16_91 P) (.node (q17_155 P) .nil .nil) .nil) (.node (q16_123 P) (.node (q20_187 P) .nil .nil) .nil))))) (.node (boot_o_5 P) (.node (boot_o_9 P) (.node (q2_17 P) (.node (X 33) (.node (X 65) (.node (q16_129 P) .nil .nil) .nil) (.node (q16_97 P) (.node (q17_161 P) .nil .nil) .nil)) (.node (X 49) (.node (q16_81 P) (.node (q16_145 P) .nil .nil) .nil) (.node (q16_113 P) (.node (q18_177 P) .nil .nil) .nil))) (.node (X 25) (.node (X 41) (.node (q16_73 P) (.node (q16_137 P) .nil .nil) .nil) (.node (q16_105 P) (.node (q17_169 P) .nil .nil) .nil)) (.node (X 57) (.node (q16_89 P) (.node (q17_153 P) .nil .nil) .nil) (.node (q16_121 P) (.node (q20_185 P) .nil .nil) .nil)))) (.node (qpre_13 P) (.node (q2_21 P) (.node (X 37) (.node (X 69) (.node (q16_133 P) .nil .nil) .nil) (.node (q16_101 P) (.node (q17_165 P) .nil .nil) .nil)) (.node (X 53) (.node (q16_85 P) (.node (q17_149 P) .nil .nil) .nil) (.node (q16_117 P) (.node (q20_181 P) .nil .nil) .nil))) (.node (X 29) (.node (X 45) (.node (q16_77 P) (.node (q17_141 P) .nil .nil) .nil) (.node (q16_109 P) (.node (q17_173 P) .nil .nil) .nil)) (.node (X 61) (.node (q16_93 P) (.node (q17_157 P) .nil .nil) .nil) (.node (q16_125 P) .nil .nil)))))) (.node (q16_2 P) (.node (boot_o_4 P) (.node (boot_o_8 P) (.node (q2_16 P) (.node (X 32) (.node (X 64) (.node (q16_128 P) .nil .nil) .nil) (.node (q16_96 P) (.node (q17_160 P) .nil .nil) .nil)) (.node (X 48) (.node (q16_80 P) (.node (q16_144 P) .nil .nil) .nil) (.node (q16_112 P) (.node (q18_176 P) .nil .nil) .nil))) (.node (X 24) (.node (X 40) (.node (q16_72 P) (.node (q16_136 P) .nil .nil) .nil) (.node (q16_104 P) (.node (q17_168 P) .nil .nil) .nil)) (.node (X 56) (.node (q16_88 P) (.node (q17_152 P) .nil .nil) .nil) (.node (q16_120 P) (.node (q20_184 P) .nil .nil) .nil)))) (.node (q20_12 P) (.node (q2_20 P) (.node (X 36) (.node (X 68) (.node (q16_132 P) .nil .nil) .nil) (.node (q16_100 P) (.node (q17_164 P) .nil .nil) .nil)) (.node (X 52) (.node (q16_84 P) (.node (q17_148 P) .nil .nil) .nil) (.node (q16_116 P) (.node (q18_180 P) .nil .nil) .nil))) (.node (X 28) (.node (X 44) (.node (q16_76 P) (.node (q16_140 P) .nil .nil) .nil) (.node (q16_108 P) (.node (q17_172 P) .nil .nil) .nil)) (.node (X 60) (.node (q16_92 P) (.node (q17_156 P) .nil .nil) .nil) (.node (q16_124 P) .nil .nil))))) (.node (boot_o_6 P) (.node (boot_o_10 P) (.node (q2_18 P) (.node (X 34) (.node (X 66) (.node (q16_130 P) .nil .nil) .nil) (.node (q16_98 P) (.node (q17_162 P) .nil .nil) .nil)) (.node (X 50) (.node (q16_82 P) (.node (q16_146 P) .nil .nil) .nil) (.node (q16_114 P) (.node (q18_178 P) .nil .nil) .nil))) (.node (X 26) (.node (X 42) (.node (q16_74 P) (.node (q16_138 P) .nil .nil) .nil) (.node (q16_106 P) (.node (q17_170 P) .nil .nil) .nil)) (.node (X 58) (.node (q16_90 P) (.node (q17_154 P) .nil .nil) .nil) (.node (q16_122 P) (.node (q20_186 P) .nil .nil) .nil)))) (.node (qpre_14 P) (.node (X 22) (.node (X 38) (.node (q16_70 P) (.node (q16_134 P) .nil .nil) .nil) (.node (q16_102 P) (.node (q17_166 P) .nil .nil) .nil)) (.node (X 54) (.node (q16_86 P) (.node (q17_150 P) .nil .nil) .nil) (.node (q16_118 P) (.node (q20_182 P) .nil .nil) .nil))) (.node (X 30) (.node (X 46) (.node (q16_78 P) (.node (q16_142 P) .nil .nil) .nil) (.node (q16_110 P) (.node (q18_174 P) .nil .nil) .nil)) (.node (X 62) (.node (q16_94 P) (.node (q17_158 P) .nil .nil) .nil) (.node (q16_126 P) .nil .nil)))))))
-- size 188 toks 427 
def q21_3 (P : Params) : Obj := { cls := Value.type "dict", data := Data.dict #[{ hash := PyData.keyHash P (Str.ofString "__name__"), key := Value.str (Str.ofString "__name__") 165, val := Value.str (Str.ofString "law_lg0006_01") 413 }, { hash := PyData.keyHash P (Str.ofString "__doc__"), key := Value.str (Str.ofString "__doc__") 166, val := Value.none }, { hash := PyData.keyHash P (Str.ofString "__package__"), key := Value.str (Str.ofString "__package__") 167, val := Value.none }, { hash := PyData.keyHash P (Str.ofString "__loader__"), key := Value.str (Str.ofString "__loader__") 168, val := Value.builtin "__main__.__loader__#opaque" }, { hash := PyData.keyHash P (Str.ofString "__spec__"), key := Value.str (Str.ofString "__spec__") 169, val := Value.none }, { hash := PyData.keyHash P (Str.ofString "__annotations__"), key := Value.str (Str.ofString "__annotations__") 170, val := Value.ref 6 }, { hash := PyData.keyHash P (Str.ofString "__builtins__"), key := Value.str (Str.ofString "__builtins__") 171, val := Value.ref 4 }, { hash := PyData.keyHash P (Str.ofString "__file__"), key := Value.str (Str.ofString "__file__") 173, val := Value.str (Str.ofString "/claim/cut.py") 172 }, { hash := PyData.keyHash P (Str.ofString "__cached__"), key := Value.str (Str.ofString "__cached__") 174, val := Value.none }, { hash := PyData.keyHash P (Str.ofString "_wall"), key := Value.str (Str.ofString "_wall") 193, val := Value.ref 21 }, { hash := PyData.keyHash P (Str.ofString "_WSP"), key := Value.str (Str.ofString "_WSP") 197, val := Value.str (Str.ofString " \t") 196 }, { hash := PyData.keyHash P (Str.ofString "WSP"), key := Value.str (Str.ofString "WSP") 202, val := Value.ref 22 }, { hash := PyData.keyHash P (Str.ofString "CFWS_LEADER"), key := Value.str (Str.ofString "CFWS_LEADER") 206, val := Value.ref 30 }, { hash := PyData.keyHash P (Str.ofString "SPECIALS"), key := Value.str (Str.ofString "SPECIALS") 234, val := Value.ref 31 }, { hash := PyData.keyHash P (Str.ofString "ATOM_ENDS"), key := Value.str (Str.ofString "ATOM_ENDS") 235, val := Value.ref 35 }, { hash := PyData.keyHash P (Str.ofString "DOT_ATOM_ENDS"), key := Value.str (Str.ofString "DOT_ATOM_ENDS") 239, val := Value.ref 40 }, { hash := PyData.keyHash P (Str.ofString "PHRASE_ENDS"), key := Value.str (Str.ofString "PHRASE_ENDS") 247, val := Value.ref 45 }, { hash := PyData.keyHash P (Str.ofString "TSPECIALS"), key := Value.str (Str.ofString "TSPECIALS") 258, val := Value.ref 55 }, { hash := PyData.keyHash P (Str.ofString "TOKEN_ENDS"), key := Value.str (Str.ofString "TOKEN_ENDS") 259, val := Value.ref 56 }, { hash := PyData.keyHash P (Str.ofString "ASPECIALS"), key := Value.str (Str.ofString "ASPECIALS") 267, val := Value.ref 61 }, { hash := PyData.keyHash P (Str.ofString "ATTRIBUTE_ENDS"), key := Value.str (Str.ofString "ATTRIBUTE_ENDS") 268, val := Value.ref 62 }, { hash := PyData.keyHash P (Str.ofString "EXTENDED_ATTRIBUTE_ENDS"), key := Value.str (Str.ofString "EXTENDED_ATTRIBUTE_ENDS") 272, val := Value.ref 67 }, { hash := PyData.keyHash P (Str.ofString "NLSET"), key := Value.str (Str.ofString "NLSET") 277, val := Value.ref 68 }, { hash := PyData.keyHash P (Str.ofString "SPECIALSNL"), key := Value.str (Str.ofString "SPECIALSNL") 278, val := Value.ref 69 }, { hash := PyData.keyHash P (Str.ofString "Terminal"), key := Value.str (Str.ofString "Terminal") 372, val := Value.ref 141 }, { hash := PyData.keyHash P (Str.ofString "WhiteSpaceTerminal"), key := Value.str (Str.ofString "WhiteSpaceTerminal") 403, val := Value.ref 171 }, { hash := PyData.keyHash P (Str.ofString "get_fws"), key := Value.str (Str.ofString "get_fws") 412, val := Value.ref 180 }, { hash := PyData.keyHash P (Str.ofString "_law_line"), key := Value.str (Str.ofString "_law_line") 426, val := Value.ref 187 }, { hash := PyData.keyHash P (Str.ofString "_law_is_white"), key := Value.str (Str.ofString "_law_is_white") 433, val := Value.ref 194 }] 29 }
def q21_12 (P : Params) : Obj := { cls := Value.none, data := Data.fields #[Value.int 1 0, Value.int 0 0, Value.ref 20, Value.int 19 0, Value.int 0 0, Value.ref 76, Value.int 52 0, Value.int 0 0, Value.ref 152, Value.int 60 0, Value.int 0 0, Value.ref 179, Value.int 65 0, Value.int 0 0, Value.ref 186, Value.int 73 0, Value.int 0 0, Value.ref 193] }
def q21_188 (P : Params) : Obj := { cls := Value.type "tuple", data := Data.seq #[] }
def q21_189 (P : Params) : Obj := { cls := Value.none, data := Data.fields #[] }
def q21_190 (P : Params) : Obj := { cls := Value.type "tuple", data := Data.seq #[Value.str (Str.ofString "code") 430] }
def q21_191 (P : Params) : Obj := { cls := Value.type "tuple", data := Data.seq #[] }
def q21_192 (P : Params) : Obj := { cls := Value.none, data := Data.func { name := Str.ofString "_law_is_white", qualname := Str.ofString "_law_is_white", params := fParams (stAt [21]), body := FuncBody.stmts (fBody (stAt [21])), scope := fScope (stAt [21]), globals := 0, closure := [], defaults := Value.none, kwdefaults := Value.none } }
def q21_193 (P : Params) : Obj := { cls := Value.type "code", data := Data.fields #[Value.str (Str.ofString "_law_is_white") 427, Value.str (Str.ofString "_law_is_white") 428, Value.str (Str.ofString "/claim/cut.py") 429, Value.int 73 0, Value.int 1 0, Value.int 0 0, Value.int 0 0, Value.int 3 0, Value.ref 188, Value.bool true, Value.int 181 0, Value.ref 189, Value.none, Value.ref 190, Value.ref 191, Value.ref 192, Value.int 431 0, Value.int 73 0, Value.str (Str.ofString "/claim/cut.py") 432] }
def q21_194 (P : Params) : Obj := { cls := Value.type "function", data := Data.func { name := Str.ofString "_law_is_white", qualname := Str.ofString "_law_is_white", params := fParams (stAt [21]), body := FuncBody.stmts (fBody (stAt [21])), scope := fScope (stAt [21]), globals := 3, closure := [], defaults := Value.none, kwdefaults := Value.none, pyModule := Value.str (Str.ofString "law_lg0006_01") 413, code := Value.ref 193 } }
def tree_21 (P : Params) (X : Nat → Obj) : BT := (.node (boot_o_0 P) (.node (boot_o_1 P) (.node (q21_3 P) (.node (boot_o_7 P) (.node (q2_15 P) (.node (X 31) (.node (X 63) (.node (q16_127 P) .nil .nil) (.node (q21_191 P) .nil .nil)) (.node (q16_95 P) (.node (q17_159 P) .nil .nil) .nil)) (.node (X 47) (.node (q16_79 P) (.node (q16_143 P) .nil .nil) .nil) (.node (q16_111 P) (.node (q18_175 P) .nil .nil) .nil))) (.node (X 23) (.node (X 39) (.node (q16_71 P) (.node (q16_135 P) .nil .nil) .nil) (.node (q16_103 P) (.node (q17_167 P) .nil .nil) .nil)) (.node (X 55) (.node (q16_87 P) (.node (q17_151 P) .nil .nil) .nil) (.node (q16_119 P) (.node (q20_183 P) .nil .nil) .nil)))) (.node (qpre_11 P) (.node (q2_19 P) (.node (X 35) (.node (X 67) (.node (q16_131 P) .nil .nil) .nil) (.node (q16_99 P) (.node (q17_163 P) .nil .nil) .nil)) (.node (X 51) (.node (q16_83 P) (.node (q17_147 P) .nil .nil) .nil) (.node (q16_115 P) (.node (q18_179 P) .nil .nil) .nil))) (.node (X 27) (.node (X 43) (.node (q16_75 P) (.node (q16_139 P) .nil .nil) .nil) (.node (q16_107 P) (.node (q17_171 P) .nil .nil) .nil)) (.node (X 59) (.node (q16_91 P) (.node (q17_155 P) .nil .nil) .nil) (.node (q16_123 P) (.node (q20_187 P) .nil .nil) .nil))))) (.node (boot_o_5 P) (.node (boot_o_9 P) (.node (q2_17 P) (.node (X 33) (.node (X 65) (.node (q16_129 P) .nil .nil) (.node (q21_193 P) .nil .nil)) (.node (q16_97 P) (.node (q17_161 P) .nil .nil) .nil)) (.node (X 49) (.node (q16_81 P) (.node (q16_145 P) .nil .nil) .nil) (.node (q16_113 P) (.node (q18_177 P) .nil .nil) .nil))) (.node (X 25) (.node (X 41) (.node (q16_73 P) (.node (q16_137 P) .nil .nil) .nil) (.node (q16_105 P) (.node (q17_169 P) .nil .nil) .nil)) (.node (X 57) (.node (q16_89 P) (.node (q17_153 P) .nil .nil) .nil) (.node (q16_121 P) (.node (q20_185 P) .nil .nil) .nil)))) (.node (qpre_13 P) (.node (q2_21 P) (.node (X 37) (.node (X 69) (.node (q16_133 P) .nil .nil) .nil) (.node (q16_101 P) (.node (q17_165 P) .nil .nil) .nil)) (.node (X 53) (.node (q16_85 P) (.node (q17_149 P) .nil .nil) .nil) (.node (q16_117 P) (.node (q20_181 P) .nil .nil) .nil))) (.node (X 29) (.node (X 45) (.node (q16_77 P) (.node (q17_141 P) .nil .nil) .nil) (.node (q16_109 P) (.node (q17_173 P) .nil .nil) .nil)) (.node (X 61) (.node (q16_93 P) (.node (q17_157 P) .nil .nil) .nil) (.node (q16_125 P) (.node (q21_189 P) .nil .nil) .nil)))))) (.node (q16_2 P) (.node (boot_o_4 P) (.node (boot_o_8 P) (.node (q2_16 P) (.node (X 32) (.node (X 64) (.node (q16_128 P) .nil .nil) (.node (q21_192 P) .nil .nil)) (.node (q16_96 P) (.node (q17_160 P) .nil .nil) .nil)) (.node (X 48) (.node (q16_80 P) (.node (q16_144 P) .nil .nil) .nil) (.node (q16_112 P) (.node (q18_176 P) .nil .nil) .nil))) (.node (X 24) (.node (X 40) (.node (q16_72 P) (.node (q16_136 P) .nil .nil) .nil) (.node (q16_104 P) (.node (q17_168 P) .nil .nil) .nil)) (.node (X 56) (.node (q16_88 P) (.node (q17_152 P) .nil .nil) .nil) (.node (q16_120 P) (.node (q20_184 P) .nil .nil) .nil)))) (.node (q21_12 P) (.node (q2_20 P) (.node (X 36) (.node (X 68) (.node (q16_132 P) .nil .nil) .nil) (.node (q16_100 P) (.node (q17_164 P) .nil .nil) .nil)) (.node (X 52) (.node (q16_84 P) (.node (q17_148 P) .nil .nil) .nil) (.node (q16_116 P) (.node (q18_180 P) .nil .nil) .nil))) (.node (X 28) (.node (X 44) (.node (q16_76 P) (.node (q16_140 P) .nil .nil) .nil) (.node (q16_108 P) (.node (q17_172 P) .nil .nil) .nil)) (.node (X 60) (.node (q16_92 P) (.node (q17_156 P) .nil .nil) .nil) (.node (q16_124 P) (.node (q21_188 P) .nil .nil) .nil))))) (.node (boot_o_6 P) (.node (boot_o_10 P) (.node (q2_18 P) (.node (X 34) (.node (X 66) (.node (q16_130 P) .nil .nil) (.node (q21_194 P) .nil .nil)) (.node (q16_98 P) (.node (q17_162 P) .nil .nil) .nil)) (.node (X 50) (.node (q16_82 P) (.node (q16_146 P) .nil .nil) .nil) (.node (q16_114 P) (.node (q18_178 P) .nil .nil) .nil))) (.node (X 26) (.node (X 42) (.node (q16_74 P) (.node (q16_138 P) .nil .nil) .nil) (.node (q16_106 P) (.node (q17_170 P) .nil .nil) .nil)) (.node (X 58) (.node (q16_90 P) (.node (q17_154 P) .nil .nil) .nil) (.node (q16_122 P) (.node (q20_186 P) .nil .nil) .nil)))) (.node (qpre_14 P) (.node (X 22) (.node (X 38) (.node (q16_70 P) (.node (q16_134 P) .nil .nil) .nil) (.node (q16_102 P) (.node (q17_166 P) .nil .nil) .nil)) (.node (X 54) (.node (q16_86 P) (.node (q17_150 P) .nil .nil) .nil) (.node (q16_118 P) (.node (q20_182 P) .nil .nil) .nil))) (.node (X 30) (.node (X 46) (.node (q16_78 P) (.node (q16_142 P) .nil .nil) .nil) (.node (q16_110 P) (.node (q18_174 P) .nil .nil) .nil)) (.node (X 62) (.node (q16_94 P) (.node (q17_158 P) .nil .nil) .nil) (.node (q16_126 P) (.node (q21_190 P) .nil .nil) .nil)))))))
-- size 195 toks 434 
def q22_3 (P : Params) : Obj := { cls := Value.type "dict", data := Data.dict #[{ hash := PyData.keyHash P (Str.ofString "__name__"), key := Value.str (Str.ofString "__name__") 165, val := Value.str (Str.ofString "law_lg0006_01") 413 }, { hash := PyData.keyHash P (Str.ofString "__doc__"), key := Value.str (Str.ofString "__doc__") 166, val := Value.none }, { hash := PyData.keyHash P (Str.ofString "__package__"), key := Value.str (Str.ofString "__package__") 167, val := Value.none }, { hash := PyData.keyHash P (Str.ofString "__loader__"), key := Value.str (Str.ofString "__loader__") 168, val := Value.builtin "__main__.__loader__#opaque" }, { hash := PyData.keyHash P (Str.ofString "__spec__"), key := Value.str (Str.ofString "__spec__") 169, val := Value.none }, { hash := PyData.keyHash P (Str.ofString "__annotations__"), key := Value.str (Str.ofString "__annotations__") 170, val := Value.ref 6 }, { hash := PyData.keyHash P (Str.ofString "__builtins__"), key := Value.str (Str.ofString "__builtins__") 171, val := Value.ref 4 }, { hash := PyData.keyHash P (Str.ofString "__file__"), key := Value.str (Str.ofString "__file__") 173, val := Value.str (Str.ofString "/claim/cut.py") 172 }, { hash := PyData.keyHash P (Str.ofString "__cached__"), key := Value.str (Str.ofString "__cached__") 174, val := Value.none }, { hash := PyData.keyHash P (Str.ofString "_wall"), key := Value.str (Str.ofString "_wall") 193, val := Value.ref 21 }, { hash := PyData.keyHash P (Str.ofString "_WSP"), key := Value.str (Str.ofString "_WSP") 197, val := Value.str (Str.ofString " \t") 196 }, { hash := PyData.keyHash P (Str.ofString "WSP"), key := Value.str (Str.ofString "WSP") 202, val := Value.ref 22 }, { hash := PyData.keyHash P (Str.ofString "CFWS_LEADER"), key := Value.str (Str.ofString "CFWS_LEADER") 206, val := Value.ref 30 }, { hash := PyData.keyHash P (Str.ofString "SPECIALS"), key := Value.str (Str.ofString "SPECIALS") 234, val := Value.ref 31 }, { hash := PyData.keyHash P (Str.ofString "ATOM_ENDS"), key := Value.str (Str.ofString "ATOM_ENDS") 235, val := Value.ref 35 }, { hash := PyData.keyHash P (Str.ofString "DOT_ATOM_ENDS"), key := Value.str (Str.ofString "DOT_ATOM_ENDS") 239, val := Value.ref 40 }, { hash := PyData.keyHash P (Str.ofString "PHRASE_ENDS"), key := Value.str (Str.ofString "PHRASE_ENDS") 247, val := Value.ref 45 }, { hash := PyData.keyHash P (Str.ofString "TSPECIALS"), key := Value.str (Str.ofString "TSPECIALS") 258, val := Value.ref 55 }, { hash := PyData.keyHash P (Str.ofString "TOKEN_ENDS"), key := Value.str (Str.ofString "TOKEN_ENDS") 259, val := Value.ref 56 }, { hash := PyData.keyHash P (Str.ofString "ASPECIALS"), key := Value.str (Str.ofString "ASPECIALS") 267, val := Value.ref 61 }, { hash := PyData.keyHash P (Str.ofString "ATTRIBUTE_ENDS"), key := Value.str (Str.ofString "ATTRIBUTE_ENDS") 268, val := Value.ref 62 }, { hash := PyData.keyHash P (Str.ofString "EXTENDED_ATTRIBUTE_ENDS"), key := Value.str (Str.ofString "EXTENDED_ATTRIBUTE_ENDS") 272, val := Value.ref 67 }, { hash := PyData.keyHash P (Str.ofString "NLSET"), key := Value.str (Str.ofString "NLSET") 277, val := Value.ref 68 }, { hash := PyData.keyHash P (Str.ofString "SPECIALSNL"), key := Value.str (Str.ofString "SPECIALSNL") 278, val := Value.ref 69 }, { hash := PyData.keyHash P (Str.ofString "Terminal"), key := Value.str (Str.ofString "Terminal") 372, val := Value.ref 141 }, { hash := PyData.keyHash P (Str.ofString "WhiteSpaceTerminal"), key := Value.str (Str.ofString "WhiteSpaceTerminal") 403, val := Value.ref 171 }, { hash := PyData.keyHash P (Str.ofString "get_fws"), key := Value.str (Str.ofString "get_fws") 412, val := Value.ref 180 }, { hash := PyData.keyHash P (Str.ofString "_law_line"), key := Value.str (Str.ofString "_law_line") 426, val := Value.ref 187 }, { hash := PyData.keyHash P (Str.ofString "_law_is_white"), key := Value.str (Str.ofString "_law_is_white") 433, val := Value.ref 194 }, { hash := PyData.keyHash P (Str.ofString "_law_told"), key := Value.str (Str.ofString "_law_told") 444, val := Value.ref 201 }] 30 }
def q22_12 (P : Params) : Obj := { cls := Value.none, data := Data.fields #[Value.int 1 0, Value.int 0 0, Value.ref 20, Value.int 19 0, Value.int 0 0, Value.ref 76, Value.int 52 0, Value.int 0 0, Value.ref 152, Value.int 60 0, Value.int 0 0, Value.ref 179, Value.int 65 0, Value.int 0 0, Value.ref 186, Value.int 73 0, Value.int 0 0, Value.ref 193, Value.int 75 0, Value.int 0 0, Value.ref 200] }
def q22_195 (P : Params) : Obj := { cls := Value.type "tuple", data := Data.seq #[] }
def q22_196 (P : Params) : Obj := { cls := Value.none, data := Data.fields #[] }
def q22_197 (P : Params) : Obj := { cls := Value.type "tuple", data := Data.seq #[Value.str (Str.ofString "line") 437, Value.str (Str.ofString "ends") 438, Value.str (Str.ofString "parts") 439, Value.str (Str.ofString "token") 440, Value.str (Str.ofString "size") 441] }
def q22_198 (P : Params) : Obj := { cls := Value.type "tuple", data := Data.seq #[] }
def q22_199 (P : Params) : Obj := { cls := Value.none, data := Data.func { name := Str.ofString "_law_told", qualname := Str.ofString "_law_told", params := fParams (stAt [22]), body := FuncBody.stmts (fBody (stAt [22])), scope := fScope (stAt [22]), globals := 0, closure := [], defaults := Value.none, kwdefaults := Value.none } }
def q22_200 (P : Params) : Obj := { cls := Value.type "code", data := Data.fields #[Value.str (Str.ofString "_law_told") 434, Value.str (Str.ofString "_law_told") 435, Value.str (Str.ofString "/claim/cut.py") 436, Value.int 75 0, Value.int 2 0, Value.int 0 0, Value.int 0 0, Value.int 3 0, Value.ref 195, Value.bool true, Value.int 181 0, Value.ref 196, Value.none, Value.ref 197, Value.ref 198, Value.ref 199, Value.int 442 0, Value.int 75 0, Value.str (Str.ofString "/claim/cut.py") 443] }
def q22_201 (P : Params) : Obj := { cls := Value.type "function", data := Data.func { name := Str.ofString "_law_told", qualname := Str.ofString "_law_told", params := fParams (stAt [22]), body := FuncBody.stmts (fBody (stAt [22])), scope := fScope (stAt [22]), globals := 3, closure := [], defaults := Value.none, kwdefaults := Value.none, pyModule := Value.str (Str.ofString "law_lg0006_01") 413, code := Value.ref 200 } }
def tree_22 (P : Params) (X : Nat → Obj) : BT := (.node (boot_o_0 P) (.node (boot_o_1 P) (.node (q22_3 P) (.node (boot_o_7 P) (.node (q2_15 P) (.node (X 31) (.node (X 63) (.node (q16_127 P) .nil .nil) (.node (q21_191 P) .nil .nil)) (.node (q16_95 P) (.node (q17_159 P) .nil .nil) .nil)) (.node (X 47) (.node (q16_79 P) (.node (q16_143 P) .nil .nil) .nil) (.node (q16_111 P) (.node (q18_175 P) .nil .nil) .nil))) (.node (X 23) (.node (X 39) (.node (q16_71 P) (.node (q16_135 P) .nil .nil) (.node (q22_199 P) .nil .nil)) (.node (q16_103 P) (.node (q17_167 P) .nil .nil) .nil)) (.node (X 55) (.node (q16_87 P) (.node (q17_151 P) .nil .nil) .nil) (.node (q16_119 P) (.node (q20_183 P) .nil .nil) .nil)))) (.node (qpre_11 P) (.node (q2_19 P) (.node (X 35) (.node (X 67) (.node (q16_131 P) .nil .nil) (.node (q22_195 P) .nil .nil)) (.node (q16_99 P) (.node (q17_163 P) .nil .nil) .nil)) (.node (X 51) (.node (q16_83 P) (.node (q17_147 P) .nil .nil) .nil) (.node (q16_115 P) (.node (q18_179 P) .nil .nil) .nil))) (.node (X 27) (.node (X 43) (.node (q16_75 P) (.node (q16_139 P) .nil .nil) .nil) (.node (q16_107 P) (.node (q17_171 P) .nil .nil) .nil)) (.node (X 59) (.node (q16_91 P) (.node (q17_155 P) .nil .nil) .nil) (.node (q16_123 P) (.node (q20_187 P) .nil .nil) .nil))))) (.node (boot_o_5 P) (.node (boot_o_9 P) (.node (q2_17 P) (.node (X 33) (.node (X 65) (.node (q16_129 P) .nil .nil) (.node (q21_193 P) .nil .nil)) (.node (q16_97 P) (.node (q17_161 P) .nil .nil) .nil)) (.node (X 49) (.node (q16_81 P) (.node (q16_145 P) .nil .nil) .nil) (.node (q16_113 P) (.node (q18_177 P) .nil .nil) .nil))) (.node (X 25) (.node (X 41) (.node (q16_73 P) (.node (q16_137 P) .nil .nil) (.node (q22_201 P) .nil .nil)) (.node (q16_105 P) (.node (q17_169 P) .nil .nil) .nil)) (.node (X 57) (.node (q16_89 P) (.node (q17_153 P) .nil .nil) .nil) (.node (q16_121 P) (.node (q20_185 P) .nil .nil) .nil)))) (.node (qpre_13 P) (.node (q2_21 P) (.node (X 37) (.node (X 69) (.node (q16_133 P) .nil .nil) (.node (q22_197 P) .nil .nil)) (.node (q16_101 P) (.node (q17_165 P) .nil .nil) .nil)) (.node (X 53) (.node (q16_85 P) (.node (q17_149 P) .nil .nil) .nil) (.node (q16_117 P) (.node (q20_181 P) .nil .nil) .nil))) (.node (X 29) (.node (X 45) (.node (q16_77 P) (.node (q17_141 P) .nil .nil) .nil) (.node (q16_109 P) (.node (q17_173 P) .nil .nil) .nil)) (.node (X 61) (.node (q16_93 P) (.node (q17_157 P) .nil .nil) .nil) (.node (q16_125 P) (.node (q21_189 P) .nil .nil) .nil)))))) (.node (q16_2 P) (.node (boot_o_4 P) (.node (boot_o_8 P) (.node (q2_16 P) (.node (X 32) (.node (X 64) (.node (q16_128 P) .nil .nil) (.node (q21_192 P) .nil .nil)) (.node (q16_96 P) (.node (q17_160 P) .nil .nil) .nil)) (.node (X 48) (.node (q16_80 P) (.node (q16_144 P) .nil .nil) .nil) (.node (q16_112 P) (.node (q18_176 P) .nil .nil) .nil))) (.node (X 24) (.node (X 40) (.node (q16_72 P) (.node (q16_136 P) .nil .nil) (.node (q22_200 P) .nil .nil)) (.node (q16_104 P) (.node (q17_168 P) .nil .nil) .nil)) (.node (X 56) (.node (q16_88 P) (.node (q17_152 P) .nil .nil) .nil) (.node (q16_120 P) (.node (q20_184 P) .nil .nil) .nil)))) (.node (q22_12 P) (.node (q2_20 P) (.node (X 36) (.node (X 68) (.node (q16_132 P) .nil .nil) (.node (q22_196 P) .nil .nil)) (.node (q16_100 P) (.node (q17_164 P) .nil .nil) .nil)) (.node (X 52) (.node (q16_84 P) (.node (q17_148 P) .nil .nil) .nil) (.node (q16_116 P) (.node (q18_180 P) .nil .nil) .nil))) (.node (X 28) (.node (X 44) (.node (q16_76 P) (.node (q16_140 P) .nil .nil) .nil) (.node (q16_108 P) (.node (q17_172 P) .nil .nil) .nil)) (.node (X 60) (.node (q16_92 P) (.node (q17_156 P) .nil .nil) .nil) (.node (q16_124 P) (.node (q21_188 P) .nil .nil) .nil))))) (.node (boot_o_6 P) (.node (boot_o_10 P) (.node (q2_18 P) (.node (X 34) (.node (X 66) (.node (q16_130 P) .nil .nil) (.node (q21_194 P) .nil .nil)) (.node (q16_98 P) (.node (q17_162 P) .nil .nil) .nil)) (.node (X 50) (.node (q16_82 P) (.node (q16_146 P) .nil .nil) .nil) (.node (q16_114 P) (.node (q18_178 P) .nil .nil) .nil))) (.node (X 26) (.node (X 42) (.node (q16_74 P) (.node (q16_138 P) .nil .nil) .nil) (.node (q16_106 P) (.node (q17_170 P) .nil .nil) .nil)) (.node (X 58) (.node (q16_90 P) (.node (q17_154 P) .nil .nil) .nil) (.node (q16_122 P) (.node (q20_186 P) .nil .nil) .nil)))) (.node (qpre_14 P) (.node (X 22) (.node (X 38) (.node (q16_70 P) (.node (q16_134 P) .nil .nil) (.node (q22_198 P) .nil .nil)) (.node (q16_102 P) (.node (q17_166 P) .nil .nil) .nil)) (.node (X 54) (.node (q16_86 P) (.node (q17_150 P) .nil .nil) .nil) (.node (q16_118 P) (.node (q20_182 P) .nil .nil) .nil))) (.node (X 30) (.node (X 46) (.node (q16_78 P) (.node (q16_142 P) .nil .nil) .nil) (.node (q16_110 P) (.node (q18_174 P) .nil .nil) .nil)) (.node (X 62) (.node (q16_94 P) (.node (q17_158 P) .nil .nil) .nil) (.node (q16_126 P) (.node (q21_190 P) .nil .nil) .nil)))))))
-- size 202 toks 445 
def q23_3 (P : Params) : Obj := { cls := Value.type "dict", data := Data.dict #[{ hash := PyData.keyHash P (Str.ofString "__name__"), key := Value.str (Str.ofString "__name__") 165, val := Value.str (Str.ofString "law_lg0006_01") 413 }, { hash := PyData.keyHash P (Str.ofString "__doc__"), key := Value.str (Str.ofString "__doc__") 166, val := Value.none }, { hash := PyData.keyHash P (Str.ofString "__package__"), key := Value.str (Str.ofString "__package__") 167, val := Value.none }, { hash := PyData.keyHash P (Str.ofString "__loader__"), key := Value.str (Str.ofString "__loader__") 168, val := Value.builtin "__main__.__loader__#opaque" }, { hash := PyData.keyHash P (Str.ofString "__spec__"), key := Value.str (Str.ofString "__spec__") 169, val := Value.none }, { hash := PyData.keyHash P (Str.ofString "__annotations__"), key := Value.str (Str.ofString "__annotations__") 170, val := Value.ref 6 }, { hash := PyData.keyHash P (Str.ofString "__builtins__"), key := Value.str (Str.ofString "__builtins__") 171, val := Value.ref 4 }, { hash := PyData.keyHash P (Str.ofString "__file__"), key := Value.str (Str.ofString "__file__") 173, val := Value.str (Str.ofString "/claim/cut.py") 172 }, { hash := PyData.keyHash P (Str.ofString "__cached__"), key := Value.str (Str.ofString "__cached__") 174, val := Value.none }, { hash := PyData.keyHash P (Str.ofString "_wall"), key := Value.str (Str.ofString "_wall") 193, val := Value.ref 21 }, { hash := PyData.keyHash P (Str.ofString "_WSP"), key := Value.str (Str.ofString "_WSP") 197, val := Value.str (Str.ofString " \t") 196 }, { hash := PyData.keyHash P (Str.ofString "WSP"), key := Value.str (Str.ofString "WSP") 202, val := Value.ref 22 }, { hash := PyData.keyHash P (Str.ofString "CFWS_LEADER"), key := Value.str (Str.ofString "CFWS_LEADER") 206, val := Value.ref 30 }, { hash := PyData.keyHash P (Str.ofString "SPECIALS"), key := Value.str (Str.ofString "SPECIALS") 234, val := Value.ref 31 }, { hash := PyData.keyHash P (Str.ofString "ATOM_ENDS"), key := Value.str (Str.ofString "ATOM_ENDS") 235, val := Value.ref 35 }, { hash := PyData.keyHash P (Str.ofString "DOT_ATOM_ENDS"), key := Value.str (Str.ofString "DOT_ATOM_ENDS") 239, val := Value.ref 40 }, { hash := PyData.keyHash P (Str.ofString "PHRASE_ENDS"), key := Value.str (Str.ofString "PHRASE_ENDS") 247, val := Value.ref 45 }, { hash := PyData.keyHash P (Str.ofString "TSPECIALS"), key := Value.str (Str.ofString "TSPECIALS") 258, val := Value.ref 55 }, { hash := PyData.keyHash P (Str.ofString "TOKEN_ENDS"), key := Value.str (Str.ofString "TOKEN_ENDS") 259, val := Value.ref 56 }, { hash := PyData.keyHash P (Str.ofString "ASPECIALS"), key := Value.str (Str.ofString "ASPECIALS") 267, val := Value.ref 61 }, { hash := PyData.keyHash P (Str.ofString "ATTRIBUTE_ENDS"), key := Value.str (Str.ofString "ATTRIBUTE_ENDS") 268, val := Value.ref 62 }, { hash := PyData.keyHash P (Str.ofString "EXTENDED_ATTRIBUTE_ENDS"), key := Value.str (Str.ofString "EXTENDED_ATTRIBUTE_ENDS") 272, val := Value.ref 67 }, { hash := PyData.keyHash P (Str.ofString "NLSET"), key := Value.str (Str.ofString "NLSET") 277, val := Value.ref 68 }, { hash := PyData.keyHash P (Str.ofString "SPECIALSNL"), key := Value.str (Str.ofString "SPECIALSNL") 278, val := Value.ref 69 }, { hash := PyData.keyHash P (Str.ofString "Terminal"), key := Value.str (Str.ofString "Terminal") 372, val := Value.ref 141 }, { hash := PyData.keyHash P (Str.ofString "WhiteSpaceTerminal"), key := Value.str (Str.ofString "WhiteSpaceTerminal") 403, val := Value.ref 171 }, { hash := PyData.keyHash P (Str.ofString "get_fws"), key := Value.str (Str.ofString "get_fws") 412, val := Value.ref 180 }, { hash := PyData.keyHash P (Str.ofString "_law_line"), key := Value.str (Str.ofString "_law_line") 426, val := Value.ref 187 }, { hash := PyData.keyHash P (Str.ofString "_law_is_white"), key := Value.str (Str.ofString "_law_is_white") 433, val := Value.ref 194 }, { hash := PyData.keyHash P (Str.ofString "_law_told"), key := Value.str (Str.ofString "_law_told") 444, val := Value.ref 201 }, { hash := PyData.keyHash P (Str.ofString "_law_due"), key := Value.str (Str.ofString "_law_due") 457, val := Value.ref 208 }] 31 }
def q23_12 (P : Params) : Obj := { cls := Value.none, data := Data.fields #[Value.int 1 0, Value.int 0 0, Value.ref 20, Value.int 19 0, Value.int 0 0, Value.ref 76, Value.int 52 0, Value.int 0 0, Value.ref 152, Value.int 60 0, Value.int 0 0, Value.ref 179, Value.int 65 0, Value.int 0 0, Value.ref 186, Value.int 73 0, Value.int 0 0, Value.ref 193, Value.int 75 0, Value.int 0 0, Value.ref 200, Value.int 91 0, Value.int 0 0, Value.ref 207] }
def q23_202 (P : Params) : Obj := { cls := Value.type "tuple", data := Data.seq #[] }
def q23_203 (P : Params) : Obj := { cls := Value.none, data := Data.fields #[] }
def q23_204 (P : Params) : Obj := { cls := Value.type "tuple", data := Data.seq #[Value.str (Str.ofString "line") 448, Value.str (Str.ofString "marks") 449, Value.str (Str.ofString "more") 450, Value.str (Str.ofString "parts") 451, Value.str (Str.ofString "sign") 452, Value.str (Str.ofString "plain") 453, Value.str (Str.ofString "kind") 454] }
def q23_205 (P : Params) : Obj := { cls := Value.type "tuple", data := Data.seq #[] }
def q23_206 (P : Params) : Obj := { cls := Value.none, data := Data.func { name := Str.ofString "_law_due", qualname := Str.ofString "_law_due", params := fParams (stAt [23]), body := FuncBody.stmts (fBody (stAt [23])), scope := fScope (stAt [23]), globals := 0, closure := [], defaults := Value.none, kwdefaults := Value.none } }
def q23_207 (P : Params) : Obj := { cls := Value.type "code", data := Data.fields #[Value.str (Str.ofString "_law_due") 445, Value.str (Str.ofString "_law_due") 446, Value.str (Str.ofString "/claim/cut.py") 447, Value.int 91 0, Value.int 3 0, Value.int 0 0, Value.int 0 0, Value.int 3 0, Value.ref 202, Value.bool true, Value.int 181 0, Value.ref 203, Value.none, Value.ref 204, Value.ref 205, Value.ref 206, Value.int 455 0, Value.int 91 0, Value.str (Str.ofString "/claim/cut.py") 456] }
def q23_208 (P : Params) : Obj := { cls := Value.type "function", data := Data.func { name := Str.ofString "_law_due", qualname := Str.ofString "_law_due", params := fParams (stAt [23]), body := FuncBody.stmts (fBody (stAt [23])), scope := fScope (stAt [23]), globals := 3, closure := [], defaults := Value.none, kwdefaults := Value.none, pyModule := Value.str (Str.ofString "law_lg0006_01") 413, code := Value.ref 207 } }
def tree_23 (P : Params) (X : Nat → Obj) : BT := (.node (boot_o_0 P) (.node (boot_o_1 P) (.node (q23_3 P) (.node (boot_o_7 P) (.node (q2_15 P) (.node (X 31) (.node (X 63) (.node (q16_127 P) .nil .nil) (.node (q21_191 P) .nil .nil)) (.node (q16_95 P) (.node (q17_159 P) .nil .nil) .nil)) (.node (X 47) (.node (q16_79 P) (.node (q16_143 P) .nil .nil) (.node (q23_207 P) .nil .nil)) (.node (q16_111 P) (.node (q18_175 P) .nil .nil) .nil))) (.node (X 23) (.node (X 39) (.node (q16_71 P) (.node (q16_135 P) .nil .nil) (.node (q22_199 P) .nil .nil)) (.node (q16_103 P) (.node (q17_167 P) .nil .nil) .nil)) (.node (X 55) (.node (q16_87 P) (.node (q17_151 P) .nil .nil) .nil) (.node (q16_119 P) (.node (q20_183 P) .nil .nil) .nil)))) (.node (qpre_11 P) (.node (q2_19 P) (.node (X 35) (.node (X 67) (.node (q16_131 P) .nil .nil) (.node (q22_195 P) .nil .nil)) (.node (q16_99 P) (.node (q17_163 P) .nil .nil) .nil)) (.node (X 51) (.node (q16_83 P) (.node (q17_147 P) .nil .nil) .nil) (.node (q16_115 P) (.node (q18_179 P) .nil .nil) .nil))) (.node (X 27) (.node (X 43) (.node (q16_75 P) (.node (q16_139 P) .nil .nil) (.node (q23_203 P) .nil .nil)) (.node (q16_107 P) (.node (q17_171 P) .nil .nil) .nil)) (.node (X 59) (.node (q16_91 P) (.node (q17_155 P) .nil .nil) .nil) (.node (q16_123 P) (.node (q20_187 P) .nil .nil) .nil))))) (.node (boot_o_5 P) (.node (boot_o_9 P) (.node (q2_17 P) (.node (X 33) (.node (X 65) (.node (q16_129 P) .nil .nil) (.node (q21_193 P) .nil .nil)) (.node (q16_97 P) (.node (q17_161 P) .nil .nil) .nil)) (.node (X 49) (.node (q16_81 P) (.node (q16_145 P) .nil .nil) .nil) (.node (q16_113 P) (.node (q18_177 P) .nil .nil) .nil))) (.node (X 25) (.node (X 41) (.node (q16_73 P) (.node (q16_137 P) .nil .nil) (.node (q22_201 P) .nil .nil)) (.node (q16_105 P) (.node (q17_169 P) .nil .nil) .nil)) (.node (X 57) (.node (q16_89 P) (.node (q17_153 P) .nil .nil) .nil) (.node (q16_121 P) (.node (q20_185 P) .nil .nil) .nil)))) (.node (qpre_13 P) (.node (q2_21 P) (.node (X 37) (.node (X 69) (.node (q16_133 P) .nil .nil) (.node (q22_197 P) .nil .nil)) (.node (q16_101 P) (.node (q17_165 P) .nil .nil) .nil)) (.node (X 53) (.node (q16_85 P) (.node (q17_149 P) .nil .nil) .nil) (.node (q16_117 P) (.node (q20_181 P) .nil .nil) .nil))) (.node (X 29) (.node (X 45) (.node (q16_77 P) (.node (q17_141 P) .nil .nil) (.node (q23_205 P) .nil .nil)) (.node (q16_109 P) (.node (q17_173 P) .nil .nil) .nil)) (.node (X 61) (.node (q16_93 P) (.node (q17_157 P) .nil .nil) .nil) (.node (q16_125 P) (.node (q21_189 P) .nil .nil) .nil)))))) (.node (q16_2 P) (.node (boot_o_4 P) (.node (boot_o_8 P) (.node (q2_16 P) (.node (X 32) (.node (X 64) (.node (q16_128 P) .nil .nil) (.node (q21_192 P) .nil .nil)) (.node (q16_96 P) (.node (q17_160 P) .nil .nil) .nil)) (.node (X 48) (.node (q16_80 P) (.node (q16_144 P) .nil .nil) (.node (q23_208 P) .nil .nil)) (.node (q16_112 P) (.node (q18_176 P) .nil .nil) .nil))) (.node (X 24) (.node (X 40) (.node (q16_72 P) (.node (q16_136 P) .nil .nil) (.node (q22_200 P) .nil .nil)) (.node (q16_104 P) (.node (q17_168 P) .nil .nil) .nil)) (.node (X 56) (.node (q16_88 P) (.node (q17_152 P) .nil .nil) .nil) (.node (q16_120 P) (.node (q20_184 P) .nil .nil) .nil)))) (.node (q23_12 P) (.node (q2_20 P) (.node (X 36) (.node (X 68) (.node (q16_132 P) .nil .nil) (.node (q22_196 P) .nil .nil)) (.node (q16_100 P) (.node (q17_164 P) .nil .nil) .nil)) (.node (X 52) (.node (q16_84 P) (.node (q17_148 P) .nil .nil) .nil) (.node (q16_116 P) (.node (q18_180 P) .nil .nil) .nil))) (.node (X 28) (.node (X 44) (.node (q16_76 P) (.node (q16_140 P) .nil .nil) (.node (q23_204 P) .nil .nil)) (.node (q16_108 P) (.node (q17_172 P) .nil .nil) .nil)) (.node (X 60) (.node (q16_92 P) (.node (q17_156 P) .nil .nil) .nil) (.node (q16_124 P) (.node (q21_188 P) .nil .nil) .nil))))) (.node (boot_o_6 P) (.node (boot_o_10 P) (.node (q2_18 P) (.node (X 34) (.node (X 66) (.node (q16_130 P) .nil .nil) (.node (q21_194 P) .nil .nil)) (.node (q16_98 P) (.node (q17_162 P) .nil .nil) .nil)) (.node (X 50) (.node (q16_82 P) (.node (q16_146 P) .nil .nil) .nil) (.node (q16_114 P) (.node (q18_178 P) .nil .nil) .nil))) (.node (X 26) (.node (X 42) (.node (q16_74 P) (.node (q16_138 P) .nil .nil) (.node (q23_202 P) .nil .nil)) (.node (q16_106 P) (.node (q17_170 P) .nil .nil) .nil)) (.node (X 58) (.node (q16_90 P) (.node (q17_154 P) .nil .nil) .nil) (.node (q16_122 P) (.node (q20_186 P) .nil .nil) .nil)))) (.node (qpre_14 P) (.node (X 22) (.node (X 38) (.node (q16_70 P) (.node (q16_134 P) .nil .nil) (.node (q22_198 P) .nil .nil)) (.node (q16_102 P) (.node (q17_166 P) .nil .nil) .nil)) (.node (X 54) (.node (q16_86 P) (.node (q17_150 P) .nil .nil) .nil) (.node (q16_118 P) (.node (q20_182 P) .nil .nil) .nil))) (.node (X 30) (.node (X 46) (.node (q16_78 P) (.node (q16_142 P) .nil .nil) (.node (q23_206 P) .nil .nil)) (.node (q16_110 P) (.node (q18_174 P) .nil .nil) .nil)) (.node (X 62) (.node (q16_94 P) (.node (q17_158 P) .nil .nil) .nil) (.node (q16_126 P) (.node (q21_190 P) .nil .nil) .nil)))))))
-- size 209 toks 458 
def q24_3 (P : Params) : Obj := { cls := Value.type "dict", data := Data.dict #[{ hash := PyData.keyHash P (Str.ofString "__name__"), key := Value.str (Str.ofString "__name__") 165, val := Value.str (Str.ofString "law_lg0006_01") 413 }, { hash := PyData.keyHash P (Str.ofString "__doc__"), key := Value.str (Str.ofString "__doc__") 166, val := Value.none }, { hash := PyData.keyHash P (Str.ofString "__package__"), key := Value.str (Str.ofString "__package__") 167, val := Value.none }, { hash := PyData.keyHash P (Str.ofString "__loader__"), key := Value.str (Str.ofString "__loader__") 168, val := Value.builtin "__main__.__loader__#opaque" }, { hash := PyData.keyHash P (Str.ofString "__spec__"), key := Value.str (Str.ofString "__spec__") 169, val := Value.none }, { hash := PyData.keyHash P (Str.ofString "__annotations__"), key := Value.str (Str.ofString "__annotations__") 170, val := Value.ref 6 }, { hash := PyData.keyHash P (Str.ofString "__builtins__"), key := Value.str (Str.ofString "__builtins__") 171, val := Value.ref 4 }, { hash := PyData.keyHash P (Str.ofString "__file__"), key := Value.str (Str.ofString "__file__") 173, val := Value.str (Str.ofString "/claim/cut.py") 172 }, { hash := PyData.keyHash P (Str.ofString "__cached__"), key := Value.str (Str.ofString "__cached__") 174, val := Value.none }, { hash := PyData.keyHash P (Str.ofString "_wall"), key := Value.str (Str.ofString "_wall") 193, val := Value.ref 21 }, { hash := PyData.keyHash P (Str.ofString "_WSP"), key := Value.str (Str.ofString "_WSP") 197, val := Value.str (Str.ofString " \t") 196 }, { hash := PyData.keyHash P (Str.ofString "WSP"), key := Value.str (Str.ofString "WSP") 202, val := Value.ref 22 }, { hash := PyData.keyHash P (Str.ofString "CFWS_LEADER"), key := Value.str (Str.ofString "CFWS_LEADER") 206, val := Value.ref 30 }, { hash := PyData.keyHash P (Str.ofString "SPECIALS"), key := Value.str (Str.ofString "SPECIALS") 234, val := Value.ref 31 }, { hash := PyData.keyHash P (Str.ofString "ATOM_ENDS"), key := Value.str (Str.ofString "ATOM_ENDS") 235, val := Value.ref 35 }, { hash := PyData.keyHash P (Str.ofString "DOT_ATOM_ENDS"), key := Value.str (Str.ofString "DOT_ATOM_ENDS") 239, val := Value.ref 40 }, { hash := PyData.keyHash P (Str.ofString "PHRASE_ENDS"), key := Value.str (Str.ofString "PHRASE_ENDS") 247, val := Value.ref 45 }, { hash := PyData.keyHash P (Str.ofString "TSPECIALS"), key := Value.str (Str.ofString "TSPECIALS") 258, val := Value.ref 55 }, { hash := PyData.keyHash P (Str.ofString "TOKEN_ENDS"), key := Value.str (Str.ofString "TOKEN_ENDS") 259, val := Value.ref 56 }, { hash := PyData.keyHash P (Str.ofString "ASPECIALS"), key := Value.str (Str.ofString "ASPECIALS") 267, val := Value.ref 61 }, { hash := PyData.keyHash P (Str.ofString "ATTRIBUTE_ENDS"), key := Value.str (Str.ofString "ATTRIBUTE_ENDS") 268, val := Value.ref 62 }, { hash := PyData.keyHash P (Str.ofString "EXTENDED_ATTRIBUTE_ENDS"), key := Value.str (Str.ofString "EXTENDED_ATTRIBUTE_ENDS") 272, val := Value.ref 67 }, { hash := PyData.keyHash P (Str.ofString "NLSET"), key := Value.str (Str.ofString "NLSET") 277, val := Value.ref 68 }, { hash := PyData.keyHash P (Str.ofString "SPECIALSNL"), key := Value.str (Str.ofString "SPECIALSNL") 278, val := Value.ref 69 }, { hash := PyData.keyHash P (Str.ofString "Terminal"), key := Value.str (Str.ofString "Terminal") 372, val := Value.ref 141 }, { hash := PyData.keyHash P (Str.ofString "WhiteSpaceTerminal"), key := Value.str (Str.ofString "WhiteSpaceTerminal") 403, val := Value.ref 171 }, { hash := PyData.keyHash P (Str.ofString "get_fws"), key := Value.str (Str.ofString "get_fws") 412, val := Value.ref 180 }, { hash := PyData.keyHash P (Str.ofString "_law_line"), key := Value.str (Str.ofString "_law_line") 426, val := Value.ref 187 }, { hash := PyData.keyHash P (Str.ofString "_law_is_white"), key := Value.str (Str.ofString "_law_is_white") 433, val := Value.ref 194 }, { hash := PyData.keyHash P (Str.ofString "_law_told"), key := Value.str (Str.ofString "_law_told") 444, val := Value.ref 201 }, { hash := PyData.keyHash P (Str.ofString "_law_due"), key := Value.str (Str.ofString "_law_due") 457, val := Value.ref 208 }, { hash := PyData.keyHash P (Str.ofString "law"), key := Value.str (Str.ofString "law") 463, val := Value.ref 213 }] 32 }
def q24_12 (P : Params) : Obj := { cls := Value.none, data := Data.fields #[Value.int 1 0, Value.int 0 0, Value.ref 20, Value.int 19 0, Value.int 0 0, Value.ref 76, Value.int 52 0, Value.int 0 0, Value.ref 152, Value.int 60 0, Value.int 0 0, Value.ref 179, Value.int 65 0, Value.int 0 0, Value.ref 186, Value.int 73 0, Value.int 0 0, Value.ref 193, Value.int 75 0, Value.int 0 0, Value.ref 200, Value.int 91 0, Value.int 0 0, Value.ref 207, Value.int 106 0, Value.int 0 0, Value.ref 212] }
def q24_209 (P : Params) : Obj := { cls := Value.type "tuple", data := Data.seq #[] }
def q24_210 (P : Params) : Obj := { cls := Value.none, data := Data.fields #[] }
def q24_211 (P : Params) : Obj := { cls := Value.none, data := Data.func { name := Str.ofString "law", qualname := Str.ofString "law", params := fParams (stAt [24]), body := FuncBody.stmts (fBody (stAt [24])), scope := fScope (stAt [24]), globals := 0, closure := [], defaults := Value.none, kwdefaults := Value.none } }
def q24_212 (P : Params) : Obj := { cls := Value.type "code", data := Data.fields #[Value.str (Str.ofString "law") 458, Value.str (Str.ofString "law") 459, Value.str (Str.ofString "/claim/cut.py") 460, Value.int 106 0, Value.int 1 0, Value.int 0 0, Value.int 0 0, Value.int 3 0, Value.ref 209, Value.bool true, Value.int 181 0, Value.ref 210, Value.none, Value.none, Value.none, Value.ref 211, Value.int 461 0, Value.int 106 0, Value.str (Str.ofString "/claim/cut.py") 462] }
def q24_213 (P : Params) : Obj := { cls := Value.type "function", data := Data.func { name := Str.ofString "law", qualname := Str.ofString "law", params := fParams (stAt [24]), body := FuncBody.stmts (fBody (stAt [24])), scope := fScope (stAt [24]), globals := 3, closure := [], defaults := Value.none, kwdefaults := Value.none, pyModule := Value.str (Str.ofString "law_lg0006_01") 413, code := Value.ref 212 } }
def tree_24 (P : Params) (X : Nat → Obj) : BT := (.node (boot_o_0 P) (.node (boot_o_1 P) (.node (q24_3 P) (.node (boot_o_7 P) (.node (q2_15 P) (.node (X 31) (.node (X 63) (.node (q16_127 P) .nil .nil) (.node (q21_191 P) .nil .nil)) (.node (q16_95 P) (.node (q17_159 P) .nil .nil) .nil)) (.node (X 47) (.node (q16_79 P) (.node (q16_143 P) .nil .nil) (.node (q23_207 P) .nil .nil)) (.node (q16_111 P) (.node (q18_175 P) .nil .nil) .nil))) (.node (X 23) (.node (X 39) (.node (q16_71 P) (.node (q16_135 P) .nil .nil) (.node (q22_199 P) .nil .nil)) (.node (q16_103 P) (.node (q17_167 P) .nil .nil) .nil)) (.node (X 55) (.node (q16_87 P) (.node (q17_151 P) .nil .nil) .nil) (.node (q16_119 P) (.node (q20_183 P) .nil .nil) .nil)))) (.node (qpre_11 P) (.node (q2_19 P) (.node (X 35) (.node (X 67) (.node (q16_131 P) .nil .nil) (.node (q22_195 P) .nil .nil)) (.node (q16_99 P) (.node (q17_163 P) .nil .nil) .nil)) (.node (X 51) (.node (q16_83 P) (.node (q17_147 P) .nil .nil) (.node (q24_211 P) .nil .nil)) (.node (q16_115 P) (.node (q18_179 P) .nil .nil) .nil))) (.node (X 27) (.node (X 43) (.node (q16_75 P) (.node (q16_139 P) .nil .nil) (.node (q23_203 P) .nil .nil)) (.node (q16_107 P) (.node (q17_171 P) .nil .nil) .nil)) (.node (X 59) (.node (q16_91 P) (.node (q17_155 P) .nil .nil) .nil) (.node (q16_123 P) (.node (q20_187 P) .nil .nil) .nil))))) (.node (boot_o_5 P) (.node (boot_o_9 P) (.node (q2_17 P) (.node (X 33) (.node (X 65) (.node (q16_129 P) .nil .nil) (.node (q21_193 P) .nil .nil)) (.node (q16_97 P) (.node (q17_161 P) .nil .nil) .nil)) (.node (X 49) (.node (q16_81 P) (.node (q16_145 P) .nil .nil) (.node (q24_209 P) .nil .nil)) (.node (q16_113 P) (.node (q18_177 P) .nil .nil) .nil))) (.node (X 25) (.node (X 41) (.node (q16_73 P) (.node (q16_137 P) .nil .nil) (.node (q22_201 P) .nil .nil)) (.node (q16_105 P) (.node (q17_169 P) .nil .nil) .nil)) (.node (X 57) (.node (q16_89 P) (.node (q17_153 P) .nil .nil) .nil) (.node (q16_121 P) (.node (q20_185 P) .nil .nil) .nil)))) (.node (qpre_13 P) (.node (q2_21 P) (.node (X 37) (.node (X 69) (.node (q16_133 P) .nil .nil) (.node (q22_197 P) .nil .nil)) (.node (q16_101 P) (.node (q17_165 P) .nil .nil) .nil)) (.node (X 53) (.node (q16_85 P) (.node (q17_149 P) .nil .nil) (.node (q24_213 P) .nil .nil)) (.node (q16_117 P) (.node (q20_181 P) .nil .nil) .nil))) (.node (X 29) (.node (X 45) (.node (q16_77 P) (.node (q17_141 P) .nil .nil) (.node (q23_205 P) .nil .nil)) (.node (q16_109 P) (.node (q17_173 P) .nil .nil) .nil)) (.node (X 61) (.node (q16_93 P) (.node (q17_157 P) .nil .nil) .nil) (.node (q16_125 P) (.node (q21_189 P) .nil .nil) .nil)))))) (.node (q16_2 P) (.node (boot_o_4 P) (.node (boot_o_8 P) (.node (q2_16 P) (.node (X 32) (.node (X 64) (.node (q16_128 P) .nil .nil) (.node (q21_192 P) .nil .nil)) (.node (q16_96 P) (.node (q17_160 P) .nil .nil) .nil)) (.node (X 48) (.node (q16_80 P) (.node (q16_144 P) .nil .nil) (.node (q23_208 P) .nil .nil)) (.node (q16_112 P) (.node (q18_176 P) .nil .nil) .nil))) (.node (X 24) (.node (X 40) (.node (q16_72 P) (.node (q16_136 P) .nil .nil) (.node (q22_200 P) .nil .nil)) (.node (q16_104 P) (.node (q17_168 P) .nil .nil) .nil)) (.node (X 56) (.node (q16_88 P) (.node (q17_152 P) .nil .nil) .nil) (.node (q16_120 P) (.node (q20_184 P) .nil .nil) .nil)))) (.node (q24_12 P) (.node (q2_20 P) (.node (X 36) (.node (X 68) (.node (q16_132 P) .nil .nil) (.node (q22_196 P) .nil .nil)) (.node (q16_100 P) (.node (q17_164 P) .nil .nil) .nil)) (.node (X 52) (.node (q16_84 P) (.node (q17_148 P) .nil .nil) (.node (q24_212 P) .nil .nil)) (.node (q16_116 P) (.node (q18_180 P) .nil .nil) .nil))) (.node (X 28) (.node (X 44) (.node (q16_76 P) (.node (q16_140 P) .nil .nil) (.node (q23_204 P) .nil .nil)) (.node (q16_108 P) (.node (q17_172 P) .nil .nil) .nil)) (.node (X 60) (.node (q16_92 P) (.node (q17_156 P) .nil .nil) .nil) (.node (q16_124 P) (.node (q21_188 P) .nil .nil) .nil))))) (.node (boot_o_6 P) (.node (boot_o_10 P) (.node (q2_18 P) (.node (X 34) (.node (X 66) (.node (q16_130 P) .nil .nil) (.node (q21_194 P) .nil .nil)) (.node (q16_98 P) (.node (q17_162 P) .nil .nil) .nil)) (.node (X 50) (.node (q16_82 P) (.node (q16_146 P) .nil .nil) (.node (q24_210 P) .nil .nil)) (.node (q16_114 P) (.node (q18_178 P) .nil .nil) .nil))) (.node (X 26) (.node (X 42) (.node (q16_74 P) (.node (q16_138 P) .nil .nil) (.node (q23_202 P) .nil .nil)) (.node (q16_106 P) (.node (q17_170 P) .nil .nil) .nil)) (.node (X 58) (.node (q16_90 P) (.node (q17_154 P) .nil .nil) .nil) (.node (q16_122 P) (.node (q20_186 P) .nil .nil) .nil)))) (.node (qpre_14 P) (.node (X 22) (.node (X 38) (.node (q16_70 P) (.node (q16_134 P) .nil .nil) (.node (q22_198 P) .nil .nil)) (.node (q16_102 P) (.node (q17_166 P) .nil .nil) .nil)) (.node (X 54) (.node (q16_86 P) (.node (q17_150 P) .nil .nil) .nil) (.node (q16_118 P) (.node (q20_182 P) .nil .nil) .nil))) (.node (X 30) (.node (X 46) (.node (q16_78 P) (.node (q16_142 P) .nil .nil) (.node (q23_206 P) .nil .nil)) (.node (q16_110 P) (.node (q18_174 P) .nil .nil) .nil)) (.node (X 62) (.node (q16_94 P) (.node (q17_158 P) .nil .nil) .nil) (.node (q16_126 P) (.node (q21_190 P) .nil .nil) .nil)))))))
-- size 214 toks 464 
end
end Mine
/-! TopR -/
namespace Mine
open PySem PySem.W PyProof.Rows
set_option Elab.async false
set_option maxRecDepth 100000
abbrev sts (i n : Nat) : List Stmt := ((behindTheImports prog).drop i).take n
abbrev pos0 : Pos := ⟨0, 0, 0, 0⟩
abbrev retB : List Frame := [retFrame pos0]
set_option maxHeartbeats 0 in
theorem run_0 (w : World) (os : OsState) (life : Life) (pos : Pos) :
    segGoT treeTable prog w 11 (some (.ref 6)) 1 47 ⟨tree_pre w.params, 15, life, #[], boot_drawn, 187, os⟩ (piecesOf (sts 0 3) topEnv topCode pos retB) =
      some (⟨tree_2 w.params, 22, life, #[], boot_drawn, 198, os⟩, ⟨doneF .next, topCode, ⟨5, 0, 5, 4⟩, retB⟩) := by
  rw [PySem.W.Fast.te10295753902157049106, PySem.W.Fast.te14364793385576792824]
  kernel_rfl
set_option maxHeartbeats 0 in
theorem run_16 (w : World) (os : OsState) (life : Life) (pos : Pos) (X : Nat → Obj) :
    segGoT treeTable prog w 11 (some (.ref 6)) 1 627 ⟨tree_15 w.params X, 70, life, #[], boot_drawn, 279, os⟩ (piecesOf (sts 16 1) topEnv topCode pos retB) =
      some (⟨tree_16 w.params X, 147, life, #[], boot_drawn, 373, os⟩, ⟨doneF .next, topCode, ⟨19, 0, 51, 43⟩, retB⟩) := by
  rw [PySem.W.Fast.te10295753902157049106, PySem.W.Fast.te14364793385576792824]
  kernel_rfl
set_option maxHeartbeats 0 in
theorem run_17 (w : World) (os : OsState) (life : Life) (pos : Pos) (X : Nat → Obj) :
    segGoT treeTable prog w 11 (some (.ref 6)) 1 333 ⟨tree_16 w.params X, 147, life, #[], boot_drawn, 373, os⟩ (piecesOf (sts 17 1) topEnv topCode pos retB) =
      some (⟨tree_17 w.params X, 174, life, #[], boot_drawn, 404, os⟩, ⟨doneF .next, topCode, ⟨52, 0, 59, 16⟩, retB⟩) := by
  rw [PySem.W.Fast.te10295753902157049106, PySem.W.Fast.te14364793385576792824]
  kernel_rfl
set_option maxHeartbeats 0 in
theorem run_18 (w : World) (os : OsState) (life : Life) (pos : Pos) (X : Nat → Obj) :
    segGoT treeTable prog w 11 (some (.ref 6)) 1 197 ⟨tree_17 w.params X, 174, life, #[], boot_drawn, 404, os⟩ (piecesOf (sts 18 7) topEnv topCode pos retB) =
      some (⟨tree_24 w.params X, 214, life, #[], boot_drawn, 464, os⟩, ⟨doneF .next, topCode, ⟨106, 0, 110, 129⟩, retB⟩) := by
  rw [PySem.W.Fast.te10295753902157049106, PySem.W.Fast.te14364793385576792824]
  kernel_rfl
set_option maxHeartbeats 0 in
theorem run_pre (w : World) (os : OsState) :
    topGo treeTable prog w 11 (some (.ref 6)) 12 ⟨boot_heap w.params, #[], boot_drawn, boot_toks, os⟩ (topStub prog) =
      some (⟨absHeap (tree_pre w.params) 15 (boot_heap w.params).life, #[], boot_drawn, 187, os⟩, ⟨denote treeTable topCode, topCode, pos0, [topFrame pos0]⟩) := by
  rw [PySem.W.Fast.te15667345088766844465, PySem.W.Fast.te14364793385576792824, PySem.W.Fast.te11892475500146522536]
  kernel_rfl
theorem block_0 : blockStart (behindTheImports prog) topEnv = pure () := by kernel_rfl
theorem body_is : behindTheImports prog = sts 0 3 ++ (sts 3 13 ++ (sts 16 1 ++ (sts 17 1 ++ sts 18 7))) := by kernel_rfl
end Mine
/-! TopW -/
namespace Mine
open PySem PySem.W PyProof.Rows
set_option Elab.async false
set_option maxRecDepth 100000

def topA : Around := { handled := none, depth := 10000, frames := none, guards := none, units := 10000 }
theorem topA_in : (Ctx.of topCode [topFrame pos0]).In topA := by
  refine ⟨rfl, ?_, fun l h => ?_, fun g h => ?_, ?_⟩
  · show frameCount [((Code.builtin "claim.caller" {}), pos0)] + Code.weight (.body _ _) ≤ 10000
    decide +kernel
  · cases h
  · cases h
  · show Ctx.units _ ≤ 10000
    decide +kernel

structure Top15 (w : World) (h : Heap) (n : Nat) (o3 : Obj) (L : List (Addr × List Str)) : Prop where
  size : h.objs.size = n
  low : ∀ i, i < 22 → i ≠ 3 → ∀ o, (tree_2 w.params).get i = some o → h.get? i = some o
  main : h.get? 3 = some o3
  sets : ∀ p ∈ L, 22 ≤ p.1 ∧ SL w h p.1 p.2

section
variable {w : World} {h h' : Heap} {n d : Nat} {o3 : Obj} {L : List (Addr × List Str)}
theorem Top15.grown (T : Top15 w h n o3 L) (g : Grown h h' d) : Top15 w h' (n + d) o3 L :=
  ⟨by rw [g.1, T.size], fun i h1 h2 o e => g.2 _ _ (T.low i h1 h2 o e), g.2 _ _ T.main, fun p hp => ⟨(T.sets p hp).1, (T.sets p hp).2.grown g⟩⟩
theorem Top15.more {a : Addr} {l : List Str} (T : Top15 w h n o3 L) (ha : 22 ≤ a) (S : SL w h a l) : Top15 w h n o3 ((a, l) :: L) :=
  ⟨T.size, T.low, T.main, fun p hp => by
    rcases List.mem_cons.mp hp with rfl | hp
    · exact ⟨ha, S⟩
    · exact T.sets p hp⟩
theorem Top15.put {f : Obj → Obj} (T : Top15 w h n o3 L) (hf : (f o3).isFreed = false) : Top15 w (h.update 3 f) n (f o3) L :=
  have sb := Heap.SameBut.update h 3 f
  ⟨by rw [sb.1, T.size], fun i h1 h2 o e => (sb.2 i h2).trans (T.low i h1 h2 o e), Heap.get?_update_self f T.main hf,
    fun p hp => ⟨(T.sets p hp).1, (T.sets p hp).2.but sb (Nat.ne_of_gt (Nat.lt_of_lt_of_le (by decide) (T.sets p hp).1))⟩⟩
theorem Top15.fewer {L' : List (Addr × List Str)} (T : Top15 w h n o3 L) (hs : ∀ p ∈ L', p ∈ L) : Top15 w h n o3 L' := ⟨T.size, T.low, T.main, fun p hp => T.sets p (hs p hp)⟩
end

def putObj (P : Params) (name : Str) (tok : Nat) (a : Addr) (o : Obj) : Obj := Obj.putName name (PyData.keyHash P name) (.str name tok) (.ref a) o
def chs (x : Str) : List Str := x.cps.toList.map oneStr

section
variable {w : World} {A : Around} {E : Value → Shared → Prop} {s : Shared} {n : Nat} {o3 : Obj} {L : List (Addr × List Str)}
theorem load_top (x : Str) : loadName topEnv x = loadGlobal topEnv x := by rfl
theorem load_g {x : Str} {v : Value} {Q : Value → Shared → Prop} (T : Top15 w s.heap n o3 L) (e : nsLook x o3 = pure (some v)) (hQ : Q v s) : wpAny (model prog w) A (loadName topEnv x) Q E s := by
  rw [load_top]
  unfold loadGlobal nsGet
  refine wpAny_bind (wpAny_bind (wpAny_loadPart T.main ?_))
  rw [e]
  exact wpAny_pure (wpAny_pure hQ)
theorem load_b {x : Str} {v : Value} {Q : Value → Shared → Prop} (T : Top15 w s.heap n o3 L) (e : nsLook x o3 = pure none) (e' : nsLook x (boot_o_0 w.params) = pure (some v)) (hQ : Q v s) : wpAny (model prog w) A (loadName topEnv x) Q E s := by
  rw [load_top]
  unfold loadGlobal nsGet
  refine wpAny_bind (wpAny_bind (wpAny_loadPart T.main ?_))
  rw [e]
  refine wpAny_pure ?_
  dsimp only
  refine wpAny_bind (wpAny_bind (wpAny_loadPart (T.low 0 (by decide) (by decide) _ rfl) ?_))
  rw [e']
  exact wpAny_pure (wpAny_pure hQ)

theorem ev_name {x : Str} {pos : Pos} {v : Value} {Q : Value → Shared → Prop} (T : Top15 w s.heap n o3 L) (e : nsLook x o3 = pure (some v)) (hQ : Q v s) (hd : (x == ("__debug__" : Str)) = false := by decide +kernel) : wpAny (model prog w) A (eval (.Name x pos) topEnv) Q E s :=
  wpAny_Name (load_g T e hQ) hd
theorem ev_set {p1 p3 : Pos} {e : Expr} {x : Str} {u : Tok} {tk : Nat} {Q : Value → Shared → Prop} (hh : A.handled = none) (T : Top15 w s.heap n o3 L) (e1 : nsLook (Str.ofString "set") o3 = pure none)
    (harg : ∀ {Q : Value → Shared → Prop}, Q (.str x u) { s with toks := tk } → wpAny (model prog w) A (eval e topEnv) Q E s) (hs : starEach [e] topEnv = [(false, eval e topEnv)])
    (hx : (x.cps.all (· < 128) && decide (x.cps.size < 60) && decide (chs x).Nodup && decide (22 ≤ n)) = true)
    (hQ : ∀ h', Top15 w h' (n + 4) o3 ((n, chs x) :: L) → Q (.ref n) { s with heap := h', toks := tk + 2 * x.cps.size }) :
    wpAny (model prog w) A (eval (.Call (.Name (Str.ofString "set") p1) [e] [] p3) topEnv) Q E s := by
  simp only [Bool.and_eq_true, decide_eq_true_eq] at hx
  obtain ⟨⟨⟨hx1, hx2⟩, hx3⟩, hx4⟩ := hx
  refine Call_Name rfl (wpAny_Name (load_b (v := .type "set") T e1 (by kernel_rfl) ?_) (by decide +kernel))
  refine callWith_type1 (T := "set") ?_ hs rfl
  refine spliced_more (harg ?_) hs
  refine spliced_none ?_
  have ez : s.heap.objs.size = n := T.size
  refine set_str (s := { s with toks := tk }) hh hx1 hx2 hx3 fun h' hg S => ?_
  have S' : SL w h' n (chs x) := ez ▸ S
  rw [show ({ s with toks := tk } : Shared).heap.objs.size = n from ez]
  exact hQ h' ((T.grown hg).more hx4 S')

theorem nsSet_top {x : Str} {a : Addr} {Q : Unit → Shared → Prop} (T : Top15 w s.heap n o3 L)
    (hd : (match o3.data with | .dict es _ => !aRefKeyMayBeTheName x es | _ => false) = true) (hf : (putObj w.params x s.toks a o3).isFreed = false)
    (hQ : ∀ h', Top15 w h' n (putObj w.params x s.toks a o3) L → Q () { s with heap := h', toks := s.toks + 1 }) : wpAny (model prog w) A (nsSet mainNs x (.ref a)) Q E s := by
  unfold nsSet
  refine wpAny_bind (wpAny_bind (wpAny_askSetting (wpAny_pure ?_)))
  refine wpAny_bind (wpAny_mkText ?_)
  refine wpAny_bind (wpAny_loadPart (s := { s with toks := s.toks + 1 }) T.main ?_)
  obtain ⟨c, dd, dt, sl⟩ := o3
  cases dt <;> try (simp at hd; done)
  rename_i es k
  simp only [Bool.not_eq_true'] at hd
  dsimp only
  rw [hd, if_neg Bool.false_ne_true]
  refine wpAny_updatePart (s := { s with toks := s.toks + 1 }) T.main ?_
  exact hQ _ (T.put hf)

theorem stmt_top {x : Str} {pos' pos : Pos} {value : Expr} {Q : Flow → Shared → Prop} (hst : ∀ v, storeName topEnv x v = nsSet mainNs x v)
    (h : wpAny (model prog w) A (eval value topEnv) (fun v s₁ => ∃ a n o3 L, v = .ref a ∧ Top15 w s₁.heap n o3 L ∧ (match o3.data with | .dict es _ => !aRefKeyMayBeTheName x es | _ => false) = true ∧ (putObj w.params x s₁.toks a o3).isFreed = false ∧
      ∀ h', Top15 w h' n (putObj w.params x s₁.toks a o3) L → Q .next { s₁ with heap := h', toks := s₁.toks + 1 }) E s)
    (hs : swapsWith value (some (.Name x pos')) pos.line topEnv = pure false := by rfl) : wpAny (model prog w) A (exec (.Assign [.Name x pos'] value pos) topEnv) Q E s := by
  refine wpAny_Assign_Name (wpAny_mono h (fun v s₁ h₁ => ?_) fun _ _ x => x) hs
  obtain ⟨a, n, o3, L, rfl, T, hd, hf, hQ⟩ := h₁
  rw [hst]
  exact nsSet_top T hd hf hQ
theorem ev_or {a b : Addr} {l l' : List Str} {Q : Value → Shared → Prop} (T : Top15 w s.heap n o3 L) (ha : (a, l) ∈ L) (hb : (b, l') ∈ L)
    (hx : (decide (a ≠ b) && decide (l ≠ []) && decide ((l ++ l').Nodup) && decide (l.length + l'.length < 60) && decide (22 ≤ n)) = true)
    (hQ : ∀ h', Top15 w h' (n + 1) o3 ((n, l ++ l') :: L) → Q (.ref n) { s with heap := h' }) : wpAny (model prog w) A (binaryOp .BitOr (.ref a) (.ref b)) Q E s := by
  simp only [Bool.and_eq_true, decide_eq_true_eq] at hx
  obtain ⟨⟨⟨⟨h1, h2⟩, h3⟩, h4⟩, h5⟩ := hx
  have ez : s.heap.objs.size = n := T.size
  refine or_is (T.sets _ ha).2 (T.sets _ hb).2 h1 h2 h3 h4 fun h' hg S => ?_
  have S' : SL w h' n (l ++ l') := ez ▸ S
  rw [ez]
  exact hQ h' ((T.grown hg).more h5 S')
theorem ev_sub1 {a b : Addr} {l : List Str} {k : Str} {Q : Value → Shared → Prop} (T : Top15 w s.heap n o3 L) (ha : (a, l) ∈ L) (hb : (b, [k]) ∈ L)
    (hx : (decide (k ∈ l) && decide (8 ≤ l.length) && decide (l.length < 30) && decide (22 ≤ n)) = true)
    (hQ : ∀ h', Top15 w h' (n + 1) o3 ((n, l.erase k) :: L) → Q (.ref n) { s with heap := h' }) : wpAny (model prog w) A (binaryOp .Sub (.ref a) (.ref b)) Q E s := by
  simp only [Bool.and_eq_true, decide_eq_true_eq] at hx
  obtain ⟨⟨⟨h1, h2⟩, h3⟩, h5⟩ := hx
  have ez : s.heap.objs.size = n := T.size
  refine sub_one (T.sets _ ha).2 (T.sets _ hb).2 h1 h2 h3 fun h' hg S => ?_
  have S' : SL w h' n (l.erase k) := ez ▸ S
  rw [ez]
  exact hQ h' ((T.grown hg).more h5 S')
theorem ev_subn {a b : Addr} {l l' : List Str} {Q : Value → Shared → Prop} (T : Top15 w s.heap n o3 L) (ha : (a, l) ∈ L) (hb : (b, l') ∈ L)
    (hx : (decide (¬ l.length / 4 > l'.length) && decide (l.length < 60) && decide (22 ≤ n)) = true)
    (hQ : ∀ h', Top15 w h' (n + 1) o3 ((n, l.filter fun k => !decide (k ∈ l')) :: L) → Q (.ref n) { s with heap := h' }) : wpAny (model prog w) A (binaryOp .Sub (.ref a) (.ref b)) Q E s := by
  simp only [Bool.and_eq_true, decide_eq_true_eq] at hx
  obtain ⟨⟨h2, h3⟩, h5⟩ := hx
  have ez : s.heap.objs.size = n := T.size
  refine sub_walk (T.sets _ ha).2 (T.sets _ hb).2 h2 h3 fun h' hg S => ?_
  have S' : SL w h' n (l.filter fun k => !decide (k ∈ l')) := ez ▸ S
  rw [ez]
  exact hQ h' ((T.grown hg).more h5 S')
theorem ev_disp {x y : Str} {kx ky k : Nat} {px py pos : Pos} {Q : Value → Shared → Prop} (T : Top15 w s.heap n o3 L) (hxy : (decide (y ≠ x) && decide (k = 0) && decide (22 ≤ n)) = true)
    (hQ : ∀ h', Top15 w h' (n + 1) o3 ((n, [x, y]) :: L) → Q (.ref n) { s with heap := h', toks := s.toks + 4 }) :
    wpAny (model prog w) A (eval (.Set [.Constant (.str x) kx px, .Constant (.str y) ky py] k pos) topEnv) Q E s := by
  simp only [Bool.and_eq_true, decide_eq_true_eq] at hxy
  obtain ⟨⟨h1, h2⟩, h5⟩ := hxy
  have ez : s.heap.objs.size = n := T.size
  refine disp_two (c := 13) rfl (T.low 13 (by decide) (by decide) _ rfl) rfl h1 h2 fun h' hg S => ?_
  have S' : SL w h' n [x, y] := ez ▸ S
  rw [ez]
  exact hQ h' ((T.grown hg).more h5 S')
end
end Mine
/-! TopX -/
namespace Mine
open PySem PySem.W PyProof.Rows
set_option Elab.async false
set_option maxRecDepth 100000
noncomputable section
def lW : List Str := chs (Str.ofString " \t")
def lC : List Str := lW ++ chs (Str.ofString "(")
def lS : List Str := chs (Str.ofString "()<>@,:;.\\\"[]")
def lA : List Str := lS ++ lW
def lD : List Str := lA.erase (oneStr 46)
def lP : List Str := lS.filter fun k => !decide (k ∈ chs (Str.ofString ".\"("))
def lU : List Str := lS ++ chs (Str.ofString "/?=")
def lT : List Str := lU.erase (oneStr 46)
def lK : List Str := lT ++ lW
def lB : List Str := lT ++ chs (Str.ofString "*'%")
def lR : List Str := lB ++ lW
def lX : List Str := lR.erase (oneStr 37)
def lN : List Str := [Str.ofString "\n", Str.ofString "\r"]
def lL : List Str := lS ++ lN
def mo1 (P : Params) : Obj := putObj P (Str.ofString "WSP") 202 22 (q2_3 P)
def mo2 (P : Params) : Obj := putObj P (Str.ofString "CFWS_LEADER") 206 30 (mo1 P)
def mo3 (P : Params) : Obj := putObj P (Str.ofString "SPECIALS") 234 31 (mo2 P)
def mo4 (P : Params) : Obj := putObj P (Str.ofString "ATOM_ENDS") 235 35 (mo3 P)
def mo5 (P : Params) : Obj := putObj P (Str.ofString "DOT_ATOM_ENDS") 239 40 (mo4 P)
def mo6 (P : Params) : Obj := putObj P (Str.ofString "PHRASE_ENDS") 247 45 (mo5 P)
def mo7 (P : Params) : Obj := putObj P (Str.ofString "TSPECIALS") 258 55 (mo6 P)
def mo8 (P : Params) : Obj := putObj P (Str.ofString "TOKEN_ENDS") 259 56 (mo7 P)
def mo9 (P : Params) : Obj := putObj P (Str.ofString "ASPECIALS") 267 61 (mo8 P)
def mo10 (P : Params) : Obj := putObj P (Str.ofString "ATTRIBUTE_ENDS") 268 62 (mo9 P)
def mo11 (P : Params) : Obj := putObj P (Str.ofString "EXTENDED_ATTRIBUTE_ENDS") 272 67 (mo10 P)
def mo12 (P : Params) : Obj := putObj P (Str.ofString "NLSET") 277 68 (mo11 P)
def mo13 (P : Params) : Obj := putObj P (Str.ofString "SPECIALSNL") 278 69 (mo12 P)
variable {w : World} {E : Value → Shared → Prop} {h : Heap} {g : Array GenState} {d : Drawn} {os : OsState} {rest : List Stmt} {Q : Flow → Shared → Prop}
theorem st3 (T : Top15 w h 22 (q2_3 w.params) []) (hQ : ∀ h', Top15 w h' 26 (mo1 w.params) [(22, lW)] → wpAny (model prog w) topA (execs rest topEnv) Q E ⟨h', g, d, 203, os⟩) :
    wpAny (model prog w) topA (execs (stAt [3] :: rest) topEnv) Q E ⟨h, g, d, 198, os⟩ := by
  refine wpAny_execs_cons ?_
  with_unfolding_all refine stmt_top (x := Str.ofString "WSP") (fun v => by kernel_rfl) ?_ rfl
  refine ev_set (n := 22) (x := Str.ofString " \t") (u := 196) (tk := 198) rfl T (by kernel_rfl) (fun {Q} hQ => ev_name T (by kernel_rfl) hQ) rfl (by decide +kernel) fun h1 T1 => ?_
  refine ⟨22, 26, q2_3 w.params, _, rfl, T1, by kernel_rfl, by kernel_rfl, fun h' T' => ?_⟩
  exact hQ h' (T'.fewer fun p hp => hp)
theorem st4 (T : Top15 w h 26 (mo1 w.params) [(22, lW)]) (hQ : ∀ h', Top15 w h' 31 (mo2 w.params) [(30, lC), (22, lW)] → wpAny (model prog w) topA (execs rest topEnv) Q E ⟨h', g, d, 207, os⟩) :
    wpAny (model prog w) topA (execs (stAt [4] :: rest) topEnv) Q E ⟨h, g, d, 203, os⟩ := by
  refine wpAny_execs_cons ?_
  with_unfolding_all refine stmt_top (x := Str.ofString "CFWS_LEADER") (fun v => by kernel_rfl) ?_ rfl
  refine wpAny_BinOp ?_
  refine ev_name (v := .ref 22) T (by kernel_rfl) ?_
  refine ev_set (n := 26) (x := Str.ofString "(") (u := 203) (tk := 204) rfl T (by kernel_rfl) (fun {Q} hQ => wpAny_Constant_str hQ) rfl (by decide +kernel) fun h1 T1 => ?_
  refine ev_or (n := 30) T1 (l := lW) (l' := chs (Str.ofString "(")) (.tail _ (.head _)) (.head _) (by decide +kernel) fun h2 T2 => ?_
  refine ⟨30, 31, mo1 w.params, _, rfl, T2, by kernel_rfl, by kernel_rfl, fun h' T' => ?_⟩
  exact hQ h' (T'.fewer fun p hp => by rcases List.mem_cons.mp hp with rfl | hp; exact .head _; exact .tail _ (.tail _ hp))
theorem st5 (T : Top15 w h 31 (mo2 w.params) [(30, lC), (22, lW)]) (hQ : ∀ h', Top15 w h' 35 (mo3 w.params) [(31, lS), (30, lC), (22, lW)] → wpAny (model prog w) topA (execs rest topEnv) Q E ⟨h', g, d, 235, os⟩) :
    wpAny (model prog w) topA (execs (stAt [5] :: rest) topEnv) Q E ⟨h, g, d, 207, os⟩ := by
  refine wpAny_execs_cons ?_
  with_unfolding_all refine stmt_top (x := Str.ofString "SPECIALS") (fun v => by kernel_rfl) ?_ rfl
  refine ev_set (n := 31) (x := Str.ofString "()<>@,:;.\\\"[]") (u := 207) (tk := 208) rfl T (by kernel_rfl) (fun {Q} hQ => wpAny_Constant_str hQ) rfl (by decide +kernel) fun h1 T1 => ?_
  refine ⟨31, 35, mo2 w.params, _, rfl, T1, by kernel_rfl, by kernel_rfl, fun h' T' => ?_⟩
  exact hQ h' (T'.fewer fun p hp => hp)
theorem st6 (T : Top15 w h 35 (mo3 w.params) [(31, lS), (30, lC), (22, lW)]) (hQ : ∀ h', Top15 w h' 36 (mo4 w.params) [(35, lA), (31, lS), (30, lC), (22, lW)] → wpAny (model prog w) topA (execs rest topEnv) Q E ⟨h', g, d, 236, os⟩) :
    wpAny (model prog w) topA (execs (stAt [6] :: rest) topEnv) Q E ⟨h, g, d, 235, os⟩ := by
  refine wpAny_execs_cons ?_
  with_unfolding_all refine stmt_top (x := Str.ofString "ATOM_ENDS") (fun v => by kernel_rfl) ?_ rfl
  refine wpAny_BinOp ?_
  refine ev_name (v := .ref 31) T (by kernel_rfl) ?_
  refine ev_name (v := .ref 22) T (by kernel_rfl) ?_
  refine ev_or (n := 35) T (l := lS) (l' := lW) (.head _) (.tail _ (.tail _ (.head _))) (by decide +kernel) fun h2 T2 => ?_
  refine ⟨35, 36, mo3 w.params, _, rfl, T2, by kernel_rfl, by kernel_rfl, fun h' T' => ?_⟩
  exact hQ h' (T'.fewer fun p hp => hp)
theorem st7 (T : Top15 w h 36 (mo4 w.params) [(35, lA), (31, lS), (30, lC), (22, lW)]) (hQ : ∀ h', Top15 w h' 41 (mo5 w.params) [(40, lD), (35, lA), (31, lS), (30, lC), (22, lW)] → wpAny (model prog w) topA (execs rest topEnv) Q E ⟨h', g, d, 240, os⟩) :
    wpAny (model prog w) topA (execs (stAt [7] :: rest) topEnv) Q E ⟨h, g, d, 236, os⟩ := by
  refine wpAny_execs_cons ?_
  with_unfolding_all refine stmt_top (x := Str.ofString "DOT_ATOM_ENDS") (fun v => by kernel_rfl) ?_ rfl
  refine wpAny_BinOp ?_
  refine ev_name (v := .ref 35) T (by kernel_rfl) ?_
  refine ev_set (n := 36) (x := Str.ofString ".") (u := 236) (tk := 237) rfl T (by kernel_rfl) (fun {Q} hQ => wpAny_Constant_str hQ) rfl (by decide +kernel) fun h1 T1 => ?_
  refine ev_sub1 (n := 40) T1 (l := lA) (k := oneStr 46) (.tail _ (.head _)) (.head _) (by decide +kernel) fun h2 T2 => ?_
  refine ⟨40, 41, mo4 w.params, _, rfl, T2, by kernel_rfl, by kernel_rfl, fun h' T' => ?_⟩
  exact hQ h' (T'.fewer fun p hp => by rcases List.mem_cons.mp hp with rfl | hp; exact .head _; exact .tail _ (.tail _ hp))
theorem st8 (T : Top15 w h 41 (mo5 w.params) [(40, lD), (35, lA), (31, lS), (30, lC), (22, lW)]) (hQ : ∀ h', Top15 w h' 46 (mo6 w.params) [(45, lP), (40, lD), (35, lA), (31, lS), (30, lC), (22, lW)] → wpAny (model prog w) topA (execs rest topEnv) Q E ⟨h', g, d, 248, os⟩) :
    wpAny (model prog w) topA (execs (stAt [8] :: rest) topEnv) Q E ⟨h, g, d, 240, os⟩ := by
  refine wpAny_execs_cons ?_
  with_unfolding_all refine stmt_top (x := Str.ofString "PHRASE_ENDS") (fun v => by kernel_rfl) ?_ rfl
  refine wpAny_BinOp ?_
  refine ev_name (v := .ref 31) T (by kernel_rfl) ?_
  refine ev_set (n := 41) (x := Str.ofString ".\"(") (u := 240) (tk := 241) rfl T (by kernel_rfl) (fun {Q} hQ => wpAny_Constant_str hQ) rfl (by decide +kernel) fun h1 T1 => ?_
  refine ev_subn (n := 45) T1 (l := lS) (l' := chs (Str.ofString ".\"(")) (.tail _ (.tail _ (.tail _ (.head _)))) (.head _) (by decide +kernel) fun h2 T2 => ?_
  refine ⟨45, 46, mo5 w.params, _, rfl, T2, by kernel_rfl, by kernel_rfl, fun h' T' => ?_⟩
  exact hQ h' (T'.fewer fun p hp => by rcases List.mem_cons.mp hp with rfl | hp; exact .head _; exact .tail _ (.tail _ hp))
theorem st9 (T : Top15 w h 46 (mo6 w.params) [(45, lP), (40, lD), (35, lA), (31, lS), (30, lC), (22, lW)]) (hQ : ∀ h', Top15 w h' 56 (mo7 w.params) [(55, lT), (45, lP), (40, lD), (35, lA), (31, lS), (30, lC), (22, lW)] → wpAny (model prog w) topA (execs rest topEnv) Q E ⟨h', g, d, 259, os⟩) :
    wpAny (model prog w) topA (execs (stAt [9] :: rest) topEnv) Q E ⟨h, g, d, 248, os⟩ := by
  refine wpAny_execs_cons ?_
  with_unfolding_all refine stmt_top (x := Str.ofString "TSPECIALS") (fun v => by kernel_rfl) ?_ rfl
  refine wpAny_BinOp ?_
  refine wpAny_BinOp ?_
  refine ev_name (v := .ref 31) T (by kernel_rfl) ?_
  refine ev_set (n := 46) (x := Str.ofString "/?=") (u := 248) (tk := 249) rfl T (by kernel_rfl) (fun {Q} hQ => wpAny_Constant_str hQ) rfl (by decide +kernel) fun h1 T1 => ?_
  refine ev_or (n := 50) T1 (l := lS) (l' := chs (Str.ofString "/?=")) (.tail _ (.tail _ (.tail _ (.tail _ (.head _))))) (.head _) (by decide +kernel) fun h2 T2 => ?_
  refine ev_set (n := 51) (x := Str.ofString ".") (u := 255) (tk := 256) rfl T2 (by kernel_rfl) (fun {Q} hQ => wpAny_Constant_str hQ) rfl (by decide +kernel) fun h3 T3 => ?_
  refine ev_sub1 (n := 55) T3 (l := lU) (k := oneStr 46) (.tail _ (.head _)) (.head _) (by decide +kernel) fun h4 T4 => ?_
  refine ⟨55, 56, mo6 w.params, _, rfl, T4, by kernel_rfl, by kernel_rfl, fun h' T' => ?_⟩
  exact hQ h' (T'.fewer fun p hp => by rcases List.mem_cons.mp hp with rfl | hp; exact .head _; exact .tail _ (.tail _ (.tail _ (.tail _ hp))))
theorem st10 (T : Top15 w h 56 (mo7 w.params) [(55, lT), (45, lP), (40, lD), (35, lA), (31, lS), (30, lC), (22, lW)]) (hQ : ∀ h', Top15 w h' 57 (mo8 w.params) [(56, lK), (55, lT), (45, lP), (40, lD), (35, lA), (31, lS), (30, lC), (22, lW)] → wpAny (model prog w) topA (execs rest topEnv) Q E ⟨h', g, d, 260, os⟩) :
    wpAny (model prog w) topA (execs (stAt [10] :: rest) topEnv) Q E ⟨h, g, d, 259, os⟩ := by
  refine wpAny_execs_cons ?_
  with_unfolding_all refine stmt_top (x := Str.ofString "TOKEN_ENDS") (fun v => by kernel_rfl) ?_ rfl
  refine wpAny_BinOp ?_
  refine ev_name (v := .ref 55) T (by kernel_rfl) ?_
  refine ev_name (v := .ref 22) T (by kernel_rfl) ?_
  refine ev_or (n := 56) T (l := lT) (l' := lW) (.head _) (.tail _ (.tail _ (.tail _ (.tail _ (.tail _ (.tail _ (.head _))))))) (by decide +kernel) fun h2 T2 => ?_
  refine ⟨56, 57, mo7 w.params, _, rfl, T2, by kernel_rfl, by kernel_rfl, fun h' T' => ?_⟩
  exact hQ h' (T'.fewer fun p hp => hp)
theorem st11 (T : Top15 w h 57 (mo8 w.params) [(56, lK), (55, lT), (45, lP), (40, lD), (35, lA), (31, lS), (30, lC), (22, lW)]) (hQ : ∀ h', Top15 w h' 62 (mo9 w.params) [(61, lB), (56, lK), (55, lT), (45, lP), (40, lD), (35, lA), (31, lS), (30, lC), (22, lW)] → wpAny (model prog w) topA (execs rest topEnv) Q E ⟨h', g, d, 268, os⟩) :
    wpAny (model prog w) topA (execs (stAt [11] :: rest) topEnv) Q E ⟨h, g, d, 260, os⟩ := by
  refine wpAny_execs_cons ?_
  with_unfolding_all refine stmt_top (x := Str.ofString "ASPECIALS") (fun v => by kernel_rfl) ?_ rfl
  refine wpAny_BinOp ?_
  refine ev_name (v := .ref 55) T (by kernel_rfl) ?_
  refine ev_set (n := 57) (x := Str.ofString "*'%") (u := 260) (tk := 261) rfl T (by kernel_rfl) (fun {Q} hQ => wpAny_Constant_str hQ) rfl (by decide +kernel) fun h1 T1 => ?_
  refine ev_or (n := 61) T1 (l := lT) (l' := chs (Str.ofString "*'%")) (.tail _ (.tail _ (.head _))) (.head _) (by decide +kernel) fun h2 T2 => ?_
  refine ⟨61, 62, mo8 w.params, _, rfl, T2, by kernel_rfl, by kernel_rfl, fun h' T' => ?_⟩
  exact hQ h' (T'.fewer fun p hp => by rcases List.mem_cons.mp hp with rfl | hp; exact .head _; exact .tail _ (.tail _ hp))
theorem st12 (T : Top15 w h 62 (mo9 w.params) [(61, lB), (56, lK), (55, lT), (45, lP), (40, lD), (35, lA), (31, lS), (30, lC), (22, lW)]) (hQ : ∀ h', Top15 w h' 63 (mo10 w.params) [(62, lR), (61, lB), (56, lK), (55, lT), (45, lP), (40, lD), (35, lA), (31, lS), (30, lC), (22, lW)] → wpAny (model prog w) topA (execs rest topEnv) Q E ⟨h', g, d, 269, os⟩) :
    wpAny (model prog w) topA (execs (stAt [12] :: rest) topEnv) Q E ⟨h, g, d, 268, os⟩ := by
  refine wpAny_execs_cons ?_
  with_unfolding_all refine stmt_top (x := Str.ofString "ATTRIBUTE_ENDS") (fun v => by kernel_rfl) ?_ rfl
  refine wpAny_BinOp ?_
  refine ev_name (v := .ref 61) T (by kernel_rfl) ?_
  refine ev_name (v := .ref 22) T (by kernel_rfl) ?_
  refine ev_or (n := 62) T (l := lB) (l' := lW) (.head _) (.tail _ (.tail _ (.tail _ (.tail _ (.tail _ (.tail _ (.tail _ (.tail _ (.head _))))))))) (by decide +kernel) fun h2 T2 => ?_
  refine ⟨62, 63, mo9 w.params, _, rfl, T2, by kernel_rfl, by kernel_rfl, fun h' T' => ?_⟩
  exact hQ h' (T'.fewer fun p hp => hp)
theorem st13 (T : Top15 w h 63 (mo10 w.params) [(62, lR), (61, lB), (56, lK), (55, lT), (45, lP), (40, lD), (35, lA), (31, lS), (30, lC), (22, lW)]) (hQ : ∀ h', Top15 w h' 68 (mo11 w.params) [(67, lX), (62, lR), (61, lB), (56, lK), (55, lT), (45, lP), (40, lD), (35, lA), (31, lS), (30, lC), (22, lW)] → wpAny (model prog w) topA (execs rest topEnv) Q E ⟨h', g, d, 273, os⟩) :
    wpAny (model prog w) topA (execs (stAt [13] :: rest) topEnv) Q E ⟨h, g, d, 269, os⟩ := by
  refine wpAny_execs_cons ?_
  with_unfolding_all refine stmt_top (x := Str.ofString "EXTENDED_ATTRIBUTE_ENDS") (fun v => by kernel_rfl) ?_ rfl
  refine wpAny_BinOp ?_
  refine ev_name (v := .ref 62) T (by kernel_rfl) ?_
  refine ev_set (n := 63) (x := Str.ofString "%") (u := 269) (tk := 270) rfl T (by kernel_rfl) (fun {Q} hQ => wpAny_Constant_str hQ) rfl (by decide +kernel) fun h1 T1 => ?_
  refine ev_sub1 (n := 67) T1 (l := lR) (k := oneStr 37) (.tail _ (.head _)) (.head _) (by decide +kernel) fun h2 T2 => ?_
  refine ⟨67, 68, mo10 w.params, _, rfl, T2, by kernel_rfl, by kernel_rfl, fun h' T' => ?_⟩
  exact hQ h' (T'.fewer fun p hp => by rcases List.mem_cons.mp hp with rfl | hp; exact .head _; exact .tail _ (.tail _ hp))
theorem st14 (T : Top15 w h 68 (mo11 w.params) [(67, lX), (62, lR), (61, lB), (56, lK), (55, lT), (45, lP), (40, lD), (35, lA), (31, lS), (30, lC), (22, lW)]) (hQ : ∀ h', Top15 w h' 69 (mo12 w.params) [(68, lN), (67, lX), (62, lR), (61, lB), (56, lK), (55, lT), (45, lP), (40, lD), (35, lA), (31, lS), (30, lC), (22, lW)] → wpAny (model prog w) topA (execs rest topEnv) Q E ⟨h', g, d, 278, os⟩) :
    wpAny (model prog w) topA (execs (stAt [14] :: rest) topEnv) Q E ⟨h, g, d, 273, os⟩ := by
  refine wpAny_execs_cons ?_
  with_unfolding_all refine stmt_top (x := Str.ofString "NLSET") (fun v => by kernel_rfl) ?_ rfl
  refine ev_disp (n := 68) T (by decide +kernel) fun h1 T1 => ?_
  refine ⟨68, 69, mo11 w.params, _, rfl, T1, by kernel_rfl, by kernel_rfl, fun h' T' => ?_⟩
  exact hQ h' (T'.fewer fun p hp => hp)
theorem st15 (T : Top15 w h 69 (mo12 w.params) [(68, lN), (67, lX), (62, lR), (61, lB), (56, lK), (55, lT), (45, lP), (40, lD), (35, lA), (31, lS), (30, lC), (22, lW)]) (hQ : ∀ h', Top15 w h' 70 (mo13 w.params) [(69, lL), (68, lN), (67, lX), (62, lR), (61, lB), (56, lK), (55, lT), (45, lP), (40, lD), (35, lA), (31, lS), (30, lC), (22, lW)] → wpAny (model prog w) topA (execs rest topEnv) Q E ⟨h', g, d, 279, os⟩) :
    wpAny (model prog w) topA (execs (stAt [15] :: rest) topEnv) Q E ⟨h, g, d, 278, os⟩ := by
  refine wpAny_execs_cons ?_
  with_unfolding_all refine stmt_top (x := Str.ofString "SPECIALSNL") (fun v => by kernel_rfl) ?_ rfl
  refine wpAny_BinOp ?_
  refine ev_name (v := .ref 31) T (by kernel_rfl) ?_
  refine ev_name (v := .ref 68) T (by kernel_rfl) ?_
  refine ev_or (n := 69) T (l := lS) (l' := lN) (.tail _ (.tail _ (.tail _ (.tail _ (.tail _ (.tail _ (.tail _ (.tail _ (.tail _ (.head _)))))))))) (.head _) (by decide +kernel) fun h2 T2 => ?_
  refine ⟨69, 70, mo12 w.params, _, rfl, T2, by kernel_rfl, by kernel_rfl, fun h' T' => ?_⟩
  exact hQ h' (T'.fewer fun p hp => hp)
end
end Mine
/-! TopY -/
namespace Mine
open PySem PySem.W PyProof.Rows
set_option Elab.async false
set_option maxRecDepth 100000
noncomputable section
def L13 : List (Addr × List Str) := [(69, lL), (68, lN), (67, lX), (62, lR), (61, lB), (56, lK), (55, lT), (45, lP), (40, lD), (35, lA), (31, lS), (30, lC), (22, lW)]
theorem sts3 : sts 3 13 = [stAt [3], stAt [4], stAt [5], stAt [6], stAt [7], stAt [8], stAt [9], stAt [10], stAt [11], stAt [12], stAt [13], stAt [14], stAt [15]] := by kernel_rfl
theorem mo13_is (P : Params) : mo13 P = q15_3 P := by kernel_rfl
theorem abs_get {t : BT} {n : Nat} {life : Life} {a : Nat} {o : Obj} (h : t.get a = some o) (ha : a < n) (hf : o.isFreed = false) : (absHeap t n life).get? a = some o := by
  unfold Heap.get?
  rw [absHeap_at, if_pos ha, h]
  obtain ⟨c, d, dt, sl⟩ := o
  cases dt <;> first | rfl | cases hf
theorem abs_size (t : BT) (n : Nat) (life : Life) : (absHeap t n life).objs.size = n := by
  unfold absHeap BT.list
  simp
theorem get_objs {h : Heap} {a : Addr} {o : Obj} (e : h.get? a = some o) : h.objs[a]? = some o := by
  unfold Heap.get? at e
  split at e
  · cases e
  · exact e
theorem get_of_objs {h h' : Heap} {a : Addr} (e : h.objs[a]? = h'.objs[a]?) : h.get? a = h'.get? a := by
  unfold Heap.get?
  rw [e]
theorem all_of_range {α : Type} {f g : Nat → α} {n : Nat} (e : (List.range n).map f = (List.range n).map g) : ∀ i, i < n → f i = g i := fun i hi => by
  have := congrArg (·[i]?) e
  simpa [List.getElem?_map, List.getElem?_range hi] using this
theorem var15 (P : Params) (X : Nat → Obj) : ∀ i, i < 48 → (tree_15 P X).get (22 + i) = some (X (22 + i)) := all_of_range (f := fun i => (tree_15 P X).get (22 + i)) (g := fun i => some (X (22 + i))) (by kernel_rfl)
theorem var24 (P : Params) (X : Nat → Obj) : ∀ i, i < 48 → (tree_24 P X).get (22 + i) = some (X (22 + i)) := all_of_range (f := fun i => (tree_24 P X).get (22 + i)) (g := fun i => some (X (22 + i))) (by kernel_rfl)
theorem low15a (P : Params) (X : Nat → Obj) : ∀ i, i < 3 → (tree_15 P X).get i = (tree_2 P).get i := all_of_range (f := fun i => (tree_15 P X).get i) (g := fun i => (tree_2 P).get i) (by kernel_rfl)
theorem low15b (P : Params) (X : Nat → Obj) : ∀ i, i < 18 → (tree_15 P X).get (4 + i) = (tree_2 P).get (4 + i) := all_of_range (f := fun i => (tree_15 P X).get (4 + i)) (g := fun i => (tree_2 P).get (4 + i)) (by kernel_rfl)
theorem low2 (P : Params) : ∀ i, i < 22 → ((tree_2 P).get i).isSome = true := all_of_range (f := fun i => ((tree_2 P).get i).isSome) (g := fun _ => true) (by kernel_rfl)
theorem low2f (P : Params) : ∀ i, i < 22 → ((tree_2 P).get i).any Obj.isFreed = false := all_of_range (f := fun i => ((tree_2 P).get i).any Obj.isFreed) (g := fun _ => false) (by kernel_rfl)
def varsOf (h : Heap) (i : Nat) : Obj := (h.objs[i]?).getD default
variable {w : World} {h : Heap}
theorem heap_is {L : List (Addr × List Str)} (T : Top15 w h 70 (q15_3 w.params) L) : h = absHeap (tree_15 w.params (varsOf h)) 70 h.life := by
  obtain ⟨objs, life⟩ := h
  have hz : objs.size = 70 := T.size
  show (⟨objs, life⟩ : Heap) = absHeap _ _ life
  have key : objs = ((tree_15 w.params (varsOf ⟨objs, life⟩)).list 70).toArray := by
    apply Array.ext_getElem?
    intro i
    have e := absHeap_at (tree_15 w.params (varsOf ⟨objs, life⟩)) 70 life i
    unfold absHeap at e
    rw [e]
    by_cases hi : i < 70
    · rw [if_pos hi]
      by_cases h22 : 22 ≤ i
      · have := var15 w.params (varsOf ⟨objs, life⟩) (i - 22) (by omega)
        rw [show 22 + (i - 22) = i by omega] at this
        rw [this]
        show objs[i]? = some ((objs[i]?).getD default)
        rw [Array.getElem?_eq_getElem (by omega)]; rfl
      · by_cases h3 : i = 3
        · subst h3
          rw [get_objs T.main]; rfl
        · have hl : (tree_15 w.params (varsOf ⟨objs, life⟩)).get i = (tree_2 w.params).get i := by
            by_cases hlt : i < 3
            · exact low15a _ _ i hlt
            · have := low15b w.params (varsOf ⟨objs, life⟩) (i - 4) (by omega)
              rw [show 4 + (i - 4) = i by omega] at this
              exact this
          obtain ⟨o, ho⟩ := Option.isSome_iff_exists.mp (low2 w.params i (by omega))
          rw [hl, ho, get_objs (T.low i (by omega) h3 o ho)]; rfl
    · rw [if_neg hi, Array.getElem?_eq_none (by omega)]
  show (⟨objs, life⟩ : Heap) = ⟨_, life⟩
  rw [← key]
theorem top15_start (life : Life) : Top15 w (absHeap (tree_2 w.params) 22 life) 22 (q2_3 w.params) [] :=
  ⟨abs_size _ _ _, fun i hi _ o e => abs_get e hi (by have := low2f w.params i hi; rw [e] at this; exact this), abs_get (by kernel_rfl) (by decide) (by kernel_rfl), fun p hp => (nomatch hp)⟩

theorem sets_wp {os : OsState} {life : Life} : wpAny (model prog w) topA (execs (sts 3 13) topEnv) (fun f s' => f = .next ∧ ∃ h, Top15 w h 70 (q15_3 w.params) L13 ∧ s' = ⟨h, #[], boot_drawn, 279, os⟩) (fun _ _ => False)
    ⟨absHeap (tree_2 w.params) 22 life, #[], boot_drawn, 198, os⟩ := by
  rw [sts3]
  refine st3 (top15_start life) fun h T => ?_
  refine st4 T fun h T => ?_
  refine st5 T fun h T => ?_
  refine st6 T fun h T => ?_
  refine st7 T fun h T => ?_
  refine st8 T fun h T => ?_
  refine st9 T fun h T => ?_
  refine st10 T fun h T => ?_
  refine st11 T fun h T => ?_
  refine st12 T fun h T => ?_
  refine st13 T fun h T => ?_
  refine st14 T fun h T => ?_
  refine st15 T fun h T => ?_
  refine wpAny_execs_nil ⟨rfl, h, ?_, rfl⟩
  rw [← mo13_is]
  exact T

theorem fin_get (P : Params) (X : Nat → Obj) (life : Life) {a : Addr} (h1 : 22 ≤ a) (h2 : a < 70) : (absHeap (tree_24 P X) 214 life).objs[a]? = some (X a) := by
  rw [absHeap_at, if_pos (Nat.lt_trans h2 (by decide))]
  obtain ⟨i, rfl⟩ := Nat.exists_eq_add_of_le h1
  rw [var24 P X i (by have : 22 + i < 70 := h2; omega)]; rfl
def FinalOk (w : World) (X : Nat → Obj) (life : Life) : Prop := ∀ p ∈ L13, SL w (absHeap (tree_24 w.params X) 214 life) p.1 p.2
theorem final_ok {life : Life} (T : Top15 w h 70 (q15_3 w.params) L13) : FinalOk w (varsOf h) life := fun p hp => by
  obtain ⟨h1, S⟩ := T.sets p hp
  have hlt : p.1 < 70 := T.size ▸ S.lt
  refine S.at fun o e => ?_
  have e1 := get_objs e
  have e2 : (absHeap (tree_24 w.params (varsOf h)) 214 life).objs[p.1]? = h.objs[p.1]? := by
    rw [fin_get _ _ _ h1 hlt, e1]
    unfold varsOf
    rw [e1]; rfl
  rw [get_of_objs e2]; exact e

theorem body_wp {os : OsState} {life : Life} : Sem.wp (model prog w) (Ctx.of topCode [topFrame pos0]) (execs (behindTheImports prog) topEnv)
    (fun f _ s' => f = .next ∧ ∃ X l, FinalOk w X l ∧ s' = ⟨absHeap (tree_24 w.params X) 214 l, #[], boot_drawn, 464, os⟩) (fun _ _ _ => False) pos0 ⟨absHeap (tree_pre w.params) 15 life, #[], boot_drawn, 187, os⟩ := by
  rw [body_is]
  refine wp_app _ _ _ _ ?_
  refine Sem.wp_mono _ _ _ (fun f p s' hf => ?_) (fun _ _ _ h => h) _ _ (wp_of_go (segGo_of (run_0 w os life pos0)) rfl)
  obtain ⟨rfl, rfl⟩ := hf
  show Sem.wp _ _ (execs _ topEnv) _ _ _ _
  refine wp_app _ _ _ _ ?_
  refine Sem.wp_mono _ _ _ (fun f p s' hf => ?_) (fun _ _ _ h => h) _ _ (sets_wp (os := os) (life := life) _ p topA_in)
  obtain ⟨rfl, h, T, rfl⟩ := hf
  show Sem.wp _ _ (execs _ topEnv) _ _ _ _
  have ok := final_ok (life := h.life) T
  have eh := heap_is T
  generalize varsOf h = X at eh ok
  generalize h.life = l at eh ok
  subst eh
  refine wp_app _ _ _ _ ?_
  refine Sem.wp_mono _ _ _ (fun f p s' hf => ?_) (fun _ _ _ h => h) _ _ (wp_of_go (segGo_of (run_16 w os l p X)) rfl)
  obtain ⟨rfl, rfl⟩ := hf
  show Sem.wp _ _ (execs _ topEnv) _ _ _ _
  refine wp_app _ _ _ _ ?_
  refine Sem.wp_mono _ _ _ (fun f p s' hf => ?_) (fun _ _ _ h => h) _ _ (wp_of_go (segGo_of (run_17 w os l p X)) rfl)
  obtain ⟨rfl, rfl⟩ := hf
  show Sem.wp _ _ (execs _ topEnv) _ _ _ _
  refine Sem.wp_mono _ _ _ (fun f p s' hf => ?_) (fun _ _ _ h => h) _ _ (wp_of_go (segGo_of (run_18 w os l p X)) rfl)
  obtain ⟨rfl, rfl⟩ := hf
  exact ⟨rfl, X, l, ok, rfl⟩
end
end Mine
/-! TopZ -/
namespace Mine
open PySem PySem.W PyProof.Rows
set_option Elab.async false
set_option maxRecDepth 100000
theorem run_of_topGo {tb : String → Option Builtin} {p : Program} {w : World} {n₀ : Nat} {ann : Option Value} : ∀ {n : Nat} {s s' : Shared} {t t' : Thread}, topGo tb p w n₀ ann n s t = some (s', t') →
    runN (denote tb) p w n s t = .running s' t' ∧ ∀ k, k < n → ∀ s₁ t₁, runN (denote tb) p w k s t = .running s₁ t₁ → t₁.calm = true
  | 0, s, s', t, t', h => by
    obtain ⟨rfl, rfl⟩ : s = s' ∧ t = t' := by simpa [topGo] using h
    exact ⟨rfl, fun k hk => by omega⟩
  | n + 1, s, s', t, t', h => by
    unfold topGo at h
    cases he : through t with
    | true => rw [he] at h; cases h
    | false =>
      rw [he] at h
      cases hk : stepOk n₀ ann t with
      | false => rw [hk] at h; cases h
      | true =>
        rw [hk] at h
        cases hs : step (denote tb) p w s t with
        | halt o s₂ => rw [hs] at h; cases h
        | go s₂ t₂ =>
          rw [hs] at h
          obtain ⟨x, y⟩ := run_of_topGo h
          refine ⟨by rw [runN_one, hs]; exact x, fun k hk' s₁ t₁ e => ?_⟩
          cases k with
          | zero => injection e with _ e; subst e; exact (Bool.and_eq_true_iff.mp hk).1
          | succ k =>
            rw [runN_one, hs] at e
            exact y k (by omega) s₁ t₁ e
theorem sched_add {den : Code → Sem Fin} {p : Program} {w : World} : ∀ {n m : Nat} {a b : Config}, schedN den p w n a = .running b → schedN den p w (n + m) a = schedN den p w m b
  | 0, m, a, b, h => by
    obtain rfl : a = b := by simpa [schedN] using h
    rw [Nat.zero_add]
  | n + 1, m, a, b, h => by
    rw [show n + 1 + m = n + m + 1 by omega]
    unfold schedN at h
    show schedN den p w (n + m + 1) a = _
    rw [show schedN den p w (n + m + 1) a = (match sstep den p w a with | .go s' => schedN den p w (n + m) s' | .halt o s' => .halted o s') from rfl]
    cases hs : sstep den p w a with
    | halt o s₂ => rw [hs] at h; cases h
    | go s₂ => rw [hs] at h; exact sched_add h

theorem opening_is : opening prog = plainProg prog.main.scope.names := by kernel_rfl
theorem fence_is (s : Shared) : fenceModules? prog s = some s := by rfl

theorem top_goes (w : World) (os : OsState) : ∃ X n t, schedN (denote table) prog w n (.single ⟨boot_heap w.params, #[], boot_drawn, boot_toks, os⟩ (topStub prog)) = .running (.single ⟨absHeap (tree_24 w.params X) 214 (boot_heap w.params).life, #[], boot_drawn, 464, os⟩ t) ∧ through t = true ∧
    FinalOk w X (boot_heap w.params).life := by
  have hz : Shared.asleep ⟨boot_heap w.params, #[], boot_drawn, boot_toks, os⟩ := ⟨rfl, rfl⟩
  have h0 := run_pre w os
  rw [← table_eq_tree] at h0
  obtain ⟨a, b⟩ := run_of_topGo h0
  obtain ⟨e1, _⟩ := sched_of_run 12 _ _ _ _ hz a b
  have hwp : Sem.wp (model prog w) (Ctx.of topCode [topFrame pos0]) (denote table topCode) (Sem.finPost (model prog w) (Ctx.of topCode [topFrame pos0]) fun r s' => r = .ok .next ∧ ∃ X l, FinalOk w X l ∧ s' = ⟨absHeap (tree_24 w.params X) 214 l, #[], boot_drawn, 464, os⟩)
      (fun e _ s' => (Except.error e : Result) = .ok .next ∧ ∃ X l, FinalOk w X l ∧ s' = ⟨absHeap (tree_24 w.params X) 214 l, #[], boot_drawn, 464, os⟩) pos0 ⟨absHeap (tree_pre w.params) 15 (boot_heap w.params).life, #[], boot_drawn, 187, os⟩ := by
    refine wp_body block_0 (Sem.wp_mono _ _ _ (fun f p s' h => ?_) (fun _ _ _ h => h) _ _ (body_wp (os := os) (life := (boot_heap w.params).life)))
    exact ⟨by rw [h.1], h.2⟩
  obtain ⟨n, r, s', c', p', hn, rfl, X, l, ok, rfl⟩ := wp_runN hwp
  have hn1 := runN_snoc hn
  have es : (model prog w).step ⟨absHeap (tree_24 w.params X) 214 l, #[], boot_drawn, 464, os⟩ ⟨leafOf (.ok .next), c', p', [topFrame pos0]⟩ = .go ⟨absHeap (tree_24 w.params X) 214 l, #[], boot_drawn, 464, os⟩ ⟨topAfter (.ok .next), .builtin "claim.caller" {}, pos0, []⟩ := rfl
  rw [es] at hn1
  obtain ⟨e2, hl⟩ := sched_of_ideal (den := denote table) (prog := prog) (w := w) (⟨rfl, rfl⟩ : Shared.asleep ⟨absHeap (tree_pre w.params) 15 (boot_heap w.params).life, #[], boot_drawn, 187, os⟩) hn1 rfl rfl
  have hl' : l = (boot_heap w.params).life := hl
  subst hl'
  refine ⟨X, 12 + (n + 1), ⟨topAfter (.ok .next), .builtin "claim.caller" {}, pos0, []⟩, ?_, ?_, ok⟩
  · rw [sched_add e1]; exact e2
  · rfl
end Mine
/-! TopG -/
namespace Mine
open PySem PySem.W PyProof.Rows
set_option Elab.async false
set_option maxRecDepth 100000
noncomputable section
def qv : Program := { prog with main := { prog.main with body := sts 0 16 ++ sts 18 7 } }
def looseN : List Str := ["WSP", "CFWS_LEADER", "SPECIALS", "ATOM_ENDS", "DOT_ATOM_ENDS", "PHRASE_ENDS", "TSPECIALS", "TOKEN_ENDS", "ASPECIALS", "ATTRIBUTE_ENDS", "EXTENDED_ATTRIBUTE_ENDS", "NLSET", "SPECIALSNL", "Terminal", "WhiteSpaceTerminal"]
abbrev finS (w : World) (os : OsState) (life : Life) (X : Nat → Obj) : Shared := ⟨absHeap (tree_24 w.params X) 214 life, #[], boot_drawn, 464, os⟩
set_option maxHeartbeats 0 in
theorem look1 (w : World) (os : OsState) (X : Nat → Obj) : staticsOk (importedModules prog.main.body) (boot_heap w.params) (finS w os (boot_heap w.params).life X).heap = true := by kernel_rfl
set_option maxHeartbeats 0 in
theorem look2 (w : World) (os : OsState) (life : Life) (X : Nat → Obj) : namesBound prog (finS w os life X).heap = true := by kernel_rfl
set_option maxHeartbeats 0 in
theorem look3 (w : World) (os : OsState) (X : Nat → Obj) : laidKept (boot_heap w.params) (finS w os (boot_heap w.params).life X).heap = true := by kernel_rfl
abbrev xt : Shared → Bool := fun s => xlAt qv [] s && recOk [] s
set_option maxHeartbeats 0 in
theorem seen_ok (w : World) (os : OsState) (life : Life) (X : Nat → Obj) : openSeen qv looseN (importedModules prog.main.body) xt true (finS w os life X) = openGood qv looseN := by
  unfold openSeen openGood
  refine looks_pair ?_ (looks_pair ?_ (looks_pair ?_ (looks_pair ?_ (looks_pair ?_ (looks_pair ?_ (looks_pair ?_ (looks_pair ?_ ?_)))))))
  · kernel_rfl
  · kernel_rfl
  · kernel_rfl
  · kernel_rfl
  · kernel_rfl
  · kernel_rfl
  · kernel_rfl
  · kernel_rfl
  · kernel_rfl
end
end Mine
/-! TopK -/
namespace Mine
open PySem PySem.W PyProof.Rows
set_option Elab.async false
set_option maxRecDepth 100000
noncomputable section
def theK (P : Params) : Frag := [(0, boot_o_0 P), (1, boot_o_1 P), (2, q16_2 P), (3, q24_3 P), (4, boot_o_4 P), (5, boot_o_5 P), (6, boot_o_6 P), (7, boot_o_7 P), (8, boot_o_8 P), (9, boot_o_9 P), (10, boot_o_10 P), (11, qpre_11 P), (12, q24_12 P), (13, qpre_13 P), (14, qpre_14 P), (15, q2_15 P), (16, q2_16 P), (17, q2_17 P), (18, q2_18 P), (19, q2_19 P), (20, q2_20 P), (21, q2_21 P), (70, q16_70 P), (71, q16_71 P), (72, q16_72 P), (73, q16_73 P), (74, q16_74 P), (75, q16_75 P), (76, q16_76 P), (77, q16_77 P), (78, q16_78 P), (79, q16_79 P), (80, q16_80 P), (81, q16_81 P), (82, q16_82 P), (83, q16_83 P), (84, q16_84 P), (85, q16_85 P), (86, q16_86 P), (87, q16_87 P), (88, q16_88 P), (89, q16_89 P), (90, q16_90 P), (91, q16_91 P), (92, q16_92 P), (93, q16_93 P), (94, q16_94 P), (95, q16_95 P), (96, q16_96 P), (97, q16_97 P), (98, q16_98 P), (99, q16_99 P), (100, q16_100 P), (101, q16_101 P), (102, q16_102 P), (103, q16_103 P), (104, q16_104 P), (105, q16_105 P), (106, q16_106 P), (107, q16_107 P), (108, q16_108 P), (109, q16_109 P), (110, q16_110 P), (111, q16_111 P), (112, q16_112 P), (113, q16_113 P), (114, q16_114 P), (115, q16_115 P), (116, q16_116 P), (117, q16_117 P), (118, q16_118 P), (119, q16_119 P), (120, q16_120 P), (121, q16_121 P), (122, q16_122 P), (123, q16_123 P), (124, q16_124 P), (125, q16_125 P), (126, q16_126 P), (127, q16_127 P), (128, q16_128 P), (129, q16_129 P), (130, q16_130 P), (131, q16_131 P), (132, q16_132 P), (133, q16_133 P), (134, q16_134 P), (135, q16_135 P), (136, q16_136 P), (137, q16_137 P), (138, q16_138 P), (139, q16_139 P), (140, q16_140 P), (141, q17_141 P), (142, q16_142 P), (143, q16_143 P), (144, q16_144 P), (145, q16_145 P), (146, q16_146 P), (147, q17_147 P), (148, q17_148 P), (149, q17_149 P), (150, q17_150 P), (151, q17_151 P), (152, q17_152 P), (153, q17_153 P), (154, q17_154 P), (155, q17_155 P), (156, q17_156 P), (157, q17_157 P), (158, q17_158 P), (159, q17_159 P), (160, q17_160 P), (161, q17_161 P), (162, q17_162 P), (163, q17_163 P), (164, q17_164 P), (165, q17_165 P), (166, q17_166 P), (167, q17_167 P), (168, q17_168 P), (169, q17_169 P), (170, q17_170 P), (171, q17_171 P), (172, q17_172 P), (173, q17_173 P), (174, q18_174 P), (175, q18_175 P), (176, q18_176 P), (177, q18_177 P), (178, q18_178 P), (179, q18_179 P), (180, q18_180 P), (181, q20_181 P), (182, q20_182 P), (183, q20_183 P), (184, q20_184 P), (185, q20_185 P), (186, q20_186 P), (187, q20_187 P), (188, q21_188 P), (189, q21_189 P), (190, q21_190 P), (191, q21_191 P), (192, q21_192 P), (193, q21_193 P), (194, q21_194 P), (195, q22_195 P), (196, q22_196 P), (197, q22_197 P), (198, q22_198 P), (199, q22_199 P), (200, q22_200 P), (201, q22_201 P), (202, q23_202 P), (203, q23_203 P), (204, q23_204 P), (205, q23_205 P), (206, q23_206 P), (207, q23_207 P), (208, q23_208 P), (209, q24_209 P), (210, q24_210 P), (211, q24_211 P), (212, q24_212 P), (213, q24_213 P)]
def keysK : List Addr := List.range 22 ++ (List.range 144).map (70 + ·)
set_option maxHeartbeats 0 in
theorem theK_in (w : World) (os : OsState) (life : Life) (X : Nat → Obj) : (theK w.params).In (finS w os life X).heap := Frag.in_of (as := keysK) (by kernel_rfl) (by kernel_rfl)

theorem behind_mine (w : World) : (∃ s, AfterRun (opening prog) w s) ∧ ∀ s, AfterRun (opening prog) w s → ∃ s₀, fenceModules? prog s = some s₀ ∧ s₀.gens = #[] ∧ ∃ X life, TopRan prog w s₀ (finS w s₀.os life X) ∧ (finS w s₀.os life X).asleep ∧ FinalOk w X life := by
  obtain ⟨s₀, h0, hv⟩ := Option.map_eq_some_iff.mp (boot_open (p := prog) (N := 600) opening_is rfl fence_is w)
  rw [← table_eq_tree] at h0
  obtain ⟨s, h4, h5⟩ := Option.bind_eq_some_iff.mp h0
  have A := AfterImport.of_importEnds h4
  obtain rfl : s = s₀ := by rw [fence_is] at h5; exact Option.some.inj h5
  refine ⟨⟨s, A⟩, fun s' hs' => ?_⟩
  obtain rfl : s' = s := AfterImport.unique hs' A
  refine ⟨s', fence_is s', ?_⟩
  obtain ⟨heap, gens, drawn, toks, os⟩ := s'
  obtain ⟨rfl, rfl, rfl, rfl⟩ : heap = boot_heap w.params ∧ gens = #[] ∧ drawn = boot_drawn ∧ toks = boot_toks := by simpa using hv
  refine ⟨rfl, ?_⟩
  obtain ⟨X, n, t, hrun, hth, ok⟩ := top_goes w os
  refine ⟨X, (boot_heap w.params).life, ?_, ⟨rfl, rfl⟩, ok⟩
  obtain ⟨G, g0, g1, g2, g3, g4, g5⟩ := ground_of_open (w := w) (XP := fun _ _ => True) (fun _ _ => trivial) (by kernel_rfl) (seen_ok w os (boot_heap w.params).life X)
  refine ⟨⟨n, t, hrun, hth⟩, rfl, rfl, fun b o hb hn => ?_, g2, statics_of_ok (look1 w os X), g3, g4, g5, fun g hg => by simp at hg, names_of_bound (look2 w os _ X), laid_of_kept (look3 w os X)⟩
  have hlt : b < 11 := Heap.lt_size hb
  have h2 : b ≠ 2 := fun e => hn (.inr (.inl e))
  have h3 : b ≠ 3 := fun e => hn (.inl e)
  have key : ∀ i : Nat, i < 11 → i ≠ 2 → i ≠ 3 → (finS w os (boot_heap w.params).life X).heap.get? i = (boot_heap w.params).get? i := by
    intro i hi e2 e3
    have a0 := all_of_range (f := fun i => (finS w os (boot_heap w.params).life X).heap.get? i) (g := fun i => (boot_heap w.params).get? i) (n := 2) (by kernel_rfl)
    have a1 := all_of_range (f := fun i => (finS w os (boot_heap w.params).life X).heap.get? (4 + i)) (g := fun i => (boot_heap w.params).get? (4 + i)) (n := 7) (by kernel_rfl)
    by_cases hh : i < 2
    · exact a0 i hh
    · have := a1 (i - 4) (by omega)
      rw [show 4 + (i - 4) = i by omega] at this
      exact this
  rw [key b hlt h2 h3]; exact hb
end
end Mine
/-! Glue -/
namespace Mine
open PySem PySem.W PyProof.Rows
set_option Elab.async false
set_option maxRecDepth 100000
abbrev rw0 : OpenLaw := PySem.Challenge.rw_lg0006_01
abbrev row0 : OpenRow := rw0.row
abbrev XP0 : (Str → Option Value) → Heap → Prop := fun _ _ => True
def LawCall : Prop := ∀ (w : World) (s₀ s₁ : Shared) (mg mb : Str → Option Value), Ground qv looseN [] XP0 w s₀ mg mb s₁.heap → (theK w.params).In s₁.heap → (∀ p ∈ L13, SL w s₁.heap p.1 p.2) → s₁.gens = #[] →
  ∀ (ns : List Int) (vals : List Value) (sc : Addr), s₁.heap.IsList sc vals.toArray → IntsAre vals ns → ns.length ≤ 63 →
    wpAny (model prog w) callerA (PySem.call (.ref 213) [.ref sc]) (fun v s' => v = .bool true ∧ OldK s₁.heap s'.heap ∧ s'.os = s₁.os ∧ s'.gens = #[]) (fun _ _ => False) s₁

set_option maxHeartbeats 2000000 in
theorem call_good (call : LawCall) (w : World) (s₀ s₁ : Shared) (mg mb : Str → Option Value) (G : Ground qv looseN [] XP0 w s₀ mg mb s₁.heap) (KX : (theK w.params).In s₁.heap) (S : ∀ p ∈ L13, SL w s₁.heap p.1 p.2) (hg : s₁.gens = #[])
    (args : List WData) (vals : List Value) (as : List Addr) (hpre : row0.toRowW.claim.pre args = true) (hlay : WData.layableAll args = true) (hrd : ReadsAllW [] (classAt s₀.heap) s₁.heap vals args as) (hwl : WellAll w.params s₁.heap vals args) (hlo : ∀ a ∈ as, (a == sysModules) = false) :
    wpAny (model prog w) callerA (PySem.call (.ref 213) vals) (fun v s' => GoodWG row0.toRowW.claim (classAt s₀.heap) (ExcName.means s₀.heap) args s₁ (.ok (.ret v)) s') (fun e s' => GoodWG row0.toRowW.claim (classAt s₀.heap) (ExcName.means s₀.heap) args s₁ (.error e) s') s₁ := by
  wrow_args hpre hlay hrd hwl hlo
  rename_i ns _ _ _ _ _ _ _ sc vs _ hL _ _ _ hI _ hlen _
  have hlen' : ns.length ≤ 63 := by omega
  refine wpAny_mono (call w s₀ s₁ mg mb G KX S hg ns vs sc hL hI hlen') (fun v s' h => ?_) fun e s' h => h.elim
  obtain ⟨rfl, hk, hos, hgs⟩ := h
  refine ⟨.inl ⟨_, .bool true, [], rfl, ?_, .bool true, ?_, fun _ => ⟨List.nodup_nil, fun a ha => by cases ha⟩⟩, hk, hos, .of_eq hgs⟩
  · intro cls; rfl
  · kernel_rfl

theorem ground_fin (w : World) (os : OsState) (life : Life) (X : Nat → Obj) : Ground qv looseN [] XP0 w (finS w os life X) ((finS w os life X).heap.nsMap mainGlobals) ((finS w os life X).heap.nsMap builtinsNs) (finS w os life X).heap :=
  (ground_of_open (w := w) (XP := XP0) (fun _ _ => trivial) (by kernel_rfl) (seen_ok w os life X)).1
theorem law_at (w : World) (os : OsState) (life : Life) (X : Nat → Obj) : (finS w os life X).heap.nsMap mainGlobals (Str.ofString "law") = some (.ref 213) := by kernel_rfl
theorem isNs_fin (w : World) (os : OsState) (life : Life) (X : Nat → Obj) : (finS w os life X).heap.isNs mainGlobals = true := by kernel_rfl

def lawRec : DefRec := { name := Str.ofString "law", params := fParams (stAt [24]), body := fBody (stAt [24]), scope := fScope (stAt [24]), pos := ⟨106, 0, 110, 129⟩ }
theorem def_is : defOf qv (Str.ofString "law") = some (lawRec, []) := by kernel_rfl
theorem the_is : prog.theDef (Str.ofString "law") = some (lawRec.params, lawRec.body, lawRec.scope) := by kernel_rfl
theorem pin_fin (w : World) (os : OsState) (life : Life) (X : Nat → Obj) : isTheDefsW prog (finS w os life X).heap (Str.ofString "law") :=
  pinned_of_view (isNs_fin w os life X) (ground_fin w os life X) def_is the_is (by kernel_rfl)
theorem bare0 : prog.bare := ⟨rfl, rfl, rfl, rfl, rfl, by kernel_rfl⟩
theorem opens0 : opensWell prog = true := by kernel_rfl
theorem frees0 : frees row0.toRowW = true := by kernel_rfl

theorem row_holds (call : LawCall) (said : row0.wellSaid = true) (hw : row0.toRowW.promised) : row0.Holds := by
  obtain ⟨hsame, hu, ha, hap, hm⟩ := frees_parts frees0
  have hi := ident_freeW hu ha hap
  refine ⟨said, hw, ⟨bare0, opens0, by rfl⟩, hw.witness, fun w => ⟨(behind_mine w).1, fun s' hs' => ?_⟩⟩
  obtain ⟨s₀, hf, hg0, X, life, hT, hz, ok⟩ := (behind_mine w).2 s' hs'
  have G := ground_fin w s₀.os life X
  have hgm := isNs_fin w s₀.os life X
  refine ⟨s₀, hf, hg0, finS w s₀.os life X, hT, fun n hn => ?_, fun x hx => (nomatch hx), fun x hx => (nomatch hx), ?_⟩
  · obtain rfl : n = Str.ofString "law" := List.mem_singleton.mp hn
    exact pin_fin w s₀.os life X
  refine ClaimW.callFrom_of_specG (c := row0.toRowW.claim) (tree := fun vs => do match ← nsGet mainNs row0.name with
      | some f => do ret (← PySem.call f vs)
      | none => unsupported "claim.caller:no-such-global") hz rfl fun args hpre hlay ord hord => ?_
  obtain ⟨⟨vs, s₁⟩, hlaid⟩ := Option.isSome_iff_exists.mp (layAllW_isSome (P := w.params) (ord := ord) G.has args row0.args (finS w s₀.os life X) (pre_splitW (r := row0.toRowW) hpre).1)
  have keeps := layAllW_keeps _ _ _ hlaid
  have hal := layAllW_rest _ _ _ hlaid
  obtain ⟨as, hrd, hin, hold⟩ := reads_layAllW hord _ _ _ hlaid hlay s₁.heap (fun _ _ e => e)
  have L : Laid row0.records w (finS w s₀.os life X) s₁ args vs as := ⟨⟨ord, hord, hlaid⟩, hrd, hin, hold, keeps, hal.1, hal.2.2.1⟩
  have G₁ := G.keeps (fun _ _ _ _ _ => trivial) keeps
  have h := call_good call w (finS w s₀.os life X) s₁ _ _ G₁ ((theK_in w s₀.os life X).keeps keeps) (fun p hp => (ok p hp).at fun o e => keeps _ _ e) hal.1 args vs as hpre hlay L.reads L.well (L.low G.low)
  refine ⟨vs, s₁, hlaid, ?_⟩
  refine wpAny_bind (wpAny_nsGet G₁.T.g ?_)
  have hl : (finS w s₀.os life X).heap.nsMap mainGlobals row0.name = some (.ref 213) := law_at w s₀.os life X
  rw [hl]
  dsimp only
  refine wpAny_bind (wpAny_mono h (fun v s' g => ?_) fun e s' g => ?_)
  · have z := GoodWG.laid (c := row0.toRowW.claim) hsame rfl hi L g
    exact wpAny_pure ⟨_, rfl, z.1, z.2.1, z.2.2, fun q => by cases q⟩
  · have z := GoodWG.laid (c := row0.toRowW.claim) hsame rfl hi L g
    exact ⟨z.1, z.2.1, z.2.2, fun q => by cases q⟩
theorem law_holds (call : LawCall) : PySem.Challenge.rw_lg0006_01.Holds := by
  w_on
  o_law
  refine row_holds call (by assumption) ?_
  w_witness2
end Mine
/-! Walk0 -/
namespace Mine
open PySem PySem.W PyProof.Rows
set_option Elab.async false
set_option maxRecDepth 100000

abbrev Ext (h h' : Heap) : Prop := ∀ b o, h.get? b = some o → h'.get? b = some o
structure Base (w : World) (mean : ExcName → Option Value) (mg mb : Str → Option Value) (h : Heap) : Prop where
  X : (theK w.params).In h
  S : ∀ p ∈ L13, SL w h p.1 p.2
  T : Top qv (looseW qv looseN) mean mg mb h
theorem Base.keeps {w : World} {mean : ExcName → Option Value} {mg mb : Str → Option Value} {h h' : Heap} (H : Base w mean mg mb h) (k : Ext h h') : Base w mean mg mb h' := ⟨H.X.keeps k, fun p hp => (H.S p hp).at fun o e => k _ _ e, H.T.keeps k⟩

section
variable {w : World} {mean : ExcName → Option Value} {mg mb : Str → Option Value} {A : Around} {s : Shared}
abbrev noE : Value → Shared → Prop := fun _ _ => False
abbrev fEnv (name : Str) (i : List Nat) (L f c : Addr) : Env := envOf name (fScope (stAt i)) L f (.ref c)

theorem enter {i : List Nat} {f c : Addr} {name : Str} {pm : Value} {args : List Value} {binds : List (Str × Value)} {Q : Value → Shared → Prop} (H : Base w mean mg mb s.heap) (hroom : A.depth < recursionLimit)
    (ho : (theK w.params).lookup f = some ⟨.type "function", none, .func (fnOf name name (fParams (stAt i)) (fBody (stAt i)) (fScope (stAt i)) .none .none .none pm none (.ref c) .none), #[]⟩)
    (hcd : codeIn (theK w.params) (.ref c) name = true)
    (hb : bindArgs (fnOf name name (fParams (stAt i)) (fBody (stAt i)) (fScope (stAt i)) .none .none .none pm none (.ref c) .none) ⟨args, []⟩ = pure binds)
    (hl : (binds.all fun x => (fScope (stAt i)).names.lookup x.1 == some .local) = true)
    (hc : ((fScope (stAt i)).names.all fun x => x.2 != .cell) = true)
    (hk : (!(fScope (stAt i)).isCoroutine && !(fScope (stAt i)).isGenerator && (fScope (stAt i)).kind == .function) = true)
    (h : ∀ h₁, Fr s.heap s.heap.objs.size h₁ (fun x => binds.reverse.lookup x) →
      wpAny (model prog w) (A.deeper (fEnv name i s.heap.objs.size f c)) (execs (fBody (stAt i)) (fEnv name i s.heap.objs.size f c)) (fun fl s' => Q (match fl with | .ret v => v | _ => .none) s') noE { s with heap := h₁, toks := s.toks + binds.length }) :
    wpAny (model prog w) A (PySem.call (.ref f) args) Q noE s := by
  simp only [Bool.and_eq_true, Bool.not_eq_true', beq_iff_eq] at hk
  refine wpAny_call (codeAny_call_def (fd := fnOf name name (fParams (stAt i)) (fBody (stAt i)) (fScope (stAt i)) .none .none .none pm none (.ref c) .none) hroom (H.X _ _ ho) rfl H.T.nolimit (codeRec_of H.X hcd) rfl (.of_eq hb) ?_ ?_ (fun h₁ hns hk₁ => ?_) hk.1.1 hk.1.2 hk.2)
  · intro x hx e
    have := List.all_eq_true.mp hc x hx
    rw [e] at this; cases this
  · intro x hx
    have := List.all_eq_true.mp hl x hx
    exact beq_iff_eq.mp this
  · exact wpAny_mono (h h₁ ⟨hns, hk₁, Nat.le_refl _⟩) (fun fl s' q => q) fun _ _ q => q.elim
end
end Mine
/-! White -/
namespace Mine
open PySem PySem.W PyProof.Rows
set_option Elab.async false
set_option maxRecDepth 100000
def whiteI (c : Int) : Bool := (decide (9 ≤ c) && decide (c ≤ 13)) || (decide (28 ≤ c) && decide (c ≤ 32)) || (decide (8192 ≤ c) && decide (c ≤ 8202)) || [133, 160, 5760, 8232, 8233, 8239, 8287, 12288].any (· == c)
theorem whiteI_last {c : Int} (h1 : ¬ (9 ≤ c ∧ c ≤ 13)) (h2 : ¬ (28 ≤ c ∧ c ≤ 32)) (h3 : ¬ (8192 ≤ c ∧ c ≤ 8202)) : whiteI c = [133, 160, 5760, 8232, 8233, 8239, 8287, 12288].any (· == c) := by
  unfold whiteI
  simp only [← Bool.decide_and, decide_eq_false h1, decide_eq_false h2, decide_eq_false h3, Bool.false_or]
theorem whiteI_true {c : Int} (h : (9 ≤ c ∧ c ≤ 13) ∨ (28 ≤ c ∧ c ≤ 32) ∨ (8192 ≤ c ∧ c ≤ 8202)) : whiteI c = true := by
  unfold whiteI
  rcases h with h | h | h <;> simp [h]
variable {w : World} {mean : ExcName → Option Value} {mg mb : Str → Option Value} {A : Around} {s : Shared}
theorem white_last {c : Int} {t t1 t2 t3 t4 t5 t6 t7 t8 : Tok} {Q : Value → Shared → Prop}
    (h : ∀ o, Q (.bool ([133, 160, 5760, 8232, 8233, 8239, 8287, 12288].any (· == c))) { s with heap := s.heap.push o }) :
    wpAny (model prog w) A (newTuple [.int 133 t1, .int 160 t2, .int 5760 t3, .int 8232 t4, .int 8233 t5, .int 8239 t6, .int 8287 t7, .int 12288 t8])
      (fun b s₂ => wpAny (model prog w) A (compareOp CmpOp.In (Value.int c t) b) Q noE s₂) noE s := by
  refine wpAny_newTuple ?_
  exact in_tuple_ints (ns := [133, 160, 5760, 8232, 8233, 8239, 8287, 12288]) ⟨_, Heap.get?_push_size _ rfl, rfl, _, rfl⟩ (.cons _ _ (.cons _ _ (.cons _ _ (.cons _ _ (.cons _ _ (.cons _ _ (.cons _ _ (.cons _ _ .nil)))))))) (h _)
set_option maxHeartbeats 4000000 in
theorem white_call {c : Int} {t : Tok} {Q : Value → Shared → Prop} (H : Base w mean mg mb s.heap) (hroom : A.depth < recursionLimit)
    (h : ∀ h' tk, Ext s.heap h' → Q (.bool (whiteI c)) { s with heap := h', toks := tk }) : wpAny (model prog w) A (PySem.call (.ref 194) [.int c t]) Q noE s := by
  w_top off
  obtain ⟨h0, g0, d0, t0, os0⟩ := s
  refine enter (i := [21]) (c := 193) (name := Str.ofString "_law_is_white") (pm := .str (Str.ofString "law_lg0006_01") 413) (binds := [(Str.ofString "code", .int c t)]) H hroom (by kernel_rfl) (by kernel_rfl) (by kernel_rfl) (by kernel_rfl) (by kernel_rfl) (by kernel_rfl) fun h₁ F => ?_
  with_unfolding_all refine wpAny_execs_cons ?_
  dsimp only
  repeat' (first | walk1 | (dsimp only; walk1))
  all_goals try dsimp only
  all_goals first
    | (exfalso; omega)
    | (refine white_last fun o => ?_
       have e : whiteI c = [133, 160, 5760, 8232, 8233, 8239, 8287, 12288].any (· == c) := whiteI_last (by omega) (by omega) (by omega)
       rw [← e]
       exact h _ _ fun b o e => Heap.get?_push_of_some _ (F.keep b o e))
    | (have e : whiteI c = true := whiteI_true (by omega)
       rw [e] at h
       rw [decide_eq_true (by omega)]
       exact h _ _ F.keep)
end Mine
/-! NewT -/
namespace Mine
open PySem PySem.W PyProof.Rows
set_option Elab.async false
set_option maxRecDepth 100000
theorem pk_mro (P : Params) : peek (theK P) ⟨prog, P⟩ (mroOf (.ref 171)) = some [.ref 171, .ref 141, .type "str", .type "object"] := by kernel_rfl
theorem pk_made (P : Params) : peek (theK P) ⟨prog, P⟩ (Bind.madeBy (.ref 171)) = some none := by kernel_rfl
theorem pk_call (P : Params) : peek (theK P) ⟨prog, P⟩ (specialOf (.ref 171) "__call__") = some (some (.builtin "type.__call__")) := by kernel_rfl
theorem pk_typ (P : Params) : peek (theK P) ⟨prog, P⟩ (isInstance (.ref 171) (.type "type")) = some true := by kernel_rfl
theorem pk_sub (P : Params) : peek (theK P) ⟨prog, P⟩ (isSubtype (.ref 171) (.ref 171)) = some true := by kernel_rfl
theorem pk_init (P : Params) : peek (theK P) ⟨prog, P⟩ (typeLookup (.ref 171) "__init__") = some (some (.builtin "object.__init__")) := by kernel_rfl
theorem pk_new (P : Params) : peek (theK P) ⟨prog, P⟩ (typeLookup (.ref 171) "__new__") = some (some (.ref 142)) := by kernel_rfl
end Mine
/-! MakeT -/
namespace Mine
open PySem PySem.W PyProof.Rows PySem.Calls
set_option Elab.async false
set_option maxRecDepth 100000
section
variable {w : World} {A : Around} {R : Result → Shared → Prop} {h : Heap} {g : Array GenState} {d : Drawn} {t : Nat} {os : OsState}
theorem cls_new {s : Shared} {E : Value → Shared → Prop} {expr : Bool} {Q : Value → Shared → Prop} (X : (theK w.params).In s.heap) (hQ : Q (.ref 85) { s with toks := s.toks + 1 }) :
    wpAny (model prog w) A (getAttr (.ref 171) (Str.ofString "__new__") expr) Q E s :=
  cls_bind (mc := .type "type") X (by kernel_rfl) (show findCls (theK w.params) (.ref 171) (.type "type") (Str.ofString "__new__") = some (.get (.builtin "staticmethod.__get__") (.ref 142) .none (.ref 171)) by kernel_rfl)
    (wpAny_call (sm_get (s := { s with toks := s.toks + 1 }) X (show recIn (theK w.params) 142 "staticmethod" = some [.ref 85] by kernel_rfl) (handed_on (by kernel_rfl) hQ)))
theorem oi_args3 (a b c : Value) : argsOk "object.__init__" ⟨[a, b, c], []⟩ := by unfold argsOk; rw [PySem.W.S.signatureZ_eq]; kernel_rfl
theorem pk_isObj (P : Params) : peek (theK P) ⟨prog, P⟩ (isSubtype (.ref 171) (.type "object")) = some true := by kernel_rfl
set_option maxHeartbeats 4000000 in
theorem make_T (X : (theK w.params).In h) {v1 v2 : Value}
    (hq : codeAny (model prog w) (A.under (.builtin "type.__call__" ⟨.ref 171 :: [v1, v2], []⟩)) (.call (.ref 85) ⟨[.ref 171, v1, v2], []⟩) (fun r s' => ∃ x o, r = .ok (.ret (.ref x)) ∧ Ext h s'.heap ∧ s'.heap.get? x = some o ∧ o.cls = .ref 171 ∧ R (.ok (.ret (.ref x))) s') ⟨h, g, d, t + 1, os⟩) :
    codeAny (model prog w) A (.call (.ref 171) ⟨[v1, v2], []⟩) R ⟨h, g, d, t, os⟩ := by
  have hC : h.get? 171 = some (q17_171 w.params) := X _ _ (by kernel_rfl)
  have call : Looks (model prog w) h (specialOf (.ref 171) "__call__") (some (.builtin "type.__call__")) := .of_peek X (pk_call w.params)
  have typ : Looks (model prog w) h (isInstance (.ref 171) (.type "type")) true := .of_peek X (pk_typ w.params)
  have hm : Looks (model prog w) h (mroOf (.ref 171)) [.ref 171, .ref 141, .type "str", .type "object"] := .of_peek X (pk_mro w.params)
  have made : Looks (model prog w) h (Bind.madeBy (.ref 171)) none := .of_peek X (pk_made w.params)
  refine codeAny_of_tree ?_
  show wpAny _ _ (callAny (.ref 171) _) _ _ _
  refine nd_load hC ?_
  show wpAny _ _ (callAny.viaDunder (.ref 171) _) _ _ _
  unfold callAny.viaDunder
  refine wpAny_bind (call.at ?_)
  dsimp only
  rw [tc_bind]
  refine wpAny_bind (wpAny_pure (wpAny_bind (wpAny_pure ?_)))
  refine wpAny_pure (a := Fin.again (.call (.builtin "type.__call__") ⟨.ref 171 :: [v1, v2], []⟩)) (And.intro rfl ?_)
  refine codeAny_call_builtin_at (Code.quiet_builtin _ (by decide +kernel)) entry_typeCall (check_slot tc_kind tc_split typ (tc_args _ _ _) ?_)
  unfold Builtin.«type.__call__»
  repeat (first | simp only [Bool.false_eq_true, if_false, List.isEmpty_cons] | (with_reducible refine cls_new (s := ⟨h, g, d, t, os⟩) X ?_) | with_reducible refine wpAny_call ?_ | lk)
  refine codeAny_mono hq fun r s' z => ?_
  obtain ⟨x, o, rfl, k, ho, hc, z⟩ := z
  obtain ⟨h', g', d', t', os'⟩ := s'
  dsimp only at k ho ⊢
  have X' := X.keeps k
  obtain ⟨oc, od, oda, osl⟩ := o
  dsimp only at hc; subst hc
  have t1 : Looks (model prog w) h' (typeOf (.ref x)) (.ref 171) := (Looks.ld ho).andThen .now
  have s1 : Looks (model prog w) h' (isSubtype (.ref 171) (.ref 171)) true := .of_peek X' (pk_sub w.params)
  have s2 : Looks (model prog w) h' (isSubtype (.ref 171) (.type "object")) true := .of_peek X' (pk_isObj w.params)
  have i1 : Looks (model prog w) h' (typeLookup (.ref 171) "__init__") (some (.builtin "object.__init__")) := .of_peek X' (pk_init w.params)
  have made' : Looks (model prog w) h' (Bind.madeBy (.ref 171)) none := .of_peek X' (pk_made w.params)
  have t2 : Looks (model prog w) h' (isInstance (.ref x) (.type "object")) true := t1.andThen s2
  have b1 : Looks (model prog w) h' (bindSpecial (.builtin "object.__init__") (.ref x)) (.builtin "object.__init__", [.ref x]) := .of_pure (oi_bind _)
  unfold isInstance callSpecial? specialOf
  repeat (first | with_reducible refine wpAny_call ?_ | lk)
  refine codeAny_call_builtin oi_plain entry_oi (@check_slot (model prog w) _ _ _ "object.__init__" "object" "__init__" (.ref x) [v1, v2] [] _ oi_kind oi_split t2 (oi_args3 (.ref x) v1 v2) ?_)
  unfold Builtin.«object.__init__»
  repeat (first | simp only [bne_self_eq_false, Bool.false_eq_true, if_false, List.isEmpty_cons] | lk)
  exact z
end
end Mine
/-! SupT -/
namespace Mine
open PySem PySem.W PyProof.Rows PySem.Calls
set_option Elab.async false
set_option maxRecDepth 100000
section
variable {w : World} {A : Around} {E : Value → Shared → Prop} {R : Result → Shared → Prop} {h : Heap} {g : Array GenState} {d : Drawn} {t : Nat} {os : OsState}
theorem pk_sub2 (P : Params) : peek (theK P) ⟨prog, P⟩ (isSubtype (.ref 171) (.ref 141)) = some true := by kernel_rfl
abbrev supObj : Obj := { cls := .type "super", dict := none, data := .fields #[.ref 141, .ref 171, .ref 171], slots := #[] }
set_option maxHeartbeats 4000000 in
theorem sup_call {Q : Value → Shared → Prop} (X : (theK w.params).In h)
    (hq : ∀ h', h'.get? h.objs.size = some supObj → Ext h h' → Q (.ref h.objs.size) ⟨h', g, d, t, os⟩) :
    wpAny (model prog w) A (call (.type "super") [.ref 141, .ref 171]) Q E ⟨h, g, d, t, os⟩ := by
  have hD : h.get? 141 = some (q17_141 w.params) := X _ _ (by kernel_rfl)
  have hx : h.get? 171 = some (q17_171 w.params) := X _ _ (by kernel_rfl)
  refine ks_callType_codesW (Q₁ := fun obj s₁ => obj = .ref h.objs.size ∧ s₁ = ⟨h.push { cls := .type "super", data := .fields #[.none, .none, .none] }, g, d, t, os⟩) F.ks_called_super (ks_wpAny_checkTypeCall_super hD rfl) F.ks_entry_super_init
    (ks_code_super_new _ _ ⟨rfl, rfl⟩) fun obj s₁ h₁ => ?_
  obtain ⟨rfl, rfl⟩ := h₁
  have up : ∀ y o, h.get? y = some o → (h.push { cls := .type "super", data := .fields #[.none, .none, .none] }).get? y = some o := fun y o e => Heap.get?_push_of_some _ e
  have hso : (h.push { cls := .type "super", data := .fields #[.none, .none, .none] }).get? h.objs.size = some { cls := .type "super", dict := none, data := .fields #[.none, .none, .none], slots := #[] } := Heap.get?_push_at rfl rfl
  have hD' := up _ _ hD
  have hx' := up _ _ hx
  have hsub : Looks (model prog w) h (isSubtype (.ref 171) (.ref 141)) true := .of_peek X (pk_sub2 w.params)
  have hsub' := hsub.keeps up
  refine ⟨⟨_, hso, rfl⟩, F.ks_initArgs_super _ _ _, ?_⟩
  unfold Builtin.«super.__init__» noKeywords
  repeat (first | (with_reducible refine ks_wpAny_isType_cls hD' rfl ?_) | (with_reducible refine ks_wpAny_isType_cls hx' rfl ?_) | (with_reducible refine Looks.at hsub' ?_) | (with_reducible refine ks_wpAny_super_set3 hso ?_) | wp_step)
  all_goals (intro h' e k; exact ⟨rfl, hq h' e fun y o ey => k y o (Nat.ne_of_lt (Heap.lt_size ey)) (up y o ey)⟩)
end
end Mine
/-! SupN -/
namespace Mine
open PySem PySem.W PyProof.Rows PySem.Calls
set_option Elab.async false
set_option maxRecDepth 100000
section
variable {w : World} {A : Around} {E : Value → Shared → Prop} {R : Result → Shared → Prop} {h : Heap} {g : Array GenState} {d : Drawn} {t : Nat} {os : OsState}
theorem pk_opaque (P : Params) : peek (theK P) ⟨prog, P⟩ (opaqueClassAbove (.ref 171)) = some none := by kernel_rfl
theorem own_new (P : Params) : peek (theK P) ⟨prog, P⟩ (classOwn (.type "str") (Str.ofString "__new__")) = some (some (.builtin "str.__new__")) := by kernel_rfl
theorem bi_typ (P : Params) : peek (theK P) ⟨prog, P⟩ (typeOf (.builtin "str.__new__")) = some (.type "builtin_function_or_method") := by kernel_rfl
theorem bi_get (P : Params) : peek (theK P) ⟨prog, P⟩ (typeLookup (.type "builtin_function_or_method") "__get__") = some none := by kernel_rfl
theorem handed_new : handedIn (.builtin "str.__new__") = true := by kernel_rfl
set_option maxHeartbeats 4000000 in
theorem sup_ga {so : Addr} {tk : Tok} {Q : Fin → Shared → Prop} (X : (theK w.params).In h) (hso : h.get? so = some supObj) (hq : Q (.done (.ret (.builtin "str.__new__"))) ⟨h, g, d, t, os⟩) :
    wpAny (model prog w) A (Builtin.«super.__getattribute__» ⟨[.ref so, .str (Str.ofString "__new__") tk], []⟩) Q E ⟨h, g, d, t, os⟩ := by
  have hno : Looks (model prog w) h (opaqueClassAbove (.ref 171)) none := .of_peek X (pk_opaque w.params)
  have hC : Looks (model prog w) h (mroOf (.ref 171)) [.ref 171, .ref 141, .type "str", .type "object"] := .of_peek X (pk_mro w.params)
  have hl : (([.ref 171, .ref 141, .type "str", .type "object"] : List Value).dropWhile (· != .ref 141)).drop 1 = [.type "str", .type "object"] := by decide +kernel
  have hdt : supObj.data = .fields #[.ref 141, .ref 171, .ref 171] := rfl
  have f0 : (#[.ref 141, .ref 171, .ref 171] : Array Value)[0]? = some (.ref 141) := rfl
  have f1 : (#[.ref 141, .ref 171, .ref 171] : Array Value)[1]? = some (.ref 171) := rfl
  have f2 : (#[.ref 141, .ref 171, .ref 171] : Array Value)[2]? = some (.ref 171) := rfl
  have o1 : Looks (model prog w) h (classOwn (.type "str") (Str.ofString "__new__")) (some (.builtin "str.__new__")) := .of_peek X (own_new w.params)
  have g0 : Looks (model prog w) h (typeOf (.builtin "str.__new__")) (.type "builtin_function_or_method") := .of_peek X (bi_typ w.params)
  have g1 : Looks (model prog w) h (typeLookup (.type "builtin_function_or_method") "__get__") none := .of_peek X (bi_get w.params)
  have hn : ((Str.ofString "__new__") == ("__class__" : Str)) = false := by decide +kernel
  unfold Builtin.«super.__getattribute__»
  repeat (first
    | (with_reducible refine wpAny_field hso hdt f0 ?_) | (with_reducible refine wpAny_field hso hdt f1 ?_) | (with_reducible refine wpAny_field hso hdt f2 ?_)
    | (with_reducible refine ks_wpAny_notOpaque hno ?_)
    | (with_reducible refine Looks.at hC ?_; rw [hl])
    | (with_reducible refine Looks.at o1 ?_)
    | (with_reducible refine Looks.at g0 ?_)
    | (with_reducible refine Looks.at g1 ?_)
    | (refine handed_on handed_new ?_)
    | (simp only [hn, Bool.or_false, Bool.false_eq_true, if_false, List.forIn_cons])
    | wp_step
    | dsimp only)
  all_goals exact hq
set_option maxHeartbeats 4000000 in
theorem sup_getM {so : Addr} {pl : Sem Bool} {Q : Value × List Value → Shared → Prop} (X : (theK w.params).In h) (hso : h.get? so = some supObj)
    (hq : Q (.builtin "str.__new__", []) ⟨h, g, d, t + 1, os⟩) :
    wpAny (model prog w) A (getMethod (.ref so) (Str.ofString "__new__") pl) Q E ⟨h, g, d, t, os⟩ := by
  have hlk := F.ks_slot_super_ga.lookup
  have hcan := F.ks_canon_super_ga
  have hT : ∀ t', (⟨h, g, d, t', os⟩ : Shared).TypeIs (.ref so) "super" := fun _ => ⟨_, hso, rfl⟩
  unfold getMethod
  refine wpAny_bind (wpAny_specialOf (hT _) hlk ?_)
  show wpAny _ _ (if (Manifest.canonical "super.__getattribute__" != "object.__getattribute__") = true then _ else _) _ _ _
  rw [if_pos hcan]
  unfold getAttr getAttrBy
  refine wpAny_bind (wpAny_bind (wpAny_mkText (wpAny_holding (wpAny_bind (wpAny_typeOf (hT _) (wpAny_bind (wpAny_of_eq hlk ?_)))))))
  show wpAny _ _ (getAttrByItsOwn (.ref so) (.str (Str.ofString "__new__") t) (.type "super") (.builtin "super.__getattribute__") true false) _ _ _
  unfold getAttrByItsOwn hookBefore callGetattribute boundAndCalled
  refine wpAny_bind (wpAny_of_eq (show (if onTheHeap (.type "super") then typeLookup (.type "super") "__getattr__" else pure none) = pure none from rfl) ?_)
  refine wpAny_bind (wpAny_attempt (wpAny_holding ?_))
  show wpAny _ _ (bindSpecial (.builtin "super.__getattribute__") (.ref so) >>= _) _ _ _
  refine wpAny_bind (wpAny_of_eq (F.ks_slot_super_ga.bind _) ?_)
  refine wpAny_mono (Q := fun v s' => v = .builtin "str.__new__" ∧ s' = ⟨h, g, d, t + 1, os⟩) (E := fun _ _ => False)
    (wpAny_call_entry F.ks_slot_super_ga (hT _) F.ks_entry_super_ga (sup_ga X hso ⟨_, rfl, rfl, rfl⟩) (F.ks_gaArgs_super _ _)) (fun v s' hv => ?_) fun _ _ z => z.elim
  obtain ⟨rfl, rfl⟩ := hv
  exact wpAny_pure (wpAny_pure hq)
end
end Mine
/-! StrNew -/
namespace Mine
open PySem PySem.W PyProof.Rows PySem.Calls
open Builtin Builtin.Str
set_option Elab.async false
set_option maxRecDepth 100000
section
variable {w : World} {A : Around} {E : Value → Shared → Prop} {R : Result → Shared → Prop} {h : Heap} {g : Array GenState} {d : Drawn} {t : Nat} {os : OsState}
theorem pk_chk (P : Params) (v : Str) (tv : Tok) : peek (theK P) ⟨prog, P⟩ (checkBuiltinCall "str.__new__" ⟨[.ref 171, .str v tv], []⟩) = some () := by
  unfold checkBuiltinCall; rw [PySem.W.S.signatureZ_eq, PySem.W.S.canonicalZ_eq]; kernel_rfl
theorem pk_isT (P : Params) : peek (theK P) ⟨prog, P⟩ (isType (.ref 171)) = some true := by kernel_rfl
theorem pk_isS (P : Params) : peek (theK P) ⟨prog, P⟩ (isSubtype (.ref 171) (.type "str")) = some true := by kernel_rfl
theorem pk_del (P : Params) : peek (theK P) ⟨prog, P⟩ (classHasDel 171) = some false := by kernel_rfl
theorem sn_tree (v : Str) (tv : Tok) : Builtin.«str.__new__» ⟨[.ref 171, .str v tv], []⟩ = (do
    if !(← isType (.ref 171)) then
      rule "str.__new__.cls-no-type"; raiseError "TypeError" s!"str.__new__(X): X is not a type object ({← typeNameOf (.ref 171)})"
    if !(← isSubtype (.ref 171) (.type "str")) then
      rule "str.__new__.cls-no-subtype"; raiseError "TypeError" s!"str.__new__({← typeName (.ref 171)}): {← typeName (.ref 171)} is not a subtype of str"
    rule "str.__new__.subclass"
    let dict ← some <$> alloc { cls := .type "dict", data := .dict #[] }
    ret (← newObj (.ref 171) (.prim (← mkStr v)) dict)) := rfl
abbrev termObj (dx : Addr) (v : Str) (tk : Tok) : Obj := { cls := .ref 171, dict := some dx, data := .prim (.str v tk) }
set_option maxHeartbeats 4000000 in
theorem sn_call {v : Str} {tv : Tok} {Q : Value → Shared → Prop} (X : (theK w.params).In h) (hv : v.length ≤ sizeLine)
    (hq : Q (.ref (h.objs.size + 1)) ⟨(h.push emptyDict).push (termObj h.objs.size v t), g, d, t + 1, os⟩) :
    wpAny (model prog w) A (call (.builtin "str.__new__") [.ref 171, .str v tv]) Q E ⟨h, g, d, t, os⟩ := by
  have c1 : Looks (model prog w) h (checkBuiltinCall "str.__new__" ⟨[.ref 171, .str v tv], []⟩) () := .of_peek X (pk_chk w.params v tv)
  have c2 : Looks (model prog w) h (isType (.ref 171)) true := .of_peek X (pk_isT w.params)
  have c3 : Looks (model prog w) h (isSubtype (.ref 171) (.type "str")) true := .of_peek X (pk_isS w.params)
  have c4 : Looks (model prog w) h (classHasDel 171) false := .of_peek X (pk_del w.params)
  have c4' : Looks (model prog w) ((h.push emptyDict).push (termObj h.objs.size v t)) (classHasDel 171) false := c4.keeps fun b o e => Heap.get?_push_of_some _ (Heap.get?_push_of_some _ e)
  refine wpAny_call (codeAny_call_builtin (by decide +kernel) F.entry_str_new (c1.at ?_))
  rw [sn_tree]
  refine wpAny_bind (c2.at (wpAny_bind ?_))
  refine c3.at ?_
  refine wpAny_bind (wpAny_rule (wpAny_bind ?_))
  show wpAny _ _ (alloc emptyDict >>= fun x => pure (some x)) _ _ _
  refine wpAny_bind (wpAny_alloc (wpAny_pure (wpAny_bind ?_)))
  unfold mkStr
  rw [if_neg (Nat.not_lt.mpr hv)]
  refine wpAny_bind (wpAny_fresh (wpAny_pure (wpAny_bind ?_)))
  have e : newObj (.ref 171) (.prim (.str v t)) (some h.objs.size) = newObjAsIs (.ref 171) (.prim (.str v t)) (some h.objs.size) := by
    unfold newObj Data.pastItsLine
    dsimp only
    rw [if_neg (Nat.not_lt.mpr hv)]
  rw [e]
  unfold newObjAsIs
  refine wpAny_bind (wpAny_alloc (wpAny_bind (c4'.at ?_)))
  refine wpAny_pure (wpAny_pure ?_)
  rw [Heap.size_push]
  exact hq
end
end Mine
/-! SetAt -/
namespace Mine
open PySem PySem.W PyProof.Rows PySem.Calls
open Builtin Builtin.ObjectAttr
set_option Elab.async false
set_option maxRecDepth 100000
section
variable {w : World} {A : Around} {E : Value → Shared → Prop} {R : Result → Shared → Prop} {h : Heap} {g : Array GenState} {d : Drawn} {t : Nat} {os : OsState}
theorem pk_sa (P : Params) : peek (theK P) ⟨prog, P⟩ (typeLookup (.ref 171) "__setattr__") = some (some (.builtin "object.__setattr__")) := by kernel_rfl
theorem pk_tt (P : Params) : peek (theK P) ⟨prog, P⟩ (typeLookup (.ref 171) (Str.ofString "token_type")) = some none := by kernel_rfl
theorem pk_df (P : Params) : peek (theK P) ⟨prog, P⟩ (typeLookup (.ref 171) (Str.ofString "defects")) = some none := by kernel_rfl
theorem pk_cd (P : Params) : peek (theK P) ⟨prog, P⟩ ((·.hasDict) <$> classData 171) = some true := by kernel_rfl
theorem refuse_T (self : Value) : refuseLoop self "__setattr__" [.ref 171, .ref 141, .type "str", .type "object"] = pure () := by
  rw [refuseLoop_ref, refuseLoop_ref]; kernel_rfl
set_option maxHeartbeats 4000000 in
theorem term_set {x dx : Addr} {v0 : Str} {tk : Tok} {od od' : Obj} {name : Str} {v : Value} {es : List DictEntry} {n : Nat} {Q : Unit → Shared → Prop} (X : (theK w.params).In h)
    (hx : h.get? x = some (termObj dx v0 tk)) (hd : h.get? dx = some od) (hn : peek (theK w.params) ⟨prog, w.params⟩ (typeLookup (.ref 171) name) = some none)
    (hl : (lookIn name od).isSome = true) (e : Obj.putName name (PyData.keyHash w.params name) (.str name (t + 1)) v od = od') (e' : od'.data = .dict es.toArray n) (hz : es.length ≤ 1000)
    (hq : ∀ h', Heap.SameBut dx h h' → h'.get? dx = some od' → Q () ⟨h', g, d, t + 2, os⟩) :
    wpAny (model prog w) A (setAttr (.ref x) name v) Q E ⟨h, g, d, t, os⟩ := by
  have I : InstAt h x (termObj dx v0 tk) 171 (some od) := ⟨hx, rfl, rfl, hd⟩
  refine set_plain (K := theK w.params) X I (by kernel_rfl) ?_
  dsimp only
  have SF := PySem.F.store_object
  have t1 : Looks (model prog w) h (typeOf (.ref x)) (.ref 171) := (Looks.ld hx).andThen .now
  have t2 : Looks (model prog w) h (isSubtype (.ref 171) (.type "object")) true := .of_peek X (by kernel_rfl)
  have sub : Looks (model prog w) h (isInstance (.ref x) (.type "object")) true := t1.andThen t2
  have hm : Looks (model prog w) h (mroOf (.ref 171)) [.ref 171, .ref 141, .type "str", .type "object"] := .of_peek X (pk_mro w.params)
  have hl1 : Looks (model prog w) h (typeLookup (.ref 171) name) none := .of_peek X hn
  refine codeAny_call_builtin SF.slot.plain SF.entry (@check_slot (model prog w) _ _ ⟨h, g, d, t + 1, os⟩ "object.__setattr__" "object" "__setattr__" (.ref x) [.str name t, v] [] _ SF.kind SF.split sub (SF.args (.ref x) (.str name t) v) ?_)
  rw [osa_eq, refuse_eq]
  refine wpAny_bind (wpAny_bind (t1.at (wpAny_bind (hm.at ?_))))
  rw [refuse_T]
  refine wpAny_pure (wpAny_bind (t1.at (wpAny_bind (hl1.at (wpAny_bind (wpAny_pure ?_))))))
  dsimp only
  have hcd : Looks (model prog w) h (classData 171) (match (q17_171 w.params).data with | .cls c => c | _ => default) := .of_peek X (by kernel_rfl)
  have hfz : od'.isFreed = false := by obtain ⟨_, _, dd, _⟩ := od'; cases e'; rfl
  have hD' : (h.update dx (Obj.putName name (PyData.keyHash w.params name) (.str name (t + 1)) v)).get? dx = some od' := by
    have := Heap.get?_update_self (Obj.putName name (PyData.keyHash w.params name) (.str name (t + 1)) v) hd (e ▸ hfz)
    rwa [e] at this
  refine wpAny_bind (wpAny_pure (wpAny_bind (wpAny_bind (wpAny_loadPart hx (wpAny_bind (hcd.at ?_))))))
  refine wpAny_pure (a := some dx) (wpAny_bind (wpAny_pure (wpAny_bind ?_)))
  unfold nsSet
  refine wpAny_bind (wpAny_bind (wpAny_askSetting (wpAny_pure (wpAny_bind (wpAny_mkText (wpAny_bind (wpAny_loadPart hd ?_)))))))
  unfold lookIn at hl
  split at hl
  · rename_i es₀ n₀ q
    rw [q]
    dsimp only
    have c : (!es₀.any (·.key.isStr name) && es₀.any (·.refKey)) = false := by
      rw [← Array.any_toList, ← Array.any_toList]
      split at hl
      · rename_i en he
        rw [List.any_eq_true.mpr ⟨en, List.mem_of_find?_eq_some he, List.find?_some he⟩]; rfl
      · split at hl
        · cases hl
        · rename_i z; rw [Bool.not_eq_true] at z; rw [z, Bool.and_false]
    rw [aRefKeyMayBeTheName_at, c]
    refine wpAny_updatePart hd ?_
    refine wpAny_bind (wpAny_lookBehind hD' (by rw [e']; exact pastItsLine_dict (by rw [List.size_toArray, sizeLine_eq]; omega)) ?_)
    exact wpAny_pure (hq _ (Heap.SameBut.update ..) hD')
  · cases hl
end
end Mine
/-! NewC -/
namespace Mine
open PySem PySem.W PyProof.Rows PySem.Calls
set_option Elab.async false
set_option maxRecDepth 100000
section
variable {w : World} {mean : ExcName → Option Value} {mg mb : Str → Option Value} {A : Around} {R : Result → Shared → Prop} {h : Heap} {g : Array GenState} {d : Drawn} {t : Nat} {os : OsState}
abbrev newFn : FuncData := ksFn (Str.ofString "__new__") (Str.ofString "Terminal.__new__") (fParams (stAt [16, 3])) (fBody (stAt [16, 3])) (fScope (stAt [16, 3])) .none .none .none (.str (Str.ofString "cpy313.email._header_value_parser") 194) none (.ref 84) (.ref 78) 73
theorem fr_but {h₀ h h' : Heap} {L a : Addr} {m : Str → Option Value} (F : Fr h₀ L h m) (sb : Heap.SameBut a h h') (hne : L ≠ a) (hge : h₀.objs.size ≤ a) : Fr h₀ L h' m :=
  ⟨F.ns.sameBut sb hne, fun b o e => (sb.2 b (Nat.ne_of_lt (Nat.lt_of_lt_of_le (Heap.lt_size e) hge))).trans (F.keep b o e), F.above⟩
set_option maxHeartbeats 4000000 in
theorem new_T {v nm : Str} {tv tn : Tok} (H : Base w mean mg mb h) (hroom : A.depth < recursionLimit) (hv : v.length ≤ sizeLine)
    (hq : ∀ h' t' x dx tk, Ext h h' → h.objs.size ≤ x → h'.get? x = some (termObj dx v tk) → R (.ok (.ret (.ref x))) ⟨h', g, d, t', os⟩) :
    codeAny (model prog w) A (.call (.ref 85) ⟨[.ref 171, .str v tv, .str nm tn], []⟩) R ⟨h, g, d, t, os⟩ := by
  refine ks_codeAny_call_defAt (fd := newFn) (body := fBody (stAt [16, 3])) (binds := [(Str.ofString "cls", .ref 171), (Str.ofString "value", .str v tv), (Str.ofString "token_type", .str nm tn)]) hroom (H.X _ _ (show (theK w.params).lookup 85 = some (q16_85 w.params) by kernel_rfl)) rfl H.T.nolimit (codeRec_of H.X (by kernel_rfl)) rfl (.of_eq (by kernel_rfl)) ?_ ?_ (fun h₁ hns hk₁ => ?_) (by kernel_rfl) (by kernel_rfl) (by kernel_rfl)
  · have hc : ((fScope (stAt [16, 3])).names.all fun x => x.2 != .cell) = true := by kernel_rfl
    intro x hx e
    have := List.all_eq_true.mp hc x hx
    rw [e] at this; cases this
  · have hl : (([(Str.ofString "cls", .ref 171), (Str.ofString "value", .str v tv), (Str.ofString "token_type", .str nm tn)] : List (Str × Value)).all fun x => (fScope (stAt [16, 3])).names.lookup x.1 == some .local) = true := by kernel_rfl
    intro x hx
    exact beq_iff_eq.mp (List.all_eq_true.mp hl x hx)
  · dsimp only
    refine ks_wpAt_mono (E := noE) (Q := fun f s' => R (.ok (.ret (match f with | .ret v => v | _ => .none))) s') ?_ (fun _ _ q => q) (fun _ _ q => q.elim)
    with_unfolding_all refine ks_wpAt_execs_cons ?_
    with_unfolding_all refine ks_wpAt_Assign_Name ?_
    with_unfolding_all refine ks_wpAt_MethodCall ?_
    have F : Fr h h.objs.size h₁ _ := ⟨hns, hk₁, Nat.le_refl _⟩
    have X₁ := H.X.keeps hk₁
    have T₁ := H.T.keeps hk₁
    have hlook : (theK w.params).lookup 85 = some (q16_85 w.params) := by kernel_rfl
    have hcode : (theK w.params).lookup 84 = some (q16_84 w.params) := by kernel_rfl
    have hcell : (theK w.params).lookup 73 = some (q16_73 w.params) := by kernel_rfl
    refine ks_wpAt_super_base (env := callEnv newFn h.objs.size 85) (f := 85) (cc := 84) (by kernel_rfl) (by kernel_rfl) (by kernel_rfl) rfl (X₁ _ _ hlook) rfl rfl rfl (X₁ _ _ hcode) rfl rfl (by kernel_rfl) (by kernel_rfl) ?_
    refine ks_loadName_global (by kernel_rfl) (by kernel_rfl) (loadGlobal_builtin (env := callEnv newFn h.objs.size 85) T₁.g (mg_none_of X₁ T₁.g (by kernel_rfl)) T₁.b ((T₁.builtins _ (by decide +kernel)).trans (by kernel_rfl)) ⟨rfl, ?_⟩)
    refine wpAny_loadName_free (by kernel_rfl) (by kernel_rfl) rfl ⟨_, X₁ _ _ hcell, rfl⟩ ?_
    refine wpAny_loadName_local (by kernel_rfl) (by kernel_rfl) hns (v := .ref 171) (by kernel_rfl) ?_
    refine ks_wpAny_isType_cls (X₁ _ _ (show (theK w.params).lookup 141 = some (q17_141 w.params) by kernel_rfl)) rfl ⟨rfl, ?_⟩
    refine sup_call X₁ fun h₂ hso k₂ => ?_
    have X₂ := X₁.keeps k₂
    have F₂ : Fr h h.objs.size h₂ _ := ⟨hns.keeps k₂, fun b o e => k₂ _ _ (hk₁ _ _ e), Nat.le_refl _⟩
    refine sup_getM X₂ hso ?_
    dsimp only
    w_top off
    repeat' walk1
    refine sn_call X₂ hv ?_
    have hL : h.objs.size < h₂.objs.size := by
      obtain ⟨oL, es, ep, hL, _⟩ := F₂.ns
      exact Heap.lt_size hL
    generalize hdx : h₂.objs.size = dx at *
    generalize htk : (t + [(Str.ofString "cls", Value.ref 171), (Str.ofString "value", Value.str v tv), (Str.ofString "token_type", Value.str nm tn)].length + 1) = tk at *
    have F₃ : Fr h h.objs.size ((h₂.push emptyDict).push (termObj dx v tk)) _ := (F₂.push _).push _
    have X₃ : (theK w.params).In ((h₂.push emptyDict).push (termObj dx v tk)) := X₂.keeps fun b o e => Heap.get?_push_of_some _ (Heap.get?_push_of_some _ e)
    have hd₃ : ((h₂.push emptyDict).push (termObj dx v tk)).get? dx = some emptyDict := Heap.get?_push_of_some _ (hdx ▸ Heap.get?_push_size _ rfl)
    have hx₃ : ((h₂.push emptyDict).push (termObj dx v tk)).get? (dx + 1) = some (termObj dx v tk) := Heap.get?_push_at (by rw [Heap.size_push, hdx]) rfl
    generalize hh3 : (h₂.push emptyDict).push (termObj dx v tk) = h₃ at *
    refine wpAny_storeName_local (by kernel_rfl) F₃.ns (fun h₄ hns₄ sb₄ => ?_) (by kernel_rfl)
    have F₄ := F₃.set hns₄ sb₄
    have X₄ : (theK w.params).In h₄ := H.X.keeps F₄.keep
    have hd₄ : h₄.get? dx = some emptyDict := (sb₄.2 _ (Nat.ne_of_gt hL)).trans hd₃
    have hx₄ : h₄.get? (dx + 1) = some (termObj dx v tk) := (sb₄.2 _ (show dx + 1 ≠ h.objs.size by omega)).trans hx₃
    clear F₃ X₃ hd₃ hx₃ hns₄ F₂ X₂ F X₁ T₁ hso k₂ hns hk₁
    refine wpAt_of_wpAny ?_
    with_unfolding_all refine wpAny_execs_cons ?_
    dsimp only
    repeat' walk1
    refine term_set (es := [⟨PyData.keyHash w.params (Str.ofString "token_type"), .str (Str.ofString "token_type") (tk + 1 + 1 + 1), .str nm tn⟩]) (n := 1) X₄ hx₄ hd₄ (pk_tt w.params) (by kernel_rfl) rfl (by kernel_rfl) (by simp) fun h₅ sb₅ hd₅ => ?_
    have F₅ := fr_but F₄ sb₅ (Nat.ne_of_lt hL) (Nat.le_of_lt hL)
    have hx₅ : h₅.get? (dx + 1) = some (termObj dx v tk) := (sb₅.2 _ (show dx + 1 ≠ dx by omega)).trans hx₄
    have hs₅ : dx < h₅.objs.size := Heap.lt_size hd₅
    clear F₄ X₄ hx₄ hd₄ sb₄ hcode hlook hcell
    dsimp only
    with_unfolding_all refine wpAny_execs_cons ?_
    with_unfolding_all refine plainObj_wpAny_Assign_Attribute ?_
    repeat' walk1
    refine wpAny_newList ?_
    dsimp only
    have F₆ := F₅.push ({ cls := .type "list", data := .seq #[] } : Obj)
    have hx₆ := Heap.get?_push_of_some ({ cls := .type "list", data := .seq #[] } : Obj) hx₅
    have hd₆ := Heap.get?_push_of_some ({ cls := .type "list", data := .seq #[] } : Obj) hd₅
    have X₆ : (theK w.params).In _ := H.X.keeps F₆.keep
    clear F₅
    repeat' walk1
    refine term_set (es := [⟨PyData.keyHash w.params (Str.ofString "token_type"), .str (Str.ofString "token_type") (tk + 1 + 1 + 1), .str nm tn⟩, ⟨PyData.keyHash w.params (Str.ofString "defects"), .str (Str.ofString "defects") (tk + 1 + 1 + 2 + 1), .ref h₅.objs.size⟩]) (n := 2) X₆ hx₆ hd₆ (pk_df w.params) (by kernel_rfl) rfl (by kernel_rfl) (by simp) fun h₇ sb₇ hd₇ => ?_
    have F₇ := fr_but F₆ sb₇ (Nat.ne_of_lt hL) (Nat.le_of_lt hL)
    have hx₇ : h₇.get? (dx + 1) = some (termObj dx v tk) := (sb₇.2 _ (show dx + 1 ≠ dx by omega)).trans hx₆
    clear F₆ X₆ hx₆ hd₆ hd₇ hd₅ hx₅ sb₇ sb₅
    with_unfolding_all refine wpAny_execs_cons ?_
    repeat' (first | walk1 | (dsimp only; walk1))
    refine ldc (v := .ref (dx + 1)) (by kernel_rfl) (by kernel_rfl) F₇.ns (if_pos rfl) ?_
    exact hq _ _ _ _ _ F₇.keep (Nat.le_of_lt (Nat.lt_succ_of_lt hL)) hx₇
theorem make_call {v nm : Str} {tv tn : Tok} {Q : Value → Shared → Prop} (H : Base w mean mg mb h) (hroom : A.depth + 2 < recursionLimit) (hv : v.length ≤ sizeLine)
    (hq : ∀ h' t' x dx tk, Ext h h' → h.objs.size ≤ x → h'.get? x = some (termObj dx v tk) → Q (.ref x) ⟨h', g, d, t', os⟩) :
    wpAny (model prog w) A (PySem.call (.ref 171) [.str v tv, .str nm tn]) Q noE ⟨h, g, d, t, os⟩ := by
  refine wpAny_call (make_T H.X (new_T H ?_ hv fun h' t' x dx tk k hx e => ⟨x, _, rfl, k, e, rfl, hq h' t' x dx tk k hx e⟩))
  rw [depth_under_make]; omega
end
end Mine
/-! Names -/
namespace Mine
open PySem PySem.W PyProof.Rows PySem.Calls
set_option Elab.async false
set_option maxRecDepth 100000
section
variable {w : World} {mean : ExcName → Option Value} {mg mb : Str → Option Value} {A : Around} {s : Shared} {E : Value → Shared → Prop} {h₀ : Heap} {L f c : Addr} {m : Str → Option Value} {name x : Str} {i : List Nat} {pos : Pos} {v : Value} {Q : Value → Shared → Prop}
theorem gname (F : Fr h₀ L s.heap m) (H : Base w mean mg mb h₀)
    (e : nsIn (theK w.params) mainGlobals x = some (some v)) (hk : (fScope (stAt i)).kind = .function) (hx : (fScope (stAt i)).names.lookup x = some .globalImplicit) (h : Q v s) (hd : (x == ("__debug__" : Str)) = false := by decide) :
    wpAny (model prog w) A (eval (.Name x pos) (fEnv name i L f c)) Q E s := ld_global_at F H.T.g (mg_of H.X H.T.g e) h hk hx hd
theorem bname (F : Fr h₀ L s.heap m) (H : Base w mean mg mb h₀)
    (e : nsIn (theK w.params) mainGlobals x = some none) (hv : bootBuiltins x = some v) (hn : x ≠ "__name__") (hk : (fScope (stAt i)).kind = .function) (hx : (fScope (stAt i)).names.lookup x = some .globalImplicit) (h : Q v s) (hd : (x == ("__debug__" : Str)) = false := by decide) :
    wpAny (model prog w) A (eval (.Name x pos) (fEnv name i L f c)) Q E s := ld_builtin_at F H.T.g (mg_none_of H.X H.T.g e) H.T.b ((H.T.builtins x hn).trans hv) h hk hx hd
theorem nm_len (F : Fr h₀ L s.heap m) (H : Base w mean mg mb h₀) (hk : (fScope (stAt i)).kind = .function) (hx : (fScope (stAt i)).names.lookup (Str.ofString "len") = some .globalImplicit) (h : Q (.builtin "len") s) :
    wpAny (model prog w) A (eval (.Name (Str.ofString "len") pos) (fEnv name i L f c)) Q E s := bname F H (by kernel_rfl) (by kernel_rfl) (by decide +kernel) hk hx h
theorem nm_ord (F : Fr h₀ L s.heap m) (H : Base w mean mg mb h₀) (hk : (fScope (stAt i)).kind = .function) (hx : (fScope (stAt i)).names.lookup (Str.ofString "ord") = some .globalImplicit) (h : Q (.builtin "ord") s) :
    wpAny (model prog w) A (eval (.Name (Str.ofString "ord") pos) (fEnv name i L f c)) Q E s := bname F H (by kernel_rfl) (by kernel_rfl) (by decide +kernel) hk hx h
theorem nm_chr (F : Fr h₀ L s.heap m) (H : Base w mean mg mb h₀) (hk : (fScope (stAt i)).kind = .function) (hx : (fScope (stAt i)).names.lookup (Str.ofString "chr") = some .globalImplicit) (h : Q (.builtin "chr") s) :
    wpAny (model prog w) A (eval (.Name (Str.ofString "chr") pos) (fEnv name i L f c)) Q E s := bname F H (by kernel_rfl) (by kernel_rfl) (by decide +kernel) hk hx h
theorem nm_str (F : Fr h₀ L s.heap m) (H : Base w mean mg mb h₀) (hk : (fScope (stAt i)).kind = .function) (hx : (fScope (stAt i)).names.lookup (Str.ofString "str") = some .globalImplicit) (h : Q (.type "str") s) :
    wpAny (model prog w) A (eval (.Name (Str.ofString "str") pos) (fEnv name i L f c)) Q E s := bname F H (by kernel_rfl) (by kernel_rfl) (by decide +kernel) hk hx h
end
end Mine
/-! Fws -/
namespace Mine
open PySem PySem.W PyProof.Rows PySem.Calls
set_option Elab.async false
set_option maxRecDepth 100000
local macro_rules | `(tactic| walk_at "eval Name") => `(tactic| first
  | (with_reducible refine nm_len (by assumption) (by assumption) ?_ ?_ ?_; kernel_rfl; kernel_rfl)
  | (with_reducible refine nm_ord (by assumption) (by assumption) ?_ ?_ ?_; kernel_rfl; kernel_rfl)
  | (with_reducible refine nm_chr (by assumption) (by assumption) ?_ ?_ ?_; kernel_rfl; kernel_rfl)
  | (with_reducible refine nm_str (by assumption) (by assumption) ?_ ?_ ?_; kernel_rfl; kernel_rfl))
section
variable {w : World} {mean : ExcName → Option Value} {mg mb : Str → Option Value} {A : Around} {s : Shared}
set_option maxHeartbeats 4000000 in
theorem fws_call {v : Str} {tv : Tok} {Q : Value → Shared → Prop} (H : Base w mean mg mb s.heap) (hroom : A.depth + 4 < recursionLimit) (hv : v.length ≤ 1000)
    (hq : ∀ h' t' tup x dx tk tk', Ext s.heap h' → s.heap.objs.size ≤ tup → s.heap.objs.size ≤ x → h'.get? tup = some { cls := .type "tuple", data := .seq #[.ref x, .str (Txt.lstrip v) tk'] } → h'.get? x = some (termObj dx (Txt.slice v none (some (↑v.length - ↑(Txt.lstrip v).length))) tk) → Q (.ref tup) { s with heap := h', toks := t' }) :
    wpAny (model prog w) A (PySem.call (.ref 180) [.str v tv]) Q noE s := by
  w_top off
  obtain ⟨h0, g0, d0, t0, os0⟩ := s
  refine enter (i := [18]) (c := 179) (name := Str.ofString "get_fws") (pm := .str (Str.ofString "cpy313.email._header_value_parser") 194) (binds := [(Str.ofString "value", .str v tv)]) H (by omega) (by kernel_rfl) (by kernel_rfl) (by kernel_rfl) (by kernel_rfl) (by kernel_rfl) (by kernel_rfl) fun h₁ F => ?_
  have T := H.T
  dsimp only at T F H
  with_unfolding_all refine wpAny_execs_cons ?_
  dsimp only
  repeat' (first | walk1 | (dsimp only; walk1))
  rename_i t₁ k₁ hlen h₂ F₂
  refine gname F₂ H (v := .ref 171) (by kernel_rfl) (by kernel_rfl) (by kernel_rfl) ?_
  with_unfolding_all refine callWith_K (K := theK w.params) H.X (by kernel_rfl) ?_
  repeat' (first | walk1 | (dsimp only; walk1))
  · rename_i F₃ _
    exact H.X.keeps F₃.keep
  rename_i h₃ t₃ k₃ F₃ hsl
  have hL : h0.objs.size < h₃.objs.size := by
    obtain ⟨oL, es, ep, hL, _⟩ := F₃.ns
    exact Heap.lt_size hL
  refine make_call (H.keeps F₃.keep) (by rw [depth_deeper]; omega) (by rw [sizeLine_eq]; omega) fun h₄ t₄ x dx tk k₄ hxs hx₄ => ?_
  refine wpAny_storeName_local (by kernel_rfl) (F₃.ns.keeps k₄) (fun h₅ hns₅ sb₅ => ?_) (by kernel_rfl)
  have F₄ : Fr h0 h0.objs.size h₄ _ := ⟨F₃.ns.keeps k₄, fun b o e => k₄ _ _ (F₃.keep _ _ e), Nat.le_refl _⟩
  have F₅ := F₄.set hns₅ sb₅
  dsimp only at F₅ sb₅
  have hx₅ : h₅.get? x = some (termObj dx (Txt.slice v none (some (↑v.length - ↑(Txt.lstrip v).length))) tk) := by
    refine (sb₅.2 _ ?_).trans hx₄
    rintro rfl
    obtain ⟨oL, es, ep, hL', hd', _⟩ := F₄.ns
    have := hx₄.symm.trans hL'
    cases this
    cases hd'
  clear F₄ hns₅ sb₅ hx₄ F₃ F T
  repeat' (first | walk1 | (dsimp only; walk1))
  have hts : h0.objs.size ≤ h₅.objs.size := by
    obtain ⟨oL, es, ep, hL, _⟩ := F₅.ns
    exact Nat.le_of_lt (Heap.lt_size hL)
  refine wpAny_newTuple ?_
  exact hq _ _ _ x dx tk t₁ (fun b o e => Heap.get?_push_of_some _ (F₅.keep b o e)) hts (Nat.le_trans (Nat.le_of_lt hL) hxs) (Heap.get?_push_size _ rfl) (Heap.get?_push_of_some _ hx₅)
end
end Mine
/-! StrT -/
namespace Mine
open PySem PySem.W PyProof.Rows PySem.Calls
open Builtin Builtin.Str
set_option Elab.async false
set_option maxRecDepth 100000
section
variable {w : World} {mean : ExcName → Option Value} {mg mb : Str → Option Value} {A : Around} {s : Shared} {E : Value → Shared → Prop} {h : Heap} {g : Array GenState} {d : Drawn} {t : Nat} {os : OsState}
theorem pk_str (P : Params) : peek (theK P) ⟨prog, P⟩ (typeLookup (.ref 171) "__str__") = some (some (.builtin "str.__str__")) := by kernel_rfl
theorem ss_bind (x : Addr) : bindSpecial (.builtin "str.__str__") (.ref x) = pure (.builtin "str.__str__", [.ref x]) := by kernel_rfl
theorem ss_args (v : Value) : argsOk "str.__str__" ⟨[v], []⟩ := by unfold argsOk; rw [PySem.W.S.signatureZ_eq]; kernel_rfl
theorem ss_entry : entryFor table "str.__str__" = some Builtin.«str.__str__» := entryFor_of_tree (by kernel_rfl)
theorem text_T {x dx : Addr} {v : Str} {tk : Tok} {Q : Str → Shared → Prop} (hx : h.get? x = some (termObj dx v tk)) (hq : Q v ⟨h, g, d, t, os⟩) : wpAny (model prog w) A (textOf (.ref x)) Q E ⟨h, g, d, t, os⟩ := by
  unfold textOf asStr?
  repeat (first | wp_step | lk)
  exact hq
set_option maxHeartbeats 4000000 in
theorem str_T {x dx : Addr} {v : Str} {tk : Tok} {Q : Value → Shared → Prop} (X : (theK w.params).In h) (hx : h.get? x = some (termObj dx v tk)) (hv : v.length ≤ sizeLine) (hu : A.units + 4 < cLine)
    (hq : Q (.str v t) ⟨h, g, d, t + 1, os⟩) : wpAny (model prog w) A (call (.type "str") [.ref x]) Q E ⟨h, g, d, t, os⟩ := by
  have t1 : Looks (model prog w) h (typeOf (.ref x)) (.ref 171) := (Looks.ld hx).andThen .now
  have t2 : Looks (model prog w) h (isSubtype (.ref 171) (.type "str")) true := .of_peek X (pk_isS w.params)
  have sub : Looks (model prog w) h (isInstance (.ref x) (.type "str")) true := t1.andThen t2
  have l1 : Looks (model prog w) h (typeLookup (.ref 171) "__str__") (some (.builtin "str.__str__")) := .of_peek X (pk_str w.params)
  refine callType_codes (Q₁ := fun obj s₁ => obj = .str v t ∧ s₁ = ⟨h, g, d, t + 1, os⟩) F.called_str (F.typeCall_str_1 _) F.entry_object_init ?_ fun obj s₁ hq₁ => ?_
  · refine codeAny_call_builtin F.called_str.plain F.entry_str_new (wpAny_of_eq (F.newCall_str_1 _) ?_)
    rw [str_new_tree]
    refine wpAny_bind (wpAny_pure ?_)
    refine wpAny_bind (wpAny_of_eq isSubtype_str_str ?_)
    refine wpAny_bind ?_
    unfold Builtin.Str.strOf
    refine wpAny_bind (m := cRoomFor _ _) (wpAny_cRoomFor (by simp only [units_in1]; omega) ?_)
    unfold callSpecial? specialOf
    refine wpAny_bind (wpAny_bind (wpAny_bind (t1.at (l1.at (wpAny_holding (wpAny_bind (wpAny_of_eq (ss_bind x) (wpAny_bind (wpAny_call ?_)))))))))
    refine codeAny_call_builtin (by decide +kernel) ss_entry (@check_slot (model prog w) _ _ _ "str.__str__" "str" "__str__" (.ref x) [] [] _ (by decide +kernel) (by decide +kernel) sub (ss_args (.ref x)) ?_)
    unfold Builtin.«str.__str__» strSlot slotArgs
    repeat (first | (refine text_T hx ?_) | wp_step)
    exact ⟨rfl, rfl⟩
  · obtain ⟨rfl, rfl⟩ := hq₁
    refine ⟨typeIs_str _ _ _, F.args_object_init_2 _ _, ?_⟩
    exact object_init_meets F.called_str.init.lookup F.called_str.made (by decide) prog w A.in1 _ _ ⟨typeIs_str _ _ _, rfl, hq⟩
end
end Mine
/-! Told0 -/
namespace Mine
open PySem PySem.W PyProof.Rows PySem.Calls
set_option Elab.async false
set_option maxRecDepth 100000
/-- where the walk is to stop -/
def Halt (P : Prop) : Prop := P
theorem Halt.intro {P : Prop} (h : Halt P) : P := h
theorem Halt.mk {P : Prop} (h : P) : Halt P := h
/-- a turn's end -/
def Step (I : Nat → Shared → Prop) (n : Nat) (f : Flow) (s : Shared) : Prop := f = .next ∧ ∃ m, m < n ∧ I m s
section
variable {w : World} {mean : ExcName → Option Value} {mg mb : Str → Option Value} {A : Around} {s : Shared} {E : Value → Shared → Prop} {h₀ : Heap} {L f c : Addr} {m : Str → Option Value} {name : Str} {i : List Nat} {pos : Pos} {Q : Value → Shared → Prop}
theorem nm_wsp (F : Fr h₀ L s.heap m) (H : Base w mean mg mb h₀) (hk : (fScope (stAt i)).kind = .function) (hx : (fScope (stAt i)).names.lookup (Str.ofString "WSP") = some .globalImplicit) (h : Q (.ref 22) s) :
    wpAny (model prog w) A (eval (.Name (Str.ofString "WSP") pos) (fEnv name i L f c)) Q E s := gname F H (by kernel_rfl) hk hx h
theorem nm_fws (F : Fr h₀ L s.heap m) (H : Base w mean mg mb h₀) (hk : (fScope (stAt i)).kind = .function) (hx : (fScope (stAt i)).names.lookup (Str.ofString "get_fws") = some .globalImplicit) (h : Q (.ref 180) s) :
    wpAny (model prog w) A (eval (.Name (Str.ofString "get_fws") pos) (fEnv name i L f c)) Q E s := gname F H (by kernel_rfl) hk hx h
theorem nm_white (F : Fr h₀ L s.heap m) (H : Base w mean mg mb h₀) (hk : (fScope (stAt i)).kind = .function) (hx : (fScope (stAt i)).names.lookup (Str.ofString "_law_is_white") = some .globalImplicit) (h : Q (.ref 194) s) :
    wpAny (model prog w) A (eval (.Name (Str.ofString "_law_is_white") pos) (fEnv name i L f c)) Q E s := gname F H (by kernel_rfl) hk hx h
end
section
variable {w : World} {A : Around} {s : Shared} {E : Value → Shared → Prop} {Q : Value → Shared → Prop}
theorem in_SL {a : Addr} {l : List Str} {k : Str} {u : Tok} (S : SL w s.heap a l) (h : Q (.bool (decide (k ∈ l))) { s with toks := s.toks + 1 }) : wpAny (model prog w) A (compareOp .In (.str k u) (.ref a)) Q E s :=
  wpAny_inSet_of (knd := strKind prog w) (k := k) (strKind_is _ _ _ _) rfl S.setOf h
theorem notin_SL {a : Addr} {l : List Str} {k : Str} {u : Tok} (S : SL w s.heap a l) (h : Q (.bool (!decide (k ∈ l))) { s with toks := s.toks + 1 }) : wpAny (model prog w) A (compareOp .NotIn (.str k u) (.ref a)) Q E s :=
  wpAny_notInSet_of (knd := strKind prog w) (k := k) (strKind_is _ _ _ _) rfl S.setOf h
theorem in_SLF {h₀ : Heap} {L a : Addr} {m : Str → Option Value} {l : List Str} {k : Str} {u : Tok} (F : Fr h₀ L s.heap m) (S : SL w h₀ a l) (h : Q (.bool (decide (k ∈ l))) { s with toks := s.toks + 1 }) : wpAny (model prog w) A (compareOp .In (.str k u) (.ref a)) Q E s :=
  in_SL (S.at fun o e => F.keep _ _ e) h
theorem notin_SLF {h₀ : Heap} {L a : Addr} {m : Str → Option Value} {l : List Str} {k : Str} {u : Tok} (F : Fr h₀ L s.heap m) (S : SL w h₀ a l) (h : Q (.bool (!decide (k ∈ l))) { s with toks := s.toks + 1 }) : wpAny (model prog w) A (compareOp .NotIn (.str k u) (.ref a)) Q E s :=
  notin_SL (S.at fun o e => F.keep _ _ e) h
theorem while_noE {test : Expr} {body : List Stmt} {pos : Pos} {env : Env} {Qf : Flow → Shared → Prop} (I : Nat → Shared → Prop) (n₀ : Nat) (hI : I n₀ s)
    (turn : ∀ n s', I n s' → wpAny (model prog w) A (isTrue test env (eval test env)) (fun b s₂ =>
        if b = true then wpAny (model prog w) A (execs body env) (Step I n) noE s₂ else Qf .next s₂) noE s') :
    wpAny (model prog w) A (exec (.While test body [] pos) env) Qf noE s := by
  refine wpAny_While (codeAny_whileLoop I ?_ n₀ hI)
  intro n s' hI'
  refine wpAny_mono (turn n s' hI') (fun b s₂ h₂ => ?_) fun _ _ q => q.elim
  cases b with
  | false =>
    simp only [Bool.false_eq_true, if_false] at h₂ ⊢
    exact wpAny_execs_nil h₂
  | true =>
    simp only [if_true] at h₂ ⊢
    refine wpAny_mono h₂ (fun f s₃ h₃ => ?_) fun _ _ q => q.elim
    obtain ⟨rfl, m, hm, hI₃⟩ := h₃
    exact ⟨m, hm, hI₃⟩
end
end Mine
/-! Text -/
namespace Mine
open PySem PyProof.Rows PySem.Builtin PySem.Builtin.Str
abbrev S (l : List Nat) : Str := ⟨l.toArray⟩
theorem S_len (l : List Nat) : (S l).length = l.length := by simp [Str.length]
theorem S_ext {x : Str} {l : List Nat} (h : x.cps.toList = l) : x = S l := by
  cases x with
  | mk a => subst h; simp [S]
theorem item_at {l : List Nat} {k : Nat} (h : k < l.length) : Txt.item (S l) (k : Int) = oneStr l[k] := by
  unfold Txt.item Txt.charAt seqIndex? oneStr
  have hk : ¬ ((k : Int) < 0) := by omega
  simp only [if_neg hk, S_len]
  rw [if_pos (by simp; omega)]
  simp [h]
theorem item_0 (c : Nat) (r : List Nat) : Txt.item (S (c :: r)) 0 = oneStr c := item_at (l := c :: r) (k := 0) (by simp)
theorem drop_takeWhile {α : Type} (p : α → Bool) : ∀ l : List α, l.drop (l.takeWhile p).length = l.dropWhile p
  | [] => rfl
  | a :: l => by
    rw [List.takeWhile_cons, List.dropWhile_cons]
    split
    · simp [drop_takeWhile p l]
    · rfl
theorem take_takeWhile {α : Type} (p : α → Bool) : ∀ l : List α, l.take (l.takeWhile p).length = l.takeWhile p
  | [] => rfl
  | a :: l => by
    rw [List.takeWhile_cons]
    split
    · simp [take_takeWhile p l]
    · rfl
theorem lstrip_is (l : List Nat) : Txt.lstrip (S l) = S (l.dropWhile Unicode.isSpace) := by
  unfold Txt.lstrip
  rw [stripBy_eq]
  refine S_ext ?_
  rw [StrLaws.strSub_toList]
  simp only [stripLo, stripHi, if_true, Bool.false_eq_true, if_false, Str.length]
  rw [drop_takeWhile, List.take_of_length_le]
  have : (l.takeWhile Unicode.isSpace ++ l.dropWhile Unicode.isSpace).length = l.length := by rw [List.takeWhile_append_dropWhile]
  rw [List.length_append] at this
  simp only [List.size_toArray]
  omega
theorem pick (l : List Nat) (a n : Nat) : ((List.range n).map fun (k : Nat) => ((a : Int) + 1 * (k : Int)).toNat).filterMap (fun i => (S l).cps[i]?) = (l.drop a).take n := by
  induction n with
  | zero => simp
  | succ n ih =>
    rw [List.range_succ, List.map_append, List.filterMap_append, ih]
    have e : ((a : Int) + 1 * (n : Int)).toNat = a + n := by omega
    rw [List.take_add_one]
    congr 1
    rw [List.map_cons, List.map_nil, e]
    simp only [List.filterMap_cons, List.filterMap_nil, List.getElem?_drop, List.getElem?_toArray]
    cases h : l[a + n]? <;> simp
theorem slice_to {l : List Nat} {k : Int} (h0 : 0 ≤ k) (h1 : k ≤ l.length) : Txt.slice (S l) none (some k) = S (l.take k.toNat) := by
  have e : strSliceIndices none (some k) 1 (S l).length = (List.range k.toNat).map fun (i : Nat) => (((0 : Nat) : Int) + 1 * (i : Int)).toNat := by
    unfold strSliceIndices sliceRange
    simp only [S_len, show (1 : Int) > 0 by decide, if_true]
    rw [if_neg (show ¬ k < 0 by omega)]
    have : max 0 (min k (l.length : Int)) = k := by omega
    rw [this]
    by_cases hk : 0 < k
    · rw [if_pos hk]; simp
    · rw [if_neg hk]
      obtain rfl : k = 0 := by omega
      rfl
  unfold Txt.slice
  rw [e]
  split
  · rename_i h
    simp only [S_len, List.length_map, List.length_range, BEq.rfl, Bool.true_and, beq_iff_eq] at h
    rw [List.take_of_length_le (by omega)]
  · refine S_ext ?_
    rw [pick]; simp
theorem slice_from {l : List Nat} {k : Int} (h0 : 0 ≤ k) (h1 : k ≤ l.length) : Txt.slice (S l) (some k) none = S (l.drop k.toNat) := by
  have e : strSliceIndices (some k) none 1 (S l).length = (List.range (l.length - k.toNat)).map fun (i : Nat) => ((k.toNat : Int) + 1 * (i : Int)).toNat := by
    unfold strSliceIndices sliceRange
    simp only [S_len, show (1 : Int) > 0 by decide, if_true]
    rw [if_neg (show ¬ k < 0 by omega)]
    have : max 0 (min k (l.length : Int)) = k := by omega
    rw [this]
    have hk' : (k.toNat : Int) = k := by omega
    by_cases hk : k < l.length
    · rw [if_pos hk, hk']
      congr 2
      omega
    · rw [if_neg hk]
      have : l.length - k.toNat = 0 := by omega
      rw [this]; rfl
  unfold Txt.slice
  rw [e]
  split
  · rename_i h
    simp only [S_len, List.length_map, List.length_range, BEq.rfl, Bool.true_and, beq_iff_eq] at h
    by_cases hl : l = []
    · subst hl; simp
    · have : 0 < l.length := List.length_pos_iff.mpr hl
      have : k.toNat = 0 := by omega
      rw [this]; rfl
  · refine S_ext ?_
    rw [pick]
    simp
    apply List.take_of_length_le
    simp
theorem slice_white (l : List Nat) : Txt.slice (S l) none (some ((S l).length - (Txt.lstrip (S l)).length : Int)) = S (l.takeWhile Unicode.isSpace) := by
  have : (l.takeWhile Unicode.isSpace ++ l.dropWhile Unicode.isSpace).length = l.length := by rw [List.takeWhile_append_dropWhile]
  rw [List.length_append] at this
  rw [lstrip_is, S_len, S_len, slice_to (by omega) (by omega)]
  have e : ((l.length : Int) - ((l.dropWhile Unicode.isSpace).length : Int)).toNat = (l.takeWhile Unicode.isSpace).length := by omega
  rw [e, take_takeWhile]
theorem take_of {p : Nat → Bool} : ∀ {r : List Nat} {j : Nat}, (∀ x ∈ r.take j, p x = true) → (j = r.length ∨ ∃ x, r[j]? = some x ∧ p x = false) → r.takeWhile p = r.take j ∧ r.dropWhile p = r.drop j
  | [], j, _, _ => by simp
  | a :: r, 0, _, h => by
    rcases h with h | ⟨x, hx, h⟩
    · simp at h
    · simp at hx; subst hx
      simp [h]
  | a :: r, j + 1, h1, h2 => by
    have ha : p a = true := h1 a (by simp)
    obtain ⟨e1, e2⟩ := take_of (r := r) (j := j) (fun x hx => h1 x (by simp [hx])) (by
      rcases h2 with h | ⟨x, hx, h⟩
      · simp at h; exact .inl h
      · exact .inr ⟨x, by simpa using hx, h⟩)
    simp [ha, e1, e2]
theorem S_inj {a b : List Nat} (h : S a = S b) : a = b := by
  have := congrArg (fun x : Str => x.cps.toList) h
  simpa [S] using this
theorem S_nil : Str.ofString "" = S [] := by decide +kernel
theorem S_ne (a : Nat) (r : List Nat) : (S (a :: r) != Str.ofString "") = true := by
  rw [S_nil, bne_iff_ne]
  intro h
  cases S_inj h
theorem S_eq : (S [] != Str.ofString "") = false := by rw [S_nil]; simp
theorem S_cons {l : List Nat} (h : (S l != Str.ofString "") = true) : ∃ c r, l = c :: r := by
  cases l with
  | nil => rw [S_eq] at h; cases h
  | cons c r => exact ⟨c, r, rfl⟩
theorem S_empty {l : List Nat} (h : (S l != Str.ofString "") = false) : l = [] := by
  cases l with
  | nil => rfl
  | cons c r => rw [S_ne] at h; cases h
end Mine
/-! Space -/
namespace Mine
open PySem
def whiteC (c : Nat) : Bool := whiteI (c : Int)
theorem within_iff : ∀ (l : List (Nat × Nat)) (c : Nat), (l.Pairwise fun a b => a.2 < b.1) → (∀ a ∈ l, a.1 ≤ a.2) → (Unicode.within l c = true ↔ ∃ a ∈ l, a.1 ≤ c ∧ c ≤ a.2)
  | [], c, _, _ => by simp [Unicode.within]
  | (a, b) :: l, c, hp, hle => by
    unfold Unicode.within
    have hp' := List.pairwise_cons.mp hp
    by_cases h : c < a
    · rw [if_pos h]
      constructor
      · intro x; cases x
      · rintro ⟨x, hx, h1, h2⟩
        rcases List.mem_cons.mp hx with rfl | hx
        · dsimp only at h1; omega
        · have := hp'.1 x hx
          have := hle (a, b) (.head _)
          dsimp only at *; omega
    · rw [if_neg h, Bool.or_eq_true, within_iff l c hp'.2 fun x hx => hle x (.tail _ hx)]
      constructor
      · rintro (h' | ⟨x, hx, h'⟩)
        · exact ⟨(a, b), .head _, by omega, by simpa using h'⟩
        · exact ⟨x, .tail _ hx, h'⟩
      · rintro ⟨x, hx, h1, h2⟩
        rcases List.mem_cons.mp hx with rfl | hx
        · exact .inl (by simpa using h2)
        · exact .inr ⟨x, hx, h1, h2⟩
theorem space_is (c : Nat) : Unicode.isSpace c = whiteC c := by
  rw [Bool.eq_iff_iff]
  unfold Unicode.isSpace UnicodeData.space UnicodeData.space0
  rw [within_iff _ _ (by decide) (by decide)]
  unfold whiteC whiteI
  simp only [List.mem_cons, List.not_mem_nil, or_false, exists_eq_or_imp, exists_eq_left, Bool.or_eq_true, Bool.and_eq_true, decide_eq_true_eq, List.any_cons, List.any_nil, Bool.or_false, beq_iff_eq]
  omega
theorem space_fun : Unicode.isSpace = whiteC := funext space_is
end Mine
/-! PartsL -/
namespace Mine
open PySem PySem.W PyProof.Rows PySem.Calls
set_option Elab.async false
set_option maxRecDepth 100000
abbrev Part := Plain.Part
abbrev partObj (kp : Part) (t1 t2 : Tok) (n : Nat) : Obj := { cls := .type "list", data := .seq #[.int (kp.1 : Int) t1, .str ⟨kp.2.toArray⟩ t2] n }
abbrev partsObj (items : List (Addr × Obj)) (n : Nat) : Obj := { cls := .type "list", data := .seq (items.map fun x => Value.ref x.1).toArray n }
def IsPart (it : Addr × Obj) (kp : Part) : Prop := ∃ t1 t2 n, it.2 = partObj kp t1 t2 n
noncomputable def All2 {α β : Type} (R : α → β → Prop) : List α → List β → Prop
  | [], [] => True
  | a :: l, b :: r => R a b ∧ All2 R l r
  | _, _ => False
theorem All2.length {α β : Type} {R : α → β → Prop} : ∀ {l : List α} {r : List β}, All2 R l r → l.length = r.length
  | [], [], _ => rfl
  | _ :: _, _ :: _, h => by simp [All2.length h.2]
theorem All2.snoc {α β : Type} {R : α → β → Prop} {a : α} {b : β} : ∀ {l : List α} {r : List β}, All2 R l r → R a b → All2 R (l ++ [a]) (r ++ [b])
  | [], [], _, h => ⟨h, trivial⟩
  | _ :: _, _ :: _, h, h' => ⟨h.1, All2.snoc h.2 h'⟩
theorem All2.unsnoc {α β : Type} {R : α → β → Prop} {b : β} : ∀ {l : List α} {r : List β}, All2 R l (r ++ [b]) → ∃ l' a, l = l' ++ [a] ∧ All2 R l' r ∧ R a b
  | [x], [], h => ⟨[], x, rfl, trivial, h.1⟩
  | x :: y :: l, [], h => h.2.elim
  | [], [], h => h.elim
  | [], _ :: _, h => h.elim
  | x :: l, y :: r, h => by
    obtain ⟨l', a, rfl, h1, h2⟩ := All2.unsnoc (l := l) (r := r) h.2
    exact ⟨x :: l', a, rfl, ⟨h.1, h1⟩, h2⟩
theorem All2.nilr {α β : Type} {R : α → β → Prop} : ∀ {l : List α}, All2 R l ([] : List β) → l = []
  | [], _ => rfl
structure Parts (p : Addr) (items : List (Addr × Obj)) (l : List Part) : Prop where
  all : All2 IsPart items l
  up : (p :: items.map (·.1)).Pairwise (· < ·)
theorem Parts.snoc {p b : Addr} {o : Obj} {items : List (Addr × Obj)} {l : List Part} {kp : Part} (P : Parts p items l) (hb : p < b) (hi : ∀ q ∈ items, q.1 < b) (ho : IsPart (b, o) kp) : Parts p (items ++ [(b, o)]) (l ++ [kp]) := by
  refine ⟨P.all.snoc ho, ?_⟩
  rw [List.map_append, List.map_cons, List.map_nil, ← List.cons_append, List.pairwise_append]
  refine ⟨P.up, by simp, fun x hx y hy => ?_⟩
  rw [List.mem_singleton.mp hy]
  rcases List.mem_cons.mp hx with rfl | hx
  · exact hb
  · obtain ⟨q, hq, rfl⟩ := List.mem_map.mp hx
    exact hi q hq
theorem Parts.above {p : Addr} {items : List (Addr × Obj)} {l : List Part} (P : Parts p items l) : ∀ q ∈ items, p < q.1 := fun q hq =>
  (List.pairwise_cons.mp P.up).1 q.1 (List.mem_map.mpr ⟨q, hq, rfl⟩)
structure Has (h : Heap) (p : Addr) (items : List (Addr × Obj)) (c : Nat) (l : List Part) : Prop where
  list : h.get? p = some (partsObj items c)
  its : ∀ it ∈ items, h.get? it.1 = some it.2
  P : Parts p items l
theorem Has.keeps {h h' : Heap} {p : Addr} {items : List (Addr × Obj)} {c : Nat} {l : List Part} (x : Has h p items c l) (k : Ext h h') : Has h' p items c l := ⟨k _ _ x.list, fun it hi => k _ _ (x.its it hi), x.P⟩
theorem toldF_len (white wsp e : Nat → Bool) : ∀ (n : Nat) (l : List Nat), (Plain.toldF white wsp e n l).length ≤ n
  | 0, _ => by simp [Plain.toldF]
  | _ + 1, [] => by simp [Plain.toldF]
  | n + 1, c :: r => by
    unfold Plain.toldF
    split
    · simpa using toldF_len white wsp e n _
    · split
      · simpa using toldF_len white wsp e n _
      · simpa using toldF_len white wsp e n _
section
variable {w : World} {A : Around} {s : Shared} {E : Value → Shared → Prop} {h₀ : Heap} {L p b : Addr} {m : Str → Option Value} {items : List (Addr × Obj)} {o : Obj} {c : Nat} {l : List Part} {kp : Part} {Q : Value → Shared → Prop}
theorem app_parts (F : Fr h₀ L s.heap m) (N : News h₀ L s.heap ((b, o) :: (p, partsObj items c) :: items)) (P : Parts p items l) (hb : ∀ q ∈ (p, partsObj items c) :: items, q.1 < b) (hsz : items.length ≤ 1000) (ho : IsPart (b, o) kp)
    (h : ∀ h', Fr h₀ L h' m → News h₀ L h' ((p, partsObj (items ++ [(b, o)]) (c + 1)) :: (items ++ [(b, o)])) → Parts p (items ++ [(b, o)]) (l ++ [kp]) → Q .none { s with heap := h' }) :
    wpAny (model prog w) A (call (.builtin "list.append") [.ref p, .ref b]) Q E s := by
  have hpb : p < b := hb _ (.head _)
  refine append_second F N (Nat.ne_of_gt hpb) (fun q hq => Nat.ne_of_gt (P.above q hq)) (fun h' F' N' => h h' F' (fun q hq => ?_) (P.snoc hpb (fun q hq => hb q (.tail _ hq)) ho)) (by rw [List.size_toArray, List.length_map, sizeLine_eq]; omega)
  have e : ((items.map fun x => Value.ref x.1).toArray.push (Value.ref b)) = ((items ++ [(b, o)]).map fun x => Value.ref x.1).toArray := by simp
  rw [e] at N'
  rcases List.mem_cons.mp hq with rfl | hq
  · exact N' _ (.tail _ (.head _))
  · rcases List.mem_append.mp hq with hq | hq
    · exact N' _ (.tail _ (.tail _ hq))
    · rw [List.mem_singleton.mp hq]; exact N' _ (.head _)
end
end Mine
/-! Told1 -/
namespace Mine
open PySem PySem.W PyProof.Rows PySem.Calls
set_option Elab.async false
set_option maxRecDepth 100000
/-- the frame of _law_told -/
abbrev tm (l : List Nat) (tl : Tok) (e p : Addr) (m : Str → Option Value) : Str → Option Value := fun y =>
  if y = Str.ofString "line" then some (.str ⟨l.toArray⟩ tl) else if y = Str.ofString "ends" then some (.ref e) else if y = Str.ofString "parts" then some (.ref p) else m y
theorem fr_tm {h₀ h : Heap} {L e p : Addr} {m : Str → Option Value} {l : List Nat} {tl : Tok} (F : Fr h₀ L h m) (h1 : m (Str.ofString "line") = some (.str ⟨l.toArray⟩ tl)) (h2 : m (Str.ofString "ends") = some (.ref e)) (h3 : m (Str.ofString "parts") = some (.ref p)) :
    Fr h₀ L h (tm l tl e p m) := by
  have : tm l tl e p m = m := by
    funext y
    unfold tm
    split
    · next e => rw [e, h1]
    · split
      · next e => rw [e, h2]
      · split
        · next e => rw [e, h3]
        · rfl
  rw [this]; exact F
local macro_rules | `(tactic| walk_at "eval Name") => `(tactic| first
  | (with_reducible refine nm_len (by assumption) (by assumption) ?_ ?_ ?_; kernel_rfl; kernel_rfl)
  | (with_reducible refine nm_ord (by assumption) (by assumption) ?_ ?_ ?_; kernel_rfl; kernel_rfl)
  | (with_reducible refine nm_chr (by assumption) (by assumption) ?_ ?_ ?_; kernel_rfl; kernel_rfl)
  | (with_reducible refine nm_str (by assumption) (by assumption) ?_ ?_ ?_; kernel_rfl; kernel_rfl)
  | (with_reducible refine nm_wsp (by assumption) (by assumption) ?_ ?_ ?_; kernel_rfl; kernel_rfl)
  | (with_reducible refine nm_fws (by assumption) (by assumption) ?_ ?_ ?_; kernel_rfl; kernel_rfl))
local macro_rules | `(tactic| walk_at "call builtin:list.append") => `(tactic| with_reducible refine Halt.intro ?_)
local macro_rules | `(tactic| walk_at "exec While BoolOp cons nil") => `(tactic| with_reducible refine Halt.intro ?_)
local macro_rules | `(tactic| walk_at "exec While Compare cons nil") => `(tactic| with_reducible refine Halt.intro ?_)
local macro_rules | `(tactic| walk_at "callWith") => `(tactic| ((with_reducible show wpAny _ _ (callWith _ (Value.ref _) _ _ _) _ _ _); with_reducible refine Halt.intro ?_))
local macro_rules | `(tactic| walk_at "call type:str") => `(tactic| with_reducible refine Halt.intro ?_)
local macro_rules | `(tactic| walk_at "compareOp In str ref") => `(tactic| refine in_SLF (by assumption) (by assumption) ?_)
local macro_rules | `(tactic| walk_at "compareOp NotIn str ref") => `(tactic| refine notin_SLF (by assumption) (by assumption) ?_)
theorem fr_twice {h₀ h : Heap} {L : Addr} {x : Str} {u v : Value} {m : Str → Option Value} (F : Fr h₀ L h (fun y => if y = x then some u else if y = x then some v else m y)) : Fr h₀ L h (fun y => if y = x then some u else m y) := by
  have e : (fun y => if y = x then some u else if y = x then some v else m y) = (fun y => if y = x then some u else m y) := by
    funext y
    split
    · rfl
    · rfl
  rw [e] at F; exact F
theorem wsp_iff (a : Nat) : oneStr a ∈ lW ↔ Plain.wspC a = true := by
  have e : lW = [oneStr 32, oneStr 9] := by decide +kernel
  rw [e]
  unfold Plain.wspC oneStr
  simp
theorem wsp_not {a : Nat} (h : ¬ oneStr a ∈ lW) : Plain.wspC a = false := by
  cases h' : Plain.wspC a with
  | false => rfl
  | true => exact absurd ((wsp_iff a).mpr h') h
theorem wsp_white {a : Nat} (h : Plain.wspC a = true) : whiteC a = true := by
  unfold Plain.wspC at h
  rw [Bool.or_eq_true, beq_iff_eq, beq_iff_eq] at h
  rcases h with rfl | rfl <;> decide
section
variable {w : World} {mean : ExcName → Option Value} {mg mb : Str → Option Value} {A : Around} {h0 : Heap} {L e p : Addr}
abbrev tEnv (L : Addr) : Env := fEnv (Str.ofString "_law_told") [22] L 201 200
structure TI (h0 : Heap) (g0 : Array GenState) (d0 : Drawn) (os0 : OsState) (e p : Addr) (le : List Str) (l : List Nat) (n : Nat) (s' : Shared) (h : Heap) (tk : Nat) (l' : List Nat) (tl' : Tok) (m : Str → Option Value) (items : List (Addr × Obj)) (c : Nat) (done : List Part) (fuel : Nat) : Prop where
  st : s' = ⟨h, g0, d0, tk, os0⟩
  hn : n = l'.length
  F : Fr h0 h0.objs.size h (tm l' tl' e p m)
  N : News h0 h0.objs.size h ((p, partsObj items c) :: items)
  P : Parts p items done
  hfuel : l'.length ≤ fuel
  hle : l'.length ≤ l.length
  eq : done ++ Plain.toldF whiteC Plain.wspC (fun c => decide (oneStr c ∈ le)) fuel l' = Plain.toldF whiteC Plain.wspC (fun c => decide (oneStr c ∈ le)) l.length l
set_option maxHeartbeats 4000000 in
theorem told_call {s : Shared} {l : List Nat} {tl : Tok} {le : List Str} {Q : Value → Shared → Prop} (H : Base w mean mg mb s.heap) (hroom : A.depth + 5 < recursionLimit) (hu : A.units + 10 < cLine) (hh : A.handled = none) (hl : l.length ≤ 64) (Se : SL w s.heap e le)
    (hq : ∀ h' t' p items c, Ext s.heap h' → s.heap.objs.size ≤ p → Has h' p items c (Plain.toldF whiteC Plain.wspC (fun c => decide (oneStr c ∈ le)) l.length l) → Q (.ref p) { s with heap := h', toks := t' }) :
    wpAny (model prog w) A (PySem.call (.ref 201) [.str ⟨l.toArray⟩ tl, .ref e]) Q noE s := by
  w_top off
  obtain ⟨h0, g0, d0, t0, os0⟩ := s
  refine enter (i := [22]) (c := 200) (name := Str.ofString "_law_told") (pm := .str (Str.ofString "law_lg0006_01") 413) (binds := [(Str.ofString "line", .str ⟨l.toArray⟩ tl), (Str.ofString "ends", .ref e)]) H (by omega) (by kernel_rfl) (by kernel_rfl) (by kernel_rfl) (by kernel_rfl) (by kernel_rfl) (by kernel_rfl) fun h₁ F => ?_
  have N : News h0 h0.objs.size h₁ [] := News.nil
  have hp₁ : h0.objs.size ≤ h₁.objs.size := by
    obtain ⟨oL, es, ep, hL, _⟩ := F.ns
    exact Nat.le_of_lt (Heap.lt_size hL)
  dsimp only at F N H Se
  with_unfolding_all refine wpAny_execs_cons ?_
  dsimp only
  iterate 6 (first | walk1 | (dsimp only; walk1))
  rename_i h₂ _ _ h₃ F₃ N₃
  have S22 := H.S (22, lW) (by decide +kernel)
  refine while_noE (fun n s' => ∃ h tk l' tl' m items c done fuel, TI h0 g0 d0 os0 e h₁.objs.size le l n s' h tk l' tl' m items c done fuel) l.length ?_ ?_
  · exact ⟨_, _, l, tl, _, [], 0, [], l.length, rfl, rfl, fr_tm F₃ (by kernel_rfl) (by kernel_rfl) (by kernel_rfl), N₃, ⟨trivial, by simp⟩, Nat.le_refl _, Nat.le_refl _, by simp⟩
  · rintro n s' ⟨h, tk, l', tl', m, items, c, done, fuel, rfl, rfl, F₄, N₄, P, hf, hle, hd⟩
    clear F₃ N₃ F N
    dsimp only at S22
    repeat' (first | walk1 | (dsimp only; walk1))
    · rename_i hn _ _ hw
      obtain ⟨a, r, rfl⟩ := S_cons hn
      rw [item_0 a r] at hw
      refine Halt.mk ?_
      have hlen : items.length ≤ 64 := by
        have h1 := P.all.length
        have h2 := congrArg List.length hd
        have h3 := toldF_len whiteC Plain.wspC (fun c => decide (oneStr c ∈ le)) l.length l
        rw [List.length_append] at h2
        omega
      with_unfolding_all refine callWith_K (K := theK w.params) H.X (by kernel_rfl) ?_
      repeat' (first | walk1 | (dsimp only; walk1))
      · exact H.X.keeps F₄.keep
      refine fws_call (v := S (a :: r)) (H.keeps F₄.keep) (by rw [depth_deeper]; omega) (by rw [S_len]; omega) fun h₅ t₅ tup x dx tk₅ tk₆ k₅ htup hx₅ e1 e2 => ?_
      rw [slice_white, space_fun] at e2
      rw [lstrip_is, space_fun] at e1
      dsimp only at k₅
      have F₅ : Fr h0 h0.objs.size h₅ _ := ⟨F₄.ns.keeps k₅, fun b o e => k₅ _ _ (F₄.keep _ _ e), Nat.le_refl _⟩
      have hL : h0.objs.size < h.objs.size := by
        obtain ⟨oL, es, ep, hL, _⟩ := F₄.ns
        exact Heap.lt_size hL
      have N₅ : News h0 h0.objs.size h₅ ((tup, { cls := .type "tuple", data := .seq #[.ref x, .str (S ((a :: r).dropWhile whiteC)) tk₆] }) :: (x, termObj dx (S ((a :: r).takeWhile whiteC)) tk₅) :: (h₁.objs.size, partsObj items c) :: items) := by
        intro q hq
        rcases List.mem_cons.mp hq with rfl | hq
        · exact ⟨e1, Nat.ne_of_gt (Nat.lt_of_lt_of_le hL htup), Heap.get?_none_of_le (Nat.le_trans (Nat.le_of_lt hL) htup)⟩
        rcases List.mem_cons.mp hq with rfl | hq
        · exact ⟨e2, Nat.ne_of_gt (Nat.lt_of_lt_of_le hL hx₅), Heap.get?_none_of_le (Nat.le_trans (Nat.le_of_lt hL) hx₅)⟩
        exact ⟨k₅ _ _ (N₄ q hq).1, (N₄ q hq).2⟩
      clear F₄ N₄
      have hhd : (A.deeper (fEnv (Str.ofString "_law_told") [22] h0.objs.size 201 200)).handled = none := hh
      refine unpackN_ (items := #[.ref x, .str (S ((a :: r).dropWhile whiteC)) tk₆]) F₅ N₅ ⟨_, e1, rfl, _, rfl⟩ hhd rfl rfl ?_
      intro h₆ F₆ N₆
      clear F₅ N₅
      repeat' (first | walk1 | (dsimp only; walk1))
      rename_i h₇ F₇ N₇ h₈ F₈ N₈
      refine Halt.mk ?_
      refine str_T (H.X.keeps F₈.keep) (N₈ _ (.tail _ (.head _))).1 ?_ ?_ ?_
      · rw [S_len, sizeLine_eq]
        have := takeWhile_len_le whiteC (a :: r)
        omega
      · rw [units_deeper]; omega
      have N₉ : News h0 h0.objs.size h₈ ((h₁.objs.size, partsObj items c) :: items) := fun q hq => N₈ q (.tail _ (.tail _ hq))
      clear N₈ N₇ F₇ e1 e2 F₆ N₆ hx₅ htup k₅ hL
      repeat' (first | walk1 | (dsimp only; walk1))
      rename_i h₉ F₉ N₁₀
      refine Halt.mk ?_
      refine app_parts (kp := (0, (a :: r).takeWhile whiteC)) F₉ N₁₀ P (fun q hq => Heap.lt_size (N₉ q hq).1) (by omega) ⟨_, _, _, rfl⟩ fun h₁₀ F₁₀ N₁₁ P₁₀ => ?_
      dsimp only
      repeat' (first | walk1 | (dsimp only; walk1))
      have hlw : ((a :: r).takeWhile whiteC ++ (a :: r).dropWhile whiteC).length = (a :: r).length := by rw [List.takeWhile_append_dropWhile]
      have hw1 : Plain.wspC a = true := (wsp_iff a).mp hw
      have hw2 : whiteC a = true := wsp_white hw1
      have hpos : 0 < ((a :: r).takeWhile whiteC).length := by rw [List.takeWhile_cons, if_pos hw2]; simp
      rw [List.length_append] at hlw
      refine ⟨rfl, ((a :: r).dropWhile whiteC).length, by omega, h₁₀, _, (a :: r).dropWhile whiteC, _, _, _, c + 1, done ++ [(0, (a :: r).takeWhile whiteC)], fuel - 1, rfl, rfl, fr_tm F₁₀ (if_pos rfl) (by kernel_rfl) (by kernel_rfl), N₁₁, P₁₀, by omega, by omega, ?_⟩
      rw [← hd]
      obtain ⟨f', rfl⟩ : ∃ f', fuel = f' + 1 := ⟨fuel - 1, by simp at hf; omega⟩
      rw [Plain.toldF, if_pos hw1]
      simp
    · rename_i hn _ _ hw _ he _ h₅ F₅ N₅
      obtain ⟨a, r, rfl⟩ := S_cons hn
      have hI := item_0 a r
      refine Halt.mk ?_
      rw [hI] at hw he
      have hlen : items.length ≤ 64 := by
        have h1 := P.all.length
        have h2 := congrArg List.length hd
        have h3 := toldF_len whiteC Plain.wspC (fun c => decide (oneStr c ∈ le)) l.length l
        rw [List.length_append] at h2
        omega
      refine app_parts (kp := (1, [a])) F₅ N₅ P (fun q hq => Heap.lt_size (N₄ q hq).1) (by omega) ⟨_, _, _, by rw [hI]; rfl⟩ fun h₆ F₆ N₆ P₆ => ?_
      dsimp only
      repeat' (first | walk1 | (dsimp only; walk1))
      rename_i h₇ F₇ N₇
      have e1 : Txt.slice { cps := (a :: r).toArray } (some 1) none = S r := slice_from (l := a :: r) (by decide) (by simp only [List.length_cons]; omega)
      rw [e1] at F₇
      refine ⟨rfl, r.length, by simp, h₇, _, r, _, _, _, c + 1, done ++ [(1, [a])], fuel - 1, rfl, rfl, fr_tm F₇ (if_pos rfl) (by kernel_rfl) (by kernel_rfl), N₇, P₆, ?_, ?_, ?_⟩
      · simp at hf; omega
      · simp at hle; omega
      · rw [← hd]
        have hw' : Plain.wspC a = false := wsp_not hw
        obtain ⟨f', rfl⟩ : ∃ f', fuel = f' + 1 := ⟨fuel - 1, by simp at hf; omega⟩
        rw [Plain.toldF, if_neg (by simp [hw']), if_pos (by simpa using he)]
        simp
    · rename_i hn _ _ hw _ he h₅ F₅ N₅
      obtain ⟨a, r, rfl⟩ := S_cons hn
      rw [item_0 a r] at hw he
      refine Halt.mk ?_
      clear F₄ N₄
      refine while_noE (fun n s' => ∃ (h : Heap) (tk : Nat) (k : Int) (tks : Tok) (j : Nat), s' = (⟨h, g0, d0, tk, os0⟩ : Shared) ∧ Fr h0 h0.objs.size h (fun y => if y = Str.ofString "size" then some (.int k tks) else tm (a :: r) tl' e h₁.objs.size m y) ∧ News h0 h0.objs.size h ((h₁.objs.size, partsObj items c) :: items) ∧
        k = (j : Int) + 1 ∧ j ≤ r.length ∧ n = r.length - j ∧ ∀ x ∈ r.take j, (!decide (oneStr x ∈ le)) = true) r.length ?_ ?_
      · exact ⟨_, _, 1, _, 0, rfl, F₅, N₅, rfl, by omega, by omega, by simp⟩
      · rintro n s' ⟨h₆, tk₆, k, tks, j, rfl, F₆, N₆, hk, hj, rfl, hall⟩
        clear F₅ N₅
        have hX : ({ cps := (a :: r).toArray } : Str).length ≤ 1000 := by rw [S_len]; omega
        have hk0 : 1 ≤ k := by omega
        repeat' (first | walk1 | (dsimp only; walk1))
        · rename_i hlt _ hin h₇ t₇ k₇ F₇ N₇ _ h₈ F₈ N₈
          rw [S_len] at hlt
          have hjl : j < r.length := by simp only [List.length_cons] at hlt; omega
          have hend : j = r.length ∨ ∃ x, r[j]? = some x ∧ (!decide (oneStr x ∈ le)) = false := by
            refine .inr ⟨r[j], by simp [hjl], ?_⟩
            have := item_at (l := a :: r) (k := j + 1) (by simp; omega)
            have e : ((j + 1 : Nat) : Int) = k := by omega
            rw [e, List.getElem_cons_succ] at this
            rw [this] at hin
            simp [hin]
          have hlen : items.length ≤ 64 := by
            have h1 := P.all.length
            have h2 := congrArg List.length hd
            have h3 := toldF_len whiteC Plain.wspC (fun c => decide (oneStr c ∈ le)) l.length l
            rw [List.length_append] at h2
            omega
          obtain ⟨q1, q2⟩ := take_of (p := fun x => !decide (oneStr x ∈ le)) (r := r) (j := j) hall hend
          have hkt : k.toNat = j + 1 := by omega
          have e1 : Txt.slice { cps := (a :: r).toArray } none (some k) = S (a :: r.takeWhile fun x => !decide (oneStr x ∈ le)) := by
            refine (slice_to (l := a :: r) (by omega) (by simp only [List.length_cons]; omega)).trans ?_
            rw [hkt, List.take_succ_cons, q1]
          refine Halt.mk ?_
          refine app_parts (kp := (2, a :: r.takeWhile fun x => !decide (oneStr x ∈ le))) F₈ N₈ P (fun q hq => Heap.lt_size (N₇ q hq).1) (by omega) ⟨_, _, _, by rw [e1]; rfl⟩ fun h₉ F₉ N₉ P₉ => ?_
          dsimp only
          repeat' (first | walk1 | (dsimp only; walk1))
          rename_i h₁₀ F₁₀ N₁₀
          have e2 : Txt.slice { cps := (a :: r).toArray } (some k) none = S (r.dropWhile fun x => !decide (oneStr x ∈ le)) := by
            refine (slice_from (l := a :: r) (by omega) (by simp only [List.length_cons]; omega)).trans ?_
            rw [hkt, List.drop_succ_cons, q2]
          rw [e2] at F₁₀
          have hdl : (r.dropWhile fun x => !decide (oneStr x ∈ le)).length ≤ r.length := by rw [q2, List.length_drop]; omega
          simp only [List.length_cons] at hf hle
          refine ⟨rfl, (r.dropWhile fun x => !decide (oneStr x ∈ le)).length, by simp only [List.length_cons]; omega, h₁₀, _, (r.dropWhile fun x => !decide (oneStr x ∈ le)), _, _, _, c + 1, done ++ [(2, a :: r.takeWhile fun x => !decide (oneStr x ∈ le))], fuel - 1, rfl, rfl, fr_tm F₁₀ (if_pos rfl) (by kernel_rfl) (by kernel_rfl), N₁₀, P₉, by omega, by omega, ?_⟩
          rw [← hd]
          have hw' : Plain.wspC a = false := wsp_not hw
          obtain ⟨f', rfl⟩ : ∃ f', fuel = f' + 1 := ⟨fuel - 1, by omega⟩
          rw [Plain.toldF, if_neg (by simp [hw']), if_neg (by simpa using he)]
          simp
        · rename_i hlt _ hin h₇ F₇ N₇
          rw [S_len] at hlt
          have hjl : j < r.length := by simp only [List.length_cons] at hlt; omega
          have hin' : ¬ oneStr r[j] ∈ le := by
            have := item_at (l := a :: r) (k := j + 1) (by simp; omega)
            have e : ((j + 1 : Nat) : Int) = k := by omega
            rw [e, List.getElem_cons_succ] at this
            rw [this] at hin
            exact hin
          refine ⟨rfl, r.length - (j + 1), by omega, h₇, _, k + 1, _, j + 1, rfl, fr_twice F₇, N₇, by omega, by omega, rfl, fun x hx => ?_⟩
          rw [List.take_add_one, List.mem_append] at hx
          rcases hx with hx | hx
          · exact hall x hx
          · rw [List.getElem?_eq_getElem hjl] at hx
            simp at hx
            subst hx
            simpa using hin'
        · rename_i hlt h₇ t₇ k₇ F₇ N₇ _ h₈ F₈ N₈
          rw [S_len] at hlt
          have hend : j = r.length ∨ ∃ x, r[j]? = some x ∧ (!decide (oneStr x ∈ le)) = false := by
            refine .inl ?_
            simp only [List.length_cons] at hlt; omega
          have hlen : items.length ≤ 64 := by
            have h1 := P.all.length
            have h2 := congrArg List.length hd
            have h3 := toldF_len whiteC Plain.wspC (fun c => decide (oneStr c ∈ le)) l.length l
            rw [List.length_append] at h2
            omega
          obtain ⟨q1, q2⟩ := take_of (p := fun x => !decide (oneStr x ∈ le)) (r := r) (j := j) hall hend
          have hkt : k.toNat = j + 1 := by omega
          have e1 : Txt.slice { cps := (a :: r).toArray } none (some k) = S (a :: r.takeWhile fun x => !decide (oneStr x ∈ le)) := by
            refine (slice_to (l := a :: r) (by omega) (by simp only [List.length_cons]; omega)).trans ?_
            rw [hkt, List.take_succ_cons, q1]
          refine Halt.mk ?_
          refine app_parts (kp := (2, a :: r.takeWhile fun x => !decide (oneStr x ∈ le))) F₈ N₈ P (fun q hq => Heap.lt_size (N₇ q hq).1) (by omega) ⟨_, _, _, by rw [e1]; rfl⟩ fun h₉ F₉ N₉ P₉ => ?_
          dsimp only
          repeat' (first | walk1 | (dsimp only; walk1))
          rename_i h₁₀ F₁₀ N₁₀
          have e2 : Txt.slice { cps := (a :: r).toArray } (some k) none = S (r.dropWhile fun x => !decide (oneStr x ∈ le)) := by
            refine (slice_from (l := a :: r) (by omega) (by simp only [List.length_cons]; omega)).trans ?_
            rw [hkt, List.drop_succ_cons, q2]
          rw [e2] at F₁₀
          have hdl : (r.dropWhile fun x => !decide (oneStr x ∈ le)).length ≤ r.length := by rw [q2, List.length_drop]; omega
          simp only [List.length_cons] at hf hle
          refine ⟨rfl, (r.dropWhile fun x => !decide (oneStr x ∈ le)).length, by simp only [List.length_cons]; omega, h₁₀, _, (r.dropWhile fun x => !decide (oneStr x ∈ le)), _, _, _, c + 1, done ++ [(2, a :: r.takeWhile fun x => !decide (oneStr x ∈ le))], fuel - 1, rfl, rfl, fr_tm F₁₀ (if_pos rfl) (by kernel_rfl) (by kernel_rfl), N₁₀, P₉, by omega, by omega, ?_⟩
          rw [← hd]
          have hw' : Plain.wspC a = false := wsp_not hw
          obtain ⟨f', rfl⟩ : ∃ f', fuel = f' + 1 := ⟨fuel - 1, by omega⟩
          rw [Plain.toldF, if_neg (by simp [hw']), if_neg (by simpa using he)]
          simp
    · rename_i hn
      obtain rfl := S_empty hn
      have hF : Plain.toldF whiteC Plain.wspC (fun c => decide (oneStr c ∈ le)) fuel [] = [] := by cases fuel <;> rfl
      rw [hF, List.append_nil] at hd
      rw [← hd] at hq
      exact hq _ _ _ items c F₄.keep hp₁ ⟨(N₄ _ (.head _)).1, fun it hi => (N₄ it (.tail _ hi)).1, P⟩
end
end Mine
/-! ForS -/
namespace Mine
open PySem PySem.W PyProof.Rows PySem.Calls
set_option Elab.async false
set_option maxRecDepth 100000
section
variable {w : World} {A : Around} {s : Shared} {E : Value → Shared → Prop}
theorem strWalks (hh : A.handled = none) (I : Addr) (x : Str) (t : Tok) : Walks prog w A I [I] [I] x.cps.size (SignAt x) (fun i h => h.IsStrIter I (strIterType x) x t i) := by
  unfold strIterType
  split
  · exact Walks.strAscii hh I x t
  · exact Walks.strWide hh I x t
/-- a turn's end of a for -/
def StepF (I : Addr) (x : Str) (t : Tok) (J : Nat → Heap → Prop) (i : Nat) (s : Shared) (f : Flow) (s₃ : Shared) : Prop :=
  f = .next ∧ ∃ h' tk', s₃ = { s with heap := h', toks := tk' } ∧ h'.IsStrIter I (strIterType x) x t (i + 1) ∧ J (i + 1) h'
theorem loop_str {x : Str} {t : Tok} {I : Addr} {target : Expr} {body : List Stmt} {env : Env} {Q : Flow → Shared → Prop} (hh : A.handled = none) (J : Nat → Heap → Prop) (hit : s.heap.IsStrIter I (strIterType x) x t 0) (h0 : J 0 s.heap)
    (keepJ : ∀ i h h', J i h → (∀ b o, b ≠ I → h.get? b = some o → h'.get? b = some o) → J i h')
    (turn : ∀ i c u h tk, x.cps[i]? = some c → h.IsStrIter I (strIterType x) x t (i + 1) → J i h →
      wpAny (model prog w) A (assign target env (.str ⟨#[c]⟩ u)) (fun _ s₂ => wpAny (model prog w) A (execs body env) (StepF I x t J i s) noE s₂) noE { s with heap := h, toks := tk })
    (done : ∀ h tk, J x.cps.size h → Q .next { s with heap := h, toks := tk }) (ht : ∀ v, letOwnedTupleGo target (.ref I) v = pure () := by intro _; rfl) :
    codeAny (model prog w) A (.forLoop target (.ref I) body [] env) (fun r s' => match r with | .ok f => Q f s' | .error e => cameBackBy (model prog w) A env noE e s') s := by
  have W := strWalks (w := w) (A := A) hh I x t
  refine codeAny_forLoop (fun n s' => ∃ i h tk, s' = { s with heap := h, toks := tk } ∧ h.IsStrIter I (strIterType x) x t i ∧ J i h ∧ i ≤ x.cps.size ∧ n = x.cps.size + 1 - i) ?_ (x.cps.size + 1) ⟨0, s.heap, s.toks, rfl, hit, h0, Nat.zero_le _, rfl⟩ ht
  rintro n s' ⟨i, h, tk, rfl, hit', hJ, hi, rfl⟩
  by_cases hlt : i < x.cps.size
  · refine W.item i _ _ _ hlt hit' fun v h' tk' hP st' hk => ?_
    obtain ⟨c, u, hc, rfl⟩ := hP
    have hJ' : J i h' := keepJ i h h' hJ fun b o hb e => hk b o (by simpa using hb) e
    refine wpAny_mono (turn i c u h' tk' hc st' hJ') (fun _ s₂ h₂ => wpAny_mono h₂ (fun f s₃ h₃ => ?_) fun _ _ q => q.elim) fun _ _ q => q.elim
    obtain ⟨rfl, h'', tk'', rfl, st'', hJ''⟩ := h₃
    exact ⟨x.cps.size + 1 - (i + 1), by omega, i + 1, h'', tk'', rfl, st'', hJ'', hlt, rfl⟩
  · obtain rfl : i = x.cps.size := by omega
    refine W.done _ _ _ hit' fun h' tk' hk => ?_
    refine wpAny_execs_nil ?_
    exact done h' tk' (keepJ _ h h' hJ fun b o hb e => hk b o (by simpa using hb) e)
theorem fr_not {h₀ h h' : Heap} {L I : Addr} {m : Str → Option Value} (F : Fr h₀ L h m) (k : ∀ b o, b ≠ I → h.get? b = some o → h'.get? b = some o) (hne : L ≠ I) (hge : h₀.objs.size ≤ I) : Fr h₀ L h' m := by
  obtain ⟨oL, es, ep, hL, r⟩ := F.ns
  exact ⟨⟨oL, es, ep, k _ _ hne hL, r⟩, fun b o e => k _ _ (Nat.ne_of_lt (Nat.lt_of_lt_of_le (Heap.lt_size e) hge)) (F.keep b o e), F.above⟩
theorem news_not {h₀ h h' : Heap} {L I : Addr} {news : List (Addr × Obj)} (N : News h₀ L h news) (k : ∀ b o, b ≠ I → h.get? b = some o → h'.get? b = some o) (hne : ∀ q ∈ news, q.1 ≠ I) : News h₀ L h' news :=
  fun q hq => ⟨k _ _ (hne q hq) (N q hq).1, (N q hq).2⟩
end
end Mine
/-! PartsR -/
namespace Mine
open PySem PySem.W PyProof.Rows PySem.Calls
set_option Elab.async false
set_option maxRecDepth 100000
def partD (kp : Part) : PyData := .list [.int (kp.1 : Int), .str (S kp.2)]
def partsD (l : List Part) : PyData := .list (l.map partD)
theorem reads_items {h : Heap} : ∀ {items : List (Addr × Obj)} {l : List Part}, (∀ it ∈ items, h.get? it.1 = some it.2) → All2 IsPart items l → ∃ as, ReadsAll h (items.map fun x => Value.ref x.1) (l.map partD) as
  | [], [], _, _ => ⟨[], .nil⟩
  | (b, o) :: items, kp :: l, hi, hp => by
    obtain ⟨as, hr⟩ := reads_items (items := items) (l := l) (fun it h' => hi it (.tail _ h')) hp.2
    obtain ⟨t1, t2, n, ho⟩ := hp.1
    have hb := hi (b, o) (.head _)
    dsimp only at hb ho
    rw [ho] at hb
    exact ⟨_, .cons (.list hb rfl rfl (.cons (.int _ _) (.cons (.str _ _) .nil))) hr⟩
theorem reads_parts {h : Heap} {p : Addr} {items : List (Addr × Obj)} {c : Nat} {l : List Part} (hp : h.get? p = some (partsObj items c)) (hi : ∀ it ∈ items, h.get? it.1 = some it.2) (ha : All2 IsPart items l) : ∃ as, Reads h (.ref p) (partsD l) as := by
  obtain ⟨as, hr⟩ := reads_items hi ha
  exact ⟨_, .list hp rfl rfl (by simpa using hr)⟩
def PartsOk (l : List Part) : Prop := ∀ kp ∈ l, PyData.strOk (S kp.2) = true
theorem canLay_parts : ∀ {l : List Part}, PartsOk l → PyData.canLayAll0 (l.map partD) = true
  | [], _ => rfl
  | kp :: l, h => by
    rw [List.map_cons, PyData.canLayAll0, canLay_parts (l := l) fun x hx => h x (.tail _ hx)]
    simp [partD, PyData.canLay0, PyData.canLayAll0, h kp (.head _)]
theorem depth_parts : ∀ (l : List Part), PyData.depthAll (l.map partD) ≤ 1
  | [] => by simp [PyData.depthAll]
  | kp :: l => by
    have := depth_parts l
    rw [List.map_cons, PyData.depthAll]
    simp [partD, PyData.depth, PyData.depthAll]
    omega
theorem shaped_parts {l : List Part} (h : PartsOk l) : SeqAt.shaped (partsD l) = true := by
  have := depth_parts l
  unfold SeqAt.shaped partsD
  rw [PyData.canLay0, canLay_parts h, PyData.depth]
  simp; omega
theorem eqv_nil : ∀ l : List Part, PyData.eqv (partsD l) (.list []) = l.isEmpty
  | [] => rfl
  | _ :: _ => rfl
section
variable {w : World} {A : Around} {s : Shared} {E : Value → Shared → Prop} {h₀ : Heap} {L p b : Addr} {m : Str → Option Value} {items : List (Addr × Obj)} {o : Obj} {c : Nat} {l : List Part} {kp : Part} {Q : Value → Shared → Prop}
theorem ne_nil {q : Addr} {n : Nat} (hp : s.heap.get? p = some (partsObj items c)) (hi : ∀ it ∈ items, s.heap.get? it.1 = some it.2) (ha : All2 IsPart items l) (hok : PartsOk l) (hq : s.heap.get? q = some { cls := .type "list", data := .seq #[] n }) (hu : A.units + 64 < cLine)
    (h : Q (.bool (!l.isEmpty)) s) : wpAny (model prog w) A (compareOp .NotEq (.ref p) (.ref q)) Q E s := by
  obtain ⟨as, hr⟩ := reads_parts hp hi ha
  refine ne_dataH (db := .list []) hr (.list hq rfl rfl .nil) (shaped_parts hok) rfl hu ?_
  rw [eqv_nil]; exact h
theorem last_item {value slice : Expr} {u : Tok} (hp : s.heap.get? p = some (partsObj (items ++ [(b, o)]) c)) (hlen : items.length ≤ 1000) (h : Q (.ref b) s)
    (hs : subscripted slice false (.ref p) (.int (-1) u) = operate [.ref p, .int (-1) u] (getItem (.ref p) (.int (-1) u)) := by with_unfolding_all rfl) :
    wpAny (model prog w) A (subscriptTail value slice (.ref p) (.int (-1) u)) Q E s := by
  have hl : s.heap.IsList p ((items ++ [(b, o)]).map fun x => Value.ref x.1).toArray := ⟨_, hp, rfl, _, rfl⟩
  have hz : ((items ++ [(b, o)]).map fun x => Value.ref x.1).toArray.size = items.length + 1 := by simp
  refine tail_any hl.typeIs slot_list_getitem.lookup (wpAny_getItem_list_neg (x := .ref b) hl (by decide) ?_ (by decide) ?_ h) hs
  · rw [hz]; omega
  · rw [hz]
    have e : (-1 + ((items.length + 1 : Nat) : Int)).toNat = items.length := by omega
    rw [e]
    simp
theorem app_gen {news more : List (Addr × Obj)} (F : Fr h₀ L s.heap m) (N : News h₀ L s.heap news) (hp : (p, partsObj items c) ∈ news) (hb : (b, o) ∈ news) (hi : ∀ q ∈ items, q ∈ news) (hm : ∀ q ∈ more, q ∈ news ∧ q.1 ≠ p) (P : Parts p items l) (hpb : p < b) (hib : ∀ q ∈ items, q.1 < b) (hsz : items.length ≤ 1000) (ho : IsPart (b, o) kp)
    (h : ∀ h', Fr h₀ L h' m → News h₀ L h' ((p, partsObj (items ++ [(b, o)]) (c + 1)) :: ((items ++ [(b, o)]) ++ more)) → Parts p (items ++ [(b, o)]) (l ++ [kp]) → Q .none { s with heap := h' }) :
    wpAny (model prog w) A (call (.builtin "list.append") [.ref p, .ref b]) Q E s := by
  refine append_at (N _ hp).1 (fun h' hs ho' => ?_) (by rw [List.size_toArray, List.length_map, sizeLine_eq]; omega)
  have e : ((items.map fun x => Value.ref x.1).toArray.push (Value.ref b)) = ((items ++ [(b, o)]).map fun x => Value.ref x.1).toArray := by simp
  rw [e] at ho'
  have keep : ∀ q ∈ news, q.1 ≠ p → h'.get? q.1 = some q.2 ∧ q.1 ≠ L ∧ h₀.get? q.1 = none := fun q hq hne => ⟨(hs.2 _ hne).trans (N q hq).1, (N q hq).2⟩
  refine h h' (F.change hs (N _ hp).2.1 (N _ hp).2.2) (fun q hq => ?_) (P.snoc hpb hib ho)
  rcases List.mem_cons.mp hq with rfl | hq
  · exact ⟨ho', (N _ hp).2⟩
  rcases List.mem_append.mp hq with hq | hq
  · rcases List.mem_append.mp hq with hq | hq
    · exact keep q (hi q hq) (Nat.ne_of_gt (P.above q hq))
    · rw [List.mem_singleton.mp hq]
      exact keep _ hb (Nat.ne_of_gt hpb)
  · exact keep q (hm q hq).1 (hm q hq).2
theorem item_list {value slice : Expr} {b : Addr} {vs : Array Value} {n k : Nat} {u : Tok} {v : Value} (hb : s.heap.get? b = some { cls := .type "list", data := .seq vs n }) (hv : vs[k]? = some v) (hk : k < 1000) (h : Q v s)
    (hs : subscripted slice false (.ref b) (.int (k : Int) u) = operate [.ref b, .int (k : Int) u] (getItem (.ref b) (.int (k : Int) u)) := by with_unfolding_all rfl) :
    wpAny (model prog w) A (subscriptTail value slice (.ref b) (.int (k : Int) u)) Q E s := by
  have hl : s.heap.IsList b vs := ⟨_, hb, rfl, _, rfl⟩
  exact tail_any hl.typeIs slot_list_getitem.lookup (wpAny_getItem_list hl (by omega) (by omega) (by simpa using hv) h) hs
theorem item0B {value slice : Expr} {q : Addr} {oq : Obj} {rest : List (Addr × Obj)} {t1 t2 u : Tok} {n : Nat} (N : News h₀ L s.heap ((q, oq) :: (b, partObj kp t1 t2 n) :: rest)) (h : Q (.int (kp.1 : Int) t1) s)
    (hs : subscripted slice false (.ref b) (.int ((0 : Nat) : Int) u) = operate [.ref b, .int ((0 : Nat) : Int) u] (getItem (.ref b) (.int ((0 : Nat) : Int) u)) := by with_unfolding_all rfl) :
    wpAny (model prog w) A (subscriptTail value slice (.ref b) (.int 0 u)) Q E s := item_list (k := 0) (N _ (.tail _ (.head _))).1 rfl (by omega) h hs
theorem set_list {l : Addr} {items : Array Value} {n : Nat} {k : Int} {t : Tok} {v : Value} {Q : Unit → Shared → Prop} (ho : s.heap.get? l = some { cls := .type "list", data := .seq items n }) (h0 : 0 ≤ k) (hfit : k < 2 ^ 63) (hn : k < items.size)
    (hQ : ∀ h' n', h'.get? l = some { cls := .type "list", data := .seq (items.setIfInBounds k.toNat v) n' } → Heap.SameBut l s.heap h' → Q () { s with heap := h' }) :
    wpAny (model prog w) A (setItem (.ref l) (.int k t) v) Q E s := by
  have hl : s.heap.IsList l items := ⟨_, ho, rfl, _, rfl⟩
  unfold setItem
  try with_reducible refine wpAny_holding ?_
  first | refine wpAny_bind (wpAny_pure ?_) | skip
  refine wpAny_bind (wpAny_sequenceKey hl.typeIs (by decide) ?_)
  refine wpAny_bind (wpAny_callSpecial?_slot (name := Str.ofString "__setitem__") hl.typeIs slot_list_setitem
    (wpAny_call_entry slot_list_setitem hl.typeIs entry_list_setitem ?_ (args_list_setitem _ _ _)))
  show wpAny _ _ (Builtin.List.listSubscript? (.int k t) >>= _) _ _ s
  refine wpAny_bind (wpAny_listSubscript_int (fitsIndex_of h0 hfit) ?_)
  clear hfit
  obtain ⟨j, rfl⟩ := Int.eq_ofNat_of_zero_le h0
  have hj : j < items.size := by omega
  have hx' : items[j]? = some items[j] := Array.getElem?_eq_getElem hj
  show wpAny _ _ ((seqItemAt l j >>= fun r => pure (r.map (j, ·))) >>= _) _ _ s
  refine wpAny_bind (wpAny_bind (wpAny_seqItemAt ho rfl (wpAny_pure ?_)))
  rw [hx']
  show wpAny _ _ (setSeqItemAt l j v >>= _) _ _ s
  have hfin : ∃ n', (s.heap.update l (Obj.mapSeq (·.setIfInBounds j v))).get? l = some { cls := .type "list", data := .seq (items.setIfInBounds j v) n' } :=
    ⟨_, Heap.get?_update_self _ ho rfl⟩
  obtain ⟨n', hfin⟩ := hfin
  refine wpAny_bind (wpAny_setSeqItemAt ho rfl ?_)
  first
    | exact wpAny_bind (wpAny_pure (wpAny_pure ⟨.none, rfl, wpAny_pure (hQ _ n' hfin (Heap.SameBut.update ..))⟩))
    | exact wpAny_pure ⟨.none, rfl, wpAny_pure (hQ _ n' hfin (Heap.SameBut.update ..))⟩
theorem neA {q : Addr} {rest : List (Addr × Obj)} (N : News h₀ L s.heap ((q, { cls := .type "list", data := .seq #[] }) :: (p, partsObj [] c) :: rest)) (hu : A.units + 64 < cLine) (h : Q (.bool false) s) : wpAny (model prog w) A (compareOp .NotEq (.ref p) (.ref q)) Q E s :=
  ne_nil (l := []) (N _ (.tail _ (.head _))).1 (fun it hi => nomatch hi) trivial (fun _ hx => nomatch hx) (N _ (.head _)).1 hu h
theorem neB {q : Addr} {more : List (Addr × Obj)} (N : News h₀ L s.heap ((q, { cls := .type "list", data := .seq #[] }) :: (b, o) :: (p, partsObj (items ++ [(b, o)]) c) :: (items ++ more))) (ha : All2 IsPart (items ++ [(b, o)]) (l ++ [kp])) (hok : PartsOk (l ++ [kp])) (hu : A.units + 64 < cLine) (h : Q (.bool true) s) :
    wpAny (model prog w) A (compareOp .NotEq (.ref p) (.ref q)) Q E s := by
  refine ne_nil (N _ (.tail _ (.tail _ (.head _)))).1 (fun it hi => ?_) ha hok (N _ (.head _)).1 hu ?_
  · rcases List.mem_append.mp hi with hi | hi
    · exact (N _ (.tail _ (.tail _ (.tail _ (List.mem_append_left _ hi))))).1
    · rw [List.mem_singleton.mp hi]; exact (N _ (.tail _ (.head _))).1
  · have e : (!(l ++ [kp]).isEmpty) = true := by cases l <;> rfl
    rw [e]; exact h
theorem lastB {value slice : Expr} {u : Tok} {q : Addr} {oq : Obj} {rest : List (Addr × Obj)} (N : News h₀ L s.heap ((q, oq) :: (b, o) :: (p, partsObj (items ++ [(b, o)]) c) :: rest)) (hlen : items.length ≤ 64) (h : Q (.ref b) s)
    (hs : subscripted slice false (.ref p) (.int (-1) u) = operate [.ref p, .int (-1) u] (getItem (.ref p) (.int (-1) u)) := by with_unfolding_all rfl) : wpAny (model prog w) A (subscriptTail value slice (.ref p) (.int (-1) u)) Q E s :=
  last_item (N _ (.tail _ (.tail _ (.head _)))).1 (by omega) h hs
theorem lastB0 {value slice : Expr} {u : Tok} {rest : List (Addr × Obj)} (N : News h₀ L s.heap ((b, o) :: (p, partsObj (items ++ [(b, o)]) c) :: rest)) (hlen : items.length ≤ 64) (h : Q (.ref b) s)
    (hs : subscripted slice false (.ref p) (.int (-1) u) = operate [.ref p, .int (-1) u] (getItem (.ref p) (.int (-1) u)) := by with_unfolding_all rfl) : wpAny (model prog w) A (subscriptTail value slice (.ref p) (.int (-1) u)) Q E s :=
  last_item (N _ (.tail _ (.head _))).1 (by omega) h hs
def Aft (h0 : Heap) (g0 : Array GenState) (d0 : Drawn) (os0 : OsState) (m : Str → Option Value) (news : List (Addr × Obj)) (s' : Shared) : Prop := ∃ h' tk', s' = (⟨h', g0, d0, tk', os0⟩ : Shared) ∧ Fr h0 h0.objs.size h' m ∧ News h0 h0.objs.size h' news
theorem kind_end {h0 h' : Heap} {g0 : Array GenState} {d0 : Drawn} {os0 : OsState} {m' : Str → Option Value} {news news' : List (Addr × Obj)} {k K tk : Nat} {tkk : Tok} (hk : K = k) (F : Fr h0 h0.objs.size h' (fun y => if y = Str.ofString "kind" then some (.int (k : Int) tkk) else m' y)) (N : News h0 h0.objs.size h' news') (hs : ∀ q ∈ news, q ∈ news') :
    Halt (Flow.next = Flow.next ∧ ∃ tkk, Aft h0 g0 d0 os0 (fun y => if y = Str.ofString "kind" then some (.int (K : Int) tkk) else m' y) news ⟨h', g0, d0, tk, os0⟩) := by
  subst hk
  exact ⟨rfl, tkk, h', tk, rfl, F, fun q hq => N q (hs q hq)⟩
theorem occ_is (x : List Nat) (c : Nat) : (Builtin.Str.occurrences (S x) ⟨#[c]⟩ 0 (S x).length 1).isEmpty = !x.contains c := by
  have := StrLaws.found_one (S x) c
  rw [← Bool.not_not (Builtin.Str.occurrences (S x) ⟨#[c]⟩ 0 (S x).length 1).isEmpty, this]
  simp
theorem occ_ws (c : Nat) : (Builtin.Str.occurrences (Str.ofString " \t") ⟨#[c]⟩ 0 (Str.ofString " \t").length 1).isEmpty = !Plain.wspC c := by
  rw [show Str.ofString " \t" = S [32, 9] by decide +kernel, occ_is, Bool.eq_iff_iff]
  unfold Plain.wspC
  simp
theorem has_one (x : List Nat) (c : Nat) : (!(Builtin.Str.occurrences (S x) ⟨#[c]⟩ 0 (S x).length 1).isEmpty) = x.contains c := by
  rw [StrLaws.found_one]
  simp
end
end Mine
/-! Due1 -/
namespace Mine
open PySem PySem.W PyProof.Rows PySem.Calls
set_option Elab.async false
set_option maxRecDepth 100000
/-- the frame of _law_due -/
abbrev dm (l : Str) (tl : Tok) (mk : Str) (tmk : Tok) (mo : Str) (tmo : Tok) (p : Addr) (m : Str → Option Value) : Str → Option Value := fun y =>
  if y = Str.ofString "line" then some (.str l tl) else if y = Str.ofString "marks" then some (.str mk tmk) else if y = Str.ofString "more" then some (.str mo tmo) else if y = Str.ofString "parts" then some (.ref p) else m y
theorem fr_dm {h₀ h : Heap} {L p : Addr} {m : Str → Option Value} {l mk mo : Str} {tl tmk tmo : Tok} (F : Fr h₀ L h m) (h1 : m (Str.ofString "line") = some (.str l tl)) (h2 : m (Str.ofString "marks") = some (.str mk tmk)) (h3 : m (Str.ofString "more") = some (.str mo tmo)) (h4 : m (Str.ofString "parts") = some (.ref p)) :
    Fr h₀ L h (dm l tl mk tmk mo tmo p m) := by
  have : dm l tl mk tmk mo tmo p m = m := by
    funext y
    unfold dm
    split
    · next e => rw [e, h1]
    · split
      · next e => rw [e, h2]
      · split
        · next e => rw [e, h3]
        · split
          · next e => rw [e, h4]
          · rfl
  rw [this]; exact F
local macro_rules | `(tactic| walk_at "eval Name") => `(tactic| first
  | (with_reducible refine nm_len (by assumption) (by assumption) ?_ ?_ ?_; kernel_rfl; kernel_rfl)
  | (with_reducible refine nm_ord (by assumption) (by assumption) ?_ ?_ ?_; kernel_rfl; kernel_rfl)
  | (with_reducible refine nm_white (by assumption) (by assumption) ?_ ?_ ?_; kernel_rfl; kernel_rfl))
local macro_rules | `(tactic| walk_at "call builtin:list.append") => `(tactic| with_reducible refine Halt.intro ?_)
local macro_rules | `(tactic| walk_at "callWith") => `(tactic| ((with_reducible show wpAny _ _ (callWith _ (Value.ref _) _ _ _) _ _ _); with_reducible refine Halt.intro ?_))
local macro_rules | `(tactic| walk_at "compareOp NotEq ref ref") => `(tactic| first | refine neA (by assumption) (by assumption) ?_ | refine neB (by assumption) (by assumption) (by assumption) (by assumption) ?_)
local macro_rules | `(tactic| walk_at "subscriptTail Subscript Name UnaryOp Constant ref int") => `(tactic| refine item0B (by assumption) ?_)
local macro_rules | `(tactic| walk_at "subscriptTail") => `(tactic| refine item0B (by assumption) ?_)
local macro_rules | `(tactic| walk_at "subscriptTail Name UnaryOp ref int") => `(tactic| first | refine lastB (by assumption) (by assumption) ?_ | refine lastB0 (by assumption) (by assumption) ?_)
local macro_rules | `(tactic| walk_at "no such key") => `(tactic| fail "no such key")
local macro_rules | `(tactic| walk_at "no such key either") => `(tactic| fail "no such key")
local macro_rules | `(tactic| walk_at "pyIter str") => `(tactic| with_reducible refine Halt.intro ?_)
theorem ea : (Str.ofString "a").cps.toList = [97] := by decide +kernel
theorem ez : (Str.ofString "z").cps.toList = [122] := by decide +kernel
theorem eA : (Str.ofString "A").cps.toList = [65] := by decide +kernel
theorem eZ : (Str.ofString "Z").cps.toList = [90] := by decide +kernel
theorem e0 : (Str.ofString "0").cps.toList = [48] := by decide +kernel
theorem e9 : (Str.ofString "9").cps.toList = [57] := by decide +kernel
theorem one_lt (a b : Nat) : ([a] < [b]) = (a < b) := by
  rw [List.cons_lt_cons_iff]
  simp [List.not_lt_nil]
theorem plain_is {ch : Nat} {P Q : Prop} [Decidable P] (hP : P ↔ Q) (h : (¬ Q) ↔ ((97 ≤ ch ∧ ch ≤ 122) ∨ (65 ≤ ch ∧ ch ≤ 90) ∨ (48 ≤ ch ∧ ch ≤ 57))) : Value.bool (!decide P) = Value.bool (Plain.plainC ch) := by
  congr 1
  rw [Bool.eq_iff_iff]
  unfold Plain.plainC
  simp only [Bool.not_eq_true', decide_eq_false_iff_not, Bool.or_eq_true, Bool.and_eq_true, decide_eq_true_eq, hP, h]
  omega
section
variable {w : World} {mean : ExcName → Option Value} {mg mb : Str → Option Value} {A : Around}
def dueAdd (mk mo : List Nat) : List Part → Nat → List Part := Plain.add whiteC Plain.wspC (Plain.dueE mk mo)
structure DJ (h0 : Heap) (l : List Nat) (tl : Tok) (mk : List Nat) (tmk : Tok) (mo : List Nat) (tmo : Tok) (p I : Addr) (i : Nat) (h : Heap) (m : Str → Option Value) (items : List (Addr × Obj)) (c : Nat) : Prop where
  F : Fr h0 h0.objs.size h (dm (S l) tl (S mk) tmk (S mo) tmo p m)
  N : News h0 h0.objs.size h ((p, partsObj items c) :: items)
  P : Parts p items ((l.take i).foldl (dueAdd mk mo) [])
  up : ∀ q ∈ items, I < q.1
theorem add_len (mk mo : List Nat) (P : List Part) (c : Nat) : (dueAdd mk mo P c).length ≤ P.length + 1 := by
  unfold dueAdd Plain.add
  dsimp only
  split
  · split
    · rw [List.length_append, List.length_dropLast]
      simp only [List.length_cons, List.length_nil]
      omega
    · simp
  · simp
theorem fold_len (mk mo : List Nat) : ∀ (l : List Nat) (P : List Part), (l.foldl (dueAdd mk mo) P).length ≤ P.length + l.length
  | [], P => by simp
  | c :: l, P => by
    rw [List.foldl_cons]
    have h1 := fold_len mk mo l (dueAdd mk mo P c)
    have h2 := add_len mk mo P c
    simp only [List.length_cons]
    omega
def AllC (P : List Part) : Prop := ∀ kp ∈ P, ∀ c ∈ kp.2, c < 0x110000
theorem add_ok {mk mo : List Nat} {P : List Part} {c : Nat} (h : AllC P) (hc : c < 0x110000) : AllC (dueAdd mk mo P c) := by
  unfold dueAdd Plain.add
  dsimp only
  split
  · rename_i k' a he
    have hm : (k', a) ∈ P := List.mem_of_getLast? he
    split
    · intro kp hk x hx
      rcases List.mem_append.mp hk with hk | hk
      · exact h kp (List.dropLast_subset _ hk) x hx
      · rw [List.mem_singleton.mp hk] at hx
        rcases List.mem_append.mp hx with hx | hx
        · exact h _ hm x hx
        · rw [List.mem_singleton.mp hx]; exact hc
    · intro kp hk x hx
      rcases List.mem_append.mp hk with hk | hk
      · exact h kp hk x hx
      · rw [List.mem_singleton.mp hk] at hx
        rw [List.mem_singleton.mp hx]; exact hc
  · intro kp hk x hx
    rcases List.mem_append.mp hk with hk | hk
    · exact h kp hk x hx
    · rw [List.mem_singleton.mp hk] at hx
      rw [List.mem_singleton.mp hx]; exact hc
theorem fold_ok {mk mo : List Nat} : ∀ {l : List Nat} {P : List Part}, AllC P → (∀ c ∈ l, c < 0x110000) → AllC (l.foldl (dueAdd mk mo) P)
  | [], _, h, _ => h
  | c :: l, P, h, hl => by
    rw [List.foldl_cons]
    exact fold_ok (add_ok h (hl c (.head _))) fun x hx => hl x (.tail _ hx)
theorem add_size {mk mo : List Nat} {P : List Part} {c k : Nat} (h : ∀ kp ∈ P, kp.2.length ≤ k) : ∀ kp ∈ dueAdd mk mo P c, kp.2.length ≤ k + 1 := by
  unfold dueAdd Plain.add
  dsimp only
  split
  · rename_i k' a he
    have hm : (k', a) ∈ P := List.mem_of_getLast? he
    split
    · intro kp hk
      rcases List.mem_append.mp hk with hk | hk
      · exact Nat.le_succ_of_le (h kp (List.dropLast_subset _ hk))
      · rw [List.mem_singleton.mp hk]
        have := h _ hm
        simp only [List.length_append, List.length_cons, List.length_nil] at this ⊢
        omega
    · intro kp hk
      rcases List.mem_append.mp hk with hk | hk
      · exact Nat.le_succ_of_le (h kp hk)
      · rw [List.mem_singleton.mp hk]
        simp
  · intro kp hk
    rcases List.mem_append.mp hk with hk | hk
    · exact Nat.le_succ_of_le (h kp hk)
    · rw [List.mem_singleton.mp hk]
      simp
theorem fold_size {mk mo : List Nat} : ∀ {l : List Nat} {P : List Part} {k : Nat}, (∀ kp ∈ P, kp.2.length ≤ k) → ∀ kp ∈ l.foldl (dueAdd mk mo) P, kp.2.length ≤ k + l.length
  | [], _, _, h => h
  | c :: l, P, k, h => by
    intro kp hk
    rw [List.foldl_cons] at hk
    have := fold_size (add_size (c := c) (mk := mk) (mo := mo) h) kp hk
    simp only [List.length_cons]
    omega
theorem ok_of {P : List Part} (h : AllC P) : PartsOk P := fun kp hk => by
  unfold PyData.strOk
  rw [← Array.all_toList]
  simp only [List.all_eq_true, decide_eq_true_eq]
  exact fun x hx => h kp hk x hx
theorem take_next {l : List Nat} {i ch : Nat} {mk mo : List Nat} (h : (S l).cps[i]? = some ch) : (l.take (i + 1)).foldl (dueAdd mk mo) [] = dueAdd mk mo ((l.take i).foldl (dueAdd mk mo) []) ch := by
  have h' : l[i]? = some ch := by simpa using h
  rw [List.take_add_one, h']
  simp
theorem dj_end {h0 : Heap} {s : Shared} {l mk mo : List Nat} {tl tmk tmo : Tok} {p I : Addr} {i ch : Nat} {h' : Heap} {tk' : Nat} {m : Str → Option Value} {items : List (Addr × Obj)} {c : Nat} {oI : Obj} {L2 : List Part} (hch : (S l).cps[i]? = some ch)
    (hI : oI.cls = Value.type (strIterType (S l)) ∧ oI.data = Data.fields #[Value.str (S l) tl, Value.int (↑(i + 1)) 0])
    (F : Fr h0 h0.objs.size h' m) (h1 : m (Str.ofString "line") = some (.str (S l) tl)) (h2 : m (Str.ofString "marks") = some (.str (S mk) tmk)) (h3 : m (Str.ofString "more") = some (.str (S mo) tmo)) (h4 : m (Str.ofString "parts") = some (.ref p))
    (N : News h0 h0.objs.size h' ((p, partsObj items c) :: (items ++ [(I, oI)]))) (P : Parts p items L2) (hL : L2 = dueAdd mk mo ((l.take i).foldl (dueAdd mk mo) []) ch) (hup : ∀ q ∈ items, I < q.1) :
    StepF I (S l) tl (fun i h => ∃ m items c, DJ h0 l tl mk tmk mo tmo p I i h m items c) i s .next { s with heap := h', toks := tk' } := by
  refine ⟨rfl, h', tk', rfl, ⟨oI, (N _ (.tail _ (List.mem_append_right _ (.head _)))).1, hI⟩, m, items, c, fr_dm F h1 h2 h3 h4, fun q hq => N q ?_, ?_, hup⟩
  · rcases List.mem_cons.mp hq with rfl | hq
    · exact .head _
    · exact .tail _ (List.mem_append_left _ hq)
  · rw [take_next hch, ← hL]; exact P
set_option maxHeartbeats 4000000 in
theorem due_call {s : Shared} {l mk mo : List Nat} {tl tmk tmo : Tok} {Q : Value → Shared → Prop} (H : Base w mean mg mb s.heap) (hroom : A.depth + 5 < recursionLimit) (hu : A.units + 80 < cLine) (hh : A.handled = none) (hl : l.length ≤ 64) (hcs : ∀ c ∈ l, c < 0x110000)
    (hq : ∀ h' t' p items c, Ext s.heap h' → s.heap.objs.size ≤ p → Has h' p items c (l.foldl (dueAdd mk mo) []) → Q (.ref p) { s with heap := h', toks := t' }) :
    wpAny (model prog w) A (PySem.call (.ref 208) [.str (S l) tl, .str (S mk) tmk, .str (S mo) tmo]) Q noE s := by
  w_top off
  obtain ⟨h0, g0, d0, t0, os0⟩ := s
  refine enter (i := [23]) (c := 207) (name := Str.ofString "_law_due") (pm := .str (Str.ofString "law_lg0006_01") 413) (binds := [(Str.ofString "line", .str (S l) tl), (Str.ofString "marks", .str (S mk) tmk), (Str.ofString "more", .str (S mo) tmo)]) H (by omega) (by kernel_rfl) (by kernel_rfl) (by kernel_rfl) (by kernel_rfl) (by kernel_rfl) (by kernel_rfl) fun h₁ F => ?_
  have N : News h0 h0.objs.size h₁ [] := News.nil
  have hp₁ : h0.objs.size ≤ h₁.objs.size := by
    obtain ⟨oL, es, ep, hL, _⟩ := F.ns
    exact Nat.le_of_lt (Heap.lt_size hL)
  dsimp only at F N H
  with_unfolding_all refine wpAny_execs_cons ?_
  dsimp only
  iterate 6 (first | walk1 | (dsimp only; walk1))
  rename_i h₂ _ _ h₃ F₃ N₃
  with_unfolding_all refine wpAny_For ?_
  repeat' (first | walk1 | (dsimp only; walk1))
  refine Halt.mk ?_
  refine wpAny_pyIter_strU ?_
  dsimp only
  have hL : h0.objs.size < h₃.objs.size := by
    obtain ⟨oL, es, ep, hL, _⟩ := F₃.ns
    exact Heap.lt_size hL
  have hpI : h₁.objs.size < h₃.objs.size := Heap.lt_size (N₃ _ (.head _)).1
  refine loop_str hh (fun i h => ∃ m items c, DJ h0 l tl mk tmk mo tmo h₁.objs.size h₃.objs.size i h m items c) ⟨_, Heap.get?_push_size _ rfl, rfl, rfl⟩ ⟨_, [], 0, fr_dm (F₃.push _) (by kernel_rfl) (by kernel_rfl) (by kernel_rfl) (by kernel_rfl), fun q hq => ⟨Heap.get?_push_of_some _ (N₃ q hq).1, (N₃ q hq).2⟩, ⟨trivial, by simp⟩, fun q hq => nomatch hq⟩ ?_ ?_ ?_
  · rintro i h h' ⟨m, items, c, D⟩ k
    refine ⟨m, items, c, fr_not D.F k (Nat.ne_of_lt hL) (Nat.le_of_lt hL), news_not D.N k ?_, D.P, D.up⟩
    intro q hq
    rcases List.mem_cons.mp hq with rfl | hq
    · exact Nat.ne_of_lt hpI
    · exact Nat.ne_of_gt (D.up q hq)
  · rintro i ch u h tk hch hit ⟨m, items, c, D⟩
    obtain ⟨oI, hoI, hI⟩ := hit
    obtain ⟨F₅, N₅, P, hup⟩ := D
    have hNI : News h0 h0.objs.size h ((h₁.objs.size, partsObj items c) :: (items ++ [(h₃.objs.size, oI)])) := by
      intro q hq
      rcases List.mem_cons.mp hq with rfl | hq
      · exact N₅ _ (.head _)
      rcases List.mem_append.mp hq with hq | hq
      · exact N₅ _ (.tail _ hq)
      · rw [List.mem_singleton.mp hq]
        exact ⟨hoI, Nat.ne_of_gt hL, Heap.get?_none_of_le (Nat.le_of_lt hL)⟩
    clear N₅ F₃ N₃ F N
    dsimp only
    iterate 4 (first | walk1 | (dsimp only; walk1))
    rename_i h₆ F₆ N₆
    clear F₅ hNI
    refine wpAny_mono (Q := fun v s' => v = .bool (Plain.plainC ch) ∧ ∃ tk', s' = (⟨h₆, g0, d0, tk', os0⟩ : Shared)) (E := noE) ?_ ?_ (fun _ _ q => q)
    · repeat' (first | walk1 | (dsimp only; walk1))
      all_goals (try (simp only [ea, ez, eA, eZ, e0, e9, one_lt] at *))
      all_goals first
        | (exfalso; omega)
        | (refine plain_is Iff.rfl ?_; omega)
    rintro v s' ⟨rfl, tk', rfl⟩
    iterate 2 (first | walk1 | (dsimp only; walk1))
    rename_i h₇ F₇ N₇
    clear F₆ N₆ hoI
    have hu' : (A.deeper (fEnv (Str.ofString "_law_due") [23] h0.objs.size 208 207)).units + 64 < cLine := by rw [units_deeper]; omega
    rcases List.eq_nil_or_concat ((l.take i).foldl (dueAdd mk mo) []) with hP0 | ⟨P', kp, hP0⟩
    · rw [hP0] at P
      obtain rfl := P.all.nilr
      refine wpAny_mono (Q := fun f s' => Halt (f = .next ∧ ∃ tkk, Aft h0 g0 d0 os0 (fun y => if y = Str.ofString "kind" then some (.int (Plain.kind whiteC Plain.wspC (Plain.dueE mk mo) none ch : Nat) tkk) else if y = Str.ofString "plain" then some (Value.bool (Plain.plainC ch)) else if y = Str.ofString "sign" then some (Value.str { cps := #[ch] } u) else dm (S l) tl (S mk) tmk (S mo) tmo h₁.objs.size m y) ((h₁.objs.size, partsObj [] c) :: [(h₃.objs.size, oI)]) s')) (E := noE) ?_ ?_ (fun _ _ q => q)
      · dsimp only [List.nil_append] at N₇
        repeat' (first | walk1 | (dsimp only; walk1))
        all_goals first
          | refine kind_end (k := 0) ?_ (by assumption) (by assumption) (fun q hq => by first | exact hq | exact List.Mem.tail _ hq)
          | refine kind_end (k := 1) ?_ (by assumption) (by assumption) (fun q hq => by first | exact hq | exact List.Mem.tail _ hq)
          | refine kind_end (k := 2) ?_ (by assumption) (by assumption) (fun q hq => by first | exact hq | exact List.Mem.tail _ hq)
        all_goals (simp only [occ_is, occ_ws, Bool.not_eq_true', Bool.not_eq_false'] at *)
        all_goals (unfold Plain.kind Plain.dueE; simp only [*, Bool.or_true, Bool.true_or, Bool.false_or, Bool.or_false, Bool.and_true, Bool.and_false, Bool.not_true, Bool.not_false, if_true, Bool.false_eq_true, if_false, Option.map_none])
        all_goals first
          | rfl
          | (simp; done)
          | (simp; omega)
          | (simp; intros; omega)
      · rintro f s' ⟨rfl, tkk, h₈, tk₈, rfl, F₈, N₈⟩
        clear F₇ N₇
        dsimp only
        repeat' (first | walk1 | (dsimp only; walk1))
        all_goals (refine Halt.mk ?_)
        · rename_i h₉ F₉ N₉ h₁₀ F₁₀ N₁₀
          refine app_gen (kp := (Plain.kind whiteC Plain.wspC (Plain.dueE mk mo) none ch, [ch])) (more := [(h₃.objs.size, oI)]) (items := []) (l := []) F₁₀ N₁₀ (.tail _ (.tail _ (.head _))) (.head _) (fun _ hx => nomatch hx) (fun q hq => by rw [List.mem_singleton.mp hq]; exact ⟨.tail _ (.tail _ (.tail _ (.head _))), Nat.ne_of_gt hpI⟩) P (Heap.lt_size (N₉ _ (.tail _ (.head _))).1) (fun _ hx => nomatch hx) (by simp) ⟨_, _, _, rfl⟩ fun h₁₁ F₁₁ N₁₁ P₁₁ => ?_
          dsimp only
          repeat' (first | walk1 | (dsimp only; walk1))
          refine dj_end hch hI F₁₁ (by kernel_rfl) (by kernel_rfl) (by kernel_rfl) (by kernel_rfl) N₁₁ P₁₁ (by rw [hP0]; rfl) (fun q hq => ?_)
          rw [List.mem_singleton.mp hq]
          exact Heap.lt_size (N₉ _ (.tail _ (.tail _ (.head _)))).1
        · rename_i h₁₀ F₁₀ N₁₀
          refine app_gen (kp := (Plain.kind whiteC Plain.wspC (Plain.dueE mk mo) none ch, [ch])) (more := [(h₃.objs.size, oI)]) (items := []) (l := []) F₁₀ N₁₀ (.tail _ (.head _)) (.head _) (fun _ hx => nomatch hx) (fun q hq => by rw [List.mem_singleton.mp hq]; exact ⟨.tail _ (.tail _ (.head _)), Nat.ne_of_gt hpI⟩) P (Heap.lt_size (N₈ _ (.head _)).1) (fun _ hx => nomatch hx) (by simp) ⟨_, _, _, rfl⟩ fun h₁₁ F₁₁ N₁₁ P₁₁ => ?_
          dsimp only
          repeat' (first | walk1 | (dsimp only; walk1))
          refine dj_end hch hI F₁₁ (by kernel_rfl) (by kernel_rfl) (by kernel_rfl) (by kernel_rfl) N₁₁ P₁₁ (by rw [hP0]; rfl) (fun q hq => ?_)
          rw [List.mem_singleton.mp hq]
          exact Heap.lt_size (N₈ _ (.tail _ (.head _))).1
    · rw [List.concat_eq_append] at hP0
      have hlenP := fold_len mk mo (l.take i) []
      have hokP : PartsOk ((l.take i).foldl (dueAdd mk mo) []) := ok_of (fold_ok (fun _ hx => nomatch hx) fun c hc => hcs c (List.mem_of_mem_take hc))
      have hszP := fold_size (mk := mk) (mo := mo) (l := l.take i) (P := []) (k := 0) (fun _ hx => nomatch hx)
      rw [hP0] at P hlenP hokP hszP
      obtain ⟨items', ⟨b, o⟩, rfl, hall', t1, t2, n, ho⟩ := P.all.unsnoc
      dsimp only at ho
      subst ho
      obtain ⟨k', a⟩ := kp
      have hlen : items'.length ≤ 64 := by
        have h1 := hall'.length
        simp only [List.length_append, List.length_take] at hlenP
        simp at hlenP
        omega
      have NB : News h0 h0.objs.size h₇ ((b, partObj (k', a) t1 t2 n) :: (h₁.objs.size, partsObj (items' ++ [(b, partObj (k', a) t1 t2 n)]) c) :: (items' ++ [(h₃.objs.size, oI)])) := by
        intro q hq
        rcases List.mem_cons.mp hq with rfl | hq
        · exact N₇ _ (.tail _ (List.mem_append_left _ (List.mem_append_right _ (.head _))))
        rcases List.mem_cons.mp hq with rfl | hq
        · exact N₇ _ (.head _)
        rcases List.mem_append.mp hq with hq | hq
        · exact N₇ _ (.tail _ (List.mem_append_left _ (List.mem_append_left _ hq)))
        · exact N₇ _ (.tail _ (List.mem_append_right _ hq))
      have hPall := P.all
      have hal : a.length ≤ 64 := by
        have := hszP (k', a) (List.mem_append_right _ (.head _))
        rw [List.length_take] at this
        dsimp only at this
        omega
      clear N₇ hszP
      refine wpAny_mono (Q := fun f s' => Halt (f = .next ∧ ∃ tkk, Aft h0 g0 d0 os0 (fun y => if y = Str.ofString "kind" then some (.int (Plain.kind whiteC Plain.wspC (Plain.dueE mk mo) (some (k', a)) ch : Nat) tkk) else if y = Str.ofString "plain" then some (Value.bool (Plain.plainC ch)) else if y = Str.ofString "sign" then some (Value.str { cps := #[ch] } u) else dm (S l) tl (S mk) tmk (S mo) tmo h₁.objs.size m y) ((b, partObj (k', a) t1 t2 n) :: (h₁.objs.size, partsObj (items' ++ [(b, partObj (k', a) t1 t2 n)]) c) :: (items' ++ [(h₃.objs.size, oI)])) s')) (E := noE) ?_ ?_ (fun _ _ q => q)
      · repeat' (first | walk1 | (dsimp only; walk1))
        · rename_i h₈ F₈ N₈ hk0
          refine Halt.mk ?_
          with_unfolding_all refine callWith_K (K := theK w.params) H.X (by kernel_rfl) ?_
          repeat' (first | walk1 | (dsimp only; walk1))
          · exact H.X.keeps F₈.keep
          refine white_call (H.keeps F₈.keep) (by rw [depth_deeper]; omega) fun h₉ t₉ k₉ => ?_
          rw [show whiteI (ch : Int) = whiteC ch from rfl]
          dsimp only at k₉ hk0
          obtain rfl : k' = 0 := by omega
          have F₉ : Fr h0 h0.objs.size h₉ _ := ⟨F₈.ns.keeps k₉, fun b o e => k₉ _ _ (F₈.keep _ _ e), Nat.le_refl _⟩
          have N₉ : News h0 h0.objs.size h₉ _ := fun q hq => ⟨k₉ _ _ (N₈ q hq).1, (N₈ q hq).2⟩
          clear F₈ N₈ F₇ NB
          repeat' (first | walk1 | (dsimp only; walk1))
          all_goals first
            | refine kind_end (k := 0) ?_ (by assumption) (by assumption) (fun q hq => by first | exact hq | exact List.Mem.tail _ hq)
            | refine kind_end (k := 1) ?_ (by assumption) (by assumption) (fun q hq => by first | exact hq | exact List.Mem.tail _ hq)
            | refine kind_end (k := 2) ?_ (by assumption) (by assumption) (fun q hq => by first | exact hq | exact List.Mem.tail _ hq)
          all_goals (simp only [occ_is, occ_ws, Bool.not_eq_true', Bool.not_eq_false'] at *)
          all_goals (unfold Plain.kind Plain.dueE; simp only [*, Option.map_some, Bool.or_true, Bool.true_or, Bool.false_or, Bool.or_false, Bool.and_true, Bool.and_false, Bool.not_true, Bool.not_false, if_true, Bool.false_eq_true, if_false])
          all_goals first
            | rfl
            | (simp; done)
            | (simp; omega)
            | (simp; intros; omega)
        all_goals first
          | refine kind_end (k := 0) ?_ (by assumption) (by assumption) (fun q hq => by first | exact hq | exact List.Mem.tail _ hq)
          | refine kind_end (k := 1) ?_ (by assumption) (by assumption) (fun q hq => by first | exact hq | exact List.Mem.tail _ hq)
          | refine kind_end (k := 2) ?_ (by assumption) (by assumption) (fun q hq => by first | exact hq | exact List.Mem.tail _ hq)
        all_goals (simp only [occ_is, occ_ws, Bool.not_eq_true', Bool.not_eq_false'] at *)
        all_goals (unfold Plain.kind Plain.dueE; simp only [*, Option.map_some, Bool.or_true, Bool.true_or, Bool.false_or, Bool.or_false, Bool.and_true, Bool.and_false, Bool.not_true, Bool.not_false, if_true, Bool.false_eq_true, if_false])
        all_goals first
          | rfl
          | (simp; done)
          | (simp; omega)
          | (simp; intros; omega)
          | (rw [show (some k' == some 0) = false by simp; omega]; simp; done)
          | (rw [show (some k' == some 0) = false by simp; omega]; simp; omega)
          | (rw [show (some k' == some 0) = false by simp; omega]; simp; intros; omega)
      · rintro f s' ⟨rfl, tkk, h₈, tk₈, rfl, F₈, N₈⟩
        clear F₇ NB
        dsimp only
        repeat' (first | walk1 | (dsimp only; walk1))
        · rename_i hne1 h₉ F₉ N₉ hkk t' tk' _
          have hkn : k' = Plain.kind whiteC Plain.wspC (Plain.dueE mk mo) (some (k', a)) ch := by dsimp only at hkk; omega
          have hk1 : k' ≠ 1 := by omega
          have e : ({ cps := (k', a).snd.toArray } ++ { cps := #[ch] } : Str) = S (a ++ [ch]) := S_ext (by simp [Str.cps_append])
          rw [e]
          dsimp only
          refine set_list (k := 1) (N₉ _ (.tail _ (.head _))).1 (by decide) (by decide) (by simp) fun h₁₀ n' hb₁₀ sb₁₀ => ?_
          have hNb := (N₉ _ (.tail _ (.head _))).2
          have F₁₀ := F₉.change sb₁₀ hNb.1 hNb.2
          have hpb : h₁.objs.size < b := P.above (b, partObj (k', a) t1 t2 n) (List.mem_append_right _ (.head _))
          have hib : ∀ q ∈ items', q.1 < b := by
            intro q hq
            have := P.up
            rw [List.map_append, ← List.cons_append, List.pairwise_append] at this
            exact this.2.2 q.1 (.tail _ (List.mem_map.mpr ⟨q, hq, rfl⟩)) b (.head _)
          have hIb : h₃.objs.size < b := hup (b, partObj (k', a) t1 t2 n) (List.mem_append_right _ (.head _))
          have em : ((items' ++ [(b, partObj (k', a ++ [ch]) t1 t' n')]).map fun x => Value.ref x.1) = ((items' ++ [(b, partObj (k', a) t1 t2 n)]).map fun x => Value.ref x.1) := by simp
          have N₁₀ : News h0 h0.objs.size h₁₀ ((h₁.objs.size, partsObj (items' ++ [(b, partObj (k', a ++ [ch]) t1 t' n')]) c) :: ((items' ++ [(b, partObj (k', a ++ [ch]) t1 t' n')]) ++ [(h₃.objs.size, oI)])) := by
            intro q hq
            rcases List.mem_cons.mp hq with rfl | hq
            · refine ⟨(sb₁₀.2 _ (Nat.ne_of_lt hpb)).trans ?_, (N₉ _ (.tail _ (.tail _ (.head _)))).2⟩
              dsimp only [partsObj]
              rw [em]
              exact (N₉ _ (.tail _ (.tail _ (.head _)))).1
            rcases List.mem_append.mp hq with hq | hq
            · rcases List.mem_append.mp hq with hq | hq
              · have := N₉ q (.tail _ (.tail _ (.tail _ (List.mem_append_left _ hq))))
                exact ⟨(sb₁₀.2 _ (Nat.ne_of_lt (hib q hq))).trans this.1, this.2⟩
              · rw [List.mem_singleton.mp hq]
                exact ⟨hb₁₀, hNb⟩
            · rw [List.mem_singleton.mp hq]
              have := N₉ _ (.tail _ (.tail _ (.tail _ (List.mem_append_right _ (.head _)))))
              exact ⟨(sb₁₀.2 _ (Nat.ne_of_lt hIb)).trans this.1, this.2⟩
          have P₁₀ : Parts h₁.objs.size (items' ++ [(b, partObj (k', a ++ [ch]) t1 t' n')]) (P' ++ [(k', a ++ [ch])]) := by
            refine ⟨hall'.snoc ⟨_, _, _, rfl⟩, ?_⟩
            have := P.up
            simpa using this
          clear F₉ N₉ F₈ N₈
          dsimp only
          repeat' (first | walk1 | (dsimp only; walk1))
          refine dj_end hch hI F₁₀ (by kernel_rfl) (by kernel_rfl) (by kernel_rfl) (by kernel_rfl) N₁₀ P₁₀ ?_ (fun q hq => ?_)
          · rw [hP0]
            exact (Plain.add_same hkn.symm hk1).symm
          · rcases List.mem_append.mp hq with hq | hq
            · exact hup q (List.mem_append_left _ hq)
            · rw [List.mem_singleton.mp hq]; exact hIb
        · rename_i hne1 h₉ F₉ N₉ hkk h₁₀ F₁₀ N₁₀
          have hpb : h₁.objs.size < h₉.objs.size := Heap.lt_size (N₉ _ (.tail _ (.tail _ (.head _)))).1
          have hit9 : ∀ q ∈ items' ++ [(b, partObj (k', a) t1 t2 n)], q.1 < h₉.objs.size := by
            intro q hq
            rcases List.mem_append.mp hq with hq | hq
            · exact Heap.lt_size (N₉ q (.tail _ (.tail _ (.tail _ (List.mem_append_left _ hq))))).1
            · rw [List.mem_singleton.mp hq]; exact Heap.lt_size (N₉ _ (.tail _ (.head _))).1
          have hI9 : h₃.objs.size < h₉.objs.size := Heap.lt_size (N₉ _ (.tail _ (.tail _ (.tail _ (List.mem_append_right _ (.head _)))))).1
          refine Halt.mk ?_
          refine app_gen (kp := (Plain.kind whiteC Plain.wspC (Plain.dueE mk mo) (some (k', a)) ch, [ch])) (more := [(h₃.objs.size, oI)]) (items := items' ++ [(b, partObj (k', a) t1 t2 n)]) (l := P' ++ [(k', a)]) F₁₀ N₁₀ (.tail _ (.tail _ (.tail _ (.head _)))) (.head _) ?_ ?_ P hpb hit9 (by simp; omega) ⟨_, _, _, rfl⟩ fun h₁₁ F₁₁ N₁₁ P₁₁ => ?_
          · intro q hq
            rcases List.mem_append.mp hq with hq | hq
            · exact .tail _ (.tail _ (.tail _ (.tail _ (List.mem_append_left _ hq))))
            · rw [List.mem_singleton.mp hq]; exact .tail _ (.tail _ (.head _))
          · intro q hq
            rw [List.mem_singleton.mp hq]
            exact ⟨.tail _ (.tail _ (.tail _ (.tail _ (List.mem_append_right _ (.head _))))), Nat.ne_of_gt hpI⟩
          clear F₉ N₉ F₈ N₈
          dsimp only
          repeat' (first | walk1 | (dsimp only; walk1))
          refine dj_end hch hI F₁₁ (by kernel_rfl) (by kernel_rfl) (by kernel_rfl) (by kernel_rfl) N₁₁ P₁₁ ?_ (fun q hq => ?_)
          · rw [hP0]
            refine (Plain.add_new (by simp) fun k2 a2 e2 => .inr ?_).symm
            simp at e2
            dsimp only at hkk
            omega
          · rcases List.mem_append.mp hq with hq | hq
            · exact hup q hq
            · rw [List.mem_singleton.mp hq]; exact hI9
        · rename_i hk1 h₁₀ F₁₀ N₁₀
          have hpb : h₁.objs.size < h₈.objs.size := Heap.lt_size (N₈ _ (.tail _ (.head _))).1
          have hit9 : ∀ q ∈ items' ++ [(b, partObj (k', a) t1 t2 n)], q.1 < h₈.objs.size := by
            intro q hq
            rcases List.mem_append.mp hq with hq | hq
            · exact Heap.lt_size (N₈ q (.tail _ (.tail _ (List.mem_append_left _ hq)))).1
            · rw [List.mem_singleton.mp hq]; exact Heap.lt_size (N₈ _ (.head _)).1
          have hI9 : h₃.objs.size < h₈.objs.size := Heap.lt_size (N₈ _ (.tail _ (.tail _ (List.mem_append_right _ (.head _))))).1
          refine Halt.mk ?_
          refine app_gen (kp := (Plain.kind whiteC Plain.wspC (Plain.dueE mk mo) (some (k', a)) ch, [ch])) (more := [(h₃.objs.size, oI)]) (items := items' ++ [(b, partObj (k', a) t1 t2 n)]) (l := P' ++ [(k', a)]) F₁₀ N₁₀ (.tail _ (.tail _ (.head _))) (.head _) ?_ ?_ P hpb hit9 (by simp; omega) ⟨_, _, _, rfl⟩ fun h₁₁ F₁₁ N₁₁ P₁₁ => ?_
          · intro q hq
            rcases List.mem_append.mp hq with hq | hq
            · exact .tail _ (.tail _ (.tail _ (List.mem_append_left _ hq)))
            · rw [List.mem_singleton.mp hq]; exact .tail _ (.head _)
          · intro q hq
            rw [List.mem_singleton.mp hq]
            exact ⟨.tail _ (.tail _ (.tail _ (List.mem_append_right _ (.head _)))), Nat.ne_of_gt hpI⟩
          clear F₈ N₈
          dsimp only
          repeat' (first | walk1 | (dsimp only; walk1))
          refine dj_end hch hI F₁₁ (by kernel_rfl) (by kernel_rfl) (by kernel_rfl) (by kernel_rfl) N₁₁ P₁₁ ?_ (fun q hq => ?_)
          · rw [hP0]
            exact (Plain.add_new (by simp) fun k2 a2 e2 => .inl (by omega)).symm
          · rcases List.mem_append.mp hq with hq | hq
            · exact hup q hq
            · rw [List.mem_singleton.mp hq]; exact hI9
  · rintro h tk ⟨m, items, c, ⟨F₅, N₅, P, hup⟩⟩
    rw [List.take_of_length_le (by simp)] at P
    dsimp only
    clear F₃ N₃ F N
    repeat' (first | walk1 | (dsimp only; walk1))
    exact hq _ _ _ items c F₅.keep hp₁ ⟨(N₅ _ (.head _)).1, fun it hi => (N₅ it (.tail _ hi)).1, P⟩
end
end Mine
/-! Line1 -/
namespace Mine
open PySem PySem.W PyProof.Rows PySem.Calls
set_option Elab.async false
set_option maxRecDepth 100000
section
variable {w : World} {A : Around} {s : Shared}
/-- a turn's end of a for over a list -/
def StepL (I l : Addr) (vs : Array Value) (J : Nat → Heap → Prop) (i : Nat) (s : Shared) (f : Flow) (s₃ : Shared) : Prop :=
  f = .next ∧ ∃ h' tk', s₃ = { s with heap := h', toks := tk' } ∧ h'.IsListIter I l (i + 1) ∧ h'.IsList l vs ∧ J (i + 1) h'
theorem loop_list {l I : Addr} {vs : Array Value} {target : Expr} {body : List Stmt} {env : Env} {Q : Flow → Shared → Prop} (hh : A.handled = none) (hne : l ≠ I) (J : Nat → Heap → Prop) (hit : s.heap.IsListIter I l 0) (hl : s.heap.IsList l vs) (h0 : J 0 s.heap)
    (keepJ : ∀ i h h', J i h → (∀ b o, b ≠ I → h.get? b = some o → h'.get? b = some o) → J i h')
    (turn : ∀ i v h tk, vs[i]? = some v → h.IsListIter I l (i + 1) → h.IsList l vs → J i h →
      wpAny (model prog w) A (assign target env v) (fun _ s₂ => wpAny (model prog w) A (execs body env) (StepL I l vs J i s) noE s₂) noE { s with heap := h, toks := tk })
    (done : ∀ h tk, J vs.size h → Q .next { s with heap := h, toks := tk }) (ht : ∀ v, letOwnedTupleGo target (.ref I) v = pure () := by intro _; rfl) :
    codeAny (model prog w) A (.forLoop target (.ref I) body [] env) (fun r s' => match r with | .ok f => Q f s' | .error e => cameBackBy (model prog w) A env noE e s') s := by
  have W := Walks.list (prog := prog) (w := w) (A := A) hh I l hne vs
  refine codeAny_forLoop (fun n s' => ∃ i h tk, s' = { s with heap := h, toks := tk } ∧ h.IsListIter I l i ∧ h.IsList l vs ∧ J i h ∧ i ≤ vs.size ∧ n = vs.size + 1 - i) ?_ (vs.size + 1) ⟨0, s.heap, s.toks, rfl, hit, hl, h0, Nat.zero_le _, rfl⟩ ht
  rintro n s' ⟨i, h, tk, rfl, hit', hl', hJ, hi, rfl⟩
  by_cases hlt : i < vs.size
  · refine W.item i _ _ _ hlt ⟨hit', hl'⟩ fun v h' tk' hP st' hk => ?_
    have hJ' : J i h' := keepJ i h h' hJ fun b o hb e => hk b o (by simpa using hb) e
    refine wpAny_mono (turn i v h' tk' hP st'.1 st'.2 hJ') (fun _ s₂ h₂ => wpAny_mono h₂ (fun f s₃ h₃ => ?_) fun _ _ q => q.elim) fun _ _ q => q.elim
    obtain ⟨rfl, h'', tk'', rfl, st'', sl'', hJ''⟩ := h₃
    exact ⟨vs.size + 1 - (i + 1), by omega, i + 1, h'', tk'', rfl, st'', sl'', hJ'', hlt, rfl⟩
  · obtain rfl : i = vs.size := by omega
    refine W.done _ _ _ ⟨hit', hl'⟩ fun h' tk' hk => ?_
    refine wpAny_execs_nil ?_
    exact done h' tk' (keepJ _ h h' hJ fun b o hb e => hk b o (by simpa using hb) e)
end
/-- the frame of _law_line -/
abbrev lm (nl : Addr) (tmk : Tok) (p : Addr) (m : Str → Option Value) : Str → Option Value := fun y =>
  if y = Str.ofString "numbers" then some (.ref nl) else if y = Str.ofString "marks" then some (.str (Str.ofString "!\"#$%&'()*+,-./:;<=>?@\x5b\\]^_`{|}~") tmk) else if y = Str.ofString "signs" then some (.ref p) else m y
theorem fr_lm {h₀ h : Heap} {L p nl : Addr} {m : Str → Option Value} {tmk : Tok} (F : Fr h₀ L h m) (h1 : m (Str.ofString "numbers") = some (.ref nl)) (h2 : m (Str.ofString "marks") = some (.str (Str.ofString "!\"#$%&'()*+,-./:;<=>?@\x5b\\]^_`{|}~") tmk)) (h3 : m (Str.ofString "signs") = some (.ref p)) :
    Fr h₀ L h (lm nl tmk p m) := by
  have : lm nl tmk p m = m := by
    funext y
    unfold lm
    split
    · next e => rw [e, h1]
    · split
      · next e => rw [e, h2]
      · split
        · next e => rw [e, h3]
        · rfl
  rw [this]; exact F
local macro_rules | `(tactic| walk_at "eval Name") => `(tactic| first
  | (with_reducible refine nm_len (by assumption) (by assumption) ?_ ?_ ?_; kernel_rfl; kernel_rfl)
  | (with_reducible refine nm_chr (by assumption) (by assumption) ?_ ?_ ?_; kernel_rfl; kernel_rfl))
theorem fm (x k : Int) (hk : 0 < k) : 0 ≤ x.fmod k ∧ x.fmod k < k := ⟨Int.fmod_nonneg_of_pos x hk, Int.fmod_lt_of_pos x hk⟩
section
variable {w : World} {A : Around} {s : Shared} {E : Value → Shared → Prop} {Q : Value → Shared → Prop}
theorem chr_fm {x k : Int} {t : Tok} (hk : 0 < k) (hk1 : k ≤ 1114112) (h : ∀ c, c < 0x110000 → Q (.str (oneStr c) s.toks) { s with toks := s.toks + 1 }) : wpAny (model prog w) A (call (.builtin "chr") [.int (x.fmod k) t]) Q E s := by
  have := fm x k hk
  exact chr_of_range this.1 (by omega) (h _ (by omega))
theorem chr_add {x k a : Int} {t : Tok} (hk : 0 < k) (ha : 0 ≤ a) (hk1 : a + k ≤ 1114112) (h : ∀ c, c < 0x110000 → Q (.str (oneStr c) s.toks) { s with toks := s.toks + 1 }) : wpAny (model prog w) A (call (.builtin "chr") [.int (a + x.fmod k) t]) Q E s := by
  have := fm x k hk
  exact chr_of_range (by omega) (by omega) (h _ (by omega))
end
local macro_rules | `(tactic| walk_at "call builtin:chr") => `(tactic| first
  | (refine chr_fm (by decide) (by decide) ?_; intro _ _)
  | (refine chr_add (by decide) (by decide) (by decide) ?_; intro _ _))
def One (x : Str) : Prop := ∃ c, x = oneStr c ∧ c < 0x110000
theorem item_one {x : Str} {i : Int} (h : x.cps.all (· < 0x110000) = true) : One (Txt.item x i) := by
  unfold Txt.item
  refine ⟨_, rfl, ?_⟩
  unfold Txt.charAt
  cases hs : seqIndex? i x.length with
  | none => show 0 < _; decide
  | some j =>
    rw [Option.bind_some]
    cases hj : x.cps[j]? with
    | none => show 0 < _; decide
    | some c =>
      rw [← Array.all_toList] at h
      have := List.all_eq_true.mp h c (by
        have := Array.mem_of_getElem? hj
        simpa using this)
      simpa using this
section
variable {w : World} {A : Around} {s : Shared} {E : Value → Shared → Prop} {Q : Value → Shared → Prop} {h₀ : Heap} {L : Addr}
theorem item4 {value slice : Expr} {b : Addr} {n : Nat} {x1 x2 x3 x4 : Str} {t1 t2 t3 t4 u : Tok} {k : Int} (hb : s.heap.get? b = some { cls := .type "list", data := .seq #[.str x1 t1, .str x2 t2, .str x3 t3, .str x4 t4] n }) (hk : 0 ≤ k ∧ k < 4) (o1 : One x1) (o2 : One x2) (o3 : One x3) (o4 : One x4)
    (h : ∀ c t, c < 0x110000 → Q (.str (oneStr c) t) s)
    (hs : subscripted slice false (.ref b) (.int k u) = operate [.ref b, .int k u] (getItem (.ref b) (.int k u)) := by with_unfolding_all rfl) :
    wpAny (model prog w) A (subscriptTail value slice (.ref b) (.int k u)) Q E s := by
  have hl : s.heap.IsList b #[.str x1 t1, .str x2 t2, .str x3 t3, .str x4 t4] := ⟨_, hb, rfl, _, rfl⟩
  obtain ⟨c1, rfl, q1⟩ := o1
  obtain ⟨c2, rfl, q2⟩ := o2
  obtain ⟨c3, rfl, q3⟩ := o3
  obtain ⟨c4, rfl, q4⟩ := o4
  have hc : k = 0 ∨ k = 1 ∨ k = 2 ∨ k = 3 := by omega
  rcases hc with rfl | rfl | rfl | rfl
  · exact tail_any hl.typeIs slot_list_getitem.lookup (wpAny_getItem_list hl (by decide) (by decide) rfl (h c1 t1 q1)) hs
  · exact tail_any hl.typeIs slot_list_getitem.lookup (wpAny_getItem_list hl (by decide) (by decide) rfl (h c2 t2 q2)) hs
  · exact tail_any hl.typeIs slot_list_getitem.lookup (wpAny_getItem_list hl (by decide) (by decide) rfl (h c3 t3 q3)) hs
  · exact tail_any hl.typeIs slot_list_getitem.lookup (wpAny_getItem_list hl (by decide) (by decide) rfl (h c4 t4 q4)) hs
end
local macro_rules | `(tactic| walk_at "subscriptTail Constant BinOp str int") => `(tactic| (refine item_str_fmod (by decide) (by decide +kernel) (by decide +kernel) ?_; intro _))
local macro_rules | `(tactic| walk_at "subscriptTail List BinOp ref int") => `(tactic| with_reducible refine Halt.intro ?_)
local macro_rules | `(tactic| walk_at "subscriptTail List cons BinOp ref int") => `(tactic| with_reducible refine Halt.intro ?_)
local macro_rules | `(tactic| walk_at "call builtin:list.append") => `(tactic| with_reducible refine Halt.intro ?_)
local macro_rules | `(tactic| walk_at "call builtin:str.join") => `(tactic| with_reducible refine Halt.intro ?_)
local macro_rules | `(tactic| walk_at "no such key") => `(tactic| fail "no such key")
local macro_rules | `(tactic| walk_at "pyIter ref") => `(tactic| with_reducible refine Halt.intro ?_)
theorem sum_one : ∀ cs : List Nat, ((cs.map oneStr).map (·.length)).sum = cs.length
  | [] => rfl
  | c :: cs => by
    rw [List.map_cons, List.map_cons, List.sum_cons, sum_one cs, List.length_cons]
    have : (oneStr c).length = 1 := rfl
    omega
theorem join_go : ∀ cs : List Nat, Str.join (S []) (cs.map oneStr) = S cs
  | [] => rfl
  | [c] => rfl
  | c :: d :: cs => by
    have ih := join_go (d :: cs)
    rw [List.map_cons, List.map_cons]
    rw [List.map_cons] at ih
    unfold Str.join
    rw [ih]
    exact S_ext (by simp [Str.cps_append, oneStr])
theorem join_one (cs : List Nat) : Txt.join (S []) (cs.map oneStr) = S cs := by
  show Builtin.Str.glued _ _ = _
  rw [StrLaws.glued_eq_join]
  exact join_go cs
section
variable {w : World} {mean : ExcName → Option Value} {mg mb : Str → Option Value} {A : Around}
abbrev signsObj (vs : List Value) (c : Nat) : Obj := { cls := .type "list", data := .seq vs.toArray c }
structure LJ (h0 : Heap) (nl : Addr) (tmk : Tok) (p : Addr) (i : Nat) (h : Heap) (m : Str → Option Value) (vs : List Value) (cs : List Nat) (c : Nat) : Prop where
  F : Fr h0 h0.objs.size h (lm nl tmk p m)
  N : News h0 h0.objs.size h [(p, signsObj vs c)]
  S : StrsAre vs (cs.map oneStr)
  n : cs.length = i
  ok : ∀ x ∈ cs, x < 0x110000
set_option maxHeartbeats 4000000 in
theorem line_call {s : Shared} {nl : Addr} {vals : List Value} {ns : List Int} {Q : Value → Shared → Prop} (H : Base w mean mg mb s.heap) (hroom : A.depth + 5 < recursionLimit) (hu : A.units + 80 < cLine) (hh : A.handled = none) (hl : s.heap.IsList nl vals.toArray) (hi : IntsAre vals ns) (hn : ns.length ≤ 24)
    (hq : ∀ h' t' l tl, Ext s.heap h' → l.length ≤ 64 → (∀ c ∈ l, c < 0x110000) → Q (.str (S l) tl) { s with heap := h', toks := t' }) :
    wpAny (model prog w) A (PySem.call (.ref 187) [.ref nl]) Q noE s := by
  w_top off
  obtain ⟨h0, g0, d0, t0, os0⟩ := s
  refine enter (i := [20]) (c := 186) (name := Str.ofString "_law_line") (pm := .str (Str.ofString "law_lg0006_01") 413) (binds := [(Str.ofString "numbers", .ref nl)]) H (by omega) (by kernel_rfl) (by kernel_rfl) (by kernel_rfl) (by kernel_rfl) (by kernel_rfl) (by kernel_rfl) fun h₁ F => ?_
  have N : News h0 h0.objs.size h₁ [] := News.nil
  dsimp only at F N H hl
  with_unfolding_all refine wpAny_execs_cons ?_
  dsimp only
  iterate 10 (first | walk1 | (dsimp only; walk1))
  rename_i h₂ _ _ h₃ _ _ h₄ F₄ N₄
  with_unfolding_all refine wpAny_For ?_
  repeat' (first | walk1 | (dsimp only; walk1))
  refine Halt.mk ?_
  have hlt : nl < h0.objs.size := by
    obtain ⟨o, ho, _⟩ := hl
    exact Heap.lt_size ho
  have hL : h0.objs.size < h₄.objs.size := by
    obtain ⟨oL, es, ep, hL, _⟩ := F₄.ns
    exact Heap.lt_size hL
  have hpI : h₂.objs.size < h₄.objs.size := Heap.lt_size (N₄ _ (.head _)).1
  have hl₄ : h₄.IsList nl vals.toArray := hl.at fun o e => F₄.keep nl o e
  refine wpAny_pyIter_list hl₄ ?_
  dsimp only
  refine loop_list (vs := vals.toArray) hh (Nat.ne_of_lt (Nat.lt_trans hlt hL)) (fun i h => ∃ m vs cs c, LJ h0 nl (t0 + [(Str.ofString "numbers", Value.ref nl)].length) h₂.objs.size i h m vs cs c) ⟨_, Heap.get?_push_size _ rfl, rfl, rfl⟩ (hl₄.push _) ⟨_, [], [], 0, fr_lm (F₄.push _) (by kernel_rfl) (by kernel_rfl) (by kernel_rfl), fun q hq => ⟨Heap.get?_push_of_some _ (N₄ q hq).1, (N₄ q hq).2⟩, .nil, rfl, fun _ hx => nomatch hx⟩ ?_ ?_ ?_
  · rintro i h h' ⟨m, vs, cs, c, D⟩ k
    refine ⟨m, vs, cs, c, fr_not D.F k (Nat.ne_of_lt hL) (Nat.le_of_lt hL), news_not D.N k ?_, D.S, D.n, D.ok⟩
    intro q hq
    rw [List.mem_singleton.mp hq]
    exact Nat.ne_of_lt hpI
  · rintro i v h tk hv hit hls ⟨m, vs, cs, c, ⟨F₅, N₅, hS, hcn, hok⟩⟩
    obtain ⟨oI, hoI, hI⟩ := hit
    obtain ⟨n, hni, hn'⟩ : ∃ n, ns[i]? = some n ∧ ∃ t, v = .int n t := by
      have hlen := hi.length
      have hlt' : i < vals.length := by
        have := (Array.getElem?_eq_some_iff.mp hv).1
        simpa using this
      have hlt2 : i < ns.length := by omega
      obtain ⟨t, hx⟩ := hi.get i ns[i] (by simp [hlt2])
      refine ⟨ns[i], by simp [hlt2], t, ?_⟩
      have hv' : vals[i]? = some v := by simpa using hv
      rw [hx] at hv'
      exact (Option.some.inj hv').symm
    obtain ⟨tv, rfl⟩ := hn'
    have hNI : News h0 h0.objs.size h [(h₂.objs.size, signsObj vs c), (h₄.objs.size, oI)] := by
      intro q hq
      rcases List.mem_cons.mp hq with rfl | hq
      · exact N₅ _ (.head _)
      · rw [List.mem_singleton.mp hq]
        exact ⟨hoI, Nat.ne_of_gt hL, Heap.get?_none_of_le (Nat.le_of_lt hL)⟩
    clear N₅ F₄ N₄ F N hls
    dsimp only
    iterate 10 (first | walk1 | (dsimp only; walk1))
    rename_i h₆ F₆ N₆ h₇ F₇ N₇
    clear F₅ hNI F₆ N₆
    have f94 := fm (n.fdiv 4) 94 (by decide)
    have f32 := fm (n.fdiv 4) 32 (by decide)
    have f7 := fm (n.fdiv 4) 7 (by decide)
    have f4 := fm n 4 (by decide)
    refine wpAny_mono (Q := fun f s' => Halt (f = .next ∧ ∃ co tko, co < 0x110000 ∧ Aft h0 g0 d0 os0 (fun y => if y = Str.ofString "other" then some (.str (oneStr co) tko) else if y = Str.ofString "k" then some (Value.int (n.fdiv 4) (tk + 1 + 1)) else if y = Str.ofString "x" then some (Value.int n tv) else lm nl (t0 + [(Str.ofString "numbers", Value.ref nl)].length) h₂.objs.size m y) [(h₂.objs.size, signsObj vs c), (h₄.objs.size, oI)] s')) (E := noE) ?_ ?_ (fun _ _ q => q)
    · repeat' (first | walk1 | (dsimp only; walk1))
      all_goals exact Halt.mk ⟨by first | rfl | trivial, _, _, by assumption, _, _, rfl, by assumption, by assumption⟩
    rintro f s' ⟨rfl, co, tko, hco, h₈, tk₈, rfl, F₈, N₈⟩
    clear F₇ N₇
    dsimp only
    repeat' (first | walk1 | (dsimp only; walk1))
    dsimp only
    refine item_str_fmod (a := n.fdiv 4) (b := 7) (by decide) (by decide +kernel) (by decide +kernel) ?_
    intro _
    repeat' (first | walk1 | (dsimp only; walk1))
    rename_i cc hcc _ _ h₉ F₉ N₉
    refine Halt.mk ?_
    dsimp only at N₉ ⊢
    refine item4 (N₉ _ (.head _)).1 f4 ⟨cc, rfl, hcc⟩ (item_one (by decide +kernel)) (item_one (by decide +kernel)) ⟨co, rfl, hco⟩ fun c' tc' hc' => ?_
    have N₁₀ : News h0 h0.objs.size h₉ [(h₂.objs.size, signsObj vs c), (h₄.objs.size, oI)] := fun q hq => N₉ q (.tail _ hq)
    clear N₉ F₈ N₈
    repeat' (first | walk1 | (dsimp only; walk1))
    refine Halt.mk ?_
    have hvl : vs.length = cs.length := by
      have := hS.length
      simpa using this
    have hil : i < 24 := by
      have := (Array.getElem?_eq_some_iff.mp hv).1
      have hlen := hi.length
      simp at this
      omega
    refine append_at (N₁₀ _ (.head _)).1 (fun h₁₁ sb₁₁ ho₁₁ => ?_) (by rw [List.size_toArray, sizeLine_eq]; omega)
    have hNp := (N₁₀ _ (.head _)).2
    have F₁₁ := F₉.change sb₁₁ hNp.1 hNp.2
    have hoI₁₁ : h₁₁.get? h₄.objs.size = some oI := (sb₁₁.2 _ (Nat.ne_of_gt hpI)).trans (N₁₀ _ (.tail _ (.head _))).1
    clear F₉ N₁₀
    dsimp only
    repeat' (first | walk1 | (dsimp only; walk1))
    have ev : vs.toArray.push (Value.str (oneStr c') tc') = (vs ++ [Value.str (oneStr c') tc']).toArray := by simp
    rw [ev] at ho₁₁
    refine ⟨rfl, h₁₁, _, rfl, ⟨oI, hoI₁₁, hI⟩, hl.at fun o e => F₁₁.keep nl o e, _, vs ++ [Value.str (oneStr c') tc'], cs ++ [c'], c + 1, fr_lm F₁₁ (by kernel_rfl) (by kernel_rfl) (by kernel_rfl), fun q hq => ?_, ?_, by simp [hcn], ?_⟩
    · rw [List.mem_singleton.mp hq]
      exact ⟨ho₁₁, hNp⟩
    · rw [List.map_append]
      exact hS.append' (.cons _ _ .nil)
    · intro x hx
      rcases List.mem_append.mp hx with hx | hx
      · exact hok x hx
      · rw [List.mem_singleton.mp hx]; exact hc'
  · rintro h tk ⟨m, vs, cs, c, ⟨F₅, N₅, hS, hcn, hok⟩⟩
    dsimp only
    clear F₄ N₄ F N
    repeat' (first | walk1 | (dsimp only; walk1))
    refine Halt.mk ?_
    have hlen := hi.length
    have hcl : cs.length ≤ 24 := by simp at hcn; omega
    have hjl : ((cs.map oneStr).map (·.length)).sum = cs.length := sum_one cs
    refine join_listC (ys := cs.map oneStr) ⟨_, (N₅ _ (.head _)).1, rfl, _, rfl⟩ hS (by decide +kernel) (by rw [hjl, List.length_map]; omega) fun t' k => ?_
    rw [show Str.ofString "" = S [] from S_nil, join_one]
    dsimp only
    have hSl : (S cs).length ≤ 24 := by rw [S_len]; exact hcl
    repeat' (first | walk1 | (dsimp only; walk1))
    have et : Str.ofString "a.\"*) \n\x0d/\n" = S [97, 46, 34, 42, 41, 32, 10, 13, 47, 10] := by decide +kernel
    have ea : (S cs ++ S [97, 46, 34, 42, 41, 32, 10, 13, 47, 10] : Str) = S (cs ++ [97, 46, 34, 42, 41, 32, 10, 13, 47, 10]) := S_ext (by simp [Str.cps_append])
    rw [et, ea]
    refine hq _ _ _ _ F₅.keep ?_ ?_
    · simp only [List.length_append, List.length_cons, List.length_nil]; omega
    · intro x hx
      rcases List.mem_append.mp hx with hx | hx
      · exact hok x hx
      · simp only [List.mem_cons, List.not_mem_nil, or_false] at hx
        omega
end
end Mine
/-! CompR -/
namespace Mine
open PySem PySem.W PyProof.Rows PySem.Calls
set_option Elab.async false
set_option maxRecDepth 100000
section
variable {w : World} {A : Around} {s : Shared} {E : Value → Shared → Prop}
theorem letOwned_list {I rl : Addr} {i : Nat} {elts : List Expr} {x1} {tp : Pos} {v : Value} {Q : Unit → Shared → Prop} (hit : s.heap.IsListIter I rl i) (h : Q () s) : wpAny (model prog w) A (letOwnedTupleGo (.Tuple elts x1 tp) (.ref I) v) Q E s := by
  obtain ⟨o, ho, hc, hd⟩ := hit
  unfold letOwnedTupleGo
  cases v with
  | ref a =>
    dsimp only
    refine wpAny_bind (wpAny_load ho ?_)
    rw [hc, hd]
    exact wpAny_pure h
  | _ => exact wpAny_pure h
theorem Has.keepBut {h h' : Heap} {p : Addr} {items : List (Addr × Obj)} {c : Nat} {l : List Part} {C : Nat} (x : Has h p items c l) (hp : C < p) (k : ∀ (b : Nat) o, C < b → h.get? b = some o → h'.get? b = some o) : Has h' p items c l :=
  ⟨k _ _ hp x.list, fun it hi => k _ _ (Nat.lt_trans hp (x.P.above it hi)) (x.its it hi), x.P⟩
/-- the list of lists of parts -/
structure Rows8 (h : Heap) (C : Nat) (rs : List Addr) (P : Nat → List Part) : Prop where
  each : ∀ j r, rs[j]? = some r → C < r ∧ ∃ items c, Has h r items c (P j)
theorem Rows8.keep {h h' : Heap} {C : Nat} {rs : List Addr} {P : Nat → List Part} (x : Rows8 h C rs P) (k : ∀ (b : Nat) o, C < b → h.get? b = some o → h'.get? b = some o) : Rows8 h' C rs P :=
  ⟨fun j r e => let ⟨hc, items, c, H⟩ := x.each j r e; ⟨hc, items, c, H.keepBut hc k⟩⟩
abbrev refsObj (rs : List Addr) (c : Nat) : Obj := { cls := .type "list", data := .seq (rs.map Value.ref).toArray c }
set_option maxHeartbeats 1000000 in
theorem comp_rows {elt iter : Expr} {elts : List Expr} {x1} {tp : Pos} {scope : Scope} {pos : Pos} {cl : List (Str × Addr)} {env : Env} {rl : Addr} {its : Array Value} {P : Nat → List Part} {Q : Value → Shared → Prop}
    (hh : A.handled = none) (hclos : closureFor scope env = pure cl) (hcell : ∀ y ∈ scope.names, y.2 ≠ .cell) (hkind : scope.kind = .function) (hnames : ∀ y ∈ scope.names, y.2 = .local → scope.names.lookup y.1 = some .local)
    (hs : ∀ x, foldedSetIterable iter env x = pure x)
    (hiter : ∀ Q' : Value → Shared → Prop, Q' (.ref rl) s → wpAny (model prog w) A (eval iter env) Q' noE s) (hrl : s.heap.IsList rl its) (hsz : its.size ≤ 1000)
    (turn : ∀ i v C h tk m, its[i]? = some v → Ext s.heap h → s.heap.objs.size ≤ C → h.Ns C m →
      wpAny (model prog w) A (assign (.Tuple elts x1 tp) (compEnvC scope cl C env) v) (fun _ s₂ => wpAny (model prog w) A (eval elt (compEnvC scope cl C env)) (fun y s₃ => ∃ r h' tk' m' items c, y = .ref r ∧ s₃ = { s with heap := h', toks := tk' } ∧ (∀ b o, b ≠ C → h.get? b = some o → h'.get? b = some o) ∧ h'.Ns C m' ∧ C < r ∧ Has h' r items c (P i)) noE s₂) noE { s with heap := h, toks := tk })
    (done : ∀ D C rs h' tk' c, Ext s.heap h' → s.heap.objs.size ≤ D → D < C → h'.get? D = some (refsObj rs c) → rs.length = its.size → Rows8 h' C rs P → Q (.ref D) { s with heap := h', toks := tk' }) :
    wpAny (model prog w) A (eval (.ListComp elt [⟨.Tuple elts x1 tp, iter, [], 0⟩] scope pos) env) Q noE s := by
  rw [eval_ListComp]
  refine wpAny_comprehension_free (use := none) rfl hs hclos hkind hnames (hiter _ (wpAny_pyIter_list hrl ?_))
  refine wpAny_newList ?_
  refine wpAny_newFunctionEnv hcell (by intro y hy; simp at hy) (fun h₁ hns₁ hsb₁ => ?_) hkind
  dsimp only at hns₁ hsb₁ ⊢
  generalize hI : s.heap.objs.size = I at *
  generalize hH1 : s.heap.push { cls := Value.type "list_iterator", data := Data.fields #[Value.ref rl, Value.int 0 0] } = H1 at *
  have hz1 : H1.objs.size = I + 1 := by rw [← hH1, Heap.size_push, hI]
  rw [hz1]
  generalize hH2 : H1.push { cls := Value.type "list", data := Data.seq #[] } = H2 at *
  have hz2 : H2.objs.size = I + 2 := by rw [← hH2, Heap.size_push, hz1]
  rw [hz2] at hns₁ hsb₁ ⊢
  have old : Ext s.heap h₁ := fun (b : Nat) o e => hsb₁.extBut b o (show (b : Nat) ≠ I + 2 by have : @LT.lt Nat _ b I := hI ▸ Heap.lt_size e; omega) (Heap.get?_push_of_some _ (hH2 ▸ Heap.get?_push_of_some _ (hH1 ▸ Heap.get?_push_of_some _ e)))
  have hit : h₁.IsListIter I rl 0 := ⟨_, hsb₁.extBut _ _ (show I ≠ I + 2 by omega) (Heap.get?_push_of_some _ (hH2 ▸ Heap.get?_push_of_some _ (hH1 ▸ (Heap.get?_push_at hI.symm rfl)))), rfl, rfl⟩
  have hD : h₁.get? (I + 1) = some (refsObj [] 0) := hsb₁.extBut _ _ (show I + 1 ≠ I + 2 by omega) (Heap.get?_push_of_some _ (hH2 ▸ (Heap.get?_push_at hz1.symm rfl)))
  have hrlt : rl < I := by
    obtain ⟨o, ho, _⟩ := hrl
    exact hI ▸ Heap.lt_size ho
  have W := Walks.list (prog := prog) (w := w) (A := A) hh I rl (Nat.ne_of_lt hrlt) its
  have loop : codeAny (model prog w) A (.compLoop (.ListComp elt [⟨.Tuple elts x1 tp, iter, [], 0⟩] scope pos) 0 (.ref I) (.ref (I + 1)) (compEnvC scope cl (I + 2) env)) (compPost (model prog w) A noE none Q (.ref (I + 1)) (I + 2)) { s with heap := h₁, toks := s.toks + ([] : List (Str × Value)).length } := by
    refine LCp.codeAny_compLoop_pair (fun n s' => ∃ i h tk rs c m, s' = { s with heap := h, toks := tk } ∧ h.IsListIter I rl i ∧ Ext s.heap h ∧ h.get? (I + 1) = some (refsObj rs c) ∧ rs.length = i ∧ Rows8 h (I + 2) rs P ∧ h.Ns (I + 2) m ∧ i ≤ its.size ∧ n = its.size + 1 - i) ?_ (its.size + 1) ⟨0, h₁, _, [], 0, _, rfl, hit, old, hD, rfl, ⟨fun j r e => by simp at e⟩, hns₁, Nat.zero_le _, rfl⟩
    rintro n s' ⟨i, h, tk, rs, c, m, rfl, hit', hext, hD', hrs, hR, hC', hi, rfl⟩
    have hrl' : h.IsList rl its := hrl.at fun o e => hext _ _ e
    by_cases hlt : i < its.size
    · refine W.item i _ _ _ hlt ⟨hit', hrl'⟩ fun v h' tk' hv st' hk => ?_
      have hk' : ∀ (b : Nat) o, b ≠ I → h.get? b = some o → h'.get? b = some o := fun b o hb e => hk b o (by simpa using hb) e
      have hext' : Ext s.heap h' := fun (b : Nat) o e => hk' b o (by have : @LT.lt Nat _ b I := hI ▸ Heap.lt_size e; omega) (hext b o e)
      have hC'' : h'.Ns (I + 2) m := by
        obtain ⟨oC, es, ep, hoC, r⟩ := hC'
        exact ⟨oC, es, ep, hk' _ _ (by omega) hoC, r⟩
      refine letOwned_list st'.1 ?_
      refine wpAny_mono (turn i v (I + 2) h' tk' m hv hext' (by omega) hC'') (fun _ s₂ h₂ => wpAny_mono h₂ (fun y s₃ h₃ => ?_) fun _ _ q => q.elim) fun _ _ q => q.elim
      obtain ⟨r, h'', tk'', m'', items, c', rfl, rfl, hk'', hns'', hCr, hH⟩ := h₃
      have hD'' : h''.get? (I + 1) = some (refsObj rs c) := hk'' _ _ (by omega) (hk' _ _ (by omega) hD')
      refine append_at hD'' (fun h₄ sb₄ ho₄ => ?_) (by rw [List.size_toArray, List.length_map, sizeLine_eq]; omega)
      have e4 : ((rs.map Value.ref).toArray.push (Value.ref r)) = ((rs ++ [r]).map Value.ref).toArray := by simp
      rw [e4] at ho₄
      have k4 : ∀ (b : Nat) o, b ≠ I + 1 → h''.get? b = some o → h₄.get? b = some o := fun b o hb e => (sb₄.2 b hb).trans e
      refine ⟨its.size + 1 - (i + 1), by omega, i + 1, h₄, _, rs ++ [r], c + 1, m'', rfl, ?_, fun (b : Nat) o e => ?_, ho₄, by simp [hrs], ⟨fun j r' e => ?_⟩, ?_, by omega, rfl⟩
      · obtain ⟨oI, hoI, hcI⟩ := st'.1
        exact ⟨oI, k4 _ _ (by omega) (hk'' _ _ (by omega) hoI), hcI⟩
      · have : @LT.lt Nat _ b I := hI ▸ Heap.lt_size e
        exact k4 _ _ (by omega) (hk'' _ _ (by omega) (hext' b o e))
      · by_cases hj : j < rs.length
        · rw [List.getElem?_append_left hj] at e
          obtain ⟨hc1, it1, c1, H1⟩ := hR.each j r' e
          exact ⟨hc1, it1, c1, H1.keepBut hc1 fun b o hb e => k4 _ _ (by omega) (hk'' _ _ (by omega) (hk' _ _ (by omega) e))⟩
        · rw [List.getElem?_append_right (by omega)] at e
          have hj0 : j = rs.length := by
            cases hq : j - rs.length with
            | zero => omega
            | succ z => rw [hq] at e; simp at e
          subst hj0
          simp at e
          subst e
          refine ⟨hCr, items, c', ?_⟩
          rw [hrs]
          exact hH.keepBut hCr fun b o hb e => k4 _ _ (by omega) e
      · obtain ⟨oC, es, ep, hoC, r⟩ := hns''
        exact ⟨oC, es, ep, k4 _ _ (by omega) hoC, r⟩
    · obtain rfl : i = its.size := by omega
      refine W.done _ _ _ ⟨hit', hrl'⟩ fun h' tk' hk => ?_
      have hk' : ∀ (b : Nat) o, b ≠ I → h.get? b = some o → h'.get? b = some o := fun b o hb e => hk b o (by simpa using hb) e
      obtain ⟨oC, es, ep, hoC, r⟩ := hC'
      refine ⟨m, ⟨oC, es, ep, hk' _ _ (by omega) hoC, r⟩, fun h'' sb => ?_⟩
      refine done (I + 1) (I + 2) rs h'' tk' c (fun (b : Nat) o e => ?_) (by omega) (by omega) ((sb.2 _ (show I + 1 ≠ I + 2 by omega)).trans (hk' _ _ (by omega) hD')) hrs (hR.keep fun (b : Nat) o hb e => (sb.2 _ (show (b : Nat) ≠ I + 2 by omega)).trans (hk' _ _ (by omega) e))
      have : @LT.lt Nat _ b I := hI ▸ Heap.lt_size e
      exact (sb.2 _ (show (b : Nat) ≠ I + 2 by omega)).trans (hk' b o (by omega) (hext b o e))
  refine codeAny_compStart_list loop (W.self 0 _ _ _ ⟨hit, hrl.at fun o e => old _ _ e⟩ loop)
end
end Mine
/-! Ends -/
namespace Mine
open PySem PySem.W PyProof.Rows PySem.Calls
set_option Elab.async false
set_option maxRecDepth 100000
/-- the codes of a list of one-sign texts -/
def codes (le : List Str) : List Nat := le.map fun x => x.cps.toList.headD 0
def endsOk (le : List Str) (mk mo : List Nat) : Bool := (le == (codes le).map oneStr) && Plain.ruleOk (codes le) mk mo
theorem one_inj {a b : Nat} (h : oneStr a = oneStr b) : a = b := by
  unfold oneStr at h
  injection h with h
  injection h with h
  injection h
theorem mem_codes {ns : List Nat} {c : Nat} : decide (oneStr c ∈ ns.map oneStr) = ns.contains c := by
  rw [Bool.eq_iff_iff, decide_eq_true_eq, List.contains_iff_mem, List.mem_map]
  constructor
  · rintro ⟨a, ha, e⟩
    rw [← one_inj e]; exact ha
  · exact fun h => ⟨c, h, rfl⟩
theorem ends_is {le : List Str} {mk mo : List Nat} (h : endsOk le mk mo = true) (c : Nat) : decide (oneStr c ∈ le) = (Plain.wspC c || Plain.dueE mk mo c) := by
  unfold endsOk at h
  rw [Bool.and_eq_true, beq_iff_eq] at h
  rw [← Plain.rule_ok h.2 c, ← mem_codes, ← h.1]
theorem kind_or (white wsp e : Nat → Bool) (l : Option Part) (c : Nat) : Plain.kind white wsp (fun x => wsp x || e x) l c = Plain.kind white wsp e l c := by
  unfold Plain.kind
  cases h : wsp c <;> simp [h]
theorem add_or (white wsp e : Nat → Bool) : Plain.add white wsp (fun x => wsp x || e x) = Plain.add white wsp e := by
  funext P c
  unfold Plain.add
  simp only [kind_or]
/-- the plain law: what is told is what is due -/
theorem told_is_due {le : List Str} {mk mo : List Nat} (h : endsOk le mk mo = true) (l : List Nat) : Plain.toldF whiteC Plain.wspC (fun c => decide (oneStr c ∈ le)) l.length l = l.foldl (dueAdd mk mo) [] := by
  have e : (fun c => decide (oneStr c ∈ le)) = fun x => Plain.wspC x || Plain.dueE mk mo x := funext (ends_is h)
  rw [e]
  have := Plain.told_due (white := whiteC) (wsp := Plain.wspC) (e := fun x => Plain.wspC x || Plain.dueE mk mo x) (fun c => wsp_white) (fun c hc => by simp [hc]) l.length l [] (Nat.le_refl _) (fun k a c r hk => by simp at hk)
  rw [add_or, List.nil_append] at this
  exact this.symm
end Mine
/-! Comp2 -/
namespace Mine
open PySem PySem.W PyProof.Rows PySem.Calls
set_option Elab.async false
set_option maxRecDepth 100000
abbrev lawEnv (L : Addr) : Env := envX (Str.ofString "law") (fScope (stAt [24])) L 213 (.ref 212) [(Str.ofString "line", L + 1)]
abbrev compSc (f : Str) : Scope := { kind := .function, names := [(Str.ofString ".0", .local), (Str.ofString "ends", .local), (Str.ofString "marks", .local), (Str.ofString "more", .local), (f, .globalImplicit), (Str.ofString "line", .free)], isGenerator := false, isCoroutine := false }
abbrev cEnv (f : Str) (C L : Addr) : Env := compEnvC (compSc f) [(Str.ofString "line", L + 1)] C (lawEnv L)
/-- a row of the table of rules -/
structure Rule where
  e : Addr
  le : List Str
  mks : List Nat
  mos : List Nat
  tms : Tok
  tos : Tok
abbrev ruleObj (r : Rule) : Obj := { cls := .type "tuple", data := .seq #[.ref r.e, .str (S r.mks) r.tms, .str (S r.mos) r.tos] }
def olds (h₀ h : Heap) (C : Nat) : List (Addr × Obj) := (List.range h.objs.size).filterMap fun b => if b = C ∨ (h₀.get? b).isSome = true then none else (h.get? b).map ((b : Addr), ·)
theorem olds_mem {h₀ h : Heap} {C b : Nat} {o : Obj} : ((b : Addr), o) ∈ olds h₀ h C ↔ h.get? b = some o ∧ b ≠ C ∧ h₀.get? b = none := by
  unfold olds
  rw [List.mem_filterMap]
  constructor
  · rintro ⟨a, ha, e⟩
    split at e
    · cases e
    · rename_i hn
      obtain ⟨o', ho', e'⟩ := Option.map_eq_some_iff.mp e
      injection e' with e1 e2
      subst e1 e2
      refine ⟨ho', fun q => hn (.inl q), ?_⟩
      cases hq : h₀.get? a with
      | none => rfl
      | some x => exact absurd (.inr (by rw [hq]; rfl)) hn
  · rintro ⟨h1, h2, h3⟩
    refine ⟨b, List.mem_range.mpr (Heap.lt_size h1), ?_⟩
    rw [if_neg (by rintro (x | x); exact h2 x; rw [h3] at x; cases x), h1]
    rfl
theorem olds_news {h₀ h : Heap} {C : Nat} : News h₀ C h (olds h₀ h C) := fun _ hq => olds_mem.mp hq
theorem olds_keep {h₀ h h' : Heap} {C : Nat} {m : Str → Option Value} (F : Fr h₀ C h' m) (N : News h₀ C h' (olds h₀ h C)) (k : Ext h₀ h) : ∀ (b : Nat) o, b ≠ C → h.get? b = some o → h'.get? b = some o := fun b o hb e => by
  cases hq : h₀.get? b with
  | none => exact (N (b, o) (olds_mem.mpr ⟨e, hb, hq⟩)).1
  | some x =>
    have := k b x hq
    rw [e] at this
    injection this with this
    subst this
    exact F.keep b _ hq
section
variable {w : World} {A : Around} {s : Shared} {E : Value → Shared → Prop} {h₀ : Heap} {L C : Addr} {m : Str → Option Value} {x f : Str} {pos : Pos} {v : Value} {news : List (Addr × Obj)}
theorem storeC {Q : Unit → Shared → Prop} (F : Fr h₀ C s.heap m) (N : News h₀ C s.heap news) (hx : (cEnv f C L).kindOf x = some .local)
    (h : ∀ h', Fr h₀ C h' (fun y => if y = x then some v else m y) → News h₀ C h' news → Q () { s with heap := h', toks := s.toks + 1 }) : wpAny (model prog w) A (storeName (cEnv f C L) x v) Q E s :=
  wpAny_storeName_local hx F.ns (fun h' hn hs => h h' (F.set hn hs) (N.set hs)) rfl
theorem nameC_L {Q : Value → Shared → Prop} (F : Fr h₀ C s.heap m) (hv : m x = some v) (hx : (cEnv f C L).kindOf x = some .local) (h : Q v s) (hd : (x == ("__debug__" : Str)) = false := by decide) :
    wpAny (model prog w) A (eval (.Name x pos) (cEnv f C L)) Q E s := wpAny_Name (wpAny_loadName_local rfl hx F.ns hv h) hd
theorem nameC_0 {Q : Value → Shared → Prop} (F : Fr h₀ C s.heap (fun y => if y = x then some v else m y)) (hx : (cEnv f C L).kindOf x = some .local) (h : Q v s) (hd : (x == ("__debug__" : Str)) = false := by decide) :
    wpAny (model prog w) A (eval (.Name x pos) (cEnv f C L)) Q E s := nameC_L F (if_pos rfl) hx h hd
theorem nameC_1 {x₁ : Str} {v₁ : Value} {Q : Value → Shared → Prop} (F : Fr h₀ C s.heap (fun y => if y = x₁ then some v₁ else if y = x then some v else m y)) (h1 : x ≠ x₁) (hx : (cEnv f C L).kindOf x = some .local) (h : Q v s) (hd : (x == ("__debug__" : Str)) = false := by decide) :
    wpAny (model prog w) A (eval (.Name x pos) (cEnv f C L)) Q E s := nameC_L F ((if_neg h1).trans (if_pos rfl)) hx h hd
theorem nameC_2 {x₁ x₂ : Str} {v₁ v₂ : Value} {Q : Value → Shared → Prop} (F : Fr h₀ C s.heap (fun y => if y = x₁ then some v₁ else if y = x₂ then some v₂ else if y = x then some v else m y)) (h1 : x ≠ x₁) (h2 : x ≠ x₂) (hx : (cEnv f C L).kindOf x = some .local) (h : Q v s) (hd : (x == ("__debug__" : Str)) = false := by decide) :
    wpAny (model prog w) A (eval (.Name x pos) (cEnv f C L)) Q E s := nameC_L F ((if_neg h1).trans ((if_neg h2).trans (if_pos rfl))) hx h hd
theorem nameC_cell {Q : Value → Shared → Prop} (F : Fr h₀ C s.heap m) (hc : h₀.IsCell (L + 1) (some v)) (hx : (cEnv f C L).kindOf (Str.ofString "line") = some .cell) (h : Q v s) :
    wpAny (model prog w) A (eval (.Name (Str.ofString "line") pos) (cEnv f C L)) Q E s := wpAny_Name (wpAny_loadName_cell rfl hx rfl (hc.keeps F.keep) h)
theorem nameC_K {mean : ExcName → Option Value} {mg mb : Str → Option Value} {Q : Value → Shared → Prop} (F : Fr h₀ C s.heap m) (H : Base w mean mg mb h₀) (e : nsIn (theK w.params) mainGlobals x = some (some v)) (hx : (cEnv f C L).kindOf x = some .globalImplicit) (h : Q v s) (hd : (x == ("__debug__" : Str)) = false := by decide) :
    wpAny (model prog w) A (eval (.Name x pos) (cEnv f C L)) Q E s := Name_function_global rfl hx (loadGlobal_global (env := cEnv f C L) (H.T.g.keeps F.keep) (mg_of H.X H.T.g e) h) hd
end
local macro_rules | `(tactic| walk_at "eval Name") => `(tactic| first
  | (with_reducible refine nameC_cell (by assumption) (by assumption) ?_ ?_; kernel_rfl)
  | (with_reducible refine nameC_K (x := Str.ofString "_law_told") (v := .ref 201) (by assumption) (by assumption) ?_ ?_ ?_; kernel_rfl; kernel_rfl)
  | (with_reducible refine nameC_K (x := Str.ofString "_law_due") (v := .ref 208) (by assumption) (by assumption) ?_ ?_ ?_; kernel_rfl; kernel_rfl)
  | (with_reducible refine nameC_0 (by assumption) ?_ ?_; kernel_rfl)
  | (with_reducible refine nameC_1 (by assumption) ?_ ?_ ?_; decide +kernel; kernel_rfl)
  | (with_reducible refine nameC_2 (by assumption) ?_ ?_ ?_ ?_; decide +kernel; decide +kernel; kernel_rfl))
local macro_rules | `(tactic| walk_at "storeName") => `(tactic| (refine storeC (by assumption) (by assumption) ?_ ?_; kernel_rfl; intro _ _ _))
local macro_rules | `(tactic| walk_at "callWith") => `(tactic| ((with_reducible show wpAny _ _ (callWith _ (Value.ref _) _ _ _) _ _ _); with_reducible refine Halt.intro ?_))
abbrev tgt (a1 a2 a3 : Pos) : List Expr := [.Name (Str.ofString "ends") a1, .Name (Str.ofString "marks") a2, .Name (Str.ofString "more") a3]
/-- what a turn leaves behind -/
def Left (s : Shared) (h : Heap) (C : Nat) (P : List Part) (y : Value) (s₃ : Shared) : Prop := ∃ r h' tk' m' items c, y = .ref r ∧ s₃ = { s with heap := h', toks := tk' } ∧ (∀ (b : Nat) o, b ≠ C → h.get? b = some o → h'.get? b = some o) ∧ h'.Ns C m' ∧ C < r ∧ Has h' r items c P
section
variable {w : World} {mean : ExcName → Option Value} {mg mb : Str → Option Value} {A : Around}
set_option maxHeartbeats 4000000 in
theorem told_turn {s : Shared} {h : Heap} {tk : Nat} {m : Str → Option Value} {C L t : Addr} {l : List Nat} {tl : Tok} {r : Rule} {x1 : Nat} {tp a1 a2 a3 p1 p2 p3 p4 : Pos} (H : Base w mean mg mb s.heap) (hroom : A.depth + 8 < recursionLimit) (hu : A.units + 80 < cLine) (hh : A.handled = none) (hl : l.length ≤ 64)
    (hcell : s.heap.IsCell (L + 1) (some (.str (S l) tl))) (ht : s.heap.get? t = some (ruleObj r)) (Se : SL w s.heap r.e r.le) (hext : Ext s.heap h) (hC : s.heap.objs.size ≤ C) (hns : h.Ns C m) :
    wpAny (model prog w) A (assign (.Tuple (tgt a1 a2 a3) x1 tp) (cEnv (Str.ofString "_law_told") C L) (.ref t)) (fun _ s₂ => wpAny (model prog w) A (eval (.Call (.Name (Str.ofString "_law_told") p1) [.Name (Str.ofString "line") p2, .Name (Str.ofString "ends") p3] [] p4) (cEnv (Str.ofString "_law_told") C L))
      (Left s h C (Plain.toldF whiteC Plain.wspC (fun c => decide (oneStr c ∈ r.le)) l.length l)) noE s₂) noE { s with heap := h, toks := tk } := by
  w_top off
  obtain ⟨h0, g0, d0, t0, os0⟩ := s
  dsimp only at H hcell ht Se hext hC
  have F : Fr h0 C h m := ⟨hns, hext, hC⟩
  have N : News h0 C h (olds h0 h C) := olds_news
  have hcn : C < h.objs.size := by
    obtain ⟨oC, _, _, hoC, _⟩ := hns
    exact Heap.lt_size hoC
  refine unpackN_ (items := #[.ref r.e, .str (S r.mks) r.tms, .str (S r.mos) r.tos]) F N ⟨_, hext _ _ ht, rfl, _, rfl⟩ hh rfl rfl ?_
  intro h₁ F₁ N₁
  clear F N hns
  repeat' (first | walk1 | (dsimp only; walk1))
  rename_i h₂ _ _ h₃ _ _ h₄ F₄ N₄
  refine Halt.mk ?_
  with_unfolding_all refine callWith_K (K := theK w.params) H.X (by kernel_rfl) ?_
  repeat' (first | walk1 | (dsimp only; walk1))
  · exact H.X.keeps F₄.keep
  refine told_call (H.keeps F₄.keep) (by omega) (by omega) hh hl (Se.at fun o e => F₄.keep _ _ e) fun h₅ t₅ p items c k₅ hp₅ hH => ?_
  dsimp only at k₅ hp₅
  have hn₄ : C < h₄.objs.size := by
    obtain ⟨oC, _, _, hoC, _⟩ := F₄.ns
    exact Heap.lt_size hoC
  exact ⟨p, h₅, _, _, items, c, rfl, rfl, fun b o hb e => k₅ _ _ (olds_keep F₄ N₄ hext b o hb e), F₄.ns.keeps k₅, Nat.lt_of_lt_of_le hn₄ hp₅, hH⟩
set_option maxHeartbeats 4000000 in
theorem due_turn {s : Shared} {h : Heap} {tk : Nat} {m : Str → Option Value} {C L t : Addr} {l : List Nat} {tl : Tok} {r : Rule} {x1 : Nat} {tp a1 a2 a3 p1 p2 p3 p4 p5 : Pos} (H : Base w mean mg mb s.heap) (hroom : A.depth + 8 < recursionLimit) (hu : A.units + 80 < cLine) (hh : A.handled = none) (hl : l.length ≤ 64) (hcs : ∀ c ∈ l, c < 0x110000)
    (hcell : s.heap.IsCell (L + 1) (some (.str (S l) tl))) (ht : s.heap.get? t = some (ruleObj r)) (hext : Ext s.heap h) (hC : s.heap.objs.size ≤ C) (hns : h.Ns C m) :
    wpAny (model prog w) A (assign (.Tuple (tgt a1 a2 a3) x1 tp) (cEnv (Str.ofString "_law_due") C L) (.ref t)) (fun _ s₂ => wpAny (model prog w) A (eval (.Call (.Name (Str.ofString "_law_due") p1) [.Name (Str.ofString "line") p2, .Name (Str.ofString "marks") p3, .Name (Str.ofString "more") p5] [] p4) (cEnv (Str.ofString "_law_due") C L))
      (Left s h C (l.foldl (dueAdd r.mks r.mos) [])) noE s₂) noE { s with heap := h, toks := tk } := by
  w_top off
  obtain ⟨h0, g0, d0, t0, os0⟩ := s
  dsimp only at H hcell ht hext hC
  have F : Fr h0 C h m := ⟨hns, hext, hC⟩
  have N : News h0 C h (olds h0 h C) := olds_news
  have hcn : C < h.objs.size := by
    obtain ⟨oC, _, _, hoC, _⟩ := hns
    exact Heap.lt_size hoC
  refine unpackN_ (items := #[.ref r.e, .str (S r.mks) r.tms, .str (S r.mos) r.tos]) F N ⟨_, hext _ _ ht, rfl, _, rfl⟩ hh rfl rfl ?_
  intro h₁ F₁ N₁
  clear F N hns
  repeat' (first | walk1 | (dsimp only; walk1))
  rename_i h₂ _ _ h₃ _ _ h₄ F₄ N₄
  refine Halt.mk ?_
  with_unfolding_all refine callWith_K (K := theK w.params) H.X (by kernel_rfl) ?_
  repeat' (first | walk1 | (dsimp only; walk1))
  · exact H.X.keeps F₄.keep
  refine due_call (H.keeps F₄.keep) (by omega) (by omega) hh hl hcs fun h₅ t₅ p items c k₅ hp₅ hH => ?_
  dsimp only at k₅ hp₅
  have hn₄ : C < h₄.objs.size := by
    obtain ⟨oC, _, _, hoC, _⟩ := F₄.ns
    exact Heap.lt_size hoC
  exact ⟨p, h₅, _, _, items, c, rfl, rfl, fun b o hb e => k₅ _ _ (olds_keep F₄ N₄ hext b o hb e), F₄.ns.keeps k₅, Nat.lt_of_lt_of_le hn₄ hp₅, hH⟩
end
end Mine
/-! Comp3 -/
namespace Mine
open PySem PySem.W PyProof.Rows PySem.Calls
set_option Elab.async false
set_option maxRecDepth 100000
/-- the table of rules in the heap -/
structure Table (w : World) (h : Heap) (rl : Addr) (its : Array Value) (rs : List Rule) : Prop where
  list : h.IsList rl its
  size : its.size = rs.length
  small : rs.length ≤ 50
  each : ∀ (i : Nat) (v : Value), its[i]? = some v → ∃ (r : Rule) (t : Addr), rs[i]? = some r ∧ v = Value.ref t ∧ h.get? t = some (ruleObj r) ∧ SL w h r.e r.le
  ok : ∀ r ∈ rs, endsOk r.le r.mks r.mos = true
theorem Table.keeps {w : World} {h h' : Heap} {rl : Addr} {its : Array Value} {rs : List Rule} (T : Table w h rl its rs) (k : Ext h h') : Table w h' rl its rs :=
  ⟨T.list.at fun _ e => k _ _ e, T.size, T.small, fun i v e => let ⟨r, t, h1, h2, h3, h4⟩ := T.each i v e; ⟨r, t, h1, h2, k _ _ h3, h4.at fun _ e => k _ _ e⟩, T.ok⟩
def toldP (rs : List Rule) (l : List Nat) (i : Nat) : List Part := match rs[i]? with
  | some r => Plain.toldF whiteC Plain.wspC (fun c => decide (oneStr c ∈ r.le)) l.length l
  | none => []
def dueP (rs : List Rule) (l : List Nat) (i : Nat) : List Part := match rs[i]? with
  | some r => l.foldl (dueAdd r.mks r.mos) []
  | none => []
theorem told_dueP {w : World} {h : Heap} {rl : Addr} {its : Array Value} {rs : List Rule} (T : Table w h rl its rs) (l : List Nat) : toldP rs l = dueP rs l := by
  funext i
  unfold toldP dueP
  cases e : rs[i]? with
  | none => rfl
  | some r => exact told_is_due (T.ok r (List.mem_of_getElem? e)) l
theorem dueP_ok {rs : List Rule} {l : List Nat} (hcs : ∀ c ∈ l, c < 0x110000) (i : Nat) : PartsOk (dueP rs l i) := by
  unfold dueP
  cases e : rs[i]? with
  | none => exact fun _ hx => nomatch hx
  | some r => exact ok_of (fold_ok (fun _ hx => nomatch hx) hcs)
section
variable {w : World} {mean : ExcName → Option Value} {mg mb : Str → Option Value} {A : Around}
theorem clos_is (f : Str) (L : Addr) : closureFor (compSc f) (lawEnv L) = pure [(Str.ofString "line", L + 1)] := by kernel_rfl
theorem told_comp {s : Shared} {L rl : Addr} {l : List Nat} {tl : Tok} {its : Array Value} {rs : List Rule} {x1 : Nat} {tp a1 a2 a3 p1 p2 p3 p4 p5 p6 : Pos} {Q : Value → Shared → Prop} (H : Base w mean mg mb s.heap) (hroom : A.depth + 8 < recursionLimit) (hu : A.units + 80 < cLine) (hh : A.handled = none) (hl : l.length ≤ 64)
    (hcell : s.heap.IsCell (L + 1) (some (.str (S l) tl))) (T : Table w s.heap rl its rs)
    (hiter : ∀ Q' : Value → Shared → Prop, Q' (.ref rl) s → wpAny (model prog w) A (eval (.Name (Str.ofString "rules") p5) (lawEnv L)) Q' noE s)
    (done : ∀ D C ads h' tk' c, Ext s.heap h' → s.heap.objs.size ≤ D → D < C → h'.get? D = some (refsObj ads c) → ads.length = its.size → Rows8 h' C ads (toldP rs l) → Q (.ref D) { s with heap := h', toks := tk' }) :
    wpAny (model prog w) A (eval (.ListComp (.Call (.Name (Str.ofString "_law_told") p1) [.Name (Str.ofString "line") p2, .Name (Str.ofString "ends") p3] [] p4) [⟨.Tuple (tgt a1 a2 a3) x1 tp, .Name (Str.ofString "rules") p5, [], 0⟩] (compSc (Str.ofString "_law_told")) p6) (lawEnv L)) Q noE s := by
  have hz := T.size
  have hm := T.small
  refine comp_rows (cl := [(Str.ofString "line", L + 1)]) (P := toldP rs l) hh (clos_is _ L) (by decide +kernel) rfl (by decide +kernel) (fun _ => rfl) hiter T.list (by omega) (fun i v C h tk m e hext hC hns => ?_) done
  obtain ⟨r, t, hr, rfl, ht, Se⟩ := T.each i v e
  refine wpAny_mono (told_turn (r := r) H hroom hu hh hl hcell ht Se hext hC hns) (fun _ s₂ q => wpAny_mono q (fun y s₃ q => ?_) fun _ _ q => q) fun _ _ q => q
  unfold toldP
  rw [hr]
  exact q
theorem due_comp {s : Shared} {L rl : Addr} {l : List Nat} {tl : Tok} {its : Array Value} {rs : List Rule} {x1 : Nat} {tp a1 a2 a3 p1 p2 p3 p4 p5 p6 p7 : Pos} {Q : Value → Shared → Prop} (H : Base w mean mg mb s.heap) (hroom : A.depth + 8 < recursionLimit) (hu : A.units + 80 < cLine) (hh : A.handled = none) (hl : l.length ≤ 64) (hcs : ∀ c ∈ l, c < 0x110000)
    (hcell : s.heap.IsCell (L + 1) (some (.str (S l) tl))) (T : Table w s.heap rl its rs)
    (hiter : ∀ Q' : Value → Shared → Prop, Q' (.ref rl) s → wpAny (model prog w) A (eval (.Name (Str.ofString "rules") p5) (lawEnv L)) Q' noE s)
    (done : ∀ D C ads h' tk' c, Ext s.heap h' → s.heap.objs.size ≤ D → D < C → h'.get? D = some (refsObj ads c) → ads.length = its.size → Rows8 h' C ads (dueP rs l) → Q (.ref D) { s with heap := h', toks := tk' }) :
    wpAny (model prog w) A (eval (.ListComp (.Call (.Name (Str.ofString "_law_due") p1) [.Name (Str.ofString "line") p2, .Name (Str.ofString "marks") p3, .Name (Str.ofString "more") p7] [] p4) [⟨.Tuple (tgt a1 a2 a3) x1 tp, .Name (Str.ofString "rules") p5, [], 0⟩] (compSc (Str.ofString "_law_due")) p6) (lawEnv L)) Q noE s := by
  have hz := T.size
  have hm := T.small
  refine comp_rows (cl := [(Str.ofString "line", L + 1)]) (P := dueP rs l) hh (clos_is _ L) (by decide +kernel) rfl (by decide +kernel) (fun _ => rfl) hiter T.list (by omega) (fun i v C h tk m e hext hC hns => ?_) done
  obtain ⟨r, t, hr, rfl, ht, Se⟩ := T.each i v e
  refine wpAny_mono (due_turn (r := r) H hroom hu hh hl hcs hcell ht hext hC hns) (fun _ s₂ q => wpAny_mono q (fun y s₃ q => ?_) fun _ _ q => q) fun _ _ q => q
  unfold dueP
  rw [hr]
  exact q
end
theorem All2.get {α β : Type} {R : α → β → Prop} : ∀ {l : List α} {r : List β} {i : Nat} {a : α}, All2 R l r → l[i]? = some a → ∃ b, r[i]? = some b ∧ R a b
  | a :: l, b :: r, 0, _, h, e => ⟨b, rfl, by injection e with e; exact e ▸ h.1⟩
  | _ :: _, _ :: _, i + 1, _, h, e => All2.get (i := i) h.2 (by simpa using e)
theorem table_of {w : World} {h : Heap} {rl : Addr} {ts : List Addr} {rs : List Rule} {n : Nat} (hl : h.get? rl = some { cls := .type "list", data := .seq (ts.map Value.ref).toArray n }) (hs : rs.length ≤ 50) (ha : All2 (fun t r => h.get? t = some (ruleObj r) ∧ SL w h r.e r.le) ts rs)
    (ok : ∀ r ∈ rs, endsOk r.le r.mks r.mos = true) : Table w h rl (ts.map Value.ref).toArray rs :=
  ⟨⟨_, hl, rfl, _, rfl⟩, by rw [List.size_toArray, List.length_map, ha.length], hs, fun i v e => by
    rw [List.getElem?_toArray, List.getElem?_map] at e
    obtain ⟨t, ht, rfl⟩ := Option.map_eq_some_iff.mp e
    obtain ⟨r, hr, h1, h2⟩ := ha.get ht
    exact ⟨r, t, hr, rfl, h1, h2⟩, ok⟩
/-! the two lists of lists, compared -/
theorem reads_rows {h : Heap} {P : Nat → List Part} : ∀ (ads : List Addr) (k : Nat), (∀ j r, ads[j]? = some r → ∃ items c, Has h r items c (P (k + j))) → ∃ as, ReadsAll h (ads.map Value.ref) ((List.range' k ads.length).map fun i => partsD (P i)) as
  | [], _, _ => ⟨[], .nil⟩
  | r :: ads, k, hj => by
    obtain ⟨items, c, H⟩ := hj 0 r rfl
    obtain ⟨as, ha⟩ := reads_parts H.list H.its H.P.all
    obtain ⟨bs, hb⟩ := reads_rows ads (k + 1) fun j r e => by
      have := hj (j + 1) r (by simpa using e)
      rw [show k + 1 + j = k + (j + 1) by omega]
      exact this
    rw [List.map_cons, List.length_cons, List.range'_succ, List.map_cons]
    exact ⟨_, .cons ha hb⟩
theorem reads_refs {h : Heap} {D C c : Nat} {ads : List Addr} {P : Nat → List Part} (hD : h.get? D = some (refsObj ads c)) (R : Rows8 h C ads P) : ∃ as, Reads h (.ref D) (.list ((List.range' 0 ads.length).map fun i => partsD (P i))) as := by
  obtain ⟨as, ha⟩ := reads_rows (P := P) ads 0 fun j r e => by
    rw [Nat.zero_add]
    exact (R.each j r e).2
  exact ⟨_, .list hD rfl rfl (by simpa using ha)⟩
theorem canLay_rows {P : Nat → List Part} (h : ∀ i, PartsOk (P i)) : ∀ l : List Nat, PyData.canLayAll0 (l.map fun i => partsD (P i)) = true
  | [] => rfl
  | i :: l => by
    rw [List.map_cons, PyData.canLayAll0, canLay_rows h l]
    unfold partsD
    rw [PyData.canLay0, canLay_parts (h i)]
    rfl
theorem depth_rows {P : Nat → List Part} : ∀ l : List Nat, PyData.depthAll (l.map fun i => partsD (P i)) ≤ 2
  | [] => by simp [PyData.depthAll]
  | i :: l => by
    have h1 := depth_rows (P := P) l
    have h2 := depth_parts (P i)
    rw [List.map_cons, PyData.depthAll]
    unfold partsD at h1 ⊢
    rw [PyData.depth]
    omega
theorem shaped_rows {P : Nat → List Part} (h : ∀ i, PartsOk (P i)) (l : List Nat) : SeqAt.shaped (.list (l.map fun i => partsD (P i))) = true := by
  have := depth_rows (P := P) l
  unfold SeqAt.shaped
  rw [PyData.canLay0, canLay_rows h, PyData.depth]
  simp; omega
theorem rows_eq {w : World} {A : Around} {s : Shared} {E Q : Value → Shared → Prop} {D₁ D₂ C₁ C₂ c₁ c₂ : Nat} {ads₁ ads₂ : List Addr} {P : Nat → List Part} (h₁ : s.heap.get? D₁ = some (refsObj ads₁ c₁)) (R₁ : Rows8 s.heap C₁ ads₁ P) (h₂ : s.heap.get? D₂ = some (refsObj ads₂ c₂)) (R₂ : Rows8 s.heap C₂ ads₂ P)
    (hz : ads₁.length = ads₂.length) (hok : ∀ i, PartsOk (P i)) (hu : A.units + 64 < cLine) (h : Q (.bool true) s) : wpAny (model prog w) A (compareOp .Eq (.ref D₁) (.ref D₂)) Q E s := by
  obtain ⟨as, ra⟩ := reads_refs h₁ R₁
  obtain ⟨bs, rb⟩ := reads_refs h₂ R₂
  rw [← hz] at rb
  refine eq_dataH ra rb (shaped_rows hok _) (shaped_rows hok _) hu ?_
  rw [SeqAt.eqv_refl _ (by rw [PyData.canLay0]; exact canLay_rows hok _)]
  exact h
theorem Rows8.ext {h h' : Heap} {C : Nat} {rs : List Addr} {P : Nat → List Part} (x : Rows8 h C rs P) (k : Ext h h') : Rows8 h' C rs P := x.keep fun b o _ e => k b o e
theorem law_end {w : World} {mean : ExcName → Option Value} {mg mb : Str → Option Value} {A : Around} {s : Shared} {h0 : Heap} {m : Str → Option Value} {rl : Addr} {l : List Nat} {tl : Tok} {its : Array Value} {rs : List Rule} {x1 y1 : Nat} {tp a1 a2 a3 p1 p2 p3 p4 p5 p6 up b1 b2 b3 q1 q2 q3 q4 q5 q6 q7 : Pos} {Q : Value → Shared → Prop} (H : Base w mean mg mb h0)
    (F : Fr h0 h0.objs.size s.heap (fun y => if y = Str.ofString "rules" then some (.ref rl) else m y)) (hroom : A.depth + 8 < recursionLimit) (hu : A.units + 80 < cLine) (hh : A.handled = none) (hl : l.length ≤ 64) (hcs : ∀ c ∈ l, c < 0x110000)
    (hcell : s.heap.IsCell (h0.objs.size + 1) (some (.str (S l) tl))) (T : Table w s.heap rl its rs) (hq : ∀ h' t', Ext h0 h' → Q (.bool true) { s with heap := h', toks := t' }) :
    wpAny (model prog w) A (eval (.ListComp (.Call (.Name (Str.ofString "_law_told") p1) [.Name (Str.ofString "line") p2, .Name (Str.ofString "ends") p3] [] p4) [⟨.Tuple (tgt a1 a2 a3) x1 tp, .Name (Str.ofString "rules") p5, [], 0⟩] (compSc (Str.ofString "_law_told")) p6) (lawEnv h0.objs.size))
      (fun a s₁ => wpAny (model prog w) A (eval (.ListComp (.Call (.Name (Str.ofString "_law_due") q1) [.Name (Str.ofString "line") q2, .Name (Str.ofString "marks") q3, .Name (Str.ofString "more") q7] [] q4) [⟨.Tuple (tgt b1 b2 b3) y1 up, .Name (Str.ofString "rules") q5, [], 0⟩] (compSc (Str.ofString "_law_due")) q6) (lawEnv h0.objs.size))
        (fun b s₂ => wpAny (model prog w) A (compareOp .Eq a b) Q noE s₂) noE s₁) noE s := by
  have hx : (lawEnv h0.objs.size).kindOf (Str.ofString "rules") = some .local := by kernel_rfl
  refine told_comp (H.keeps F.keep) hroom hu hh hl hcell T (fun Q' h => nameX_L F (if_pos rfl) h rfl hx (by decide +kernel)) fun D C ads h₁ tk₁ c k₁ _ _ hD hz R => ?_
  have F₁ : Fr h0 h0.objs.size h₁ _ := ⟨F.ns.keeps k₁, fun b o e => k₁ _ _ (F.keep _ _ e), F.above⟩
  refine due_comp (s := { s with heap := h₁, toks := tk₁ }) (H.keeps F₁.keep) hroom hu hh hl hcs (hcell.keeps k₁) (T.keeps k₁) (fun Q' h => nameX_L F₁ (if_pos rfl) h rfl hx (by decide +kernel)) fun D' C' ads' h₂ tk₂ c' k₂ _ _ hD' hz' R' => ?_
  dsimp only at k₂
  rw [told_dueP T l] at R
  exact rows_eq (s := { s with heap := h₂, toks := tk₂ }) (k₂ _ _ hD) (R.ext k₂) hD' R' (hz.trans hz'.symm) (dueP_ok hcs) (by omega) (hq _ _ fun b o e => k₂ _ _ (F₁.keep _ _ e))
/-! the eight rules, each as the RFCs' own lists have it -/
abbrev cpsOf (x : String) : List Nat := (Str.ofString x).cps.toList
abbrev rule8 (q3 q4 : Addr) (t0 t1 t2 t3 t4 t5 t6 t7 t8 t9 t10 t11 t12 t13 t14 t15 : Tok) : List Rule := [
  ⟨35, lA, cpsOf "!#$%&'*+-/=?^_`{|}~", cpsOf "", t0, t1⟩,
  ⟨40, lD, (Str.ofString "!#$%&'*+-/=?^_`{|}~" ++ Str.ofString ".").cps.toList, cpsOf "", t2, t3⟩,
  ⟨q3, lP ++ lW, (Str.ofString "!#$%&'*+-/=?^_`{|}~" ++ Str.ofString ".\"(").cps.toList, cpsOf "", t4, t5⟩,
  ⟨q4, lL ++ lW, cpsOf "!#$%&'*+-/=?^_`{|}~", cpsOf "\n\r", t6, t7⟩,
  ⟨30, lC, cpsOf "!\"#$%&')*+,-./:;<=>?@\x5b\\]^_`{|}~", cpsOf "", t8, t9⟩,
  ⟨56, lK, cpsOf "!#$%&'*+-.^_`{|}~", cpsOf "", t10, t11⟩,
  ⟨67, lX, cpsOf "!#$%&+-.^_`{|}~", cpsOf "", t12, t13⟩,
  ⟨62, lR, cpsOf "!#$&+-.^_`{|}~", cpsOf "", t14, t15⟩]
theorem rule_at {w : World} {h : Heap} {a e : Addr} {le : List Str} {x y : Str} {t u : Tok} (ho : h.get? a = some { cls := .type "tuple", data := .seq #[.ref e, .str x t, .str y u] }) (Se : SL w h e le) :
    h.get? a = some (ruleObj ⟨e, le, x.cps.toList, y.cps.toList, t, u⟩) ∧ SL w h e le := ⟨ho, Se⟩
theorem ok1 : endsOk lA (cpsOf "!#$%&'*+-/=?^_`{|}~") (cpsOf "") = true := by decide +kernel
theorem ok2 : endsOk lD (Str.ofString "!#$%&'*+-/=?^_`{|}~" ++ Str.ofString ".").cps.toList (cpsOf "") = true := by decide +kernel
theorem ok3 : endsOk (lP ++ lW) (Str.ofString "!#$%&'*+-/=?^_`{|}~" ++ Str.ofString ".\"(").cps.toList (cpsOf "") = true := by decide +kernel
theorem ok4 : endsOk (lL ++ lW) (cpsOf "!#$%&'*+-/=?^_`{|}~") (cpsOf "\n\r") = true := by decide +kernel
theorem ok5 : endsOk lC (cpsOf "!\"#$%&')*+,-./:;<=>?@\x5b\\]^_`{|}~") (cpsOf "") = true := by decide +kernel
theorem ok6 : endsOk lK (cpsOf "!#$%&'*+-.^_`{|}~") (cpsOf "") = true := by decide +kernel
theorem ok7 : endsOk lX (cpsOf "!#$%&+-.^_`{|}~") (cpsOf "") = true := by decide +kernel
theorem ok8 : endsOk lR (cpsOf "!#$&+-.^_`{|}~") (cpsOf "") = true := by decide +kernel
theorem rule8_ok {q3 q4 : Addr} {t0 t1 t2 t3 t4 t5 t6 t7 t8 t9 t10 t11 t12 t13 t14 t15 : Tok} : ∀ r ∈ rule8 q3 q4 t0 t1 t2 t3 t4 t5 t6 t7 t8 t9 t10 t11 t12 t13 t14 t15, endsOk r.le r.mks r.mos = true := by
  intro r hr
  simp only [List.mem_cons, List.not_mem_nil, or_false] at hr
  rcases hr with rfl | rfl | rfl | rfl | rfl | rfl | rfl | rfl
  · exact ok1
  · exact ok2
  · exact ok3
  · exact ok4
  · exact ok5
  · exact ok6
  · exact ok7
  · exact ok8
end Mine
/-! Law1 -/
namespace Mine
open PySem PySem.W PyProof.Rows PySem.Calls
set_option Elab.async false
set_option maxRecDepth 100000
section
variable {w : World} {mean : ExcName → Option Value} {mg mb : Str → Option Value} {A : Around} {s : Shared}
theorem cells_is (L : Addr) : cellsFrom (L + 1) (fScope (stAt [24])).names [] = [(Str.ofString "line", L + 1)] := by kernel_rfl
theorem enter_law {sc : Addr} {Q : Value → Shared → Prop} (H : Base w mean mg mb s.heap) (hroom : A.depth < recursionLimit)
    (h : ∀ h₁ tk oc, Fr s.heap s.heap.objs.size h₁ (fun x => if x = Str.ofString "script" then some (.ref sc) else none) → News s.heap s.heap.objs.size h₁ [(s.heap.objs.size + 1, oc)] → oc.data = .cell none →
      wpAny (model prog w) (A.deeper (lawEnv s.heap.objs.size)) (execs (fBody (stAt [24])) (lawEnv s.heap.objs.size)) (fun fl s' => Q (match fl with | .ret v => v | _ => .none) s') noE { s with heap := h₁, toks := tk }) :
    wpAny (model prog w) A (PySem.call (.ref 213) [.ref sc]) Q noE s := by
  have ho : (theK w.params).lookup 213 = some (q24_213 w.params) := by kernel_rfl
  refine wpAny_call (codeAny_call_cells (fd := fnOf (Str.ofString "law") (Str.ofString "law") (fParams (stAt [24])) (fBody (stAt [24])) (fScope (stAt [24])) .none .none .none (.str (Str.ofString "law_lg0006_01") 413) none (.ref 212) .none) (binds := [(Str.ofString "script", .ref sc)]) hroom (H.X _ _ ho) rfl H.T.nolimit (codeRec_of H.X (by kernel_rfl)) rfl (by kernel_rfl) rfl ?_ ?_ (by kernel_rfl) (by kernel_rfl) (by kernel_rfl))
  · intro x hx
    rw [List.mem_singleton.mp hx]
    exact .inl (by kernel_rfl)
  · intro s₁ x
    obtain ⟨⟨⟨h₁, tk, rfl⟩, hns, hkeep, _⟩, hcell, _, habove⟩ := x
    have ec : (callEnvC (fnOf (Str.ofString "law") (Str.ofString "law") (fParams (stAt [24])) (fBody (stAt [24])) (fScope (stAt [24])) .none .none .none (.str (Str.ofString "law_lg0006_01") 413) none (.ref 212) .none) s.heap.objs.size 213) = lawEnv s.heap.objs.size := by
      unfold callEnvC lawEnv envX
      rw [cells_is]
      rfl
    rw [ec] at hns hcell habove ⊢
    have eL : bindL (lawEnv s.heap.objs.size).kindOf [(Str.ofString "script", Value.ref sc)] (fun _ => none) = (fun x => if x = Str.ofString "script" then some (.ref sc) else none) := by kernel_rfl
    rw [eL] at hns
    obtain ⟨oc, hoc, hcd⟩ := hcell (Str.ofString "line") (s.heap.objs.size + 1) (by kernel_rfl)
    have hcd' : oc.data = .cell none := by
      rw [hcd]
      have eC : bindC (lawEnv s.heap.objs.size).kindOf [(Str.ofString "script", Value.ref sc)] (fun _ => none) (Str.ofString "line") = none := by kernel_rfl
      rw [eC]
    refine wpAny_mono (h h₁ tk oc ⟨hns, hkeep, Nat.le_refl _⟩ (fun q hq => ?_) hcd') (fun fl s' q => q) fun _ _ q => q.elim
    rw [List.mem_singleton.mp hq]
    exact ⟨hoc, Nat.ne_of_gt (Nat.lt_succ_self _), Heap.get?_none_of_le (Nat.le_succ _)⟩
end
section
variable {w : World} {mean : ExcName → Option Value} {mg mb : Str → Option Value} {A : Around} {s : Shared} {E : Value → Shared → Prop} {h₀ : Heap} {L f c : Addr} {m : Str → Option Value} {name x : Str} {v : Value} {pos : Pos} {Q : Value → Shared → Prop} {cs : Scope} {cl : List (Str × Addr)} {ccd : Value}
theorem xg (F : Fr h₀ L s.heap m) (H : Base w mean mg mb h₀) (e : nsIn (theK w.params) mainGlobals x = some (some v)) (hk : cs.kind = .function) (hx : cs.names.lookup x = some .globalImplicit) (h : Q v s) (hd : (x == ("__debug__" : Str)) = false := by decide) :
    wpAny (model prog w) A (eval (.Name x pos) (envX name cs L f ccd cl)) Q E s := nameX_K F H.X (topRead_of H.T) e h hk hx hd
end
local macro_rules | `(tactic| walk_at "eval Name") => `(tactic| first
  | (with_reducible refine xg (x := Str.ofString "_law_line") (v := .ref 187) (by assumption) (by assumption) ?_ ?_ ?_ ?_; kernel_rfl; kernel_rfl; kernel_rfl)
  | (with_reducible refine xg (x := Str.ofString "ATOM_ENDS") (v := .ref 35) (by assumption) (by assumption) ?_ ?_ ?_ ?_; kernel_rfl; kernel_rfl; kernel_rfl)
  | (with_reducible refine xg (x := Str.ofString "DOT_ATOM_ENDS") (v := .ref 40) (by assumption) (by assumption) ?_ ?_ ?_ ?_; kernel_rfl; kernel_rfl; kernel_rfl)
  | (with_reducible refine xg (x := Str.ofString "PHRASE_ENDS") (v := .ref 45) (by assumption) (by assumption) ?_ ?_ ?_ ?_; kernel_rfl; kernel_rfl; kernel_rfl)
  | (with_reducible refine xg (x := Str.ofString "WSP") (v := .ref 22) (by assumption) (by assumption) ?_ ?_ ?_ ?_; kernel_rfl; kernel_rfl; kernel_rfl)
  | (with_reducible refine xg (x := Str.ofString "SPECIALSNL") (v := .ref 69) (by assumption) (by assumption) ?_ ?_ ?_ ?_; kernel_rfl; kernel_rfl; kernel_rfl)
  | (with_reducible refine xg (x := Str.ofString "CFWS_LEADER") (v := .ref 30) (by assumption) (by assumption) ?_ ?_ ?_ ?_; kernel_rfl; kernel_rfl; kernel_rfl)
  | (with_reducible refine xg (x := Str.ofString "TOKEN_ENDS") (v := .ref 56) (by assumption) (by assumption) ?_ ?_ ?_ ?_; kernel_rfl; kernel_rfl; kernel_rfl)
  | (with_reducible refine xg (x := Str.ofString "EXTENDED_ATTRIBUTE_ENDS") (v := .ref 67) (by assumption) (by assumption) ?_ ?_ ?_ ?_; kernel_rfl; kernel_rfl; kernel_rfl)
  | (with_reducible refine xg (x := Str.ofString "ATTRIBUTE_ENDS") (v := .ref 62) (by assumption) (by assumption) ?_ ?_ ?_ ?_; kernel_rfl; kernel_rfl; kernel_rfl)
  | (with_reducible refine nameX_L (by assumption) (if_pos rfl) ?_ ?_ ?_; rotate_left; kernel_rfl; kernel_rfl)
  | (with_reducible refine nameX_L (by assumption) ((if_neg (by decide)).trans (if_pos rfl)) ?_ ?_ ?_; rotate_left; kernel_rfl; kernel_rfl)
  | (with_reducible refine nameX_L (by assumption) ((if_neg (by decide)).trans ((if_neg (by decide)).trans (if_pos rfl))) ?_ ?_ ?_; rotate_left; kernel_rfl; kernel_rfl))
local macro_rules | `(tactic| walk_at "storeName") => `(tactic| (refine storeX_L (by assumption) (by assumption) ?_ ?_ ?_; rotate_left; kernel_rfl; kernel_rfl; intro _ _ _))
local macro_rules | `(tactic| walk_at "callWith") => `(tactic| ((with_reducible show wpAny _ _ (callWith _ (Value.ref _) _ _ _) _ _ _); with_reducible refine Halt.intro ?_))
section
variable {w : World} {A : Around} {s : Shared} {E : Value → Shared → Prop} {h₀ : Heap} {L a b : Addr} {m : Str → Option Value} {Q : Value → Shared → Prop} {news : List (Addr × Obj)} {la lb : List Str}
theorem or_news (F : Fr h₀ L s.heap m) (N : News h₀ L s.heap news) (Sa : SL w h₀ a la) (Sb : SL w h₀ b lb) (hab : a ≠ b) (hl0 : la ≠ []) (hd' : (la ++ lb).Nodup) (hl : la.length + lb.length < 60)
    (h : ∀ h' q oq, Fr h₀ L h' m → News h₀ L h' ((q, oq) :: news) → (∀ h'' : Heap, h''.get? q = some oq → SL w h'' q (la ++ lb)) → Q (.ref q) { s with heap := h' }) :
    wpAny (model prog w) A (binaryOp .BitOr (.ref a) (.ref b)) Q E s := by
  refine or_is (Sa.at fun o e => F.keep _ _ e) (Sb.at fun o e => F.keep _ _ e) hab hl0 hd' hl fun h' g S' => ?_
  obtain ⟨o, es, ep, t, ho, r⟩ := S'
  have hL : L < s.heap.objs.size := by
    obtain ⟨oL, es, ep, hL, _⟩ := F.ns
    exact Heap.lt_size hL
  refine h h' _ o ⟨F.ns.keeps fun b o e => g.2 b o e, fun b o e => g.2 b o (F.keep b o e), F.above⟩ (fun q hq => ?_) fun h'' e => ⟨o, es, ep, t, e, r⟩
  rcases List.mem_cons.mp hq with rfl | hq
  · refine ⟨ho, Nat.ne_of_gt hL, Heap.get?_none_of_le (Nat.le_trans F.above (Nat.le_of_lt hL))⟩
  · exact ⟨g.2 _ _ (N q hq).1, (N q hq).2⟩
end
local macro_rules | `(tactic| walk_at "binaryOp BitOr ref ref") => `(tactic| (refine or_news (by assumption) (by assumption) (by assumption) (by assumption) (by decide) (by decide +kernel) (by decide +kernel) (by decide +kernel) ?_; intro _ _ _ _ _ _))
section
variable {w : World} {mean : ExcName → Option Value} {mg mb : Str → Option Value} {A : Around}
set_option maxHeartbeats 4000000 in
theorem law_call {s : Shared} {sc : Addr} {vals : List Value} {ns : List Int} {Q : Value → Shared → Prop} (H : Base w mean mg mb s.heap) (hroom : A.depth + 10 < recursionLimit) (hu : A.units + 200 < cLine) (hh : A.handled = none) (hl : s.heap.IsList sc vals.toArray) (hi : IntsAre vals ns) (hn : ns.length ≤ 63)
    (hq : ∀ h' t', Ext s.heap h' → Q (.bool true) { s with heap := h', toks := t' }) :
    wpAny (model prog w) A (PySem.call (.ref 213) [.ref sc]) Q noE s := by
  w_top off
  obtain ⟨h0, g0, d0, t0, os0⟩ := s
  have S22 := H.S (22, lW) (by decide +kernel)
  have S45 := H.S (45, lP) (by decide +kernel)
  have S69 := H.S (69, lL) (by decide +kernel)
  dsimp only at S22 S45 S69
  refine enter_law H (by omega) fun h₁ tk₁ oc F N hoc => ?_
  dsimp only at F N H hl
  with_unfolding_all refine wpAny_execs_cons ?_
  dsimp only
  repeat' (first | walk1 | (dsimp only; walk1))
  refine Halt.mk ?_
  with_unfolding_all refine callWith_K (K := theK w.params) H.X (by kernel_rfl) ?_
  repeat' (first | walk1 | (dsimp only; walk1))
  · rename_i h₂ F₂ N₂
    exact H.X.keeps F₂.keep
  rename_i h₂ F₂ N₂
  dsimp only at N₂
  have hsl := slice_ints_uptoW hi (y := 24) (by decide)
  refine line_call (vals := (slicePick vals.toArray none (some 24) none).toList) (ns := ns.take 24) (H.keeps F₂.keep) (by rw [depth_deeper]; omega) (by rw [units_deeper]; omega) hh ⟨_, (N₂ _ (.head _)).1, rfl, _, rfl⟩ hsl (by rw [List.length_take]; omega) fun h₃ t₃ l tl k₃ hll hcs => ?_
  dsimp only at k₃
  have F₃ : Fr h0 h0.objs.size h₃ _ := ⟨F₂.ns.keeps k₃, fun b o e => k₃ _ _ (F₂.keep _ _ e), Nat.le_refl _⟩
  have hcell₃ : h₃.IsCell (h0.objs.size + 1) none := ⟨oc, k₃ _ _ (N₂ _ (.tail _ (.head _))).1, hoc⟩
  have hcellN := (N₂ _ (.tail _ (.head _))).2
  refine wpAny_storeName_cell (by kernel_rfl) (by kernel_rfl) (c := h0.objs.size + 1) (by kernel_rfl) hcell₃ fun h₄ hv₄ sb₄ => ?_
  obtain ⟨oc', hoc', hocd'⟩ := hv₄
  have F₄ := F₃.change sb₄ hcellN.1 hcellN.2
  have N₄ : News h0 h0.objs.size h₄ [(h0.objs.size + 1, oc')] := fun q hq => by
    rw [List.mem_singleton.mp hq]; exact ⟨hoc', hcellN⟩
  clear F N F₂ N₂ F₃ hcell₃ sb₄ k₃ hsl hoc
  dsimp only
  repeat' (first | walk1 | (dsimp only; walk1))
  rename_i h₅ F₅ N₅
  have T := table_of (w := w) (ts := [_, _, _, _, _, _, _, _]) (rs := rule8 _ _ _ _ _ _ _ _ _ _ _ _ _ _ _ _ _ _ ) (N₅ _ (.head _)).1 (Nat.le_of_ble_eq_true rfl) ⟨rule_at (N₅ _ (.tail _ (.tail _ (.tail _ (.tail _ (.tail _ (.tail _ (.tail _ (.tail _ (.tail _ (.tail _ (.head _)))))))))))).1 ((H.S (35, lA) (by decide +kernel)).at (fun o e => F₅.keep _ _ e)),
    rule_at (N₅ _ (.tail _ (.tail _ (.tail _ (.tail _ (.tail _ (.tail _ (.tail _ (.tail _ (.tail _ (.head _))))))))))).1 ((H.S (40, lD) (by decide +kernel)).at (fun o e => F₅.keep _ _ e)),
    rule_at (N₅ _ (.tail _ (.tail _ (.tail _ (.tail _ (.tail _ (.tail _ (.tail _ (.head _))))))))).1 (‹∀ h'' : Heap, h''.get? _ = some _ → SL w h'' _ (lP ++ lW)› _ (N₅ _ (.tail _ (.tail _ (.tail _ (.tail _ (.tail _ (.tail _ (.tail _ (.tail _ (.head _)))))))))).1),
    rule_at (N₅ _ (.tail _ (.tail _ (.tail _ (.tail _ (.tail _ (.head _))))))).1 (‹∀ h'' : Heap, h''.get? _ = some _ → SL w h'' _ (lL ++ lW)› _ (N₅ _ (.tail _ (.tail _ (.tail _ (.tail _ (.tail _ (.tail _ (.head _)))))))).1),
    rule_at (N₅ _ (.tail _ (.tail _ (.tail _ (.tail _ (.head _)))))).1 ((H.S (30, lC) (by decide +kernel)).at (fun o e => F₅.keep _ _ e)),
    rule_at (N₅ _ (.tail _ (.tail _ (.tail _ (.head _))))).1 ((H.S (56, lK) (by decide +kernel)).at (fun o e => F₅.keep _ _ e)),
    rule_at (N₅ _ (.tail _ (.tail _ (.head _)))).1 ((H.S (67, lX) (by decide +kernel)).at (fun o e => F₅.keep _ _ e)),
    rule_at (N₅ _ (.tail _ (.head _))).1 ((H.S (62, lR) (by decide +kernel)).at (fun o e => F₅.keep _ _ e)), trivial⟩ rule8_ok
  refine law_end H F₅ (by rw [depth_deeper]; omega) (by rw [units_deeper]; omega) hh hll hcs ⟨oc', (N₅ _ (.tail _ (.tail _ (.tail _ (.tail _ (.tail _ (.tail _ (.tail _ (.tail _ (.tail _ (.tail _ (.tail _ (.head _))))))))))))).1, hocd'⟩ T fun h' t' k => ?_
  exact hq h' t' k
end
end Mine
/-! Done -/
namespace Mine
open PySem PySem.W PyProof.Rows
set_option Elab.async false
set_option maxRecDepth 100000
theorem law_goes : LawCall := fun w s₀ s₁ mg mb G X S hg ns vals sc hl hi hn =>
  law_call ⟨X, S, G.T⟩ (by decide +kernel) (by decide +kernel) rfl hl hi hn fun h' t' k => ⟨rfl, OldK.of_keep k, rfl, hg⟩
theorem holds : PySem.Challenge.rw_lg0006_01.Holds := law_holds law_goes
end Mine
end
theorem PySem.Challenge.cw_lg0006_01_holds : PySem.Challenge.rw_lg0006_01.Holds :=
  Mine.holds
