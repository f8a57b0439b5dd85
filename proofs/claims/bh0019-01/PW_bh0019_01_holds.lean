import PyProof.Rows.All
import Wide.All
import OpenK.AllK
import Wide.FinOn
import Lean
import PySem.Challenge.RW_bh0019_01
set_option Elab.async false

namespace Mine
open PySem PySem.W PyProof.Rows
set_option maxRecDepth 100000 in
set_option maxHeartbeats 8000000 in
open_top hd for PySem.Challenge.rw_bh0019_01
end Mine

/-! ## P1 -/
namespace Mine
abbrev Key := Int × Int
abbrev klt (a b : Key) : Prop := a.1 < b.1 ∨ (a.1 = b.1 ∧ a.2 < b.2)
def kle (a b : Key) : Prop := ¬ klt b a
theorem kle_refl (a : Key) : kle a a := by unfold kle klt; omega
theorem kle_trans {a b c : Key} (h : kle a b) (h' : kle b c) : kle a c := by unfold kle klt at *; omega
theorem kle_of_lt {a b : Key} (h : klt a b) : kle a b := by unfold kle klt at *; omega
theorem kle_of_nlt {a b : Key} (h : ¬ klt a b) : kle b a := h

def g (ks : Array Key) (i : Nat) : Key := ks.getD i (0, 0)
theorem g_of {ks : Array Key} {i : Nat} {k : Key} (h : ks[i]? = some k) : g ks i = k := by
  unfold g; rw [Array.getD_eq_getD_getElem?, h]; rfl
theorem g_get {ks : Array Key} {i : Nat} (h : i < ks.size) : ks[i]? = some (g ks i) := by
  rw [Array.getElem?_eq_getElem h, g_of (Array.getElem?_eq_getElem h)]

def swp {α : Type} (xs : Array α) (i j : Nat) (x y : α) : Array α := (xs.setIfInBounds i y).setIfInBounds j x

theorem g_swp (ks : Array Key) (i j : Nat) (hi : i < ks.size) (hj : j < ks.size) (n : Nat) :
    g (swp ks i j (g ks i) (g ks j)) n = if n = j then g ks i else if n = i then g ks j else g ks n := by
  unfold swp
  by_cases hn : n < ks.size
  · refine g_of ?_
    rw [Array.getElem?_setIfInBounds, Array.getElem?_setIfInBounds]
    simp only [Array.size_setIfInBounds]
    by_cases h1 : n = j
    · subst h1; simp [hn]
    · simp only [if_neg h1, if_neg (Ne.symm h1)]
      by_cases h2 : n = i
      · subst h2; simp [hn]
      · simp only [if_neg h2, if_neg (Ne.symm h2)]; exact g_get hn
  · have h1 : n ≠ j := by omega
    have h2 : n ≠ i := by omega
    simp only [if_neg h1, if_neg h2]
    have a1 : ∀ xs : Array Key, xs.size = ks.size → g xs n = (0, 0) := fun xs h => by
      unfold g
      rw [Array.getD_eq_getD_getElem?, Array.getElem?_eq_none (by omega)]; rfl
    rw [a1 _ (by simp), a1 ks rfl]
theorem swp_size {α : Type} (xs : Array α) (i j : Nat) (x y : α) : (swp xs i j x y).size = xs.size := by simp [swp]

theorem swp_perm (ks : Array Key) (i j : Nat) (hi : i < ks.size) (hj : j < ks.size) : (swp ks i j (g ks i) (g ks j)).toList.Perm ks.toList := by
  have e : swp ks i j (g ks i) (g ks j) = ks.swap i j hi hj := by
    have h1 : g ks i = ks[i] := g_of (Array.getElem?_eq_getElem hi)
    have h2 : g ks j = ks[j] := g_of (Array.getElem?_eq_getElem hj)
    rw [h1, h2]
    unfold swp
    rw [Array.swap_def]
    simp [Array.setIfInBounds, hi, hj]
  rw [e]
  exact (Array.swap_perm hi hj).toList

theorem swpv_perm {α : Type} (xs : Array α) (i j : Nat) (x y : α) (hi : xs[i]? = some x) (hj : xs[j]? = some y) : (swp xs i j x y).toList.Perm xs.toList := by
  obtain ⟨hi, h1⟩ := Array.getElem?_eq_some_iff.mp hi
  obtain ⟨hj, h2⟩ := Array.getElem?_eq_some_iff.mp hj
  have e : swp xs i j x y = xs.swap i j hi hj := by
    unfold swp
    rw [Array.swap_def]
    simp [Array.setIfInBounds, hi, hj, h1, h2]
  rw [e]
  exact (Array.swap_perm hi hj).toList

def IsHeap (ks : Array Key) : Prop := ∀ i, 0 < i → i < ks.size → kle (g ks ((i - 1) / 2)) (g ks i)
def HeapUp (ks : Array Key) (pos : Nat) : Prop :=
  (∀ i, 0 < i → i < ks.size → i ≠ pos → kle (g ks ((i - 1) / 2)) (g ks i)) ∧
  (∀ i, 0 < i → i < ks.size → (i - 1) / 2 = pos → 0 < pos → kle (g ks ((pos - 1) / 2)) (g ks i))
def HeapDown (ks : Array Key) (pos : Nat) : Prop :=
  (∀ i, 0 < i → i < ks.size → i ≠ pos → (i - 1) / 2 ≠ pos → kle (g ks ((i - 1) / 2)) (g ks i)) ∧
  (∀ i, 0 < i → i < ks.size → (i - 1) / 2 = pos → 0 < pos → kle (g ks ((pos - 1) / 2)) (g ks i))

theorem HeapUp.stop {ks : Array Key} {pos : Nat} (H : HeapUp ks pos) (h : pos = 0 ∨ ¬ klt (g ks pos) (g ks ((pos - 1) / 2))) : IsHeap ks := by
  intro i h0 hi
  by_cases e : i = pos
  · subst e
    rcases h with h | h
    · omega
    · exact h
  · exact H.1 i h0 hi e

theorem HeapUp.step {ks : Array Key} {pos : Nat} (H : HeapUp ks pos) (h0 : 0 < pos) (hp : pos < ks.size) (hlt : klt (g ks pos) (g ks ((pos - 1) / 2))) :
    HeapUp (swp ks ((pos - 1) / 2) pos (g ks ((pos - 1) / 2)) (g ks pos)) ((pos - 1) / 2) := by
  have hq : (pos - 1) / 2 < ks.size := by omega
  have G := g_swp ks ((pos - 1) / 2) pos hq hp
  constructor
  · intro i i0 hi hne
    rw [swp_size] at hi
    rw [G, G]
    by_cases e : i = pos
    · subst e
      rw [if_pos rfl, if_neg (by omega), if_pos rfl]
      exact kle_of_lt hlt
    · rw [if_neg e, if_neg hne]
      by_cases e1 : (i - 1) / 2 = pos
      · rw [if_pos e1]
        exact H.2 i i0 hi e1 h0
      · rw [if_neg e1]
        by_cases e2 : (i - 1) / 2 = (pos - 1) / 2
        · rw [if_pos e2]
          have := H.1 i i0 hi e
          rw [e2] at this
          exact kle_trans (kle_of_lt hlt) this
        · rw [if_neg e2]; exact H.1 i i0 hi e
  · intro i i0 hi hpar hq0
    rw [swp_size] at hi
    rw [G, G]
    have hqq := H.1 ((pos - 1) / 2) hq0 hq (by omega)
    rw [if_neg (show ((pos - 1) / 2 - 1) / 2 ≠ pos by omega), if_neg (show ((pos - 1) / 2 - 1) / 2 ≠ (pos - 1) / 2 by omega)]
    by_cases e : i = pos
    · rw [if_pos e]; exact hqq
    · rw [if_neg e, if_neg (by omega)]
      have := H.1 i i0 hi e
      rw [hpar] at this
      exact kle_trans hqq this

theorem HeapDown.leaf {ks : Array Key} {pos : Nat} (H : HeapDown ks pos) (h : ¬ pos < ks.size / 2) : HeapUp ks pos := by
  refine ⟨fun i i0 hi hne => H.1 i i0 hi hne (by omega), fun i i0 hi hpar => by omega⟩

theorem HeapDown.step {ks : Array Key} {pos c : Nat} (H : HeapDown ks pos) (hc : c < ks.size) (hc2 : c = 2 * pos + 1 ∨ c = 2 * pos + 2)
    (hmin : ∀ d, d < ks.size → (d = 2 * pos + 1 ∨ d = 2 * pos + 2) → kle (g ks c) (g ks d)) :
    HeapDown (swp ks c pos (g ks c) (g ks pos)) c := by
  have hp : pos < ks.size := by omega
  have G := g_swp ks c pos hc hp
  constructor
  · intro i i0 hi hne hpar
    rw [swp_size] at hi
    rw [G, G]
    by_cases e : i = pos
    · subst e
      rw [if_pos rfl, if_neg (by omega), if_neg (by omega)]
      exact H.2 c (by omega) hc (by omega) i0
    · rw [if_neg e, if_neg hne]
      by_cases e1 : (i - 1) / 2 = pos
      · rw [if_pos e1]; exact hmin i hi (by omega)
      · rw [if_neg e1, if_neg hpar]; exact H.1 i i0 hi e e1
  · intro i i0 hi hpar c0
    rw [swp_size] at hi
    rw [G, G]
    have e1 : (c - 1) / 2 = pos := by omega
    rw [e1, if_pos rfl, if_neg (by omega), if_neg (by omega)]
    have := H.1 i i0 hi (by omega) (by omega)
    rw [hpar] at this; exact this

theorem IsHeap.push {ks : Array Key} (H : IsHeap ks) (k : Key) : HeapUp (ks.push k) ks.size := by
  have G : ∀ i, i < ks.size → g (ks.push k) i = g ks i := fun i hi => by
    refine g_of ?_
    rw [Array.getElem?_push_lt hi]
    exact (Array.getElem?_eq_getElem hi).symm.trans (g_get hi)
  constructor
  · intro i i0 hi hne
    rw [Array.size_push] at hi
    rw [G i (by omega), G _ (by omega)]
    exact H i i0 (by omega)
  · intro i i0 hi hpar p0
    rw [Array.size_push] at hi
    omega

theorem IsHeap.pop {ks : Array Key} (H : IsHeap ks) (k : Key) : HeapDown (ks.pop.setIfInBounds 0 k) 0 := by
  have G : ∀ i, i ≠ 0 → i < ks.size - 1 → g (ks.pop.setIfInBounds 0 k) i = g ks i := fun i h0 hi => by
    refine g_of ?_
    rw [Array.getElem?_setIfInBounds_ne (Ne.symm h0), Array.getElem?_pop, if_pos hi]
    exact g_get (by omega)
  constructor
  · intro i i0 hi _ hpar
    rw [Array.size_setIfInBounds, Array.size_pop] at hi
    rw [G i (by omega) hi, G _ (by omega) (by omega)]
    exact H i i0 (by omega)
  · intro i i0 hi hpar p0; omega

theorem IsHeap.min {ks : Array Key} (H : IsHeap ks) : ∀ i, i < ks.size → kle (g ks 0) (g ks i) := by
  intro i
  induction i using Nat.strongRecOn with
  | ind i ih =>
    intro hi
    by_cases h0 : i = 0
    · subst h0; exact kle_refl _
    · exact kle_trans (ih ((i - 1) / 2) (by omega) (by omega)) (H i (by omega) hi)
end Mine

/-! ## H1 -/
namespace Mine
open PySem PySem.W PySem.Calls PyProof.Rows
set_option maxRecDepth 100000

abbrev tp (p : Int) (t : Tok) (c : Int) (u : Tok) : Obj := { cls := .type "tuple", data := .seq [.int p t, .int c u].toArray }

section
variable {prog : Program} {w : World} {A : Around} {s : Shared} {E : Value → Shared → Prop} {Q : Value → Shared → Prop}

theorem lt_ii {x y : Int} {t u : Tok} (h : Q (.bool (decide (x < y))) s) : wpAny (model prog w) A (richCompare .Lt (.int x t) (.int y u)) Q E s := by
  have := lt_int (prog := prog) (w := w) (A := A) (E := E) (s := s) (a := x) (b := y) (t := t) (u := u) (Q := Q) h
  exact this

theorem tup_lt {a b : Addr} {p₁ c₁ p₂ c₂ : Int} {t₁ u₁ t₂ u₂ : Tok} (ha : s.heap.get? a = some (tp p₁ t₁ c₁ u₁)) (hb : s.heap.get? b = some (tp p₂ t₂ c₂ u₂)) (hu : A.units < cLine)
    (h : Q (.bool (decide (p₁ < p₂ ∨ (p₁ = p₂ ∧ c₁ < c₂)))) s) :
    wpAny (model prog w) A (richCompare .Lt (.ref a) (.ref b)) Q E s := by
  have Ta : s.TypeIs (.ref a) "tuple" := ⟨_, ha, rfl⟩
  have Tb : s.TypeIs (.ref b) "tuple" := ⟨_, hb, rfl⟩
  refine wpAny_richCompare_same_room Ta Tb F.slot_tuple_lt (wpAny_call_entry F.slot_tuple_lt Ta F.entry_tuple_lt ?_ (F.args_tuple_lt_2 _ _)) hu
  unfold Builtin.«tuple.__lt__»
  refine wpAny_bind (m := slotArgs "__lt__" 1 _) (wpAny_pure ?_)
  dsimp only
  refine wpAny_bind (wpAny_isInstance (b := true) Tb (by rw [isSubtype_type]; kernel_rfl) ?_)
  simp only [Bool.not_true, Bool.false_eq_true, if_false]
  refine wpAny_bind (wpAny_tupleItemsOf ha rfl ?_)
  refine wpAny_bind (wpAny_tupleItemsOf hb rfl ?_)
  refine wpAny_bind ?_
  show wpAny _ _ (forIn [((.int p₁ t₁ : Value), (.int p₂ t₂ : Value)), (.int c₁ u₁, .int c₂ u₂)] _ _) _ _ _
  rw [List.forIn_cons]
  refine wpAny_bind (wpAny_bind (wpAny_eqBool_int ?_))
  by_cases hp : p₁ = p₂
  · rw [show (p₁ == p₂) = true from beq_iff_eq.mpr hp]
    simp only [Bool.not_true, Bool.false_eq_true, if_false]
    refine wpAny_pure ?_
    dsimp only
    rw [List.forIn_cons]
    refine wpAny_bind (wpAny_bind (wpAny_eqBool_int ?_))
    by_cases hc : c₁ = c₂
    · rw [show (c₁ == c₂) = true from beq_iff_eq.mpr hc]
      simp only [Bool.not_true, Bool.false_eq_true, if_false]
      refine wpAny_pure ?_
      dsimp only
      rw [List.forIn_nil]
      refine wpAny_pure ?_
      dsimp only
      refine wpAny_pure ⟨_, rfl, nofun, ?_⟩
      rw [show decide (p₁ < p₂ ∨ (p₁ = p₂ ∧ c₁ < c₂)) = false from decide_eq_false (by omega)] at h
      exact h
    · rw [show (c₁ == c₂) = false from beq_eq_false_iff_ne.mpr hc]
      simp only [Bool.not_false, if_true]
      refine wpAny_bind (wpAny_rule (wpAny_bind (lt_ii (wpAny_bind (wpAny_pure (wpAny_pure ?_))))))
      refine wpAny_pure ?_
      refine wpAny_pure ⟨_, rfl, nofun, ?_⟩
      rw [show decide (p₁ < p₂ ∨ (p₁ = p₂ ∧ c₁ < c₂)) = decide (c₁ < c₂) from decide_eq_decide.mpr (by omega)] at h
      exact h
  · rw [show (p₁ == p₂) = false from beq_eq_false_iff_ne.mpr hp]
    simp only [Bool.not_false, if_true]
    refine wpAny_bind (wpAny_rule (wpAny_bind (lt_ii (wpAny_bind (wpAny_pure (wpAny_pure ?_))))))
    refine wpAny_pure ?_
    refine wpAny_pure ⟨_, rfl, nofun, ?_⟩
    rw [show decide (p₁ < p₂ ∨ (p₁ = p₂ ∧ c₁ < c₂)) = decide (p₁ < p₂) from decide_eq_decide.mpr (by omega)] at h
    exact h
end

section
variable {prog : Program} {w : World} {A : Around} {s : Shared} {E : Value → Shared → Prop} {Q : Value → Shared → Prop}
theorem tup_ltk {a b : Addr} {k₁ k₂ : Key} {t₁ u₁ t₂ u₂ : Tok} (ha : s.heap.get? a = some (tp k₁.1 t₁ k₁.2 u₁)) (hb : s.heap.get? b = some (tp k₂.1 t₂ k₂.2 u₂)) (hu : A.units < cLine)
    (h : Q (.bool (decide (klt k₁ k₂))) s) : wpAny (model prog w) A (richCompare .Lt (.ref a) (.ref b)) Q E s := by
  refine tup_lt ha hb hu ?_
  have e : decide (k₁.1 < k₂.1 ∨ (k₁.1 = k₂.1 ∧ k₁.2 < k₂.2)) = decide (klt k₁ k₂) := decide_eq_decide.mpr Iff.rfl
  rw [e]; exact h
end

def PQ (h : Heap) (xs : Array Value) (ks : Array Key) : Prop :=
  xs.size = ks.size ∧ ∀ i, i < ks.size → ∃ a t u, xs[i]? = some (.ref a) ∧ h.get? a = some (tp (g ks i).1 t (g ks i).2 u)

theorem PQ.nt {h : Heap} {l : Addr} {xs : Array Value} {ks : Array Key} {n : Nat} {its : Array Value} (P : PQ h xs ks) (hl : h.get? l = some (listOf its n)) :
    ∀ i, i < ks.size → ∀ a, xs[i]? = some (.ref a) → a ≠ l := fun i hi a ha e => by
  obtain ⟨a', t, u, h1, h2⟩ := P.2 i hi
  rw [ha] at h1; cases h1
  rw [e, hl] at h2
  have := congrArg Obj.cls (Option.some.inj h2)
  exact absurd this (by simp)
theorem PQ.keep {h h' : Heap} {l : Addr} {xs : Array Value} {ks : Array Key} {n : Nat} {its : Array Value} (P : PQ h xs ks) (hl : h.get? l = some (listOf its n)) (hs : Heap.SameBut l h h') : PQ h' xs ks :=
  ⟨P.1, fun i hi => by
    obtain ⟨a, t, u, h1, h2⟩ := P.2 i hi
    exact ⟨a, t, u, h1, (hs.2 a (P.nt hl i hi a h1)).trans h2⟩⟩
theorem PQ.swp {h : Heap} {xs : Array Value} {ks : Array Key} (P : PQ h xs ks) {i j : Nat} (hi : i < ks.size) (hj : j < ks.size) {x y : Value} (hx : xs[i]? = some x) (hy : xs[j]? = some y) :
    PQ h (Mine.swp xs i j x y) (Mine.swp ks i j (g ks i) (g ks j)) := by
  have hi' : i < xs.size := P.1 ▸ hi
  have hj' : j < xs.size := P.1 ▸ hj
  refine ⟨by rw [swp_size, swp_size, P.1], fun n hn => ?_⟩
  rw [swp_size] at hn
  have hn' : n < xs.size := P.1 ▸ hn
  rw [g_swp ks i j hi hj]
  have e : (Mine.swp xs i j x y)[n]? = if n = j then some x else if n = i then some y else xs[n]? := by
    unfold Mine.swp
    rw [Array.getElem?_setIfInBounds, Array.getElem?_setIfInBounds]
    simp only [Array.size_setIfInBounds]
    by_cases h1 : n = j
    · subst h1; simp [hn']
    · simp only [if_neg h1, if_neg (Ne.symm h1)]
      by_cases h2 : n = i
      · subst h2; simp [hn']
      · simp only [if_neg h2, if_neg (Ne.symm h2)]
  rw [e]
  by_cases h1 : n = j
  · simp only [if_pos h1]
    obtain ⟨a, t, u, k1, k2⟩ := P.2 i hi
    exact ⟨a, t, u, hx.symm.trans k1, k2⟩
  · simp only [if_neg h1]
    by_cases h2 : n = i
    · simp only [if_pos h2]
      obtain ⟨a, t, u, k1, k2⟩ := P.2 j hj
      exact ⟨a, t, u, hy.symm.trans k1, k2⟩
    · simp only [if_neg h2]; exact P.2 n hn

section
variable {prog : Program} {w : World} {A : Around} {s : Shared} {R : Result → Shared → Prop}

theorem sift_plain : plainId "_heapq.heapify.sift" = true := by decide +kernel
theorem sift_entry : entryFor table "_heapq.heapify.sift" = some Builtin.«_heapq.heapify.sift» := entryFor_of_tree (by kernel_rfl)

theorem sift_up {l : Nat} {v : Value} (hu : A.units + 3 < cLine) : ∀ (pos : Nat) {s : Shared} {xs : Array Value} {ks : Array Key} {n : Nat}, s.heap.get? l = some (listOf xs n) → PQ s.heap xs ks → pos < ks.size → HeapUp ks pos → ks.size ≤ 1000 →
    (∀ h' xs' ks' n', h'.get? l = some (listOf xs' n') → PQ h' xs' ks' → IsHeap ks' → ks'.toList.Perm ks.toList → xs'.toList.Perm xs.toList → Heap.SameBut l s.heap h' → R (.ok (.ret v)) { s with heap := h' }) →
    codeAny (model prog w) A (.builtin "_heapq.heapify.sift" ⟨[.ref l, .bool false, .bool false, rawInt pos, rawInt 0, v, rawInt (-1)], []⟩) R s := by
  intro pos
  induction pos using Nat.strongRecOn with
  | ind pos ih =>
  intro s xs ks n hl P hp H hz hR
  refine codeAny_builtin (b := Builtin.«_heapq.heapify.sift») sift_entry ?_
  rw [Around.under_plainId sift_plain]
  unfold Builtin.«_heapq.heapify.sift»
  dsimp only [rawInt]
  refine wpAny_bind (wpAny_bind (wpAny_seqItems hl rfl (wpAny_pure ?_)))
  simp only [Bool.false_eq_true, if_false, Int.toNat_natCast]
  by_cases h0 : pos = 0
  · subst h0
    rw [if_neg (by decide), if_pos (by decide)]
    exact wpAny_pure (hR s.heap xs ks n hl P (H.stop (.inl rfl)) (.refl _) (.refl _) ⟨rfl, fun _ _ => rfl⟩)
  · rw [if_pos (show pos > Int.toNat 0 from Nat.pos_of_ne_zero h0)]
    obtain ⟨a, t, u, ha, ha'⟩ := P.2 pos hp
    obtain ⟨b, t', u', hb, hb'⟩ := P.2 ((pos - 1) / 2) (by omega)
    refine wpAny_bind ?_
    show wpAny _ _ (match xs[pos]? with | some v => pure v | none => unsupported _) _ _ _
    rw [ha]
    refine wpAny_pure (wpAny_bind ?_)
    show wpAny _ _ (match xs[(pos - 1) / 2]? with | some v => pure v | none => unsupported _) _ _ _
    rw [hb]
    refine wpAny_pure (wpAny_bind (wpAny_bind (wpAny_holding (wpAny_bind (tup_ltk ha' hb' (by show A.units + 1 < cLine; omega) ?_)))))
    refine wpAny_truthy_bool ?_
    refine wpAny_bind (wpAny_bind (wpAny_seqItems hl rfl (wpAny_pure ?_)))
    dsimp only
    rw [if_neg (by simp)]
    refine wpAny_pure ?_
    by_cases hc : klt (g ks pos) (g ks ((pos - 1) / 2))
    · rw [if_pos (decide_eq_true hc)]
      have hq : (pos - 1) / 2 < ks.size := by omega
      refine wpAny_bind (wpAny_bind (wpAny_bind (wpAny_seqItems hl rfl (wpAny_pure (wpAny_bind ?_)))))
      show wpAny _ _ (match xs[(pos - 1) / 2]? with | some v => pure v | none => unsupported _) _ _ _
      rw [hb]
      refine wpAny_pure (wpAny_bind ?_)
      show wpAny _ _ (match xs[pos]? with | some v => pure v | none => unsupported _) _ _ _
      rw [ha]
      have hsz : xs.size ≤ 1000 := by rw [P.1]; exact hz
      refine wpAny_pure (wpAny_updateSeq hl rfl ?_ (by rw [sizeLine_eq]; omega) (by rw [sizeLine_eq]; simp; omega))
      refine wpAny_pure ⟨plainId_quiet sift_plain _, ?_⟩
      have hs : Heap.SameBut l s.heap (s.heap.update l (Obj.mapSeq fun xs => (xs.setIfInBounds ((pos - 1) / 2) (.ref a)).setIfInBounds pos (.ref b))) := Heap.SameBut.update ..
      refine ih ((pos - 1) / 2) (by omega) (xs := Mine.swp xs ((pos - 1) / 2) pos (.ref b) (.ref a)) (ks := Mine.swp ks ((pos - 1) / 2) pos (g ks ((pos - 1) / 2)) (g ks pos)) (n := n) ?_ ?_ (by rw [swp_size]; exact hq) (H.step (Nat.pos_of_ne_zero h0) hp hc) (by rw [swp_size]; exact hz) ?_
      · rw [Heap.get?_update_self _ hl (by rfl)]
        unfold Mine.swp
        simp [Obj.mapSeq]
      · exact (P.keep hl hs).swp hq hp hb ha
      · intro h' xs' ks' n' e1 e2 e3 e4 e6 e5
        exact hR h' xs' ks' n' e1 e2 e3 (e4.trans (swp_perm ks _ _ hq hp)) (e6.trans (swpv_perm xs _ _ _ _ hb ha)) (hs.trans e5)
    · rw [if_neg (by rw [decide_eq_false hc]; decide), if_pos (by decide)]
      exact wpAny_pure (hR s.heap xs ks n hl P (H.stop (.inr hc)) (.refl _) (.refl _) ⟨rfl, fun _ _ => rfl⟩)

theorem sift_down {l : Nat} {v : Value} (hu : A.units + 3 < cLine) : ∀ (k pos : Nat) {s : Shared} {xs : Array Value} {ks : Array Key} {n : Nat}, ks.size ≤ pos + k → s.heap.get? l = some (listOf xs n) → PQ s.heap xs ks → pos < ks.size → HeapDown ks pos → ks.size ≤ 1000 →
    (∀ h' xs' ks' n', h'.get? l = some (listOf xs' n') → PQ h' xs' ks' → IsHeap ks' → ks'.toList.Perm ks.toList → xs'.toList.Perm xs.toList → Heap.SameBut l s.heap h' → R (.ok (.ret v)) { s with heap := h' }) →
    codeAny (model prog w) A (.builtin "_heapq.heapify.sift" ⟨[.ref l, .bool false, .bool true, rawInt pos, rawInt 0, v, rawInt (-1)], []⟩) R s := by
  intro k
  induction k with
  | zero => intro pos s xs ks n hk hl P hp; omega
  | succ k ih =>
  intro pos s xs ks n hk hl P hp H hz hR
  refine codeAny_builtin (b := Builtin.«_heapq.heapify.sift») sift_entry ?_
  rw [Around.under_plainId sift_plain]
  unfold Builtin.«_heapq.heapify.sift»
  dsimp only [rawInt]
  refine wpAny_bind (wpAny_bind (wpAny_seqItems hl rfl (wpAny_pure ?_)))
  simp only [Bool.false_eq_true, if_false, if_true, Int.toNat_natCast]
  have hsz : xs.size = ks.size := P.1
  have fin : ∀ c x y, c < ks.size → (c = 2 * pos + 1 ∨ c = 2 * pos + 2) → (∀ d, d < ks.size → (d = 2 * pos + 1 ∨ d = 2 * pos + 2) → kle (g ks c) (g ks d)) → xs[c]? = some x → xs[pos]? = some y →
      codeAny (model prog w) A (.builtin "_heapq.heapify.sift" ⟨[.ref l, .bool false, .bool true, rawInt c, rawInt 0, v, rawInt (-1)], []⟩) R
        { s with heap := s.heap.update l (Obj.mapSeq fun xs => (xs.setIfInBounds c y).setIfInBounds pos x) } := by
    intro c x y hc hc2 hm hx hy
    have hs : Heap.SameBut l s.heap (s.heap.update l (Obj.mapSeq fun xs => (xs.setIfInBounds c y).setIfInBounds pos x)) := Heap.SameBut.update ..
    refine ih c (xs := Mine.swp xs c pos x y) (ks := Mine.swp ks c pos (g ks c) (g ks pos)) (n := n) (by rw [swp_size]; omega) ?_ ?_ (by rw [swp_size]; exact hc) (H.step hc hc2 hm) (by rw [swp_size]; exact hz) ?_
    · rw [Heap.get?_update_self _ hl (by rfl)]
      unfold Mine.swp
      simp [Obj.mapSeq]
    · exact (P.keep hl hs).swp hc hp hx hy
    · intro h' xs' ks' n' e1 e2 e3 e4 e6 e5
      exact hR h' xs' ks' n' e1 e2 e3 (e4.trans (swp_perm ks _ _ hc hp)) (e6.trans (swpv_perm xs _ _ _ _ hx hy)) (hs.trans e5)
  by_cases h2 : pos < xs.size / 2
  · rw [if_pos h2]
    obtain ⟨y, ty, uy, hy, hy'⟩ := P.2 pos hp
    obtain ⟨a, t, u, ha, ha'⟩ := P.2 (2 * pos + 1) (by omega)
    by_cases h3 : 2 * pos + 1 + 1 < xs.size
    · rw [if_pos h3]
      obtain ⟨b, t', u', hb, hb'⟩ := P.2 (2 * pos + 1 + 1) (by omega)
      refine wpAny_bind ?_
      show wpAny _ _ (match xs[2 * pos + 1]? with | some v => pure v | none => unsupported _) _ _ _
      rw [ha]
      refine wpAny_pure (wpAny_bind ?_)
      show wpAny _ _ (match xs[2 * pos + 1 + 1]? with | some v => pure v | none => unsupported _) _ _ _
      rw [hb]
      refine wpAny_pure (wpAny_bind (wpAny_bind (wpAny_holding (wpAny_bind (tup_ltk ha' hb' (by show A.units + 1 < cLine; omega) ?_)))))
      refine wpAny_truthy_bool ?_
      refine wpAny_bind (wpAny_bind (wpAny_seqItems hl rfl (wpAny_pure ?_)))
      dsimp only
      rw [if_neg (by simp)]
      refine wpAny_pure ?_
      by_cases hc : klt (g ks (2 * pos + 1)) (g ks (2 * pos + 1 + 1))
      · rw [if_neg (by rw [decide_eq_true hc]; decide)]
        refine wpAny_bind (wpAny_bind (wpAny_bind (wpAny_seqItems hl rfl (wpAny_pure (wpAny_bind ?_)))))
        show wpAny _ _ (match xs[2 * pos + 1]? with | some v => pure v | none => unsupported _) _ _ _
        rw [ha]
        refine wpAny_pure (wpAny_bind ?_)
        show wpAny _ _ (match xs[pos]? with | some v => pure v | none => unsupported _) _ _ _
        rw [hy]
        refine wpAny_pure (wpAny_updateSeq hl rfl ?_ (by rw [sizeLine_eq]; omega) (by rw [sizeLine_eq]; simp; omega))
        refine wpAny_pure ⟨plainId_quiet sift_plain _, ?_⟩
        refine fin (2 * pos + 1) _ _ (by omega) (.inl rfl) (fun d hd hd2 => ?_) ha hy
        rcases hd2 with rfl | rfl
        · exact kle_refl _
        · exact kle_of_lt hc
      · rw [if_pos (by rw [decide_eq_false hc]; decide)]
        refine wpAny_bind (wpAny_bind (wpAny_bind (wpAny_seqItems hl rfl (wpAny_pure (wpAny_bind ?_)))))
        show wpAny _ _ (match xs[2 * pos + 1 + 1]? with | some v => pure v | none => unsupported _) _ _ _
        rw [hb]
        refine wpAny_pure (wpAny_bind ?_)
        show wpAny _ _ (match xs[pos]? with | some v => pure v | none => unsupported _) _ _ _
        rw [hy]
        refine wpAny_pure (wpAny_updateSeq hl rfl ?_ (by rw [sizeLine_eq]; omega) (by rw [sizeLine_eq]; simp; omega))
        refine wpAny_pure ⟨plainId_quiet sift_plain _, ?_⟩
        refine fin (2 * pos + 1 + 1) _ _ (by omega) (.inr rfl) (fun d hd hd2 => ?_) hb hy
        rcases hd2 with rfl | rfl
        · exact kle_of_nlt hc
        · exact kle_refl _
    · rw [if_neg h3]
      refine wpAny_bind (wpAny_bind (wpAny_bind (wpAny_seqItems hl rfl (wpAny_pure (wpAny_bind ?_)))))
      show wpAny _ _ (match xs[2 * pos + 1]? with | some v => pure v | none => unsupported _) _ _ _
      rw [ha]
      refine wpAny_pure (wpAny_bind ?_)
      show wpAny _ _ (match xs[pos]? with | some v => pure v | none => unsupported _) _ _ _
      rw [hy]
      refine wpAny_pure (wpAny_updateSeq hl rfl ?_ (by rw [sizeLine_eq]; omega) (by rw [sizeLine_eq]; simp; omega))
      refine wpAny_pure ⟨plainId_quiet sift_plain _, ?_⟩
      refine fin (2 * pos + 1) _ _ (by omega) (.inl rfl) (fun d hd hd2 => ?_) ha hy
      rcases hd2 with rfl | rfl
      · exact kle_refl _
      · omega
  · rw [if_neg h2]
    refine wpAny_pure ⟨plainId_quiet sift_plain _, ?_⟩
    exact sift_up hu pos hl P hp (H.leaf (by omega)) hz hR
end

section
variable {prog : Program} {w : World} {A : Around} {s : Shared} {E : Value → Shared → Prop} {Q : Value → Shared → Prop}

theorem push_kind : builtinKind "_heapq.heappush" = none := by decide +kernel
theorem push_plain : plainId "_heapq.heappush" = true := by decide +kernel
theorem push_entry : entryFor table "_heapq.heappush" = some Builtin.«_heapq.heappush» := entryFor_of_tree (by kernel_rfl)
theorem pop_kind : builtinKind "_heapq.heappop" = none := by decide +kernel
theorem pop_plain : plainId "_heapq.heappop" = true := by decide +kernel
theorem pop_entry : entryFor table "_heapq.heappop" = some Builtin.«_heapq.heappop» := entryFor_of_tree (by kernel_rfl)
theorem push_args (a b : Value) : argsOk "_heapq.heappush" ⟨[a, b], []⟩ := by unfold argsOk; kernel_rfl
theorem pop_args (a : Value) : argsOk "_heapq.heappop" ⟨[a], []⟩ := by unfold argsOk; kernel_rfl

theorem sub_list : isSubtype (.type "list") (.type "list") = pure true := by rw [isSubtype_type]; kernel_rfl

theorem call_fn {id : String} {b : Builtin} {args : List Value} (hk : builtinKind id = none) (hp : plainId id = true)
    (hb : entryFor table id = some b) (ha : argsOk id ⟨args, []⟩)
    (hc : wpAny (model prog w) A.in1 (b ⟨args, []⟩) (fun fin s' => match fin with
      | .done f => (match (Except.ok f : Result) with | .ok (.ret v) => Q v s' | .ok _ => False | .error e => E e s')
      | .again c' => c'.quiet = true ∧ codeAny (model prog w) A c' (fun r s' => match r with | .ok (.ret v) => Q v s' | .ok _ => False | .error e => E e s') s') E s) :
    wpAny (model prog w) A (call (.builtin id) args) Q E s := by
  refine wpAny_call (codeAny_call_builtin hp hb ?_)
  simp only [checkBuiltinCall, hk]
  cases hsig : Manifest.signature? id with
  | none => exact wpAny_pure hc
  | some sig =>
    simp only [argsOk, hsig] at ha
    show wpAny _ _ (Bind.checkArgs id sig ⟨args, []⟩) _ _ s
    rw [show Bind.checkArgs id sig ⟨args, []⟩ = pure () from ha]
    exact wpAny_pure hc

theorem heappush_call {l va : Addr} {xs : Array Value} {ks : Array Key} {n : Nat} {k : Key} {t u : Tok} (hu : A.units + 4 < cLine) (hl : s.heap.get? l = some (listOf xs n)) (P : PQ s.heap xs ks)
    (hv : s.heap.get? va = some (tp k.1 t k.2 u)) (H : IsHeap ks) (hz : ks.size < 1000)
    (h : ∀ h' xs' ks' n', h'.get? l = some (listOf xs' n') → PQ h' xs' ks' → IsHeap ks' → ks'.toList.Perm (k :: ks.toList) → xs'.toList.Perm (.ref va :: xs.toList) → Heap.SameBut l s.heap h' → Q .none { s with heap := h' }) :
    wpAny (model prog w) A (call (.builtin "_heapq.heappush") [.ref l, .ref va]) Q E s := by
  have hsz : xs.size = ks.size := P.1
  refine call_fn push_kind push_plain push_entry (push_args _ _) ?_
  unfold Builtin.«_heapq.heappush»
  refine wpAny_bind (wpAny_bind (m := noKeywords _ _) (wpAny_pure (wpAny_bind (m := checkCount _ _ _ _) (wpAny_pure ?_))))
  dsimp only
  refine wpAny_bind (wpAny_bind (wpAny_isInstance (b := true) ⟨_, hl, rfl⟩ sub_list ?_))
  simp only [if_true]
  refine wpAny_pure (wpAny_pure ?_)
  dsimp only
  refine wpAny_bind (wpAny_updateSeq hl rfl ?_ (by rw [sizeLine_eq]; omega) (by rw [sizeLine_eq]; simp; omega))
  have hs : Heap.SameBut l s.heap (s.heap.update l (Obj.mapSeq fun x => x.push (.ref va))) := Heap.SameBut.update ..
  have hl' : (s.heap.update l (Obj.mapSeq fun x => x.push (.ref va))).get? l = some (listOf (xs.push (.ref va)) (n + 1)) := by
    rw [Heap.get?_update_self _ hl (by rfl)]
    simp [Obj.mapSeq]
  have hne : va ≠ l := fun e => by
    rw [e, hl] at hv
    exact absurd (congrArg Obj.cls (Option.some.inj hv)) (by simp)
  refine wpAny_bind (wpAny_bind (wpAny_seqItems hl' rfl (wpAny_pure ?_)))
  have P' : PQ (s.heap.update l (Obj.mapSeq fun x => x.push (.ref va))) (xs.push (.ref va)) (ks.push k) := by
    have PK := P.keep hl hs
    refine ⟨by simp [hsz], fun i hi => ?_⟩
    rw [Array.size_push] at hi
    by_cases e : i < ks.size
    · obtain ⟨a, t, u, h1, h2⟩ := PK.2 i e
      have e1 : g (ks.push k) i = g ks i := g_of (by rw [Array.getElem?_push_lt e]; exact (Array.getElem?_eq_getElem e).symm.trans (g_get e))
      rw [e1]
      exact ⟨a, t, u, by rw [Array.getElem?_push_lt (by omega)]; rw [← h1, Array.getElem?_eq_getElem], h2⟩
    · have e2 : i = ks.size := by omega
      subst e2
      have e1 : g (ks.push k) ks.size = k := g_of (by simp)
      rw [e1]
      exact ⟨va, t, u, by rw [← hsz]; simp, (hs.2 va hne).trans hv⟩
  refine wpAny_pure ⟨plainId_quiet sift_plain _, ?_⟩
  rw [show (xs.push (Value.ref va)).size - 1 = ks.size by simp [hsz]]
  refine sift_up (by omega) ks.size hl' P' (by simp) (H.push k) (by simp; omega) ?_
  intro h' xs' ks' n' e1 e2 e3 e4 e6 e5
  refine h h' xs' ks' n' e1 e2 e3 (e4.trans ?_) (e6.trans ?_) (hs.trans e5)
  · rw [Array.toList_push]
    exact List.perm_append_singleton k ks.toList
  · rw [Array.toList_push]
    exact List.perm_append_singleton _ xs.toList

theorem heappop_call {l : Addr} {xs : Array Value} {ks : Array Key} {n : Nat} (hu : A.units + 4 < cLine) (hl : s.heap.get? l = some (listOf xs n)) (P : PQ s.heap xs ks)
    (H : IsHeap ks) (h0 : 0 < ks.size) (hz : ks.size < 1000)
    (h : ∀ h' xs' ks' n' a k t u, h'.get? l = some (listOf xs' n') → PQ h' xs' ks' → IsHeap ks' → (k :: ks'.toList).Perm ks.toList → (∀ k' ∈ ks.toList, kle k k') → .ref a ∈ xs.toList → (∀ v ∈ xs'.toList, v ∈ xs.toList) → s.heap.get? a = some (tp k.1 t k.2 u) → Heap.SameBut l s.heap h' → Q (.ref a) { s with heap := h' }) :
    wpAny (model prog w) A (call (.builtin "_heapq.heappop") [.ref l]) Q E s := by
  have hsz : xs.size = ks.size := P.1
  refine call_fn pop_kind pop_plain pop_entry (pop_args _) ?_
  show wpAny (model prog w) A.in1 (_ >>= _) _ _ _
  refine wpAny_bind (wpAny_bind (m := oneArg _ _) (wpAny_pure (wpAny_bind (wpAny_bind (wpAny_isInstance (b := true) ⟨_, hl, rfl⟩ sub_list ?_)))))
  simp only [if_true]
  refine wpAny_pure (wpAny_pure ?_)
  dsimp only
  refine wpAny_bind (wpAny_bind (wpAny_seqItems hl rfl (wpAny_pure ?_)))
  obtain ⟨z, tz, uz, hzv, hz'⟩ := P.2 (ks.size - 1) (by omega)
  obtain ⟨a, t, u, hav, ha'⟩ := P.2 0 h0
  have hback : xs.back? = some (.ref z) := by rw [Array.back?_eq_getElem?, hsz]; exact hzv
  rw [hback]
  dsimp only
  refine wpAny_bind (wpAny_updateSeq hl rfl ?_ (by rw [sizeLine_eq]; omega) (by rw [sizeLine_eq]; simp; omega))
  have hs : Heap.SameBut l s.heap (s.heap.update l (Obj.mapSeq fun x => x.pop)) := Heap.SameBut.update ..
  have hl' : (s.heap.update l (Obj.mapSeq fun x => x.pop)).get? l = some (listOf xs.pop (n + 1)) := by
    rw [Heap.get?_update_self _ hl (by rfl)]
    have : ¬ xs.size - 1 = xs.size := by omega
    simp [Obj.mapSeq, this]
  have hmin : ∀ k' ∈ ks.toList, kle (g ks 0) k' := fun k' hk' => by
    obtain ⟨i, hi, rfl⟩ := List.mem_iff_getElem.mp hk'
    have hi' : i < ks.size := by simpa using hi
    have := H.min i hi'
    rwa [g_of (ks := ks) (i := i) (k := ks.toList[i]) (by rw [Array.getElem?_eq_getElem hi']; simp)] at this
  have hmem : Value.ref a ∈ xs.toList := by
    have := Array.mem_of_getElem? hav
    exact Array.mem_toList_iff.mpr this
  by_cases h1 : ks.size = 1
  · rw [if_pos (by rw [hsz, h1]; rfl)]
    refine wpAny_pure ?_
    have e0 : z = a := by
      rw [h1] at hzv
      have := hzv.symm.trans hav
      cases this; rfl
    subst e0
    refine h _ xs.pop #[] (n + 1) z (g ks 0) t u hl' ⟨by simp [hsz, h1], fun i hi => absurd hi (by simp)⟩ (fun i _ hi => absurd hi (by simp)) ?_ hmin hmem (fun v hv => ?_) ha' hs
    rotate_left
    · rw [Array.toList_pop] at hv; exact List.dropLast_subset _ hv
    have : ks = #[g ks 0] := by
      apply Array.ext_getElem?
      intro i
      by_cases hi : i = 0
      · subst hi; rw [g_get h0]; rfl
      · rw [Array.getElem?_eq_none (by omega), Array.getElem?_eq_none (by simp; omega)]
    rw [this]
    exact .refl _
  · rw [if_neg (by rw [hsz]; simpa using h1)]
    refine wpAny_bind ?_
    show wpAny _ _ (match xs[0]? with | some v => pure v | none => unsupported _) _ _ _
    rw [hav]
    refine wpAny_pure ?_
    refine wpAny_bind (wpAny_updateSeq (s := { s with heap := s.heap.update l (Obj.mapSeq fun x => x.pop) }) hl' rfl ?_ (by rw [sizeLine_eq]; simp; omega) (by rw [sizeLine_eq]; simp; omega))
    refine wpAny_pure ⟨plainId_quiet sift_plain _, ?_⟩
    have hs2 : Heap.SameBut l s.heap ((s.heap.update l (Obj.mapSeq fun x => x.pop)).update l (Obj.mapSeq fun x => x.setIfInBounds 0 (.ref z))) := hs.trans (Heap.SameBut.update ..)
    have PK := P.keep hl hs2
    have Gp : ∀ i, i ≠ 0 → i < ks.size - 1 → g (ks.pop.setIfInBounds 0 (g ks (ks.size - 1))) i = g ks i := fun i i0 hi => by
      refine g_of ?_
      rw [Array.getElem?_setIfInBounds_ne (Ne.symm i0), Array.getElem?_pop, if_pos hi]
      exact g_get (by omega)
    have G0 : g (ks.pop.setIfInBounds 0 (g ks (ks.size - 1))) 0 = g ks (ks.size - 1) := by
      refine g_of ?_
      rw [Array.getElem?_setIfInBounds]
      simp; omega
    refine sift_down (by omega) ks.size 0 (xs := xs.pop.setIfInBounds 0 (.ref z)) (ks := ks.pop.setIfInBounds 0 (g ks (ks.size - 1))) (n := n + 1) (by simp) ?_ ⟨by simp [hsz], fun i hi => ?_⟩ (by simp; omega) (H.pop _) (by simp; omega) ?_
    · rw [Heap.get?_update_self _ hl' (by rfl)]
      simp [Obj.mapSeq]
    · rw [Array.size_setIfInBounds, Array.size_pop] at hi
      by_cases i0 : i = 0
      · subst i0
        rw [G0]
        exact ⟨z, tz, uz, by rw [Array.getElem?_setIfInBounds]; simp; omega, (PK.2 (ks.size - 1) (by omega)).elim fun a' h2 => by
          obtain ⟨t', u', h3, h4⟩ := h2
          rw [hzv] at h3; cases h3
          exact (hs2.2 z (P.nt hl _ (by omega) z hzv)).trans hz'⟩
      · rw [Gp i i0 hi]
        obtain ⟨a', t', u', h3, h4⟩ := PK.2 i (by omega)
        exact ⟨a', t', u', by rw [Array.getElem?_setIfInBounds_ne (Ne.symm i0), Array.getElem?_pop, if_pos (by omega)]; exact h3, h4⟩
    · intro h' xs' ks' n' e1 e2 e3 e4 e6 e5
      refine h h' xs' ks' n' a (g ks 0) t u e1 e2 e3 ?_ hmin hmem (fun v hv => ?_) ha' (hs2.trans e5)
      rotate_left
      · have h7 := e6.mem_iff.mp hv
        obtain ⟨i, hi, e8⟩ := List.mem_iff_getElem?.mp h7 |>.imp fun i e => (⟨(List.getElem?_eq_some_iff.mp e).1, e⟩ : _ ∧ _)
        rw [Array.getElem?_toList, Array.getElem?_setIfInBounds] at e8
        split at e8
        · split at e8
          · cases e8
            exact Array.mem_toList_iff.mpr (Array.mem_of_getElem? hzv)
          · cases e8
        · rw [Array.getElem?_pop] at e8
          split at e8
          · exact Array.mem_toList_iff.mpr (Array.mem_of_getElem? e8)
          · cases e8
      refine (List.Perm.cons _ e4).trans ?_
      obtain ⟨kl⟩ := ks
      match kl, h0, h1 with
      | [], h0, _ => exact absurd h0 (by simp)
      | [x], _, h1 => exact absurd rfl h1
      | x :: y :: r, _, _ =>
        have ed : y :: r = (y :: r).dropLast ++ [(y :: r).getLast (by simp)] := (List.dropLast_concat_getLast (by simp)).symm
        have e5 : g ⟨x :: y :: r⟩ ((⟨x :: y :: r⟩ : Array Key).size - 1) = (y :: r).getLast (by simp) := by
          refine g_of ?_
          simp [List.getLast_eq_getElem]
        have e6 : g (⟨x :: y :: r⟩ : Array Key) 0 = x := rfl
        rw [e5, e6]
        have e7 : ((⟨x :: y :: r⟩ : Array Key).pop.setIfInBounds 0 ((y :: r).getLast (by simp))).toList = (y :: r).getLast (by simp) :: (y :: r).dropLast := by
          simp [Array.setIfInBounds]
        rw [e7]
        refine List.Perm.cons x ?_
        conv => rhs; rw [ed]
        exact (List.perm_append_singleton _ _).symm
end
end Mine

/-! ## A1 -/
namespace Mine
open PySem PySem.W PySem.Calls PyProof.Rows
set_option maxRecDepth 100000

theorem fillK : ∀ w : World, PySem.Challenge.rw_bh0019_01.Holds → hd.heap_39 w.params = hd.heap_39 w.params := by
  w_top off
  first | (walk1; fail) | skip
  k_fill
  intro _ _; rfl

/-- the items of a queue lie in the ledger part `tups` -/
def PQL (tups : List (Addr × Obj)) (xs : Array Value) (ks : Array Key) : Prop :=
  xs.size = ks.size ∧ ∀ i, i < ks.size → ∃ a t u, xs[i]? = some (.ref a) ∧ (a, tp (g ks i).1 t (g ks i).2 u) ∈ tups

abbrev qDict (h : Int) (t : Tok) (pql : Addr) : Obj := dictOf [⟨h, .str "pq" t, .ref pql⟩] 1
abbrev inst (C d : Addr) : Obj := ⟨.ref C, some d, .plain, #[]⟩

theorem PQL.pq {h₀ h : Heap} {L : Addr} {news tups : List (Addr × Obj)} {xs : Array Value} {ks : Array Key} (P : PQL tups xs ks) (N : News h₀ L h news) (hs : ∀ q ∈ tups, q ∈ news) : PQ h xs ks :=
  ⟨P.1, fun i hi => let ⟨a, t, u, h1, h2⟩ := P.2 i hi; ⟨a, t, u, h1, (N _ (hs _ h2)).1⟩⟩
theorem PQL.mono {tups tups' : List (Addr × Obj)} {xs : Array Value} {ks : Array Key} (P : PQL tups xs ks) (hs : ∀ q ∈ tups, q ∈ tups') : PQL tups' xs ks :=
  ⟨P.1, fun i hi => let ⟨a, t, u, h1, h2⟩ := P.2 i hi; ⟨a, t, u, h1, hs _ h2⟩⟩
theorem PQL.of {h₀ h : Heap} {L : Addr} {news tups : List (Addr × Obj)} {xs : Array Value} {ks : Array Key} (P : PQ h xs ks) (N : News h₀ L h news) (hs : ∀ q ∈ tups, q ∈ news)
    (hx : ∀ v ∈ xs.toList, ∃ a o, v = .ref a ∧ (a, o) ∈ tups) : PQL tups xs ks :=
  ⟨P.1, fun i hi => by
    obtain ⟨a, t, u, h1, h2⟩ := P.2 i hi
    obtain ⟨a', o, h3, h4⟩ := hx _ (Array.mem_toList_iff.mpr (Array.mem_of_getElem? h1))
    cases h3
    have := (N _ (hs _ h4)).1
    rw [h2] at this
    cases this
    exact ⟨a, t, u, h1, h4⟩⟩
theorem PQL.items {tups : List (Addr × Obj)} {xs : Array Value} {ks : Array Key} (P : PQL tups xs ks) : ∀ v ∈ xs.toList, ∃ a o, v = .ref a ∧ (a, o) ∈ tups := fun v hv => by
  obtain ⟨i, hi, e⟩ := List.mem_iff_getElem.mp hv
  have hi' : i < ks.size := by rw [← P.1]; simpa using hi
  obtain ⟨a, t, u, h1, h2⟩ := P.2 i hi'
  have e2 : xs[i]? = some v := by rw [← e, Array.getElem?_eq_getElem (by simpa using hi)]; simp
  rw [h1] at e2; cases e2
  exact ⟨a, _, rfl, h2⟩

section
variable {prog : Program} {w : World} {A : Around} {h₀ : Heap} {L : Addr} {m : Str → Option Value} {news tups : List (Addr × Obj)} {gn : Obj → List (Addr × Obj)} {s : Shared} {E : Value → Shared → Prop} {Q : Value → Shared → Prop}

theorem updF_at {l : Addr} {o o' : Obj} {h h' : Heap} (F : Fr h₀ L h m) (N : News h₀ L h news) (U : UpdF l o news gn) (hs : Heap.SameBut l h h') (ho : h'.get? l = some o') : Fr h₀ L h' m ∧ News h₀ L h' (gn o') := by
  obtain ⟨pre, post, rfl, hg, h1, h2⟩ := U.split
  exact ⟨F.update N (List.mem_append_right _ (.head _)) hs, hg o' ▸ N.setAt h1 h2 hs ho⟩
theorem updF_mem {l : Addr} {o o' : Obj} (U : UpdF l o news gn) {q : Addr × Obj} (hq : q ∈ news) (hne : q.1 ≠ l) : q ∈ gn o' := by
  obtain ⟨pre, post, rfl, hg, h1, h2⟩ := U.split
  rw [hg]
  rcases List.mem_append.mp hq with h | h
  · exact List.mem_append_left _ h
  · rcases List.mem_cons.mp h with rfl | h
    · exact absurd rfl hne
    · exact List.mem_append_right _ (.tail _ h)

theorem push_N {l va : Addr} {xs : Array Value} {ks : Array Key} {n : Nat} {k : Key} {t u : Tok} (hu : A.units + 4 < cLine) (F : Fr h₀ L s.heap m) (N : News h₀ L s.heap news) (U : UpdF l (listOf xs n) news gn)
    (P : PQL tups xs ks) (hsub : ∀ q ∈ tups, q ∈ news) (hnl : ∀ q ∈ tups, q.1 ≠ l) (hv : (va, tp k.1 t k.2 u) ∈ news) (H : IsHeap ks) (hz : ks.size < 1000)
    (h : ∀ h' xs' ks' n', Fr h₀ L h' m → News h₀ L h' (gn (listOf xs' n')) → PQL ((va, tp k.1 t k.2 u) :: tups) xs' ks' → IsHeap ks' → ks'.toList.Perm (k :: ks.toList) → Q .none { s with heap := h' }) :
    wpAny (model prog w) A (call (.builtin "_heapq.heappush") [.ref l, .ref va]) Q E s := by
  have hl : s.heap.get? l = some (listOf xs n) := by
    obtain ⟨pre, post, rfl, hg, h1, h2⟩ := U.split
    exact (N _ (List.mem_append_right _ (.head _))).1
  have PQ0 := P.pq N hsub
  refine heappush_call hu hl PQ0 (N _ hv).1 H hz fun h' xs' ks' n' e1 e2 e3 e4 e6 e5 => ?_
  obtain ⟨F', N'⟩ := updF_at F N U e5 e1
  have hne : ∀ q ∈ (va, tp k.1 t k.2 u) :: tups, q ∈ gn (listOf xs' n') := fun q hq => by
    have hq' : q ∈ news := by
      rcases List.mem_cons.mp hq with rfl | hq
      · exact hv
      · exact hsub _ hq
    by_cases e : q.1 = l
    · have h7 := (N _ hq').1
      rw [e, hl] at h7
      rcases List.mem_cons.mp hq with rfl | hq
      · exact absurd (congrArg Obj.cls (Option.some.inj h7)) (by simp)
      · exact absurd e (hnl _ hq)
    · exact updF_mem U hq' e
  refine h h' xs' ks' n' F' N' (PQL.of e2 N' hne fun v hv' => ?_) e3 e4
  rcases List.mem_cons.mp (e6.mem_iff.mp hv') with rfl | h8
  · exact ⟨va, _, rfl, .head _⟩
  · obtain ⟨a, o, h9, h10⟩ := P.items v h8
    exact ⟨a, o, h9, .tail _ h10⟩

theorem pop_N {l : Addr} {xs : Array Value} {ks : Array Key} {n : Nat} (hu : A.units + 4 < cLine) (F : Fr h₀ L s.heap m) (N : News h₀ L s.heap news) (U : UpdF l (listOf xs n) news gn)
    (P : PQL tups xs ks) (hsub : ∀ q ∈ tups, q ∈ news) (hnl : ∀ q ∈ tups, q.1 ≠ l) (H : IsHeap ks) (h0 : 0 < ks.size) (hz : ks.size < 1000)
    (h : ∀ h' xs' ks' n' a k t u, Fr h₀ L h' m → News h₀ L h' (gn (listOf xs' n')) → PQL tups xs' ks' → IsHeap ks' → (k :: ks'.toList).Perm ks.toList → (∀ k' ∈ ks.toList, kle k k') → (a, tp k.1 t k.2 u) ∈ tups → Q (.ref a) { s with heap := h' }) :
    wpAny (model prog w) A (call (.builtin "_heapq.heappop") [.ref l]) Q E s := by
  have hl : s.heap.get? l = some (listOf xs n) := by
    obtain ⟨pre, post, rfl, hg, h1, h2⟩ := U.split
    exact (N _ (List.mem_append_right _ (.head _))).1
  have PQ0 := P.pq N hsub
  refine heappop_call hu hl PQ0 H h0 hz fun h' xs' ks' n' a k t u e1 e2 e3 e4 e7 e8 e9 e10 e5 => ?_
  obtain ⟨F', N'⟩ := updF_at F N U e5 e1
  have hne : ∀ q ∈ tups, q ∈ gn (listOf xs' n') := fun q hq => updF_mem U (hsub _ hq) (hnl _ hq)
  refine h h' xs' ks' n' a k t u F' N' (PQL.of e2 N' hne fun v hv' => ?_) e3 e4 e7 ?_
  · obtain ⟨a, o, h9, h10⟩ := P.items v (e9 v hv')
    exact ⟨a, o, h9, h10⟩
  · obtain ⟨a', o, h9, h10⟩ := P.items _ e8
    cases h9
    have h11 := (N _ (hsub _ h10)).1
    rw [e10] at h11
    cases h11
    exact h10
end

theorem allLt_mem {d : Nat} {l : List (Addr × Obj)} (h : AllLt d l) : ∀ q ∈ l, @LT.lt Nat _ q.1 d := by
  induction l with
  | nil => intro q hq; cases hq
  | cons a r ih =>
    intro q hq
    rcases List.mem_cons.mp hq with e | hq
    · rw [e]; exact h.1
    · exact ih h.2 q hq
theorem allNe_of {news : List (Addr × Obj)} {L d : Nat} (h : ∀ p ∈ news, p.1 < L) (h2 : L ≤ d) : ∀ p ∈ news, p.1 ≠ d := fun p hp e => absurd (h p hp) (by rw [e]; exact Nat.not_lt.mpr h2)

local macro_rules | `(tactic| k_mem) => `(tactic| assumption)
local macro_rules | `(tactic| k_room) => `(tactic| ((simp only [depth_under_make, depth_under_kw, depth_in1, depth_deeper, depth_caller, Around.in1_units, Around.deeper_units]); omega))
local macro_rules | `(tactic| k_all) => `(tactic| first | assumption | exact allNe_of (by assumption) (by omega))

local macro_rules | `(tactic| walk_at "assign Tuple") => `(tactic| (k_here; (with_reducible show wpAny _ _ (assign (Expr.Tuple _ _ _) _ (Value.ref _)) _ _ _); k_dflt (refine' unpackN_ ?k1 ?k2 ?k3 ?k4 ?k5 ?k6 ?_; (case k1 => k_asm); (case k2 => k_asm); (case k3 => (exact News.isTup (by k_asm) (by k_mem))); (case k4 => assumption); (case k5 => exact rfl); (case k6 => exact rfl); k_whole); intro h' F' N'; (try k_sweep)))

section
variable {prog : Program} {w : World} {A₀ A : Around} {base h₀ : Heap} {outer : List Env} {env : Env} {L : Addr} {m mg mb : Str → Option Value} {news : List (Addr × Obj)} {s : Shared}
  {p : Program} {loose : List Str} {mean : ExcName → Option Value} {E : Value → Shared → Prop} {Q : Value → Shared → Prop}

set_option maxHeartbeats 4000000 in
theorem add_spec (B : Below A₀ base outer h₀) (F : Fr h₀ L s.heap m) (X : (hd.heap_39 w.params).In h₀) (T : Top p loose mean mg mb h₀)
   (hA : A.frames = some (env :: outer)) (hf : env.frame = some L) (hke : env.scope.kind = .function) (hh : A.handled = none) (hd : A.depth + 10 < recursionLimit) (hu : A.units + 30 < cLine)
   {wl wld pql tpa : Addr} {xs : Array Value} {n : Nat} {ks : Array Key} {dt c hsh : Int} {t u tq : Tok} {rest tups : List (Addr × Obj)}
   (N : News h₀ L s.heap ((pql, listOf xs n) :: rest))
   (hw : (wl, inst 80 wld) ∈ rest) (hwd : (wld, qDict hsh tq pql) ∈ rest) (ht : (tpa, tp dt t c u) ∈ rest) (hne : ∀ q ∈ rest, q.1 ≠ pql) (hsub : ∀ q ∈ tups, q ∈ rest)
   (P : PQL tups xs ks) (hk : IsHeap ks) (hz : ks.size < 1000)
   (h : ∀ h' tk xs' ks' n' a t' u', Fr h₀ L h' m → News h₀ L h' ((a, tp (-dt) t' c u') :: (pql, listOf xs' n') :: rest) → PQL ((a, tp (-dt) t' c u') :: tups) xs' ks' → IsHeap ks' → ks'.toList.Perm ((-dt, c) :: ks.toList) →
      (∀ q ∈ (pql, listOf xs n) :: rest, q.1 < a) → Q .none { s with heap := h', toks := tk }) :
   wpAny (model prog w) A (call (.ref 63) [.ref wl, .ref tpa]) Q E s := by
  refine wpAny_call ?_
  refine code_def B F X N T hA hf hke (by k_is) (by k_is) (by omega) (by first | exact BindsTo.of_eq rfl | exact binds_K (by k_in) rfl (by k_is) rfl rfl rfl) (locs rfl) ?_ rfl rfl rfl (by decide)
  intro g' L' h' FG' F' N' B' X' T'
  (try dsimp only)
  (try k_lift B')
  (try k_fold)
  k_steps
  (rename News _ _ _ _ => N9)
  (rename Fr _ _ _ _ => F9)
  refine push_N (k := (-dt, c)) (tups := tups) (by simp only [Around.deeper_units]; omega) F9 N9 (by k_updF) P (by intro q hq; exact List.Mem.tail _ (List.Mem.tail _ (hsub q hq))) (fun q hq => hne q (hsub q hq)) (by k_mem) hk hz ?_
  intro h' xs' ks' n' F' N' P' hk' hp'
  k_steps
  (rename News h₀ _ _ _ => N9)
  (rename Fr h₀ _ _ _ => F9)
  exact h _ _ xs' ks' n' _ _ _ F9 N9 P' hk' hp' (by
    (rename _ ∧ AllLt _ _ => l9)
    exact fun q hq => by
      rcases List.mem_cons.mp hq with rfl | hq
      · exact l9.1
      · exact allLt_mem l9.2 q hq)

set_option maxHeartbeats 4000000 in
theorem get_spec (B : Below A₀ base outer h₀) (F : Fr h₀ L s.heap m) (X : (hd.heap_39 w.params).In h₀) (T : Top p loose mean mg mb h₀)
   (hA : A.frames = some (env :: outer)) (hf : env.frame = some L) (hke : env.scope.kind = .function) (hh : A.handled = none) (hd : A.depth + 10 < recursionLimit) (hu : A.units + 30 < cLine)
   {wl wld pql : Addr} {xs : Array Value} {n : Nat} {ks : Array Key} {hsh : Int} {tq : Tok} {rest tups : List (Addr × Obj)}
   (N : News h₀ L s.heap ((pql, listOf xs n) :: rest))
   (hw : (wl, inst 80 wld) ∈ rest) (hwd : (wld, qDict hsh tq pql) ∈ rest) (hne : ∀ q ∈ rest, q.1 ≠ pql) (hsub : ∀ q ∈ tups, q ∈ rest)
   (P : PQL tups xs ks) (hk : IsHeap ks) (h0 : 0 < ks.size) (hz : ks.size < 1000)
   (h : ∀ h' tk xs' ks' n' a k t' u', Fr h₀ L h' m → News h₀ L h' ((a, tp (-k.1) t' k.2 u') :: (pql, listOf xs' n') :: rest) → PQL tups xs' ks' → IsHeap ks' → (k :: ks'.toList).Perm ks.toList → (∀ k' ∈ ks.toList, kle k k') →
      (∀ q ∈ (pql, listOf xs n) :: rest, q.1 < a) → Q (.ref a) { s with heap := h', toks := tk }) :
   wpAny (model prog w) A (call (.ref 70) [.ref wl]) Q E s := by
  refine wpAny_call ?_
  refine code_def B F X N T hA hf hke (by k_is) (by k_is) (by omega) (by first | exact BindsTo.of_eq rfl | exact binds_K (by k_in) rfl (by k_is) rfl rfl rfl) (locs rfl) ?_ rfl rfl rfl (by decide)
  intro g' L' h' FG' F' N' B' X' T'
  (try dsimp only)
  (try k_lift B')
  (try k_fold)
  k_steps
  (rename News _ _ _ _ => N9)
  (rename Fr _ _ _ _ => F9)
  refine pop_N (tups := tups) (by simp only [Around.deeper_units]; omega) F9 N9 (by k_updF) P (by intro q hq; exact List.Mem.tail _ (hsub q hq)) (fun q hq => hne q (hsub q hq)) hk h0 hz ?_
  intro h' xs' ks' n' a k t u F' N' P' hk' hp' hmin hm9
  have hm8 := hsub _ hm9
  k_steps
  (rename News h₀ _ _ _ => N9)
  (rename Fr h₀ _ _ _ => F9)
  exact h _ _ xs' ks' n' _ k _ _ F9 N9 P' hk' hp' hmin (by
    (rename _ ∧ AllLt _ _ => l9)
    exact fun q hq => by
      rcases List.mem_cons.mp hq with rfl | hq
      · exact l9.1
      · exact allLt_mem l9.2 q hq)
end
end Mine

/-! ## G1 -/
namespace Mine
open PySem PySem.W PySem.Calls PyProof.Rows
open Sem (wp)
set_option maxRecDepth 100000

section
variable {M : Model} {A : Around} {R : GenEnd} {Y : Protocol} {n : Nat} {s₀ : Shared} {c : Code} {fs : List Frame} {s : Shared} {env : Env}
  {K : Flow → Sem PySem.Fin} {H : Value → Sem PySem.Fin} {gd : Bool → Bool} {lv : List Value → List Value}

def backOf (env : Env) (r : Result) : Sem Flow :=
  (match r with | .ok f => (.pure f : Sem Flow) | .error e => .raise e).onRaise fun (x : Value) => do
        if (← field x 1) == Value.none then unsupported "frame.own-activation:exception-without-traceback"
        setFlight x env.frame

theorem seg_For {target iter : Expr} {body orelse : List Stmt} {pos : Pos} (hs : ∀ x, foldedSetIterable iter env x = pure x)
    (h : wpAny M (A.over c fs) (eval iter env) (fun x s₁ => wpAny M (A.over c fs) (pyIter x) (fun it s₂ => ∀ p, Seg M A R Y n s₀ (.forLoop target it body orelse env) (M.den (.forLoop target it body orelse env))
      (.ret (fun r => (backOf env r).wrap K H gd lv) none (gd false) (lv []) c p [] :: fs) s₂) (fun _ _ => False) s₁) (fun _ _ => False) s) :
    Seg M A R Y n s₀ c ((exec (.For target iter body orelse pos) env).wrap K H gd lv) fs s := by
  rw [exec_For]
  refine seg_bind_wrap (wpAny_standAt ?_)
  refine seg_bind_wrap (wpAny_mono h (fun x s₁ h₁ => ?_) fun _ _ x => x.elim)
  refine seg_bind_wrap (wpAny_of_eq (hs x) ?_)
  refine seg_bind_wrap (wpAny_standAt ?_)
  refine seg_bind_wrap (wpAny_holding (wpAny_mono h₁ (fun it s₂ h₂ => ?_) fun _ _ x => x.elim))
  exact seg_call h₂

end

section
variable {prog : Program} {w : World} {A : Around} {R : GenEnd} {Y : Protocol} {n : Nat} {s₀ : Shared} {fs : List Frame} {s : Shared} {env : Env}

theorem seg_forLoop {target : Expr} {it : Value} {body orelse : List Stmt}
    (h : wpAny (model prog w) (A.over (.forLoop target it body orelse env) fs) (pyNext it) (fun r s' => match r with
        | none => Seg (model prog w) A R Y n s₀ (.forLoop target it body orelse env) (.pure (.again (.block orelse env))) fs s'
        | some v => wpAny (model prog w) (A.over (.forLoop target it body orelse env) fs) (letOwnedTupleGo target it v) (fun _ s₂ => wpAny (model prog w) (A.over (.forLoop target it body orelse env) fs) (assign target env v) (fun _ s₃ =>
          Seg (model prog w) A R Y n s₀ (.forLoop target it body orelse env) ((execs body env).wrap (fun f => match f with
            | .next | .cont => .pure (.again (.forLoop target it body orelse env))
            | .brk => .pure (.done .next)
            | .ret v => .pure (.done (.ret v))) (fun e => (do noteFrame e env; theTreesLotGoes e : Sem Unit).wrap (fun _ => .raise e) .raise id id) id id) fs s₃) (fun _ _ => False) s₂) (fun _ _ => False) s') (fun _ _ => False) s) :
    Seg (model prog w) A R Y n s₀ (.forLoop target it body orelse env) ((model prog w).den (.forLoop target it body orelse env)) fs s := by
  show Seg _ A R Y n s₀ _ ((forTurn target it body orelse env).onRaise (fun x => do noteFrame x env; theTreesLotGoes x)) fs s
  unfold forTurn
  rw [Sem.onRaise_eq_wrap]
  refine seg_bind_wrap (wpAny_standAt ?_)
  refine seg_bind_wrap (wpAny_onRaise (wpAny_mono h (fun r s' hr => ?_) fun _ _ x => x.elim))
  cases r with
  | none => exact hr
  | some v =>
    refine seg_bind_wrap (wpAny_mono hr (fun _ s₂ h₂ => ?_) fun _ _ x => x.elim)
    refine seg_bind_wrap (wpAny_mono h₂ (fun _ s₃ h₃ => ?_) fun _ _ x => x.elim)
    rw [Sem.bind_eq_wrap', Sem.wrap_wrap]
    rw [Sem.wrap_congr (execs body env) _ _ (K' := fun f => match f with
            | .next | .cont => .pure (.again (.forLoop target it body orelse env))
            | .brk => .pure (.done .next)
            | .ret v => .pure (.done (.ret v))) (H' := (fun e => (do noteFrame e env; theTreesLotGoes e : Sem Unit).wrap (fun _ => .raise e) .raise id id))
        (fun f => by cases f <;> rfl)
        (fun e => by first | exact Sem.bind_eq_wrap _ _ | (show (do noteFrame e env; theTreesLotGoes e : Sem Unit).bind (fun _ => .raise e) = _; rw [Sem.bind_eq_wrap]))]
    exact h₃
end
end Mine

/-! ## G2 -/
namespace Mine
open PySem PySem.W PySem.Calls PyProof.Rows
open Sem (wp)
set_option maxRecDepth 100000

def GSince (C a : Nat) (s₀ s : Shared) : Prop :=
  ∃ h' tk, s = { s₀ with heap := h', toks := tk } ∧ ∀ b o, (b < C ∨ b = a) → s₀.heap.get? b = some o → h'.get? b = some o
theorem GSince.refl (C a : Nat) (s : Shared) : GSince C a s s := ⟨s.heap, s.toks, rfl, fun _ _ _ e => e⟩
theorem GSince.step {C a : Nat} {s₀ s : Shared} (x : GSince C a s₀ s) {h' : Heap} {tk : Nat} (hk : ∀ b o, (b < C ∨ b = a) → s.heap.get? b = some o → h'.get? b = some o) :
    GSince C a s₀ { s with heap := h', toks := tk } := by
  obtain ⟨h₁, tk₁, rfl, hk₁⟩ := x
  exact ⟨h', tk, rfl, fun b o hb e => hk b o hb (hk₁ b o hb e)⟩

theorem lt_get {h : Heap} {b : Nat} {o : Obj} (e : h.get? b = some o) : @LT.lt Nat _ b h.objs.size := Heap.lt_size e

abbrev GPriv := List (Addr × Obj)
def gY (gb : Heap) (C a N : Nat) (F : Nat → Value → Heap → Prop) : Protocol := fun m s₀ v s₁ kap =>
  F (N - 1 - m) v s₁.heap ∧ GSince C a s₀ s₁ ∧ ∃ priv : GPriv, (∀ q ∈ priv, s₁.heap.get? q.1 = some q.2 ∧ C ≤ q.1 ∧ q.1 ≠ a) ∧
    ∀ s'' : Shared, gb.StaysIn s''.heap → (∀ q ∈ priv, s''.heap.get? q.1 = some q.2) → (∃ o, s''.heap.get? a = some o) → kap (.send .none) s''
abbrev gR (C a : Nat) : GenEnd := fun n s₀ r s₁ => r = .ok (.ret .none) ∧ (n = 0 ∧ GSince C a s₀ s₁)

section
variable {prog : Program} {w : World} {A : Around} {E : Value → Shared → Prop} {s : Shared}

theorem gen_next {a gi n : Nat} {gs : GenState} {P : Nat → Shared → Shared → Prop} {Y : Protocol} {Q : Option Value → Shared → Prop} (hh : A.handled = none)
    (hl : s.heap.NoLimit) (hroom : A.depth < recursionLimit) (hg : s.heap.IsGen a gi) (hgs : s.gens[gi]? = some gs)
    (hgo : gs.Goes (model prog w) A.in1 (fun n s₀ r s₁ => r = .ok (.ret .none) ∧ P n s₀ s₁) Y n (.send .none) (s.setGen gi .running))
    (hY : ∀ v s₁ gs', gs'.bare = true → Y (n - 1) (s.setGen gi .running) v s₁ (fun r' s'' => match n with
        | 0 => False
        | m + 1 => gs'.Goes (model prog w) A.in1 (fun n s₀ r s₁ => r = .ok (.ret .none) ∧ P n s₀ s₁) Y m r' s'') → Q (some v) (s₁.setGen gi gs'))
    (hP : ∀ s₁, P n (s.setGen gi .running) s₁ → ∀ h', (∀ b o, s₁.heap.get? b = some o → h'.get? b = some o) → Q none { s₁.setGen gi .finished with heap := h' }) :
    wpAny (model prog w) A (pyNext (.ref a)) Q E s := by
  unfold pyNext
  refine wpAny_bind (wpAny_attempt (wpAny_callSpecial?_slot (name := Str.ofString "__next__") hg.typeIs slot_gen_next
    (wpAny_call_entry slot_gen_next hg.typeIs entry_gen_next ?_ (args_gen_next _))))
  show wpAny _ _ (Builtin.Generator.genWake (.ref a) (.send .none)) _ _ s
  unfold Builtin.Generator.genWake
  refine wpAny_bind (wpAny_holding (wpAny_genNumber hg (wpAny_bind (wpAny_genState hgs ?_))))
  cases gs with
  | running => exact hgo.elim
  | finished => exact hgo.elim
  | _ =>
    refine wpAny_bind (wpAny_roomToWake hl hroom ?_)
    show wpAny _ _ (.resume gi (.send .none) [] _) _ _ s
    refine wpAny_resumeQ hgs hgo (fun x s₁ hx => ?_) fun v s₁ gs' hb hv => wpAny_pure ⟨v, rfl, wpAny_pure (hY v s₁ gs' hb hv)⟩
    obtain ⟨rfl, hp⟩ := hx
    show wpAny _ _ (newExc (.type "StopIteration") [] >>= _) _ _ _
    refine wpAny_bind ?_
    simp only [newExc, newTuple]
    refine wpAny_bind (wpAny_newObj_type ?_ (by size_fits))
    refine wpAny_bind (m := firstArgMember _ _) (wpAny_of_eq (a := Value.none) (by first | rfl | (simp only [firstArgMember]; rfl)) ?_)
    refine wpAny_newObj_type ?_ (by size_fits)
    simp only [raiseNew]
    refine wpAny_bind (wpAny_bind (wpAny_handled ?_))
    rw [show A.in1.handled = none from hh]
    refine wpAny_throw ?_
    refine wpAny_bind (wpAny_isInstance (T := "StopIteration") (b := true) ⟨_, Heap.get?_push_size _ rfl, rfl⟩ isSubtype_stop ?_)
    exact wpAny_pure (hP s₁ hp _ fun b o hb => Heap.get?_push_of_some _ (Heap.get?_push_of_some _ hb))

theorem seg_yieldLoop {gb : Heap} {C a l it : Nat} {env : Env} {x y : Str} {px py pt ypos epos : Pos} {k : Nat} {ye : Expr} {xs : Array Value} {ks : Array Key} {F : Nat → Value → Heap → Prop} {c : Code} {p : Pos} {lv : List Value}
    {K : Flow → Sem PySem.Fin} {H : Value → Sem PySem.Fin} (hK : K .next = .pure (.done (.ret .none)))
    (hh : A.handled = none) (hloc : env.locals = C) (hxy : x ≠ y) (hx : env.kindOf x = some .local) (hy : env.kindOf y = some .local)
    (hp : (env.scope.kind == .class || (env.scope.kind == .module && env.locals != env.globals)) = false) (hco : env.scope.isCoroutine = false) (hi : interactive env = false)
    (hgC : gb.objs.size ≤ C) (hl : gb.IsList l xs) (hP : PQ gb xs ks) (hCi : C < it) (hai : a < it) (haC : a ≠ C)
    (hye : ∀ (A' : Around) i (s : Shared) m, A'.handled = none → i < ks.size → gb.StaysIn s.heap → s.heap.Ns C m → C < s.heap.objs.size → a < s.heap.objs.size → (∃ t, m x = some (.int (g ks i).1 t)) → (∃ u, m y = some (.int (g ks i).2 u)) →
      wpAny (model prog w) A' (eval ye env) (fun v s' => F i v s'.heap ∧ ∃ h' tk, s' = { s with heap := h', toks := tk } ∧ ∀ b o, s.heap.get? b = some o → h'.get? b = some o) (fun _ _ => False) s) :
    ∀ (j i : Nat) (s₀ s : Shared) (m : Str → Option Value), ks.size - i = j → i ≤ ks.size → gb.StaysIn s.heap → s.heap.Ns C m → s.heap.IsListIter it l i → (∃ o, s.heap.get? a = some o) → GSince C a s₀ s →
      Seg (model prog w) A (gR C a) (gY gb C a ks.size F) j s₀
        (.forLoop (.Tuple [.Name x px, .Name y py] k pt) (.ref it) [.Expr (.Yield (some ye) ypos) epos] [] env)
        ((model prog w).den (.forLoop (.Tuple [.Name x px, .Name y py] k pt) (.ref it) [.Expr (.Yield (some ye) ypos) epos] [] env))
        [.ret (fun r => (backOf env r).wrap K H id id) none false lv c p []] s := by
  have hxs : xs.size = ks.size := hP.1
  have hlC : l < C := let ⟨o, ho, _⟩ := hl; Nat.lt_of_lt_of_le (Heap.lt_size ho) hgC
  intro j
  induction j with
  | zero =>
    intro i s₀ s m hj hi₁ hst hn hit ha hsince
    have hin : i = ks.size := by omega
    subst hin
    have hl' : s.heap.IsList l xs := hl.at fun o e => hst _ _ e
    refine seg_forLoop (wpAny_pyNext_list_end hh hit hl' (Array.getElem?_eq_none (by omega)) fun h' hk' => ?_)
    refine seg_again rfl ?_
    refine seg_leaf (.ok .next) ?_
    show Seg _ _ _ _ _ _ _ (K .next) [] _
    rw [hK]
    refine seg_end (.ok (.ret .none)) ⟨rfl, rfl, hsince.step fun b o hb e => hk' b o (neN ?_) e⟩
    rcases hb with hb | hb <;> omega
  | succ j ih =>
    intro i s₀ s m hj hi₁ hst hn hit ha hsince
    have hl' : s.heap.IsList l xs := hl.at fun o e => hst _ _ e
    have hlt : i < ks.size := by omega
    obtain ⟨t, tt, tu, e1, e2⟩ := hP.2 i hlt
    have htC : t < C := Nat.lt_of_lt_of_le (Heap.lt_size e2) hgC
    refine seg_forLoop (wpAny_pyNext_list_item hit hl' e1 fun h₁ hit₁ hs₁ => ?_)
    have hst₁ : gb.StaysIn h₁ := fun b o e => (hs₁.2 b (neN (by have := lt_get e; omega))).trans (hst b o e)
    have hn₁ : h₁.Ns C m := hn.sameBut hs₁ (neN (by omega))
    refine wpAny_letOwnedTupleGo_listiter hit₁ ?_
    refine assign_Tuple_tuple hh (items := #[.int (g ks i).1 tt, .int (g ks i).2 tu]) ⟨_, hst₁ _ _ e2, rfl, _, rfl⟩ rfl rfl fun h₂ hs₂ => ?_
    have hs₂ : Heap.ExtBut h₁.objs.size h₁ h₂ := hs₂
    have hz₁ : it < h₁.objs.size := let ⟨o, ho, _⟩ := hit₁; lt_get ho
    have hst₂ : gb.StaysIn h₂ := fun b o e => hs₂ b o (by have := Heap.lt_size (hst₁ b o e); exact Nat.ne_of_lt this) (hst₁ b o e)
    have hn₂ : h₂.Ns C m := hn₁.extBut hs₂ (neN (by omega))
    have hit₂ : h₂.IsListIter it l (i + 1) := hit₁.extBut hs₂ (neN (by omega))
    refine assignInOrder_cons (wpAny_assign_Name (wpAny_storeName_local hx (hloc ▸ hn₂) (fun h₃ hn₃ hs₃ => ?_) hp))
    refine assignInOrder_cons (wpAny_assign_Name (wpAny_storeName_local hy hn₃ (fun h₄ hn₄ hs₄ => ?_) hp))
    refine assignInOrder_nil ?_
    rw [hloc] at hn₃ hn₄ hs₃ hs₄
    have hs34 := hs₃.trans hs₄
    have hst₄ : gb.StaysIn h₄ := fun b o e => (hs34.2 b (neN (by have := lt_get e; omega))).trans (hst₂ b o e)
    have hit₄ : h₄.IsListIter it l (i + 1) := hit₂.extBut hs34.extBut (neN (by omega))
    have up₄ : ∀ b o, (b < C ∨ b = a) → s.heap.get? b = some o → h₄.get? b = some o := fun b o hb e => by
      have hbi : b ≠ it := neN (by rcases hb with hb | hb <;> omega)
      have hbC : b ≠ C := neN (by rcases hb with hb | hb <;> omega)
      have e1 := (hs₁.2 b hbi).trans e
      exact (hs34.2 b hbC).trans (hs₂ b o (Nat.ne_of_lt (Heap.lt_size e1)) e1)
    obtain ⟨oa, hoa⟩ := ha
    have haz : a < h₄.objs.size := lt_get (up₄ a oa (.inr rfl) hoa)
    refine seg_execs_cons (seg_Expr_Yield rfl rfl rfl (wpAny_mono (hye _ i _ _ hh hlt hst₄ hn₄ hn₄.lt haz ⟨tt, by simp [hxy]⟩ ⟨tu, by simp⟩) (fun v s' hv => ?_) fun _ _ x => x.elim) hco hi)
    obtain ⟨hF, h₅, tk, rfl, hk₅⟩ := hv
    intro kap hkap
    have hn₅ := hn₄.keeps hk₅
    obtain ⟨oC, hoC⟩ : ∃ o, h₅.get? C = some o := let ⟨o, _, _, ho, _⟩ := hn₅; ⟨o, ho⟩
    obtain ⟨oi, hoi, hci, hdi⟩ := hit₄
    refine ⟨by rw [show ks.size - 1 - j = i by omega]; exact hF, hsince.step fun b o hb e => hk₅ b o (up₄ b o hb e), [(C, oC), (it, oi)], ?_, fun s'' hs'' hpr hal => hkap .none s'' ?_⟩
    · intro q hq
      rcases List.mem_cons.mp hq with rfl | hq
      · exact ⟨hoC, Nat.le_refl _, fun e => haC e.symm⟩
      · rcases List.mem_cons.mp hq with rfl | hq
        · exact ⟨hk₅ _ _ hoi, Nat.le_of_lt hCi, Nat.ne_of_gt hai⟩
        · cases hq
    · refine seg_again rfl ?_
      have hC'' := hpr (C, oC) (.head _)
      have hi'' := hpr (it, oi) (.tail _ (.head _))
      obtain ⟨oa', hoa'⟩ := hal
      refine ih (i + 1) s'' s'' _ (by omega) (by omega) hs'' (hn₅.at' fun o e => ?_) ⟨oi, hi'', hci, hdi⟩ ⟨oa', hoa'⟩ (GSince.refl ..)
      rw [hoC] at e; cases e; exact hC''
end
end Mine

/-! ## G3 -/
namespace Mine
open PySem PySem.W PySem.Calls PyProof.Rows
open Sem (wp)
set_option maxRecDepth 100000

theorem fillK2 : ∀ w : World, PySem.Challenge.rw_bh0019_01.Holds → hd.heap_39 w.params = hd.heap_39 w.params := by
  w_top off
  first | (walk1; fail) | skip
  k_fill
  intro _ _; rfl

/-- a heap of just what a frame can tell of: its ground and its ledger -/
theorem ground_gb {h₀ h : Heap} {L : Addr} {m : Str → Option Value} {news : List (Addr × Obj)} (F : Fr h₀ L h m) (N : News h₀ L h news) :
    ∃ gb : Heap, gb.objs.size = h.objs.size ∧ h₀.StaysIn gb ∧ (∀ q ∈ news, gb.get? q.1 = some q.2) ∧ (∀ h' m', Fr h₀ L h' m' → News h₀ L h' news → gb.StaysIn h') ∧ gb.StaysIn h := by
  let hid : List Nat := (List.range h.objs.size).filter fun b => (h₀.get? b).isNone && !(news.map (·.1)).contains b
  have hsize : (hideAll h hid).objs.size = h.objs.size := hideAll_size _ _
  have up : ∀ b o, h.get? b = some o → ((h₀.get? b).isSome ∨ b ∈ news.map (·.1)) → (hideAll h hid).get? b = some o := fun b o e hb => by
    refine hideAll_get _ e fun hm => ?_
    have := (List.mem_filter.mp hm).2
    simp only [Bool.and_eq_true, Bool.not_eq_true'] at this
    rcases hb with hb | hb
    · rw [Option.isNone_iff_eq_none] at this
      rw [this.1] at hb; cases hb
    · have h2 := this.2
      rw [List.contains_iff_mem.mpr hb] at h2; cases h2
  have dn : ∀ b o, (hideAll h hid).get? b = some o → (h₀.get? b = some o ∨ (b, o) ∈ news) := fun b o e => by
    have eh := of_hideAll _ e
    have hlt : b < h.objs.size := Heap.lt_size eh
    by_cases hb : b ∈ hid
    · rw [hideAll_none _ hb] at e; cases e
    · have : ¬ ((h₀.get? b).isNone && !(news.map (·.1)).contains b) = true := fun q => hb (List.mem_filter.mpr ⟨List.mem_range.mpr hlt, q⟩)
      cases h0 : h₀.get? b with
      | some o' =>
        have := F.keep b o' h0
        rw [eh] at this; cases this
        exact .inl rfl
      | none =>
        rw [h0] at this
        simp only [Option.isNone_none, Bool.true_and, Bool.not_eq_true', Bool.not_eq_false] at this
        have h2 := List.contains_iff_mem.mp this
        obtain ⟨⟨b', o'⟩, hq, e2⟩ := List.mem_map.mp h2
        have e2 : b' = b := e2
        subst e2
        have := (N _ hq).1
        rw [eh] at this; cases this
        exact .inr hq
  refine ⟨hideAll h hid, hsize, fun b o e => up b o (F.keep b o e) (.inl (by rw [e]; rfl)), fun q hq => up _ _ (N q hq).1 (.inr (List.mem_map_of_mem hq)), fun h' m' F' N' b o e => ?_, fun b o e => of_hideAll _ e⟩
  rcases dn b o e with h1 | h1
  · exact F'.keep b o h1
  · exact (N' _ h1).1

def Ready (prog : Program) (w : World) (A : Around) (gb : Heap) (C a N : Nat) (F : Nat → Value → Heap → Prop) (j : Nat) (priv : GPriv) (gs : GenState) : Prop :=
  gs.bare = true ∧ ∀ s'' : Shared, gb.StaysIn s''.heap → (∀ q ∈ priv, s''.heap.get? q.1 = some q.2) → (∃ o, s''.heap.get? a = some o) →
    gs.Goes (model prog w) A.in1 (gR C a) (gY gb C a N F) (N - j) (.send .none) s''

def genObj (gi : Nat) (t1 t2 : Tok) : Obj := { cls := .type "generator", data := .fields #[.int gi 0, .str "iter" t1, .str "WorkList.iter" t2] }
def Fk (C a : Nat) (ks : Array Key) (i : Nat) (v : Value) (h : Heap) : Prop := ∃ t tk u, v = .ref t ∧ h.get? t = some (tp (-(g ks i).1) tk (g ks i).2 u) ∧ C ≤ t ∧ t ≠ a

section
variable {prog : Program} {w : World} {A₀ A : Around} {base h₀ : Heap} {outer : List Env} {env : Env} {L : Addr} {m mg mb : Str → Option Value} {news : List (Addr × Obj)} {s : Shared}
  {p : Program} {loose : List Str} {mean : ExcName → Option Value} {E : Value → Shared → Prop} {Q : Value → Shared → Prop}

set_option maxHeartbeats 4000000 in
theorem iter_spec (F : Fr h₀ L s.heap m) (X : (hd.heap_39 w.params).In h₀) (T : Top p loose mean mg mb h₀)
   (hh : A.handled = none) (hdep : A.depth + 10 < recursionLimit) (hu : A.units + 30 < cLine)
   {wl wld pql : Addr} {xs : Array Value} {n : Nat} {ks : Array Key} {hsh : Int} {tq : Tok} {tups : List (Addr × Obj)}
   (N : News h₀ L s.heap news)
   (hw : (wl, inst 80 wld) ∈ news) (hwd : (wld, qDict hsh tq pql) ∈ news) (hp : (pql, listOf xs n) ∈ news) (hsub : ∀ q ∈ tups, q ∈ news)
   (P : PQL tups xs ks)
   (h : ∀ gb C a h' tk gs t1 t2 priv, Fr h₀ L h' m → News h₀ L h' (priv ++ (a, genObj s.gens.size t1 t2) :: news) → (∀ q ∈ news, q.1 < C) → L < C → C < a →
      (∀ h' m', Fr h₀ L h' m' → News h₀ L h' news → gb.StaysIn h') → (∀ q ∈ priv, C ≤ q.1 ∧ q.1 ≠ a) →
      (∀ A' : Around, A'.handled = none → Ready prog w A' gb C a ks.size (Fk C a ks) 0 priv gs) → Q (.ref a) { s with heap := h', toks := tk, gens := s.gens.push gs }) :
   wpAny (model prog w) A (call (.ref 77) [.ref wl]) Q E s := by
  refine wpAny_call ?_
  refine codeAny_call_generator (by omega) ((X.keeps F.keep) _ _ (by k_is)) rfl rfl rfl rfl (codeRec_of (X.keeps F.keep) (by k_is)) ?_
  refine BindsTo.of_eq (binds := [(Str.ofString "self", .ref wl)]) rfl _ _ _ _ ?_
  refine wpAny_newFunctionEnv (by decide) (locs rfl) (fun h₁ hns hsb => ⟨?_, ?_⟩) rfl
  · exact ((T.nolimit).keeps F.keep).fresh _ hsb
  have hsz : h₁.objs.size = s.heap.objs.size + 1 := by rw [hsb.1, Heap.size_push]
  have hk₁ : ∀ b o, s.heap.get? b = some o → h₁.get? b = some o := fun b o e => hsb.extBut b o (Nat.ne_of_lt (Heap.lt_size e)) (Heap.get?_push_of_some _ e)
  obtain ⟨gb, hgs, hg0, hgn, hgk, hgl⟩ := ground_gb F N
  obtain ⟨oC, es, ep, hoC, hdC, hkC, hfC⟩ := id hns
  have hLz : L < s.heap.objs.size := F.ns.lt
  have hk₂ : ∀ (o : Obj) b o', h₁.get? b = some o' → (h₁.push o).get? b = some o' := fun o b o' e => Heap.get?_push_of_some _ e
  dsimp only
  refine h gb s.heap.objs.size h₁.objs.size _ _ _ (s.toks + 1) (s.toks + 1 + 1) [(s.heap.objs.size, oC)] ⟨(F.ns.keeps hk₁).keeps (hk₂ _), fun b o e => hk₂ _ _ _ (hk₁ b o (F.keep b o e)), F.above⟩ (fun q hq => ?_) (fun q hq => lt_get (N q hq).1) hLz (ltN (by omega)) hgk (fun q hq => ?_) fun A' hA' => ⟨rfl, fun s'' hst hpr hal => ⟨rfl, ?_⟩⟩
  · rcases List.mem_cons.mp hq with rfl | hq
    · exact ⟨hk₂ _ _ _ hoC, Nat.ne_of_gt hLz, Heap.get?_none_of_le (Nat.le_trans F.above (Nat.le_of_lt hLz))⟩
    · rcases List.mem_cons.mp hq with rfl | hq
      · exact ⟨Heap.get?_push_size _ rfl, Nat.ne_of_gt (Nat.lt_trans hLz (ltN (by omega))), Heap.get?_none_of_le (Nat.le_trans F.above (Nat.le_of_lt (Nat.lt_trans hLz (ltN (by omega)))))⟩
      · exact ⟨hk₂ _ _ _ (hk₁ _ _ (N q hq).1), (N q hq).2⟩
  · rcases List.mem_cons.mp hq with rfl | hq
    · exact ⟨Nat.le_refl _, Nat.ne_of_lt (ltN (by omega))⟩
    · cases hq
  have X'' := X.keeps hg0
  have T'' := T.keeps hg0
  have hC'' := hpr _ (.head _)
  have F'' : Fr gb s.heap.objs.size s''.heap (fun x => List.lookup x [(Str.ofString "self", Value.ref wl)].reverse) := ⟨⟨oC, es, ep, hC'', hdC, hkC, hfC⟩, hst, Nat.le_of_eq hgs⟩
  have N'' : News gb s.heap.objs.size s''.heap [] := fun _ hq => nomatch hq
  have hxs : xs.size = ks.size := P.1
  have hlg : gb.IsList pql xs := ⟨_, hgn _ hp, rfl, _, rfl⟩
  have hPg : PQ gb xs ks := ⟨P.1, fun i hi => let ⟨a, t, u, h1, h2⟩ := P.2 i hi; ⟨a, t, u, h1, hgn _ (hsub _ h2)⟩⟩
  refine seg_func (seg_execs_cons (seg_For (fun _ => rfl) ?_))
  k_steps
  refine get_own F'' X'' (InstAt.mk (hst _ _ (hgn _ hw)) rfl rfl (hst _ _ (hgn _ hwd))) (by k_is) (by k_is) (by k_is) (by k_is) (by k_get) (by k_handed) ?_
  refine wpAny_pyIter_list (hlg.at fun o e => hst _ _ e) ?_
  intro p
  have hz'' : s.heap.objs.size < s''.heap.objs.size := F''.ns.lt
  obtain ⟨oa, hoa⟩ := hal
  have hza : h₁.objs.size < s''.heap.objs.size := lt_get hoa
  refine seg_yieldLoop (A := A'.in1) (gb := gb) (C := s.heap.objs.size) (a := h₁.objs.size) (xs := xs) (ks := ks) (m := fun x => List.lookup x [(Str.ofString "self", Value.ref wl)].reverse) ?hK hA' ?hloc ?hxy ?hx ?hy ?hp ?hco ?hi (Nat.le_of_eq hgs) hlg hPg hz'' hza (by omega) ?hye ks.size 0 _ _ rfl (Nat.zero_le _) (fun b o e => Heap.get?_push_of_some _ (hst b o e)) (F''.ns.push _) ⟨{ cls := .type "list_iterator", data := .fields #[.ref pql, .int 0 0] }, Heap.get?_push_size _ rfl, rfl, rfl⟩ ⟨oa, Heap.get?_push_of_some _ hoa⟩ ⟨_, _, rfl, fun b o _ e => Heap.get?_push_of_some _ e⟩
  case hxy => decide
  case hK => rfl
  case hloc => rfl
  case hx => rfl
  case hy => rfl
  case hp => rfl
  case hco => rfl
  case hi => rfl
  intro A₂ i s₂ m₂ hh₂ hi hst₂ hn₂ hzC hza₂ hm1 hm2
  obtain ⟨t, hm1⟩ := hm1
  obtain ⟨u, hm2⟩ := hm2
  have F₂ : Fr gb s.heap.objs.size s₂.heap m₂ := ⟨hn₂, hst₂, Nat.le_of_eq hgs⟩
  have N₂ : News gb s.heap.objs.size s₂.heap [] := fun _ hq => nomatch hq
  clear F'' N''
  k_steps
  refine nameX_L F₂ hm1 ?_ rfl rfl (by decide)
  k_steps
  refine nameX_L (s := { s₂ with toks := s₂.toks + 1 }) F₂ hm2 ?_ rfl rfl (by decide)
  clear N₂
  k_steps
  refine wpAny_newObj_type ?_ (by size_fits)
  refine ⟨⟨s₂.heap.objs.size, _, u, rfl, Heap.get?_push_size _ rfl, Nat.le_of_lt hzC, Nat.ne_of_gt hza₂⟩, _, _, rfl, fun b o e => Heap.get?_push_of_some _ e⟩
end
end Mine

/-! ## H2 -/
namespace Mine
open PySem PySem.W PySem.Calls PyProof.Rows
open Sem (wp)
set_option maxRecDepth 100000

theorem fillK3 : ∀ w : World, PySem.Challenge.rw_bh0019_01.Holds → hd.heap_39 w.params = hd.heap_39 w.params := by
  w_top off
  first | (walk1; fail) | skip
  k_fill
  intro _ _; rfl

def DRel (prog : Program) (w : World) (od : Obj) (c : Int → Option Int) (N : Nat) : Prop :=
  ∃ kvs, od.IsDictOf (intKind prog w) kvs ∧ kvs.length ≤ N ∧ ∀ k, (c k = none → valueAt kvs k = none) ∧ ∀ f, c k = some f → ∃ t, valueAt kvs k = some (.int f t)

def upd (c : Int → Option Int) (k f : Int) : Int → Option Int := fun x => if x = k then some f else c x

theorem valueAt_map {kvs : List (Int × Value)} {k : Int} {v : Value} (x : Int) :
    valueAt (kvs.map fun kv => if kv.1 = k then (kv.1, v) else kv) x = if x = k then (valueAt kvs x).map (fun _ => v) else valueAt kvs x := by
  induction kvs with
  | nil => simp [valueAt]
  | cons a r ih =>
    unfold valueAt at ih ⊢
    obtain ⟨y, z⟩ := a
    simp only [List.map_cons, List.find?_cons]
    by_cases hy : y = x
    · subst hy
      by_cases hk : y = k
      · subst hk; simp
      · simp [hk]
    · by_cases hk : y = k
      · subst hk; simp [hy]; simpa using ih
      · simp [hy, hk]; simpa using ih

theorem valueAt_stored' (kvs : List (Int × Value)) (k : Int) (v : Value) (x : Int) : valueAt (stored kvs k v) x = if x = k then some v else valueAt kvs x := by
  unfold stored
  by_cases h : kvs.any (fun kv => kv.1 = k) = true
  · rw [if_pos h, valueAt_map]
    by_cases hx : x = k
    · subst hx
      obtain ⟨a, ha, hk⟩ := List.any_eq_true.mp h
      have : (valueAt kvs x).isSome := by
        unfold valueAt
        simp only [Option.isSome_map, List.find?_isSome]
        exact ⟨a, ha, hk⟩
      obtain ⟨z, hz⟩ := Option.isSome_iff_exists.mp this
      simp [hz]
    · simp [hx]
  · rw [if_neg h]
    unfold valueAt
    rw [List.find?_append]
    by_cases hx : x = k
    · subst hx
      have : kvs.find? (fun kv => decide (kv.1 = x)) = none := by
        rw [List.find?_eq_none]
        intro a ha hk
        exact h (List.any_eq_true.mpr ⟨a, ha, hk⟩)
      simp [this]
    · have : ([(k, v)] : List (Int × Value)).find? (fun kv => decide (kv.1 = x)) = none := by simp [Ne.symm hx]
      simp [this, hx]

theorem isInt_self (k : Int) (t : Tok) : Value.isInt k (.int k t) = true := by simp [Value.isInt]

section
variable {prog : Program} {w : World} {A : Around} {h₀ : Heap} {L : Addr} {m : Str → Option Value} {news : List (Addr × Obj)} {gn : Obj → List (Addr × Obj)} {s : Shared} {E : Value → Shared → Prop} {Q : Value → Shared → Prop}
  {d : Addr} {od : Obj} {c : Int → Option Int} {N : Nat} {k : Int} {t : Tok}

theorem d_in (N' : News h₀ L s.heap news) (hp : (d, od) ∈ news) (D : DRel prog w od c N) (lo : (d == sysModules) = false) (h : Q (.bool (c k).isSome) { s with toks := s.toks + 1 }) :
    wpAny (model prog w) A (compareOp .In (.int k t) (.ref d)) Q E s := by
  obtain ⟨kvs, hd, _, hv⟩ := D
  refine kda_in N' hp hd lo (isInt_self k t) (c k).isSome ?_ h
  cases hc : c k with
  | none => rw [(hv k).1 hc]; rfl
  | some f => obtain ⟨t, ht⟩ := (hv k).2 f hc; rw [ht]; rfl
theorem d_item {value slice : PySem.Expr} {f : Int} (N' : News h₀ L s.heap news) (hp : (d, od) ∈ news) (D : DRel prog w od c N) (hf : c k = some f) (h : ∀ u, Q (.int f u) { s with toks := s.toks + 1 })
    (hs : subscripted slice false (.ref d) (.int k t) = operate [.ref d, .int k t] (getItem (.ref d) (.int k t)) := by with_unfolding_all rfl) (hg : ∀ r, letTemporaryGo value (.ref d) r = pure () := by intro _; with_unfolding_all rfl) :
    wpAny (model prog w) A (subscriptTail value slice (.ref d) (.int k t)) Q E s := by
  obtain ⟨kvs, hd, _, hv⟩ := D
  obtain ⟨u, hu⟩ := (hv k).2 f hf
  exact kda_item N' hp hd (isInt_self k t) hu (h u) hs hg
theorem d_getm {pl : Sem Bool} {Q : Value × List Value → Shared → Prop} (N' : News h₀ L s.heap news) (hp : (d, od) ∈ news) (D : DRel prog w od c N) (h : Q (.builtin "dict.get", [.ref d]) s) : wpAny (model prog w) A (getMethod (.ref d) "get" pl) Q E s := by
  obtain ⟨kvs, hd, _, _⟩ := D
  exact kdg_method N' hp hd h
theorem d_get2 {z : Int} {tz : Tok} (N' : News h₀ L s.heap news) (hp : (d, od) ∈ news) (D : DRel prog w od c N) (lo : (d == sysModules) = false) (h : ∀ u, Q (.int ((c k).getD z) u) { s with toks := s.toks + 1 }) :
    wpAny (model prog w) A (call (.builtin "dict.get") [.ref d, .int k t, .int z tz]) Q E s := by
  obtain ⟨kvs, hd, _, hv⟩ := D
  cases hc : c k with
  | none =>
    rw [hc] at h
    exact kdg_get2 N' hp hd lo (isInt_self k t) none ((hv k).1 hc) (h tz)
  | some f =>
    rw [hc] at h
    obtain ⟨u, hu⟩ := (hv k).2 f hc
    exact kdg_get2 N' hp hd lo (isInt_self k t) _ hu (h u)
theorem d_set {Q : Unit → Shared → Prop} {f : Int} {u : Tok} (F : Fr h₀ L s.heap m) (N' : News h₀ L s.heap news) (U : UpdF d od news gn) (D : DRel prog w od c N) (hN : N ≤ 100000)
    (h : ∀ h' o', Fr h₀ L h' m → News h₀ L h' (gn o') → DRel prog w o' (upd c k f) (N + 1) → Q () { s with heap := h', toks := s.toks + 1 }) : wpAny (model prog w) A (setItem (.ref d) (.int k t) (.int f u)) Q E s := by
  obtain ⟨kvs, hd, hn, hv⟩ := D
  refine kda_set F N' U hd (isInt_self k t) (by rw [sizeLine_eq]; omega) fun h' o' F' N'' hd' => h h' o' F' N'' ⟨_, hd', Nat.le_trans (stored_length_le _ _ _) (by omega), fun x => ?_⟩
  rw [valueAt_stored']
  unfold upd
  by_cases hx : x = k
  · subst hx
    simp only [if_true]
    exact ⟨(fun e => nomatch e), fun f' e => ⟨u, by rw [← Option.some.inj e]⟩⟩
  · simp only [if_neg hx]; exact hv x
end
end Mine

/-! ## H3 -/
namespace Mine
open PySem PySem.W PySem.Calls PyProof.Rows
open Sem (wp)
set_option maxRecDepth 100000

theorem fillK4 : ∀ w : World, PySem.Challenge.rw_bh0019_01.Holds → hd.heap_39 w.params = hd.heap_39 w.params := by
  w_top off
  first | (walk1; fail) | skip
  k_fill
  intro _ _; rfl

local macro_rules | `(tactic| k_mem) => `(tactic| assumption)
local macro_rules | `(tactic| k_room) => `(tactic| ((simp only [depth_under_make, depth_under_kw, depth_in1, depth_deeper, depth_caller, Around.in1_units, Around.deeper_units]); omega))
local macro_rules | `(tactic| k_all) => `(tactic| first | assumption | exact allNe_of (by assumption) (by omega))
local macro_rules | `(tactic| walk_at "assign Tuple") => `(tactic| (k_here; (with_reducible show wpAny _ _ (assign (Expr.Tuple _ _ _) _ (Value.ref _)) _ _ _); k_dflt (refine' unpackN_ ?k1 ?k2 ?k3 ?k4 ?k5 ?k6 ?_; (case k1 => k_asm); (case k2 => k_asm); (case k3 => (exact News.isTup (by k_asm) (by k_mem))); (case k4 => assumption); (case k5 => exact rfl); (case k6 => exact rfl); k_whole); intro h' F' N'; (try k_sweep)))

def cand (c : Int → Option Int) (k : Key) : Bool := match c k.2 with
  | some f => !decide (Builtin.bitAnd f 4 = 4)
  | none => false

theorem lk {K : Frag} {a : Addr} {o o' : Obj} (h : K.lookup a = some o) (h' : K.lookup a = some o') : o = o' := Option.some.inj (h.symm.trans h')

local macro_rules | `(tactic| walk_at "eval Name") => `(tactic| (k_here; kc_free; k_dflt (refine' nameX_F ?N ?c ?m ?d ?_ ?a ?b; (case a => rfl); (case b => rfl); (case N => k_asm); (case c => rfl); (case m => k_mem); (case d => k_asm); k_whole)))
local macro_rules | `(tactic| walk_at "eval Name") => `(tactic| (k_here; k_dflt (refine' nameX_L ?k1 ?k2 ?_ ?k3 ?k4 ?k5; (case k3 => rfl); (case k4 => rfl); (case k5 => decide); (case k1 => k_asm); (case k2 => assumption); k_whole)))
local macro_rules | `(tactic| walk_at "compareOp In int ref") => `(tactic| (refine d_in (by k_asm) (by k_mem) (by k_asm) (by k_asm) ?_))

theorem push_set {α : Type} (a : Array α) (x y : α) : (a.push x).setIfInBounds a.size y = a.push y := by
  apply Array.ext_getElem?
  intro i
  rw [Array.getElem?_setIfInBounds, Array.getElem?_push, Array.getElem?_push]
  by_cases h : a.size = i
  · subst h; simp
  · simp [h, Ne.symm h]
theorem setGen_push {s : Shared} {h3 h4 : Heap} {tk3 tk4 : Nat} {gs3 gs4 gr : GenState} :
    ({ ({ s with heap := h3, gens := s.gens.push gs3, toks := tk3 } : Shared).setGen s.gens.size gr with heap := h4, toks := tk4 } : Shared).setGen s.gens.size gs4 = { s with heap := h4, gens := s.gens.push gs4, toks := tk4 } := by
  simp only [Shared.setGen, push_set]

theorem setGen_push2 {s : Shared} {h3 h4 h5 : Heap} {tk3 tk4 : Nat} {gs3 gs4 gr : GenState} :
    ({ ({ ({ s with heap := h3, gens := s.gens.push gs3, toks := tk3 } : Shared).setGen s.gens.size gr with heap := h4, toks := tk4 } : Shared).setGen s.gens.size gs4 with heap := h5 } : Shared) = { s with heap := h5, gens := s.gens.push gs4, toks := tk4 } := by
  simp only [Shared.setGen, push_set]
/-- the walk's lines stop here -/
def Stop (P : Prop) : Prop := P

section
variable {prog : Program} {w : World} {A : Around} {s : Shared} {E : Value → Shared → Prop}
theorem letGo_gen {elts : List PySem.Expr} {x1} {pos : Pos} {a T : Addr} {g : Nat} {Q : Unit → Shared → Prop} (hg : s.heap.IsGen a g) (hQ : Q () s) :
    wpAny (model prog w) A (letOwnedTupleGo (.Tuple elts x1 pos) (.ref a) (.ref T)) Q E s := by
  obtain ⟨o, nm, qn, ho, hc, hd, _⟩ := hg
  unfold letOwnedTupleGo
  refine wpAny_bind (wpAny_load ho ?_)
  rw [hc, hd]
  show wpAny _ A (if (List.contains _ "generator" && _) = true then _ else _) Q E s
  rw [if_neg (by
    intro h
    have := (Bool.and_eq_true_iff.mp h).1
    revert this; decide)]
  exact wpAny_pure hQ
theorem forLoopA {R : Result → Shared → Prop} {target it body orelse env} (I : Around → Nat → Shared → Prop)
    (turn : ∀ n s, I A n s → wpAny (model prog w) A (pyNext it) (fun r s₁ => match r with
      | none => wpAny (model prog w) A (execs orelse env) (fun f s₃ => R (.ok f) s₃) (notedBy (model prog w) A env fun e s' => R (.error e) s') s₁
      | some v => wpAny (model prog w) A (letOwnedTupleGo target it v) (fun _ s₁' =>
          wpAny (model prog w) A (assign target env v) (fun _ s₂ => wpAny (model prog w) A (execs body env) (fun f s₃ => match f with
            | .next | .cont => Stop (∃ m, m < n ∧ I A m s₃)
            | .brk => R (.ok .next) s₃
            | .ret v => R (.ok (.ret v)) s₃) (notedBy (model prog w) A env fun e s' => R (.error e) s') s₂) (notedBy (model prog w) A env fun e s' => R (.error e) s') s₁') (notedBy (model prog w) A env fun e s' => R (.error e) s') s₁) (notedBy (model prog w) A env fun e s' => R (.error e) s') s)
    (n : Nat) (h : I A n s) : codeAny (model prog w) A (.forLoop target it body orelse env) R s := codeAny_forLoop_any (I A) turn n h
end

section
variable {prog : Program} {w : World} {A₀ A : Around} {base h₀ : Heap} {outer : List Env} {env : Env} {L : Addr} {m mg mb : Str → Option Value} {news : List (Addr × Obj)} {s : Shared}
  {p : Program} {loose : List Str} {mean : ExcName → Option Value} {E : Value → Shared → Prop} {Q : Value → Shared → Prop}

set_option maxHeartbeats 4000000 in
theorem hc_spec (B : Below A₀ base outer h₀) (F : Fr h₀ L s.heap m) (X : (hd.heap_39 w.params).In h₀) (T : Top p loose mean mg mb h₀)
   (hA : A.frames = some (env :: outer)) (hf : env.frame = some L) (hke : env.scope.kind = .function) (hh : A.handled = none) (hdep : A.depth + 20 < recursionLimit) (hu : A.units + 60 < cLine)
   {fd90 : FuncData} {oc90 : Value} {od90 : Option Addr} {osl90 : Array (Option Value)} {stmts : List Stmt} {hname : Str} {hparams : Arguments} {hbody : List Stmt} {hscope : Scope} {hpos : Pos}
   (hK : (hd.heap_39 w.params).lookup 90 = some ⟨oc90, od90, .func fd90, osl90⟩) (hst : fd90.body = .stmts stmts) (h6 : stmts[6]? = some (.FunctionDef hname hparams hbody [] none [] hscope none hname hpos))
   {hcf c' cell : Addr} {qual : Str} {doc pm ctv : Value} (N : News h₀ L s.heap news)
   (hfo : (hcf, fnMade hname qual hparams hbody hscope [("_DNC", cell)] doc pm c' ctv) ∈ news) (hrec : s.heap.CodeRec (.ref c') qual)
   {ocell : Obj} {t4 : Tok} (hcell : (cell, ocell) ∈ news) (hcd : ocell.data = .cell (some (.int 4 t4)))
   {wl wld pql cst : Addr} {xs : Array Value} {n : Nat} {ks : Array Key} {hsh : Int} {tq : Tok} {tups : List (Addr × Obj)} {odc : Obj} {c : Int → Option Int} {Nd : Nat}
   (hw : (wl, inst 80 wld) ∈ news) (hwd : (wld, qDict hsh tq pql) ∈ news) (hp : (pql, listOf xs n) ∈ news) (hcst : (cst, odc) ∈ news) (D : DRel prog w odc c Nd) (lo : (cst == sysModules) = false)
   (hsub : ∀ q ∈ tups, q ∈ news) (P : PQL tups xs ks)
   (h : ∀ h' tk gens', Fr h₀ L h' m → News h₀ L h' news → (∃ more : Array GenState, gens' = s.gens ++ more ∧ ∀ x ∈ more, x.bare = true) → Q (.bool (ks.toList.any (cand c))) { s with heap := h', toks := tk, gens := gens' }) :
   wpAny (model prog w) A (call (.ref hcf) [.ref wl, .ref cst]) Q E s := by
  have e90 := lk hK (by k_is)
  cases e90
  cases hst
  cases h6
  refine wpAny_call ?_
  refine code_nest B F X N T hA hf hke hfo hrec (by omega) (BindsTo.of_eq rfl) (locs rfl) ?_ rfl rfl rfl (by decide)
  intro g' L' h' FG' F' N' B' X' T'
  (try dsimp only)
  (try k_lift B')
  (try k_fold)
  k_steps
  refine wpAny_For ?_
  k_steps
  (rename News _ _ _ _ => N9)
  (rename Fr _ _ _ _ => F9)
  refine iter_spec (A := A.deeper _) (tups := tups) F9 X' T' hh (by show A.depth + 1 + 10 < recursionLimit; omega) (by show A.units + 3 + 30 < cLine; omega) N9 hw hwd hp hsub P ?_
  intro gb C a h2 tk2 gs t1 t2 priv F2 N2 hlt hLC hCa hgb hpriv hready
  refine wpAny_pyIter_gen (g := s.gens.size) ⟨_, _, _, (N2 _ (List.mem_append_right _ (.head _))).1, rfl, rfl, rfl⟩ ?_
  have hcs0 : (fun y => List.lookup y ([(Str.ofString "wlst", Value.ref wl), (Str.ofString "cstates", Value.ref cst)] : List (Str × Value)).reverse) (Str.ofString "cstates") = some (Value.ref cst) := rfl
  refine forLoopA (fun Ar k s' => ∃ j h3 tk3 gs3 priv3 m3, k = ks.size - j ∧ j ≤ ks.size ∧ s' = { s with heap := h3, gens := s.gens.push gs3, toks := tk3 } ∧ Fr g' L' h3 m3 ∧ m3 (Str.ofString "cstates") = some (Value.ref cst) ∧
      News g' L' h3 (priv3 ++ (a, genObj s.gens.size t1 t2) :: news) ∧ (∀ q ∈ priv3, C ≤ q.1 ∧ q.1 ≠ a) ∧ Ready prog w Ar gb C a ks.size (Fk C a ks) j priv3 gs3 ∧ ∀ i, i < j → cand c (g ks i) = false) ?_ ks.size ⟨0, h2, tk2, gs, priv, _, rfl, Nat.zero_le _, rfl, F2, hcs0, N2, hpriv, hready _ hh, fun i hi => absurd hi (Nat.not_lt_zero i)⟩
  rintro k s' ⟨j, h3, tk3, gs3, priv3, m3, rfl, hj, rfl, F3, hc3, N3, hp3, hr3, hno⟩
  have hga : h3.IsGen a s.gens.size := ⟨_, _, _, (N3 _ (List.mem_append_right _ (.head _))).1, rfl, rfl, rfl⟩
  have hgi : (s.gens.push gs3)[s.gens.size]? = some gs3 := by simp
  have N3n : News g' L' h3 news := fun q hq => N3 q (List.mem_append_right _ (.tail _ hq))
  have hst3 := hgb h3 m3 F3 N3n
  obtain ⟨nn, hnn⟩ : ∃ nn, nn = ks.size - j := ⟨_, rfl⟩
  have hgo := hr3.2 ({ s with heap := h3, gens := s.gens.push gs3, toks := tk3 }.setGen s.gens.size .running) hst3 (fun q hq => (N3 q (List.mem_append_left _ hq)).1) ⟨_, (N3 _ (List.mem_append_right _ (.head _))).1⟩
  rw [← hnn] at hgo ⊢
  refine gen_next (n := nn) (P := fun n s₀ s₁ => n = 0 ∧ GSince C a s₀ s₁) (Y := gY gb C a ks.size (Fk C a ks)) hh (T'.nolimit.keeps F3.keep) (by show A.depth + 1 < recursionLimit; omega) hga hgi hgo ?_ ?_
  · intro v s₁ gs4 hb hv
    obtain ⟨hF, ⟨h₄, tk₄, rfl, hk₄⟩, priv', hp', hkap⟩ := hv
    have hk₄ : ∀ b o, (b < C ∨ b = a) → h3.get? b = some o → h₄.get? b = some o := hk₄
    have hp' : ∀ q ∈ priv', h₄.get? q.1 = some q.2 ∧ C ≤ q.1 ∧ q.1 ≠ a := hp'
    have F4 : Fr g' L' h₄ m3 := ⟨F3.ns.at' fun o e => hk₄ L' o (.inl hLC) e, fun b o e => hk₄ b o (.inl (Nat.lt_trans (Nat.lt_of_lt_of_le (Heap.lt_size e) F3.above) hLC)) (F3.keep b o e), F3.above⟩
    have N4 : News g' L' h₄ (priv' ++ (a, genObj s.gens.size t1 t2) :: news) := fun q hq => by
      rcases List.mem_append.mp hq with hq | hq
      · obtain ⟨e1, e2, e3⟩ := hp' q hq
        exact ⟨e1, Nat.ne_of_gt (Nat.lt_of_lt_of_le hLC e2), Heap.get?_none_of_le (Nat.le_trans F3.above (Nat.le_of_lt (Nat.lt_of_lt_of_le hLC e2)))⟩
      · rcases List.mem_cons.mp hq with rfl | hq
        · exact ⟨hk₄ _ _ (.inr rfl) (N3 _ (List.mem_append_right _ (.head _))).1, (N3 _ (List.mem_append_right _ (.head _))).2⟩
        · exact ⟨hk₄ _ _ (.inl (hlt q hq)) (N3n q hq).1, (N3n q hq).2⟩
    have N4n : News g' L' h₄ news := fun q hq => N4 q (List.mem_append_right _ (.tail _ hq))
    cases nn with
    | zero =>
      exact (hkap { { s with heap := h3, gens := s.gens.push gs3, toks := tk3 }.setGen s.gens.size .running with heap := h₄, toks := tk₄ } (hgb h₄ m3 F4 N4n) (fun q hq => (hp' q hq).1) ⟨_, (N4 _ (List.mem_append_right _ (.head _))).1⟩).elim
    | succ mm =>
      have hj' : j < ks.size := by omega
      have hjj : ks.size - 1 - (mm + 1 - 1) = j := by omega
      rw [hjj] at hF
      obtain ⟨t, tt, tu, rfl, ht, hCt, hta⟩ := hF
      have hcst5 : (cst, odc) ∈ priv' ++ (a, genObj s.gens.size t1 t2) :: news := List.mem_append_right _ (.tail _ hcst)
      have hcell5 : (cell, ocell) ∈ priv' ++ (a, genObj s.gens.size t1 t2) :: news := List.mem_append_right _ (.tail _ hcell)
      have hready4 : ∀ Ar : Around, Ar = A.deeper _ → Ready prog w Ar gb C a ks.size (Fk C a ks) (j + 1) priv' gs4 := fun Ar e => e ▸ ⟨hb, fun s'' z1 z2 z3 => by
        have := hkap s'' z1 z2 z3
        rw [show ks.size - (j + 1) = mm by omega]
        exact this⟩
      dsimp only
      rw [setGen_push]
      refine letGo_gen (g := s.gens.size) ⟨_, _, _, (N4 _ (List.mem_append_right _ (.head _))).1, rfl, rfl, rfl⟩ ?_
      refine assign_Tuple_tuple hh (items := #[.int (-(g ks j).1) tt, .int (g ks j).2 tu]) ⟨_, ht, rfl, _, rfl⟩ rfl rfl fun h₅ hs₅ => ?_
      have hs₅ : Heap.ExtBut h₄.objs.size h₄ h₅ := hs₅
      have F5 := F4.extBut hs₅ (Nat.le_refl _)
      have N5 := N4.extBut hs₅ (Nat.le_refl _)
      clear F4 N4 F3 N3 F2 N2 F9 N9 F N
      k_steps
      · (rename (_ = true) => hsome)
        obtain ⟨f, hfc⟩ := Option.isSome_iff_exists.mp hsome
        refine d_item (by k_asm) (by k_mem) D hfc ?_
        intro u
        k_steps
        · (rename News _ _ _ _ => N9)
          (rename Fr _ _ _ _ => F9)
          (rename Builtin.bitAnd f 4 = 4 => heq)
          refine ⟨mm, Nat.lt_succ_self _, j + 1, _, _, gs4, priv', _, by omega, hj', rfl, F9, ?_, N9, fun q hq => (hp' q hq).2, hready4 _ rfl, fun i hi => ?_⟩
          · exact hc3
          · by_cases e : i = j
            · subst e
              unfold cand
              rw [hfc]
              simp [heq]
            · exact hno i (by omega)
        · (rename News h₀ _ _ _ => N9)
          (rename Fr h₀ _ _ _ => F9)
          (rename ¬ (Builtin.bitAnd f 4 = 4) => hneq)
          have e : ks.toList.any (cand c) = true := by
            rw [List.any_eq_true]
            refine ⟨g ks j, ?_, ?_⟩
            · have := g_get hj'
              exact Array.mem_toList_iff.mpr (Array.mem_of_getElem? this)
            · unfold cand
              rw [hfc]
              simp [hneq]
          have := h _ tk (s.gens.push gs4) F9 (fun q hq => N9 q (List.mem_append_right _ (.tail _ hq))) ⟨#[gs4], by simp, by simpa using hb⟩
          rw [e] at this
          exact this
      · (rename News _ _ _ _ => N9)
        (rename Fr _ _ _ _ => F9)
        (rename (_ = false) => hnone)
        refine ⟨mm, Nat.lt_succ_self _, j + 1, _, _, gs4, priv', _, by omega, hj', rfl, F9, ?_, N9, fun q hq => (hp' q hq).2, hready4 _ rfl, fun i hi => ?_⟩
        · exact hc3
        · by_cases e : i = j
          · subst e
            unfold cand
            rw [Option.isSome_eq_false_iff, Option.isNone_iff_eq_none] at hnone
            rw [hnone]
          · exact hno i (by omega)
  · rintro s₁ ⟨hn0, h₄, tk₄, rfl, hk₄⟩ h₆ hk₆
    have hk₆ : ∀ b o, (b < C ∨ b = a) → h3.get? b = some o → h₆.get? b = some o := fun b o hb e => hk₆ b o (hk₄ b o hb e)
    have F6 : Fr g' L' h₆ m3 := ⟨F3.ns.at' fun o e => hk₆ L' o (.inl hLC) e, fun b o e => hk₆ b o (.inl (Nat.lt_trans (Nat.lt_of_lt_of_le (Heap.lt_size e) F3.above) hLC)) (F3.keep b o e), F3.above⟩
    have N6 : News g' L' h₆ news := fun q hq => ⟨hk₆ _ _ (.inl (hlt q hq)) (N3n q hq).1, (N3n q hq).2⟩
    dsimp only
    rw [setGen_push2]
    clear F3 N3 F2 N2 F9 N9 F N N3n
    k_steps
    (rename News h₀ _ _ _ => N9)
    (rename Fr h₀ _ _ _ => F9)
    have e : ks.toList.any (cand c) = false := by
      rw [List.any_eq_false]
      intro k hk
      obtain ⟨i, hi, e⟩ := List.mem_iff_getElem.mp hk
      have hi' : i < ks.size := by simpa using hi
      have := hno i (by omega)
      rw [g_of (ks := ks) (i := i) (k := k) (by rw [← e, Array.getElem?_eq_getElem hi']; simp)] at this
      simpa using this
    have := h _ tk₄ (s.gens.push .finished) F9 N9 ⟨#[.finished], by simp, by simp [GenState.bare]⟩
    rw [e] at this
    exact this
end
end Mine

/-! ## L1 -/
namespace Mine
open PySem PySem.W PySem.Calls PyProof.Rows
open Sem (wp)
set_option maxRecDepth 100000

abbrev Cst := Int → Option Int
def pushPar (age : Int → Int) (mn cf : Int) : List Int → Cst × List Key → Cst × List Key
  | [], st => st
  | p :: r, st => pushPar age mn cf r (if Builtin.bitAnd ((st.1 p).getD 0) cf = cf then st else if age p < mn then st else (upd st.1 p (Builtin.bitOr ((st.1 p).getD 0) cf), (-(age p), p) :: st.2))
abbrev isNew (f : Int) : Prop := Builtin.bitAnd f 7 = 3 ∧ ¬ Builtin.bitAnd f 8 = 8
def tc (c : Cst) (x f : Int) : Cst := if isNew f then upd c x (Builtin.bitOr f 8) else c
def tcs (cs : List Key) (k : Key) (f : Int) : List Key := if isNew f then cs ++ [(-k.1, k.2)] else cs
def tcf (f : Int) : Int := if Builtin.bitAnd f 7 = 3 then 7 else Builtin.bitAnd f 7

def LGood (par : Int → List Int) (age : Int → Int) (mn : Int) (dom : Int → Prop) (Fin : Cst → List Key → Prop) : Nat → Cst → List Key → List Key → Prop
  | 0, c, pq, cs => pq.any (cand c) = false ∧ Fin c cs
  | n + 1, c, pq, cs => (pq.any (cand c) = false ∧ Fin c cs) ∨ (pq.any (cand c) = true ∧
      ∀ k rest, (k :: rest).Perm pq → (∀ k' ∈ pq, kle k k') → ∃ f, c k.2 = some f ∧ dom k.2 ∧ (∀ p ∈ par k.2, dom p) ∧ (par k.2).length ≤ 4 ∧
        LGood par age mn dom Fin n (pushPar age mn (tcf f) (par k.2) (tc c k.2 f, rest)).1 (pushPar age mn (tcf f) (par k.2) (tc c k.2 f, rest)).2 (tcs cs k f))

/-- what a call of the age's closure gives -/
def AgeSpec (prog : Program) (w : World) (af : Addr) (led : List (Addr × Obj)) (age : Int → Int) (dom : Int → Prop) : Prop :=
  ∀ {A₀ A : Around} {base h₀ : Heap} {outer : List Env} {env : Env} {L : Addr} {m mg mb : Str → Option Value} {news : List (Addr × Obj)} {s : Shared} {p : Program} {loose : List Str} {mean : ExcName → Option Value}
    {E Q : Value → Shared → Prop} {x : Int} {t : Tok}, Below A₀ base outer h₀ → Fr h₀ L s.heap m → (hd.heap_39 w.params).In h₀ → Top p loose mean mg mb h₀ →
    A.frames = some (env :: outer) → env.frame = some L → env.scope.kind = .function → A.handled = none → A.depth + 20 < recursionLimit → A.units + 60 < cLine →
    News h₀ L s.heap news → (∀ q ∈ led, q ∈ news) → dom x →
    (∀ h' tk u, Fr h₀ L h' m → News h₀ L h' news → Q (.int (age x) u) { s with heap := h', toks := tk }) → wpAny (model prog w) A (call (.ref af) [.int x t]) Q E s
/-- what a call of the parents' closure gives -/
def ParSpec (prog : Program) (w : World) (pf : Addr) (led : List (Addr × Obj)) (par : Int → List Int) (dom : Int → Prop) : Prop :=
  ∀ {A₀ A : Around} {base h₀ : Heap} {outer : List Env} {env : Env} {L : Addr} {m mg mb : Str → Option Value} {news : List (Addr × Obj)} {s : Shared} {p : Program} {loose : List Str} {mean : ExcName → Option Value}
    {E Q : Value → Shared → Prop} {x : Int} {t : Tok}, Below A₀ base outer h₀ → Fr h₀ L s.heap m → (hd.heap_39 w.params).In h₀ → Top p loose mean mg mb h₀ →
    A.frames = some (env :: outer) → env.frame = some L → env.scope.kind = .function → A.handled = none → A.depth + 20 < recursionLimit → A.units + 100 < cLine →
    News h₀ L s.heap news → (∀ q ∈ led, q ∈ news) → dom x →
    (∀ h' tk r vs n, Fr h₀ L h' m → News h₀ L h' ((r, listOf vs n) :: news) → IntsAre vs.toList (par x) → (∀ q ∈ news, q.1 < r) → Q (.ref r) { s with heap := h', toks := tk }) → wpAny (model prog w) A (call (.ref pf) [.int x t]) Q E s

section
variable {prog : Program} {w : World} {A : Around} {E : Value → Shared → Prop} {s : Shared} {env : Env}
theorem whileA {Q : Flow → Shared → Prop} {test body pos} (I : Around → Nat → Shared → Prop)
    (turn : ∀ n s, I A n s →
      wpAny (model prog w) A (isTrue test env (eval test env)) (fun b s₂ =>
        if b = true then wpAny (model prog w) A (execs body env) (fun f s₃ => match f with
            | .next | .cont => Stop (∃ m, m < n ∧ I A m s₃)
            | .brk => Q .next s₃
            | .ret v => Q (.ret v) s₃) (notedBy (model prog w) A env fun e s' => cameBackBy (model prog w) A env E e s') s₂
        else Q .next s₂)
        (notedBy (model prog w) A env fun e s' => cameBackBy (model prog w) A env E e s') s)
    (n : Nat) (h : I A n s) : wpAny (model prog w) A (exec (.While test body [] pos) env) Q E s := by
  refine wpAny_While (codeAny_whileLoop (I A) (fun n s hI => wpAny_mono (turn n s hI) (fun b s₂ h₂ => ?_) fun _ _ x => x) n h)
  cases b with
  | false =>
    simp only [Bool.false_eq_true, if_false] at h₂ ⊢
    exact wpAny_execs_nil h₂
  | true => exact h₂
end
end Mine

/-! ## S1 -/
namespace Mine
open PySem PySem.W PySem.Calls PyProof.Rows
open Sem (wp)
section
variable {M : Model} {A : Around} {E : Value → Shared → Prop} {env : Env} {Q : Flow → Shared → Prop}
theorem execs_split_wp (tl : List Stmt) {Γ} (hΓ : Γ.In A) : ∀ (xs : List Stmt) p {s : Shared}, wp M Γ (execs xs env) (fun f _ s' => match f with | .next => Stop (wpAny M A (execs tl env) Q E s') | f => Q f s') (fun e _ s' => E e s') p s → wp M Γ (execs (xs ++ tl) env) (fun f _ s' => Q f s') (fun e _ s' => E e s') p s := by
  intro xs
  induction xs with
  | nil => intro p s h; exact (h : wpAny M A (execs tl env) Q E s) Γ p hΓ
  | cons st r ih =>
    intro p s h
    rw [execs_cons, Sem.wp_bind'] at h
    rw [List.cons_append, execs_cons, Sem.wp_bind']
    refine Sem.wp_mono M Γ _ (fun f p' s' h' => ?_) (fun _ _ _ h' => h') _ _ h
    cases f with
    | next => exact ih p' h'
    | brk => exact h'
    | cont => exact h'
    | ret v => exact h'
theorem execs_split {xs tl : List Stmt} {s : Shared} (h : wpAny M A (execs xs env) (fun f s' => match f with | .next => Stop (wpAny M A (execs tl env) Q E s') | f => Q f s') E s) : wpAny M A (execs (xs ++ tl) env) Q E s :=
  fun Γ p hΓ => execs_split_wp tl hΓ xs p (h Γ p hΓ)
end
section
variable {prog : Program} {w : World} {A : Around} {E : Value → Shared → Prop} {s : Shared} {env : Env}
theorem whileCut (k : Nat) {Q : Flow → Shared → Prop} {test body pos} (I : Around → Nat → Shared → Prop)
    (turn : ∀ n s, I A n s →
      wpAny (model prog w) A (isTrue test env (eval test env)) (fun b s₂ =>
        if b = true then wpAny (model prog w) A (execs (body.take k) env) (fun f s₃ => match f with
            | .next => Stop (wpAny (model prog w) A (execs (body.drop k) env) (fun f s₃ => match f with
                | .next | .cont => Stop (∃ m, m < n ∧ I A m s₃)
                | .brk => Q .next s₃
                | .ret v => Q (.ret v) s₃) (notedBy (model prog w) A env fun e s' => cameBackBy (model prog w) A env E e s') s₃)
            | .cont => Stop (∃ m, m < n ∧ I A m s₃)
            | .brk => Q .next s₃
            | .ret v => Q (.ret v) s₃) (notedBy (model prog w) A env fun e s' => cameBackBy (model prog w) A env E e s') s₂
        else Q .next s₂)
        (notedBy (model prog w) A env fun e s' => cameBackBy (model prog w) A env E e s') s)
    (n : Nat) (h : I A n s) : wpAny (model prog w) A (exec (.While test body [] pos) env) Q E s := by
  refine whileA I (fun n s hI => wpAny_mono (turn n s hI) (fun b s₂ h₂ => ?_) fun _ _ x => x) n h
  cases b with
  | false => exact h₂
  | true =>
    simp only [if_true] at h₂ ⊢
    refine (List.take_append_drop k body) ▸ execs_split (xs := body.take k) (tl := body.drop k) (wpAny_mono h₂ (fun f s₃ h₃ => ?_) fun _ _ x => x)
    cases f with
    | next => exact h₃
    | brk => exact h₃
    | cont => exact h₃
    | ret v => exact h₃
end
end Mine

/-! ## T1 -/
namespace Mine
open PySem PySem.W PySem.Calls PyProof.Rows
open Sem (wp)
set_option maxRecDepth 100000

/-- the code table's places name code objects of the ledger part `tups` -/
def TabOk (nm : Nat → Str) (tups : List (Addr × Obj)) (ps : Array Value) : Prop :=
  TriplesOk ps.toList ∧ ∀ pos cv, codeAmong pos ps.toList = some cv → ∃ c' oc vs t, cv = .ref c' ∧ (c', oc) ∈ tups ∧ oc.data = .fields vs ∧ vs[1]? = some (.str (nm pos.line) t)

theorem triples_append : ∀ (l : List Value), TriplesOk l → ∀ (a b : Nat) (c : Value), TriplesOk (l ++ [rawInt a, rawInt b, c]) := by
  intro l h a b c
  fun_induction TriplesOk l with
  | case1 => simp [TriplesOk, rawInt]
  | case2 _ _ _ _ _ rest ih => exact ih h
  | case3 => exact h.elim

theorem codeAmong_append {pos : Pos} (r : List Value) : ∀ (l : List Value), TriplesOk l → codeAmong pos (l ++ r) = match codeAmong pos l with | some c => some c | none => codeAmong pos r := by
  intro l h
  fun_induction TriplesOk l with
  | case1 => simp [codeAmong]
  | case2 i t j u c rest ih =>
    simp only [List.cons_append, codeAmong]
    split
    · rfl
    · exact ih h
  | case3 => exact h.elim

theorem TabOk.mono {nm : Nat → Str} {tups tups' : List (Addr × Obj)} {ps : Array Value} (T : TabOk nm tups ps) (h : ∀ q ∈ tups, q ∈ tups') : TabOk nm tups' ps :=
  ⟨T.1, fun pos cv e => let ⟨c', oc, vs, t, h1, h2, h3⟩ := T.2 pos cv e; ⟨c', oc, vs, t, h1, h _ h2, h3⟩⟩

theorem TabOk.keep {nm : Nat → Str} {tups tups' : List (Addr × Obj)} {ps : Array Value} (T : TabOk nm tups ps) (h : ∀ q ∈ tups, q ∈ tups' ∨ ∀ vs x t, q.2.data = .fields vs → vs[1]? ≠ some (.str x t)) : TabOk nm tups' ps :=
  ⟨T.1, fun pos cv e => let ⟨c', oc, vs, t, h1, h2, h3, h4⟩ := T.2 pos cv e; ⟨c', oc, vs, t, h1, (h _ h2).resolve_right (fun k => k vs _ t h3 h4), h3, h4⟩⟩

theorem TabOk.snoc {nm : Nat → Str} {tups : List (Addr × Obj)} {ps : Array Value} (T : TabOk nm tups ps) {pos : Pos} {c' : Addr} {oc : Obj} {vs : Array Value} {t : Tok} (hd : oc.data = .fields vs) (hv : vs[1]? = some (.str (nm pos.line) t)) :
    TabOk nm ((c', oc) :: tups) (ps ++ #[rawInt pos.line, rawInt pos.col, .ref c']) := by
  refine ⟨by simpa using triples_append ps.toList T.1 pos.line pos.col (.ref c'), fun pos' cv e => ?_⟩
  have e' : codeAmong pos' (ps.toList ++ [rawInt pos.line, rawInt pos.col, .ref c']) = some cv := by simpa using e
  rw [codeAmong_append _ _ T.1] at e'
  cases h : codeAmong pos' ps.toList with
  | some c =>
    rw [h] at e'
    obtain ⟨c₁, oc₁, vs₁, t₁, h1, h2, h3⟩ := T.2 pos' c h
    cases e'
    exact ⟨c₁, oc₁, vs₁, t₁, h1, .tail _ h2, h3⟩
  | none =>
    rw [h] at e'
    simp only [codeAmong, rawInt] at e'
    split at e'
    · rename_i hl
      cases e'
      have : pos.line = pos'.line := by simp at hl; omega
      exact ⟨c', oc, vs, t, rfl, .head _, hd, this ▸ hv⟩
    · cases e'

section
variable {M : Model} {A : Around} {E : Value → Shared → Prop} {s : Shared} {h₀ : Heap} {L a c P : Addr} {m mg mb : Str → Option Value} {cn : Str} {cs : Scope} {ccd : Value} {cl : List (Str × Addr)} {news tups : List (Addr × Obj)} {g : Obj → List (Addr × Obj)}
  {p : Program} {loose : List Str} {mean : ExcName → Option Value} {name qual : Str} {params : Arguments} {scope : Scope} {ps : Array Value} {pos : Pos} {firstLine : Nat} {clos : List (Str × Addr)} {nm : Nat → Str}

theorem nest_any {body : List Stmt} {Q : Value → Shared → Prop} (F : Fr h₀ L s.heap m) (N : News h₀ L s.heap news) (T : Top p loose mean mg mb h₀) (C : CodeHd h₀ c P) (hcd : ccd = .ref c) (U : UpdF P (tabObj ps) news g) (TO : TabOk nm tups ps) (hq : nm pos.line = qual)
    (hcl : closureFor scope (envX cn cs L a ccd cl) = pure clos)
    (h : ∀ f c' oc vs t ctv doc h' tk extra ps', Fr h₀ L h' m →
      News h₀ L h' ((f, fnMade name qual params body scope clos doc ((mg "__name__").getD .none) c' ctv) :: (extra ++ g (tabObj ps'))) → TabOk nm (extra ++ tups) ps' → (c', oc) ∈ extra ++ tups →
      oc.data = .fields vs → vs[1]? = some (.str qual t) → (∀ q ∈ news, q.1 < f) → (∀ q ∈ extra, ∀ q' ∈ news, q'.1 < q.1) → (∀ q ∈ extra, q.1 < f) → Q (.ref f) { s with heap := h', toks := tk }) :
    wpAny M A (makeFunction name qual params (.stmts body) scope (envX cn cs L a ccd cl) [] [] [] pos firstLine) Q E s := by
  subst hq
  cases hc : codeAmong pos ps.toList with
  | none =>
    refine nest_K F N T C hcd U TO.1 hc hcl fun f c' oc vs t ctv doc h' tk F' N' hd hv hlt hcf => ?_
    refine h f c' oc vs t ctv doc h' tk [(c', oc)] _ F' N' (TO.snoc hd hv) (.head _) hd hv (fun q hq => Nat.lt_trans (hlt q hq) hcf) (fun q hq q' hq' => ?_) (fun q hq => ?_)
    · rcases List.mem_cons.mp hq with rfl | hq
      · exact hlt q' hq'
      · cases hq
    · rcases List.mem_cons.mp hq with rfl | hq
      · exact hcf
      · cases hq
  | some cv =>
    obtain ⟨c', oc, vs, t, rfl, hm, hd, hv⟩ := TO.2 pos cv hc
    obtain ⟨pre, post, hn, hg, h1, h2⟩ := U.split
    refine nestHit_K F N T C hcd (hn ▸ List.mem_append_right _ (.head _)) TO.1 hc hcl fun f ctv doc h' tk F' N' hlt => ?_
    refine h f c' oc vs t ctv doc h' tk [] ps F' (by rw [List.nil_append, hg, ← hn]; exact N') TO hm hd hv hlt (fun q hq => nomatch hq) (fun q hq => nomatch hq)

theorem lam_any {body : PySem.Expr} {Q : Value → Shared → Prop} (F : Fr h₀ L s.heap m) (N : News h₀ L s.heap news) (T : Top p loose mean mg mb h₀) (C : CodeHd h₀ c P) (hcd : ccd = .ref c) (U : UpdF P (tabObj ps) news g) (TO : TabOk nm tups ps) (hq : nm pos.line = qual)
    (hcl : closureFor scope (envX cn cs L a ccd cl) = pure clos)
    (h : ∀ f c' oc vs t ctv h' tk extra ps', Fr h₀ L h' m →
      News h₀ L h' ((f, kla_obj name qual params body scope clos ((mg "__name__").getD .none) c' ctv) :: (extra ++ g (tabObj ps'))) → TabOk nm (extra ++ tups) ps' → (c', oc) ∈ extra ++ tups →
      oc.data = .fields vs → vs[1]? = some (.str qual t) → (∀ q ∈ news, q.1 < f) → (∀ q ∈ extra, ∀ q' ∈ news, q'.1 < q.1) → (∀ q ∈ extra, q.1 < f) → Q (.ref f) { s with heap := h', toks := tk }) :
    wpAny M A (makeFunction name qual params (.expr body) scope (envX cn cs L a ccd cl) [] [] [] pos firstLine) Q E s := by
  subst hq
  cases hc : codeAmong pos ps.toList with
  | none =>
    refine kla_nest F N T C hcd U TO.1 hc hcl fun f c' oc vs t ctv h' tk F' N' hd hv hlt hcf => ?_
    refine h f c' oc vs t ctv h' tk [(c', oc)] _ F' N' (TO.snoc hd hv) (.head _) hd hv (fun q hq => Nat.lt_trans (hlt q hq) hcf) (fun q hq q' hq' => ?_) (fun q hq => ?_)
    · rcases List.mem_cons.mp hq with rfl | hq
      · exact hlt q' hq'
      · cases hq
    · rcases List.mem_cons.mp hq with rfl | hq
      · exact hcf
      · cases hq
  | some cv =>
    obtain ⟨c', oc, vs, t, rfl, hm, hd, hv⟩ := TO.2 pos cv hc
    obtain ⟨pre, post, hn, hg, h1, h2⟩ := U.split
    refine kla_hit F N T C hcd (hn ▸ List.mem_append_right _ (.head _)) TO.1 hc hcl fun f ctv h' tk F' N' hlt => ?_
    refine h f c' oc vs t ctv h' tk [] ps F' (by rw [List.nil_append, hg, ← hn]; exact N') TO hm hd hv hlt (fun q hq => nomatch hq) (fun q hq => nomatch hq)
end
end Mine

/-! ## N1 -/
namespace Mine
open PySem PySem.W PySem.Calls PyProof.Rows
set_option maxRecDepth 100000

theorem fillK7 : ∀ w : World, PySem.Challenge.rw_bh0019_01.Holds → hd.heap_39 w.params = hd.heap_39 w.params := by
  w_top off
  first | (walk1; fail) | skip
  k_fill
  intro _ _; rfl

local macro_rules | `(tactic| k_mem) => `(tactic| assumption)
local macro_rules | `(tactic| k_room) => `(tactic| ((simp only [depth_under_make, depth_under_kw, depth_in1, depth_deeper, depth_caller, Around.in1_units, Around.deeper_units]); omega))
local macro_rules | `(tactic| k_all) => `(tactic| first | assumption | exact allNe_of (by assumption) (by omega))

section
variable {prog : Program} {w : World} {A₀ A : Around} {base h₀ : Heap} {outer : List Env} {env : Env} {L : Addr} {m mg mb : Str → Option Value} {news : List (Addr × Obj)} {s : Shared}
  {p : Program} {loose : List Str} {mean : ExcName → Option Value} {E : Value → Shared → Prop} {Q : Value → Shared → Prop}

set_option maxHeartbeats 4000000 in
theorem new_spec (B : Below A₀ base outer h₀) (F : Fr h₀ L s.heap m) (X : (hd.heap_39 w.params).In h₀) (T : Top p loose mean mg mb h₀)
   (hA : A.frames = some (env :: outer)) (hf : env.frame = some L) (hke : env.scope.kind = .function) (hh : A.handled = none) (hd : A.depth + 10 < recursionLimit) (hu : A.units + 30 < cLine)
   (N : News h₀ L s.heap news)
   (h : ∀ h' tk x dx pql hsh tq, Fr h₀ L h' m → News h₀ L h' ((pql, listOf #[] 0) :: (x, inst 80 dx) :: (dx, qDict hsh tq pql) :: news) → (∀ q ∈ news, q.1 < dx) → dx < x → x < pql → Q (.ref x) { s with heap := h', toks := tk }) :
   wpAny (model prog w) A (call (.ref 80) []) Q E s := by
  refine call_cls F X N (by k_is) (by k_is) (by k_is) ?_
  intro x dx h1 F1 N1 l1 l2
  have l1' := l1
  have l2' := l2
  (try k_lt l1)
  (try k_lt2 l2)
  refine code_def B F1 X N1 T hA hf hke (by k_is) (by k_is) (by show A.depth + 1 < _; omega) (BindsTo.of_eq rfl) (locs rfl) ?_ rfl rfl rfl (by decide)
  intro g' L' h2 FG' F' N' B' X' T'
  (try dsimp only)
  (try k_lift B')
  (try k_fold)
  have l3 : ∀ q ∈ news, q.1 ≠ dx := fun q hq => Nat.ne_of_lt (l1' q hq)
  have l4 : ∀ q ∈ news, q.1 ≠ x := fun q hq => Nat.ne_of_lt (Nat.lt_trans (l1' q hq) l2')
  k_steps
  rename News h₀ _ _ _ => N9
  rename Fr h₀ _ _ _ => F9
  rename _ ∧ _ ∧ AllLt _ _ => l9
  exact h _ _ x dx _ _ _ F9 N9 l1' l2' l9.1
end
end Mine

/-! ## F1 -/
namespace Mine
open PySem PySem.W PySem.Calls PyProof.Rows
open Sem (wp)
set_option maxRecDepth 100000

def NextJ (h₀ : Heap) (L : Addr) (J : Nat → (Str → Option Value) → List (Addr × Obj) → Array GenState → Prop) (j : Nat) (it : Addr) (oit : Obj) (s₀ s₃ : Shared) : Prop :=
  ∃ h3 tk3 g3 m3 news3, s₃ = { s₀ with heap := h3, toks := tk3, gens := g3 } ∧ J j m3 news3 g3 ∧ Fr h₀ L h3 m3 ∧ News h₀ L h3 ((it, oit) :: news3) ∧ ∀ q ∈ news3, q.1 ≠ it

section
variable {prog : Program} {w : World} {A : Around} {s : Shared} {E : Value → Shared → Prop} {h₀ : Heap} {L l : Addr} {m : Str → Option Value} {news : List (Addr × Obj)} {items : Array Value} {cap : Nat}

theorem own_Name {x : Str} {pos : Pos} {it v : Value} {Q : Unit → Shared → Prop} (h : Q () s) : wpAny (model prog w) A (letOwnedTupleGo (.Name x pos) it v) Q E s := wpAny_pure h
theorem own_Tuple {elts : List PySem.Expr} {x1} {pos : Pos} {I : Addr} {i : Nat} {T : Addr} {Q : Unit → Shared → Prop} (hi : s.heap.IsListIter I l i) (h : Q () s) : wpAny (model prog w) A (letOwnedTupleGo (.Tuple elts x1 pos) (.ref I) (.ref T)) Q E s :=
  wpAny_letOwnedTupleGo_listiter hi h

theorem forL {R : Result → Shared → Prop} {target : PySem.Expr} {body : List Stmt} {env : Env} (hh : A.handled = none) (F : Fr h₀ L s.heap m) (N : News h₀ L s.heap news)
    (J : Nat → (Str → Option Value) → List (Addr × Obj) → Array GenState → Prop) (h0 : J 0 m news s.gens) (hJ : ∀ j m news g, J j m news g → (l, listOf items cap) ∈ news)
    (hown : ∀ (v : Value) (s' : Shared) (I : Addr) (i : Nat) (Q' : Unit → Shared → Prop) (E' : Value → Shared → Prop), v ∈ items.toList → s'.heap.IsListIter I l i → Q' () s' → wpAny (model prog w) A (letOwnedTupleGo target (.ref I) v) Q' E' s')
    (turn : ∀ j v h' tk g m' news' it oit, items[j]? = some v → J j m' news' g → Fr h₀ L h' m' → News h₀ L h' ((it, oit) :: news') → (∀ q ∈ news', q.1 ≠ it) → (∃ (l' : Addr) (i : Int), oit.data = .fields #[.ref l', .int i 0]) →
      wpAny (model prog w) A (assign target env v) (fun _ s₂ => wpAny (model prog w) A (execs body env) (fun f s₃ => match f with
            | .next | .cont => Stop (NextJ h₀ L J (j + 1) it oit s s₃)
            | .brk => R (.ok .next) s₃
            | .ret v => R (.ok (.ret v)) s₃) (notedBy (model prog w) A env fun e s' => R (.error e) s') s₂) (notedBy (model prog w) A env fun e s' => R (.error e) s') { s with heap := h', toks := tk, gens := g })
    (done : ∀ h' tk g m' news', J items.size m' news' g → Fr h₀ L h' m' → News h₀ L h' news' → R (.ok .next) { s with heap := h', toks := tk, gens := g }) :
    wpAny (model prog w) A (pyIter (.ref l)) (fun it s₂ => codeAny (model prog w) A (.forLoop target it body [] env) R s₂) E s := by
  have hl0 := hJ _ _ _ _ h0
  refine wpAny_pyIter_list (items := items) ⟨_, (N _ hl0).1, rfl, _, rfl⟩ ?_
  obtain ⟨it, hit⟩ : ∃ it : Addr, it = s.heap.objs.size := ⟨_, rfl⟩
  have hlt : ∀ q ∈ news, q.1 < it := fun q hq => hit ▸ lt_get (N q hq).1
  have N1 := N.push F ({ cls := .type "list_iterator", data := .fields #[.ref l, .int 0 0] } : Obj)
  have F1 := F.push ({ cls := .type "list_iterator", data := .fields #[.ref l, .int 0 0] } : Obj)
  rw [← hit] at N1 ⊢
  refine forLoopA (fun _ kk s' => ∃ j oit, kk = items.size - j ∧ j ≤ items.size ∧ (oit.cls = .type "list_iterator" ∧ oit.data = .fields #[.ref l, .int j 0]) ∧ NextJ h₀ L J j it oit s s') ?_ items.size
    ⟨0, { cls := .type "list_iterator", data := .fields #[.ref l, .int 0 0] }, rfl, Nat.zero_le _, ⟨rfl, rfl⟩, _, s.toks, s.gens, m, news, rfl, h0, F1, N1, fun q hq => Nat.ne_of_lt (hlt q hq)⟩
  rintro kk s' ⟨j, oit, rfl, hj, hoit, h3, tk3, g3, m3, news3, rfl, hJ3, F3, N3, hne3⟩
  have hl3 := hJ _ _ _ _ hJ3
  have hil : h3.IsList l items := ⟨_, (N3 _ (.tail _ hl3)).1, rfl, _, rfl⟩
  have hit3 : h3.IsListIter it l j := ⟨oit, (N3 _ (.head _)).1, hoit⟩
  by_cases hjl : j < items.size
  · have hx : items[j]? = some items[j] := Array.getElem?_eq_getElem hjl
    obtain ⟨v, hv⟩ : ∃ v, v = items[j] := ⟨_, rfl⟩
    rw [← hv] at hx
    refine wpAny_pyNext_list_item hit3 hil hx fun h4 hit4 hs4 => ?_
    obtain ⟨oit4, ho4, hoit4⟩ := id hit4
    have F4 : Fr h₀ L h4 m3 := F3.update N3 (.head _) hs4
    have N4 : News h₀ L h4 ((it, oit4) :: news3) := News.setAt (own := []) N3 (fun q hq => nomatch hq) hne3 hs4 ho4
    refine hown v _ it (j + 1) _ _ (Array.mem_toList_iff.mpr (Array.mem_of_getElem? hx)) hit4 ?_
    refine wpAny_mono (turn j v h4 tk3 g3 m3 news3 it oit4 hx hJ3 F4 N4 hne3 ⟨l, _, hoit4.2⟩) (fun _ s₂ h₂ => wpAny_mono h₂ (fun f s₃ h₃ => ?_) fun _ _ x => x) fun _ _ x => x
    cases f with
    | next => exact ⟨items.size - (j + 1), by omega, j + 1, oit4, rfl, hjl, hoit4, h₃⟩
    | cont => exact ⟨items.size - (j + 1), by omega, j + 1, oit4, rfl, hjl, hoit4, h₃⟩
    | brk => exact h₃
    | ret v => exact h₃
  · have hje : j = items.size := by omega
    subst hje
    refine wpAny_pyNext_list_end hh hit3 hil (by rw [Array.getElem?_eq_none_iff]; omega) fun h4 hs4 => ?_
    have hs4 : Heap.ExtBut it h3 h4 := hs4
    have N4 : News h₀ L h4 news3 := fun q hq => ⟨hs4 _ _ (hne3 q hq) (N3 _ (.tail _ hq)).1, (N3 _ (.tail _ hq)).2⟩
    have F4 : Fr h₀ L h4 m3 := by
      have hne := (N3 _ (.head _)).2
      exact ⟨F3.ns.extBut hs4 (Ne.symm hne.1), fun b o e => hs4 b o (fun hb => by rw [hb, hne.2] at e; exact nomatch e) (F3.keep b o e), F3.above⟩
    exact wpAny_execs_nil (done h4 tk3 g3 m3 news3 hJ3 F4 N4)
end
end Mine

/-! ## F2 -/
namespace Mine
open PySem PySem.W PySem.Calls PyProof.Rows
open Sem (wp)
set_option maxRecDepth 100000
section
variable {prog : Program} {w : World} {A : Around} {s : Shared} {E : Value → Shared → Prop} {h₀ : Heap} {L l : Addr} {m : Str → Option Value} {news : List (Addr × Obj)} {items : Array Value} {cap : Nat}
theorem forLS (k : Nat) {R : Result → Shared → Prop} {target : PySem.Expr} {body : List Stmt} {env : Env} (hh : A.handled = none) (F : Fr h₀ L s.heap m) (N : News h₀ L s.heap news)
    (J : Nat → (Str → Option Value) → List (Addr × Obj) → Array GenState → Prop) (h0 : J 0 m news s.gens) (hJ : ∀ j m news g, J j m news g → (l, listOf items cap) ∈ news)
    (hown : ∀ (v : Value) (s' : Shared) (I : Addr) (i : Nat) (Q' : Unit → Shared → Prop) (E' : Value → Shared → Prop), v ∈ items.toList → s'.heap.IsListIter I l i → Q' () s' → wpAny (model prog w) A (letOwnedTupleGo target (.ref I) v) Q' E' s')
    (turn : ∀ j v h' tk g m' news' it oit, items[j]? = some v → J j m' news' g → Fr h₀ L h' m' → News h₀ L h' ((it, oit) :: news') → (∀ q ∈ news', q.1 ≠ it) → (∃ (l' : Addr) (i : Int), oit.data = .fields #[.ref l', .int i 0]) →
      wpAny (model prog w) A (assign target env v) (fun _ s₂ => wpAny (model prog w) A (execs (body.take k) env) (fun f s₃ => match f with
            | .next => Stop (wpAny (model prog w) A (execs (body.drop k) env) (fun f s₃ => match f with
                | .next | .cont => Stop (NextJ h₀ L J (j + 1) it oit s s₃)
                | .brk => R (.ok .next) s₃
                | .ret v => R (.ok (.ret v)) s₃) (notedBy (model prog w) A env fun e s' => R (.error e) s') s₃)
            | .cont => Stop (NextJ h₀ L J (j + 1) it oit s s₃)
            | .brk => R (.ok .next) s₃
            | .ret v => R (.ok (.ret v)) s₃) (notedBy (model prog w) A env fun e s' => R (.error e) s') s₂) (notedBy (model prog w) A env fun e s' => R (.error e) s') { s with heap := h', toks := tk, gens := g })
    (done : ∀ h' tk g m' news', J items.size m' news' g → Fr h₀ L h' m' → News h₀ L h' news' → R (.ok .next) { s with heap := h', toks := tk, gens := g }) :
    wpAny (model prog w) A (pyIter (.ref l)) (fun it s₂ => codeAny (model prog w) A (.forLoop target it body [] env) R s₂) E s := by
  refine forL hh F N J h0 hJ hown (fun j v h' tk g m' news' it oit hv hj F' N' hne hod => ?_) done
  refine wpAny_mono (turn j v h' tk g m' news' it oit hv hj F' N' hne hod) (fun _ s₂ h₂ => ?_) fun _ _ x => x
  refine (List.take_append_drop k body) ▸ execs_split (xs := body.take k) (tl := body.drop k) (wpAny_mono h₂ (fun f s₃ h₃ => ?_) fun _ _ x => x)
  cases f with
  | next => exact h₃
  | brk => exact h₃
  | cont => exact h₃
  | ret v => exact h₃
end
end Mine

/-! ## F3 -/
namespace Mine
open PySem PySem.W PySem.Calls PyProof.Rows
open Sem (wp)
set_option maxRecDepth 100000
set_option maxHeartbeats 1000000

def NextE (h₀ : Heap) (L : Addr) (J : Nat → (Str → Option Value) → List (Addr × Obj) → Array GenState → Prop) (j : Nat) (e it : Addr) (oe oit : Obj) (s₀ s₃ : Shared) : Prop :=
  ∃ h3 tk3 g3 m3 news3, s₃ = { s₀ with heap := h3, toks := tk3, gens := g3 } ∧ J j m3 news3 g3 ∧ Fr h₀ L h3 m3 ∧ News h₀ L h3 ((e, oe) :: (it, oit) :: news3) ∧ ∀ q ∈ news3, q.1 ≠ it ∧ q.1 ≠ e

section
variable {prog : Program} {w : World} {A : Around} {s : Shared} {E : Value → Shared → Prop} {h₀ : Heap} {L l : Addr} {m : Str → Option Value} {news : List (Addr × Obj)} {items : Array Value} {cap : Nat}

theorem forE (k : Nat) {R : Result → Shared → Prop} {xi xv : Str} {pi pv pt : Pos} {x1} {body : List Stmt} {env : Env} (hh : A.handled = none) (hxi : env.kindOf xi = some .local) (hxv : env.kindOf xv = some .local) (hLe : env.locals = L)
    (hp : (env.scope.kind == .class || (env.scope.kind == .module && env.locals != env.globals)) = false) (F : Fr h₀ L s.heap m) (N : News h₀ L s.heap news)
    (J : Nat → (Str → Option Value) → List (Addr × Obj) → Array GenState → Prop) (h0 : J 0 m news s.gens) (hJ : ∀ j m news g, J j m news g → (l, listOf items cap) ∈ news)
    (turn : ∀ j v h' tk g m' news' e it oe oit (ti : Tok), items[j]? = some v → J j m' news' g → Fr h₀ L h' (fun y => if y = xv then some v else if y = xi then some (.int j ti) else m' y) → News h₀ L h' ((e, oe) :: (it, oit) :: news') → (∀ q ∈ news', q.1 ≠ it ∧ q.1 ≠ e) → e ≠ it →
      (∃ (a b c d : Value), oe.data = .fields #[.none, .bool false, a, b, c, d] ) → (∃ (l' : Addr) (i : Int), oit.data = .fields #[.ref l', .int i 0]) →
      wpAny (model prog w) A (execs (body.take k) env) (fun f s₃ => match f with
            | .next => Stop (wpAny (model prog w) A (execs (body.drop k) env) (fun f s₃ => match f with
                | .next | .cont => Stop (NextE h₀ L J (j + 1) e it oe oit s s₃)
                | .brk => R (.ok .next) s₃
                | .ret v => R (.ok (.ret v)) s₃) (notedBy (model prog w) A env fun e s' => R (.error e) s') s₃)
            | .cont => Stop (NextE h₀ L J (j + 1) e it oe oit s s₃)
            | .brk => R (.ok .next) s₃
            | .ret v => R (.ok (.ret v)) s₃) (notedBy (model prog w) A env fun e s' => R (.error e) s') { s with heap := h', toks := tk, gens := g })
    (done : ∀ h' tk g m' news', J items.size m' news' g → Fr h₀ L h' m' → News h₀ L h' news' → R (.ok .next) { s with heap := h', toks := tk, gens := g }) :
    wpAny (model prog w) A (call (.type "enumerate") [.ref l]) (fun x s₁ => wpAny (model prog w) A (pyIter x) (fun it s₂ => codeAny (model prog w) A (.forLoop (.Tuple [.Name xi pi, .Name xv pv] x1 pt) it body [] env) R s₂) E s₁) E s := by
  have hl0 := hJ _ _ _ _ h0
  refine call_enumerate_list (items := items) ⟨_, (N _ hl0).1, rfl, _, rfl⟩ fun h1 he1 hit1 hz1 hk1 => ?_
  refine wpAny_pyIter_enum he1 ?_
  obtain ⟨it, hit⟩ : ∃ it : Addr, it = s.heap.objs.size := ⟨_, rfl⟩
  obtain ⟨e, hee⟩ : ∃ e : Addr, e = it + 1 := ⟨_, rfl⟩
  rw [← hit, ← hee] at he1
  rw [← hit] at hit1 hz1
  rw [← hit, ← hee]
  have hlt : ∀ q ∈ news, q.1 < it := fun q hq => hit ▸ lt_get (N q hq).1
  have hei : e ≠ it := by rw [hee]; exact Nat.ne_of_gt (Nat.lt_succ_self _)
  have hLi : L < it := hit ▸ F.ns.lt
  have h0L : h₀.objs.size ≤ L := F.above
  have fr : ∀ b : Addr, L < b → h₀.get? b = none := fun b hb => Heap.get?_none_of_le (Nat.le_trans h0L (Nat.le_of_lt hb))
  have hiL : it ≠ L := Nat.ne_of_gt hLi
  have hLe2 : L < e := by rw [hee]; exact Nat.lt_succ_of_lt hLi
  have heL : e ≠ L := Nat.ne_of_gt hLe2
  obtain ⟨oi1, hoi1, hoic1⟩ := id hit1
  have F1 : Fr h₀ L h1 m := F.keeps hk1
  have N1 : News h₀ L h1 ((e, { cls := .type "enumerate", dict := none, data := .fields #[.none, .bool false, .ref it, rawInt 0, .none, .none], slots := #[] }) :: (it, oi1) :: news) := fun q hq => by
    rcases List.mem_cons.mp hq with rfl | hq
    · exact ⟨he1, heL, fr _ hLe2⟩
    rcases List.mem_cons.mp hq with rfl | hq
    · exact ⟨hoi1, hiL, fr _ hLi⟩
    · exact ⟨hk1 _ _ (N q hq).1, (N q hq).2⟩
  refine forLoopA (fun _ kk s' => ∃ (j : Nat) (old : Value) (oit : Obj), kk = items.size - j ∧ j ≤ items.size ∧ (oit.cls = .type "list_iterator" ∧ oit.data = .fields #[.ref l, .int j 0]) ∧
      NextE h₀ L J j e it { cls := .type "enumerate", dict := none, data := .fields #[.none, .bool false, .ref it, rawInt j, .none, old], slots := #[] } oit s s') ?_ items.size
    ⟨0, .none, oi1, rfl, Nat.zero_le _, hoic1, _, s.toks, s.gens, m, news, rfl, h0, F1, N1, fun q hq => ⟨Nat.ne_of_lt (hlt q hq), by rw [hee]; exact Nat.ne_of_lt (Nat.lt_succ_of_lt (hlt q hq))⟩⟩
  rintro kk s' ⟨j, old, oit, rfl, hj, hoit, h3, tk3, g3, m3, news3, rfl, hJ3, F3, N3, hne3⟩
  have hl3 := hJ _ _ _ _ hJ3
  have he3 : IsEnum h3 e it ((j : Nat) : Int) old := (N3 _ (.head _)).1
  have hit3 : h3.IsListIter it l j := ⟨oit, (N3 _ (.tail _ (.head _))).1, hoit⟩
  have hil : h3.IsList l items := ⟨_, (N3 _ (.tail _ (.tail _ hl3))).1, rfl, _, rfl⟩
  have hle := (hne3 _ hl3).2
  have hli := (hne3 _ hl3).1
  by_cases hjl : j < items.size
  · have hx : items[j]? = some items[j] := Array.getElem?_eq_getElem hjl
    obtain ⟨v, hv⟩ : ∃ v, v = items[j] := ⟨_, rfl⟩
    rw [← hv] at hx
    have heH : e < h3.objs.size := lt_get he3
    have hLH : L < h3.objs.size := F3.ns.lt
    obtain ⟨oi, hoi, _⟩ := id hit3
    have hiH : it < h3.objs.size := lt_get hoi
    refine wpAny_pyNext_enum_item he3 hit3 hil hx hei fun h₁ heo hit₁ ht₁ hz₁ hk₁ => ?_
    dsimp only at hz₁ ht₁ hk₁ heo ⊢
    refine wpAny_letOwnedTupleGo_enum heo fun h₂ he₂ hs₂ => ?_
    replace hs₂ : Heap.SameBut e h₁ h₂ := hs₂
    have ht₂ : h₂.IsTuple h3.objs.size #[.int j tk3, v] := ⟨_, (hs₂.2 _ (Nat.ne_of_gt heH)).trans ht₁, rfl, _, rfl⟩
    have hz₂ : h₂.objs.size = h3.objs.size + 1 := hs₂.1.trans hz₁
    refine wpAny_assign_Tuple hh ht₂ rfl rfl fun h₃ hx₃ => ?_
    replace hx₃ : Heap.ExtBut h₂.objs.size h₂ h₃ := hx₃
    have old₃ : ∀ b o, b < h3.objs.size → h₂.get? b = some o → h₃.get? b = some o := fun b o hb x => hx₃ b o (by rw [hz₂]; exact Nat.ne_of_lt (Nat.lt_succ_of_lt hb)) x
    subst hLe
    have hn₃ : h₃.Ns env.locals m3 := (F3.ns.at fun o x => hk₁ _ o (Ne.symm heL) (Ne.symm hiL) x).sameBut hs₂ (Ne.symm heL) |>.at fun o x => old₃ _ o hLH x
    show wpAny _ A (do holding [v] (assign (.Name xi pi) env (.int j tk3)); do holding [] (assign (.Name xv pv) env v); pure ()) _ _ _
    refine wpAny_bind (wpAny_holding (wpAny_assign_Name (wpAny_storeName_local hxi hn₃ (fun h₄ hn₄ hs₄ => ?_) hp)))
    replace hs₄ : Heap.SameBut env.locals h₃ h₄ := hs₄
    refine wpAny_bind (wpAny_holding (wpAny_assign_Name (wpAny_storeName_local hxv hn₄ (fun h₅ hn₅ hs₅ => wpAny_pure ?_) hp)))
    replace hs₅ : Heap.SameBut env.locals h₄ h₅ := hs₅
    have up : ∀ b o, b ≠ env.locals → b < h3.objs.size → h₂.get? b = some o → h₅.get? b = some o := fun b o hbL hb x => hs₅.extBut b o hbL (hs₄.extBut b o hbL (old₃ b o hb x))
    have upo : ∀ b o, b ≠ env.locals → b ≠ e → b ≠ it → h3.get? b = some o → h₅.get? b = some o := fun b o hbL hbe hbi x => up b o hbL (lt_get x) (hs₂.extBut b o hbe (hk₁ b o hbe hbi x))
    have F5 : Fr h₀ env.locals h₅ (fun y => if y = xv then some v else if y = xi then some (.int j tk3) else m3 y) := ⟨hn₅, fun b o x => by
      have hb1 : b ≠ env.locals := fun q => by rw [q, Heap.get?_none_of_le h0L] at x; cases x
      have hb2 : b ≠ e := fun q => by rw [q, fr _ hLe2] at x; cases x
      have hb3 : b ≠ it := fun q => by rw [q, fr _ hLi] at x; cases x
      exact upo b o hb1 hb2 hb3 (F3.keep b o x), h0L⟩
    obtain ⟨oit5, ho5, hoit5⟩ := ((hit₁.extBut hs₂.extBut (Ne.symm hei)).at fun o x => up it o hiL hiH x)
    have N5 : News h₀ env.locals h₅ ((e, { cls := .type "enumerate", dict := none, data := .fields #[.none, .bool false, .ref it, rawInt ((j + 1 : Nat) : Int), .none, v], slots := #[] }) :: (it, oit5) :: news3) := fun q hq => by
      rcases List.mem_cons.mp hq with rfl | hq
      · have he5 := up e _ heL heH he₂
        exact ⟨by push_cast; exact he5, heL, fr _ hLe2⟩
      rcases List.mem_cons.mp hq with rfl | hq
      · exact ⟨ho5, hiL, fr _ hLi⟩
      · have z := N3 q (.tail _ (.tail _ hq))
        exact ⟨upo _ _ z.2.1 (hne3 q hq).2 (hne3 q hq).1 z.1, z.2⟩
    refine (List.take_append_drop k body) ▸ execs_split (xs := body.take k) (tl := body.drop k) (wpAny_mono (turn j v h₅ _ g3 m3 news3 e it _ oit5 tk3 hx hJ3 F5 N5 hne3 hei ⟨_, _, _, _, rfl⟩ ⟨l, _, hoit5.2⟩) (fun f s₃ h₃' => ?_) fun _ _ x => x)
    cases f with
    | next =>
      refine wpAny_mono h₃' (fun f s₄ h₄' => ?_) fun _ _ x => x
      cases f with
      | next => exact ⟨items.size - (j + 1), by omega, j + 1, v, oit5, rfl, hjl, hoit5, h₄'⟩
      | cont => exact ⟨items.size - (j + 1), by omega, j + 1, v, oit5, rfl, hjl, hoit5, h₄'⟩
      | brk => exact h₄'
      | ret v => exact h₄'
    | cont => exact ⟨items.size - (j + 1), by omega, j + 1, v, oit5, rfl, hjl, hoit5, h₃'⟩
    | brk => exact h₃'
    | ret v => exact h₃'
  · have hje : j = items.size := by omega
    subst hje
    refine wpAny_pyNext_enum_end hh he3 hit3 hil (by rw [Array.getElem?_eq_none_iff]; omega) fun h4 hs4 => ?_
    have hs4 : Heap.ExtBut it h3 h4 := hs4
    have N4 : News h₀ L h4 news3 := fun q hq => ⟨hs4 _ _ (hne3 q hq).1 (N3 _ (.tail _ (.tail _ hq))).1, (N3 _ (.tail _ (.tail _ hq))).2⟩
    have F4 : Fr h₀ L h4 m3 := ⟨F3.ns.extBut hs4 (Ne.symm hiL), fun b o x => hs4 b o (fun q => by rw [q, fr _ hLi] at x; cases x) (F3.keep b o x), h0L⟩
    exact wpAny_execs_nil (done h4 tk3 g3 m3 news3 hJ3 F4 N4)
end
end Mine

/-! ## C1 -/
namespace Mine
open PySem PySem.W PySem.Calls PyProof.Rows PyProof.Rows.LCg
open Sem (wp)
set_option maxRecDepth 100000
set_option maxHeartbeats 2000000

section
variable {prog : Program} {w : World} {A : Around} {E : Value → Shared → Prop} {s : Shared} {h₀ : Heap} {L : Addr} {m : Str → Option Value} {env : Env}

/-- the tests of a clause -/
def tests (ifs : List PySem.Expr) (env : Env) : Sem Bool := forIn ifs true fun c r => if r = true then do let ok ← isTrue c env (eval c env); pure (ForInStep.yield ok) else pure (ForInStep.yield r)

theorem cLoopT {elt target iter : PySem.Expr} {ifs : List PySem.Expr} {scope : Scope} {pos : Pos} {it acc : Value} {env : Env} {R : Result → Shared → Prop} (I : Nat → Shared → Prop)
    (turn : ∀ n s, I n s → wpAny (model prog w) A (pyNext it) (fun r s₁ => match r with
      | none => R (.ok .next) s₁
      | some v => wpAny (model prog w) A (letOwnedTupleGo target it v) (fun _ s₁' => wpAny (model prog w) A (assign target env v) (fun _ s₂ => wpAny (model prog w) A (tests ifs env) (fun ok s₃ => if ok = true then
          wpAny (model prog w) A (eval elt env) (fun x s₄ =>
              wpAny (model prog w) A (call (.builtin "list.append") [acc, x]) (fun _ s₅ => ∃ m, m < n ∧ I m s₅) (notedBy (model prog w) A env fun e s' => R (.error e) s') s₄) (notedBy (model prog w) A env fun e s' => R (.error e) s') s₃
          else ∃ m, m < n ∧ I m s₃) (notedBy (model prog w) A env fun e s' => R (.error e) s') s₂)
          (notedBy (model prog w) A env fun e s' => R (.error e) s') s₁') (notedBy (model prog w) A env fun e s' => R (.error e) s') s₁) (notedBy (model prog w) A env fun e s' => R (.error e) s') s)
    (n : Nat) (h : I n s) : codeAny (model prog w) A (.compLoop (.ListComp elt [⟨target, iter, ifs, 0⟩] scope pos) 0 it acc env) R s := by
  refine codeAny_loop rfl I (fun n s hI => ?_) n h
  show wpAny _ A ((compTurn (.ListComp elt [⟨target, iter, ifs, 0⟩] scope pos) 0 it acc env).onRaise (fun x => do noteFrame x env; theTreesLotGoes x)) _ _ s
  refine wpAny_noted ?_
  rw [compTurn_list]
  refine wpAny_bind (wpAny_standAt (wpAny_bind (wpAny_mono (turn n s hI) (fun r s₁ h₁ => ?_) fun _ _ h' => h')))
  cases r with
  | none => exact wpAny_pure h₁
  | some v =>
    refine wpAny_bind (wpAny_mono h₁ (fun _ s₁' h₁' => ?_) fun _ _ h' => h')
    refine wpAny_bind (wpAny_mono h₁' (fun _ s₂ h₂ => wpAny_bind (wpAny_mono h₂ (fun ok s₃ h₃ => ?_) fun _ _ h' => h')) fun _ _ h' => h')
    cases ok with
    | true =>
      simp only [if_true] at h₃ ⊢
      exact wpAny_bind (wpAny_bind (wpAny_mono h₃ (fun x s₄ h₄ => wpAny_bind (wpAny_mono h₄ (fun _ s₅ h₅ => wpAny_pure (wpAny_pure ⟨rfl, h₅⟩)) fun _ _ h' => h')) fun _ _ h' => h'))
    | false =>
      simp only [Bool.false_eq_true, if_false] at h₃ ⊢
      exact wpAny_bind (wpAny_pure (wpAny_pure ⟨rfl, h₃⟩))

theorem tests_nil {cenv : Env} {Q : Bool → Shared → Prop} (h : Q true s) : wpAny (model prog w) A (tests [] cenv) Q E s := wpAny_tests_nil h
theorem tests_one {cenv : Env} {c : PySem.Expr} {Q : Bool → Shared → Prop} (h : wpAny (model prog w) A (isTrue c cenv (eval c cenv)) Q E s) : wpAny (model prog w) A (tests [c] cenv) Q E s := wpAny_tests_one h

/-- binding the target of a clause -/
def AsgOk (prog : Program) (w : World) (A : Around) (h₀ : Heap) (L : Addr) (target : PySem.Expr) (cenv : Addr → Env) (I : Addr) (n : Nat) (P : Nat → Value → Prop) (St : Nat → Heap → Prop) (VP : Value → List (Addr × Obj) → Prop) (Bd : Value → List (Addr × Obj) → (Str → Option Value) → Prop) : Prop :=
  ∀ (C : Addr) (i : Nat) (v : Value) (news : List (Addr × Obj)) (s : Shared) (m' : Str → Option Value) (Q : Unit → Shared → Prop) (E : Value → Shared → Prop), i < n → P i v → VP v news → News h₀ L s.heap news → St (i + 1) s.heap → s.heap.Ns C m' →
    (∀ h₂ tk m₂, h₂.Ns C m₂ → (∀ b o, b ≠ C → s.heap.get? b = some o → h₂.get? b = some o) → Bd v news m₂ → Q () { s with heap := h₂, toks := tk }) →
    wpAny (model prog w) A (letOwnedTupleGo target (.ref I) v) (fun _ s' => wpAny (model prog w) A (assign target (cenv C) v) Q E s') E s

/-- a turn ends so -/
def CEnd (h₀ : Heap) (L : Addr) (m : Str → Option Value) (J : Nat → List Value → List (Addr × Obj) → Prop) (s₁ : Shared) (I : Addr) (oI : Obj) (C : Addr) (oC : Obj) (D : Addr) (oD : Obj) (j : Nat) (ys : List Value) (s₂ : Shared) : Prop :=
  ∃ h' tk news', s₂ = { s₁ with heap := h', toks := tk } ∧ Fr h₀ L h' m ∧ News h₀ L h' ((I, oI) :: (C, oC) :: (D, oD) :: news') ∧ (∀ p ∈ news', p.1 ≠ I ∧ p.1 ≠ C ∧ p.1 ≠ D) ∧ J j ys news'

theorem blockL {elt target iter : PySem.Expr} {ifs : List PySem.Expr} {scope : Scope} {cl : List (Str × Addr)} {pos : Pos} {s₂ : Shared} {I : Addr} {fp : List Addr} {n : Nat} {P : Nat → Value → Prop} {St : Nat → Heap → Prop} {news : List (Addr × Obj)}
    {RR : Value → Addr → Result → Shared → Prop} {VP : Value → List (Addr × Obj) → Prop} {Bd : Value → List (Addr × Obj) → (Str → Option Value) → Prop}
    (W : Walks prog w A I fp [I] n P St) (hsz : n ≤ sizeLine) (hIo : ∀ i h, St i h → ∃ o, h.get? I = some o)
    (J : Nat → List Value → List (Addr × Obj) → Prop)
    (hSt : ∀ i h h' o nw j ys, St i h → h.get? I = some o → h'.get? I = some o → (∀ b o, h₀.get? b = some o → h'.get? b = some o) → News h₀ L h' nw → J j ys nw → St i h')
    (hcell : ∀ y ∈ scope.names, y.2 ≠ .cell) (hkind : scope.kind = .function) (hst : St 0 s₂.heap) (hfp : ∀ b ∈ fp, b < s₂.heap.objs.size)
    (hasg : AsgOk prog w A h₀ L target (fun C => compEnvC scope cl C env) I n P St VP Bd)
    (hVP : ∀ i v ys nw, i < n → P i v → J i ys nw → VP v nw) (hys : ∀ i ys nw, J i ys nw → ys.length ≤ i)
    (F : Fr h₀ L s₂.heap m) (N : News h₀ L s₂.heap news) (hIL : L ≠ I) (hI₀ : h₀.get? I = none) (off : ∀ p ∈ news, p.1 ≠ I) (h0 : J 0 [] news)
    (turn : ∀ i v ys nw oI C oC D m₂ h tk (E' : Value → Shared → Prop), i < n → P i v → J i ys nw → NsObj oC m₂ → Bd v nw m₂ → Fr h₀ L h m → News h₀ L h ((I, oI) :: (C, oC) :: (D, lst ys) :: nw) → (∀ p ∈ nw, p.1 ≠ I ∧ p.1 ≠ C ∧ p.1 ≠ D) → (I ≠ C ∧ I ≠ D ∧ C ≠ D) →
      wpAny (model prog w) A (tests ifs (compEnvC scope cl C env)) (fun ok s₃ => if ok = true then wpAny (model prog w) A (eval elt (compEnvC scope cl C env)) (fun y s₄ => CEnd h₀ L m J { s₂ with heap := h, toks := tk } I oI C oC D (lst ys) (i + 1) (ys ++ [y]) s₄) E' s₃
        else CEnd h₀ L m J { s₂ with heap := h, toks := tk } I oI C oC D (lst ys) (i + 1) ys s₃) E' { s₂ with heap := h, toks := tk })
    (hRR : ∀ D C h tk m' ys nw, Fr h₀ L h m → News h₀ L h ((D, lst ys) :: nw) → (∀ p ∈ nw, p.1 ≠ D) → h.Ns C m' → h₀.get? C = none → h₀.get? D = none → C ≠ L → D ≠ L → C ≠ D → (∀ p ∈ nw, p.1 ≠ C) → J n ys nw → s₂.heap.objs.size ≤ D → RR (.ref D) C (.ok .next) { s₂ with heap := h, toks := tk }) :
    wpAny (model prog w) A (newList []) (fun acc s₃ => wpAny (model prog w) A (newFunctionEnv scope env.globals cl [] env.qual none .none (some env)) (fun cenv s₄ =>
      codeAny (model prog w) A (.compStart (.ListComp elt [⟨target, iter, ifs, 0⟩] scope pos) 0 (.ref I) acc { cenv with scope := relabel scope env }) (RR acc cenv.locals) s₄) E s₃) E s₂ := by
  refine wpAny_newObj_type (wpAny_newFunctionEnv hcell (by intro y hy; simp at hy) (fun h₁ hns₁ hsb₁ => ?_) hkind)
  dsimp only at hns₁ hsb₁ ⊢
  generalize hH2 : s₂.heap.push { cls := .type "list", dict := none, data := .seq ([] : List Value).toArray } = H2 at hns₁ hsb₁ ⊢
  have hC : H2.objs.size = s₂.heap.objs.size + 1 := by rw [← hH2, Heap.size_push]
  have hDC : s₂.heap.objs.size ≠ H2.objs.size := by rw [hC]; exact Nat.ne_of_lt (Nat.lt_succ_self _)
  have below : ∀ b, b < s₂.heap.objs.size → b ≠ H2.objs.size ∧ b ≠ s₂.heap.objs.size := fun b hb => ⟨by rw [hC]; exact Nat.ne_of_lt (Nat.lt_succ_of_lt hb), Nat.ne_of_lt hb⟩
  have hDf : s₂.heap.objs.size ∉ fp := fun hm => Nat.lt_irrefl _ (hfp _ hm)
  have hCf : H2.objs.size ∉ fp := fun hm => by have := hfp _ hm; rw [hC] at this; exact Nat.lt_irrefl _ (Nat.lt_of_succ_lt this)
  have hIf : I ∈ fp := W.sub I (List.mem_singleton.mpr rfl)
  have hIlt : I < s₂.heap.objs.size := hfp I hIf
  have old : ∀ b o, s₂.heap.get? b = some o → h₁.get? b = some o := fun b o e => hsb₁.extBut b o (below b (Heap.lt_size e)).1 (Heap.get?_push_of_some _ (hH2 ▸ Heap.get?_push_of_some _ e))
  have hacc : h₁.get? s₂.heap.objs.size = some (lst []) := hsb₁.extBut _ _ hDC (Heap.get?_push_of_some _ (hH2 ▸ Heap.get?_push_size _ rfl))
  have hst₁ : St 0 h₁ := W.frame _ _ _ hst fun b _ o e => old b o e
  have fresh : ∀ a, s₂.heap.objs.size ≤ a → s₂.heap.get? a = none := fun a ha => by
    cases e : s₂.heap.get? a with
    | none => rfl
    | some o' => exact absurd (Heap.lt_size e) (Nat.not_lt.mpr ha)
  have fresh₀ : ∀ a, s₂.heap.objs.size ≤ a → h₀.get? a = none := fun a ha => by
    cases e : h₀.get? a with
    | none => rfl
    | some o' => have := F.keep a o' e; rw [fresh a ha] at this; cases this
  have hD₀ : h₀.get? s₂.heap.objs.size = none := fresh₀ _ (Nat.le_refl _)
  have hC₀ : h₀.get? H2.objs.size = none := fresh₀ _ (by rw [hC]; exact Nat.le_succ _)
  have hLlt : L < s₂.heap.objs.size := F.ns.lt
  have hDL : s₂.heap.objs.size ≠ L := Ne.symm (below L hLlt).2
  have hCL : H2.objs.size ≠ L := Ne.symm (below L hLlt).1
  have hCI : I ≠ H2.objs.size := (below I hIlt).1
  have hDI : I ≠ s₂.heap.objs.size := (below I hIlt).2
  have off₀ : ∀ p ∈ news, p.1 ≠ I ∧ p.1 ≠ H2.objs.size ∧ p.1 ≠ s₂.heap.objs.size := fun p hp => ⟨off p hp, (below _ (Heap.lt_size (N p hp).1)).1, (below _ (Heap.lt_size (N p hp).1)).2⟩
  have loop : ∀ s₃ : Shared, s₃ = { s₂ with heap := h₁, toks := s₂.toks + ([] : List (Str × Value)).length } →
      codeAny (model prog w) A (.compLoop (.ListComp elt [⟨target, iter, ifs, 0⟩] scope pos) 0 (.ref I) (.ref s₂.heap.objs.size) (compEnvC scope cl H2.objs.size env))
        (RR (.ref s₂.heap.objs.size) H2.objs.size) s₃ := by
    rintro s₃ rfl
    refine cLoopT
      (fun k s' => ∃ h' tk i ys m' news', s' = { s₂ with heap := h', toks := tk } ∧ i ≤ n ∧ k = n + 1 - i ∧ St i h' ∧ Fr h₀ L h' m ∧ h'.Ns H2.objs.size m' ∧ News h₀ L h' ((s₂.heap.objs.size, lst ys) :: news') ∧
        (∀ p ∈ news', p.1 ≠ I ∧ p.1 ≠ H2.objs.size ∧ p.1 ≠ s₂.heap.objs.size) ∧ J i ys news') ?_ (n + 1)
      ⟨h₁, _, 0, [], _, news, rfl, Nat.zero_le _, rfl, hst₁, F.keeps old, hns₁, fun p hp => ?_, off₀, h0⟩
    · rintro k s' ⟨h', tk, i, ys, m', news', rfl, hi, rfl, hst', F', hn', N', off', hJ'⟩
      by_cases hlt : i < n
      · refine W.item i _ _ _ hlt hst' fun v h₂ tk₂ hPv hst₂ hk₂ => ?_
        have N₂ : News h₀ L h₂ ((s₂.heap.objs.size, lst ys) :: news') := news_but N' hk₂ fun p hp => by
          rcases List.mem_cons.mp hp with rfl | hp
          · exact Ne.symm hDI
          · exact (off' p hp).1
        have hn₂ : h₂.Ns H2.objs.size m' := hn'.at' fun o e => hk₂ _ o (by simpa using Ne.symm hCI) e
        refine hasg H2.objs.size i v news' _ m' _ _ hlt hPv (hVP i v ys news' hlt hPv hJ') (fun p hp => N₂ p (.tail _ hp)) hst₂ hn₂ fun h₃ tk₃ m₂ hn₃ old3 hB => ?_
        have old3 : ∀ b o, b ≠ H2.objs.size → h₂.get? b = some o → h₃.get? b = some o := old3
        have hst₃ : St (i + 1) h₃ := W.frame _ _ _ hst₂ fun b hb o e => old3 b o (fun q => hCf (by rw [← q]; exact hb)) e
        obtain ⟨oI, heI⟩ := hIo _ _ hst₃
        obtain ⟨oC, heC, hoC⟩ := ns_obj hn₃
        have F₂ : Fr h₀ L h₂ m := fr_but F' hk₂ hIL hI₀
        have F₃ : Fr h₀ L h₃ m := ⟨F₂.ns.at' fun o e => old3 L o (Ne.symm hCL) e, fun b o e => old3 b o (fun q => by rw [q, hC₀] at e; cases e) (F₂.keep b o e), F₂.above⟩
        have N₃ : News h₀ L h₃ ((I, oI) :: (H2.objs.size, oC) :: (s₂.heap.objs.size, lst ys) :: news') := fun p hp => by
          rcases List.mem_cons.mp hp with rfl | hp
          · exact ⟨heI, Ne.symm hIL, hI₀⟩
          · rcases List.mem_cons.mp hp with rfl | hp
            · exact ⟨heC, hCL, hC₀⟩
            · have z := N₂ p hp
              refine ⟨old3 _ _ ?_ z.1, z.2⟩
              rcases List.mem_cons.mp hp with rfl | hp
              · exact hDC
              · exact (off' p hp).2.1
        refine wpAny_mono (turn i v ys news' oI H2.objs.size oC s₂.heap.objs.size m₂ h₃ _ _ hlt hPv hJ' hoC hB F₃ N₃ off' ⟨hCI, hDI, Ne.symm hDC⟩) (fun ok s₄ h₄ => ?_) fun _ _ e => e
        cases ok with
        | true =>
          simp only [if_true] at h₄ ⊢
          refine wpAny_mono h₄ (fun y s₅ h₅ => ?_) fun _ _ e => e
          obtain ⟨h₅, tk₅, news₅, rfl, F₅, N₅, off₅, J₅⟩ := h₅
          have zI := (N₅ (I, oI) List.mem_cons_self).1
          have zC := (N₅ (H2.objs.size, oC) (List.mem_cons_of_mem _ List.mem_cons_self)).1
          have zD := (N₅ (s₂.heap.objs.size, lst ys) (List.mem_cons_of_mem _ (List.mem_cons_of_mem _ List.mem_cons_self))).1
          have N₅' : News h₀ L h₅ news₅ := fun p hp => N₅ p (List.mem_cons_of_mem _ (List.mem_cons_of_mem _ (List.mem_cons_of_mem _ hp)))
          have hst₅ : St (i + 1) h₅ := hSt _ _ _ _ _ _ _ hst₃ heI zI F₅.keep N₅' J₅
          refine append_at (hsz := by show ys.toArray.size ≤ sizeLine; rw [List.size_toArray]; exact Nat.le_trans (hys _ _ _ hJ') (Nat.le_trans hi hsz)) zD fun h₆ hs₆ hD₆ => ?_
          refine ⟨n + 1 - (i + 1), by omega, h₆, tk₅, i + 1, ys ++ [y], _, news₅, rfl, hlt, rfl, W.frame _ _ _ hst₅ fun b hb o e => hs₆.extBut b o (fun q => hDf (q ▸ hb)) e, F₅.change hs₆ hDL hD₀,
            (hoC.ns zC).sameBut hs₆ (Ne.symm hDC), fun p hp => ?_, off₅, J₅⟩
          rcases List.mem_cons.mp hp with rfl | hp
          · exact ⟨hD₆.trans (congrArg some (lst_snoc ys y)), hDL, hD₀⟩
          · exact ⟨hs₆.extBut _ _ (off₅ p hp).2.2 (N₅' p hp).1, (N₅' p hp).2⟩
        | false =>
          simp only [Bool.false_eq_true, if_false] at h₄ ⊢
          obtain ⟨h₅, tk₅, news₅, rfl, F₅, N₅, off₅, J₅⟩ := h₄
          have zI := (N₅ (I, oI) List.mem_cons_self).1
          have zC := (N₅ (H2.objs.size, oC) (List.mem_cons_of_mem _ List.mem_cons_self)).1
          have N₅' : News h₀ L h₅ news₅ := fun p hp => N₅ p (List.mem_cons_of_mem _ (List.mem_cons_of_mem _ (List.mem_cons_of_mem _ hp)))
          have hst₅ : St (i + 1) h₅ := hSt _ _ _ _ _ _ _ hst₃ heI zI F₅.keep N₅' J₅
          exact ⟨n + 1 - (i + 1), by omega, h₅, tk₅, i + 1, ys, _, news₅, rfl, hlt, rfl, hst₅, F₅, hoC.ns zC, fun p hp => N₅ p (.tail _ (.tail _ hp)), off₅, J₅⟩
      · obtain rfl : i = n := Nat.le_antisymm hi (Nat.not_lt.mp hlt)
        refine W.done _ _ _ hst' fun h₂ tk₂ hk₂ => ?_
        exact hRR _ _ h₂ tk₂ _ ys news' (fr_but F' hk₂ hIL hI₀) (news_but N' hk₂ fun p hp => by
          rcases List.mem_cons.mp hp with rfl | hp
          · exact Ne.symm hDI
          · exact (off' p hp).1) (fun p hp => (off' p hp).2.2) (hn'.at' fun o e => hk₂ _ o (by simpa using Ne.symm hCI) e) hC₀ hD₀ hCL hDL (Ne.symm hDC) (fun p hp => (off' p hp).2.1) hJ' (Nat.le_refl _)
    · rcases List.mem_cons.mp hp with rfl | hp
      · exact ⟨hacc, hDL, hD₀⟩
      · exact ⟨old _ _ (N p hp).1, (N p hp).2⟩
  exact codeAny_compStart_list (loop _ rfl) (W.self 0 _ _ _ hst₁ (loop _ rfl))
end
end Mine

/-! ## C2 -/
namespace Mine
open PySem PySem.W PySem.Calls PyProof.Rows PyProof.Rows.LCg
open Sem (wp)
set_option maxRecDepth 100000
set_option maxHeartbeats 2000000

section
variable {prog : Program} {w : World} {A : Around} {E : Value → Shared → Prop} {s : Shared} {h₀ : Heap} {L : Addr} {m : Str → Option Value} {env : Env}

def SrcL (prog : Program) (w : World) (A : Around) (env : Env) (elt target iter : PySem.Expr) (ifs : List PySem.Expr) (scope : Scope) (cl : List (Str × Addr)) (pos : Pos) (use : Option (Value → Sem Unit)) (Q E : Value → Shared → Prop) (xv : Value) (s₁ : Shared) : Prop :=
  wpAny (model prog w) A (pyIter xv) (fun it s₂ => wpAny (model prog w) A (newList []) (fun acc s₃ => wpAny (model prog w) A (newFunctionEnv scope env.globals cl [] env.qual none .none (some env)) (fun cenv s₄ =>
      codeAny (model prog w) A (.compStart (.ListComp elt [⟨target, iter, ifs, 0⟩] scope pos) 0 it acc { cenv with scope := relabel scope env }) (compPost (model prog w) A E use Q acc cenv.locals) s₄) E s₃) E s₂) E s₁

theorem compEval {elt target iter : PySem.Expr} {ifs : List PySem.Expr} {scope : Scope} {cl : List (Str × Addr)} {pos : Pos} {Q : Value → Shared → Prop} (hclos : closureFor scope env = pure cl) (hkind : scope.kind = .function)
    (hnames : ∀ y ∈ scope.names, y.2 = .local → scope.names.lookup y.1 = some .local) (hs : ∀ x, foldedSetIterable iter env x = pure x)
    (h : wpAny (model prog w) A (eval iter env) (SrcL prog w A env elt target iter ifs scope cl pos none Q E) E s) :
    wpAny (model prog w) A (eval (.ListComp elt [⟨target, iter, ifs, 0⟩] scope pos) env) Q E s := by
  rw [eval_ListComp]
  exact wpAny_comprehension_free (use := none) rfl hs hclos hkind hnames h

theorem compAssign {elt target iter : PySem.Expr} {ifs : List PySem.Expr} {scope : Scope} {cl : List (Str × Addr)} {pos spos py : Pos} {y : Str} {Q : Flow → Shared → Prop}
    (hsw : swapsWith (.ListComp elt [⟨target, iter, ifs, 0⟩] scope pos) (some (.Name y py)) spos.line env = pure true)
    (hclos : closureFor scope env = pure cl) (hkind : scope.kind = .function)
    (hnames : ∀ y ∈ scope.names, y.2 = .local → scope.names.lookup y.1 = some .local) (hs : ∀ x, foldedSetIterable iter env x = pure x)
    (h : wpAny (model prog w) A (eval iter env) (SrcL prog w A env elt target iter ifs scope cl pos (some (assign (.Name y py) env)) (fun _ s' => Q .next s') E) E s) :
    wpAny (model prog w) A (exec (.Assign [.Name y py] (.ListComp elt [⟨target, iter, ifs, 0⟩] scope pos) spos) env) Q E s := by
  rw [exec_Assign_Name_used _ _ _ _ hsw]
  refine wpAny_bind (wpAny_standAt (wpAny_bind ?_))
  show wpAny _ A (do let _ ← comprehension (.ListComp elt [⟨target, iter, ifs, 0⟩] scope pos) scope env _ (newList []) false (eval iter env) (some (assign (.Name y py) env))) _ _ s
  exact wpAny_bind (wpAny_mono (wpAny_comprehension_free (use := some (assign (.Name y py) env)) (Q := fun _ s' => Q .next s') rfl hs hclos hkind hnames h) (fun _ s' hq => wpAny_pure (wpAny_pure hq)) fun _ _ e => e)

/-- what is left when a comprehension is done -/
def Done (h₀ : Heap) (L : Addr) (m : Str → Option Value) (s : Shared) (J : Nat → List Value → List (Addr × Obj) → Prop) (n : Nat) (Fin : Addr → List Value → List (Addr × Obj) → (Heap → Nat → Prop)) : Prop :=
  ∀ D h tk ys nw, Fr h₀ L h m → News h₀ L h ((D, lst ys) :: nw) → (∀ p ∈ nw, p.1 ≠ D) → J n ys nw → s.heap.objs.size ≤ D → Fin D ys nw h tk

theorem asg_Name {x : Str} {px : Pos} {scope : Scope} {cl : List (Str × Addr)} {I : Addr} {n : Nat} {P : Nat → Value → Prop} {St : Nat → Heap → Prop} (hx : scope.names.lookup x = some .local) (hkind : scope.kind = .function) :
    AsgOk prog w A h₀ L (.Name x px) (fun C => compEnvC scope cl C env) I n P St (fun _ _ => True) (fun v _ m₂ => m₂ x = some v) := by
  intro C i v news s m' Q E _ _ _ N _ hn h
  refine wpAny_pure ?_
  refine wpAny_assign_Name (wpAny_storeName_local (lookup_relabel_local hx) hn (fun h₃ hn₃ hs₃ => ?_) (by simp [compEnvC, relabel, hkind]))
  exact h h₃ _ _ hn₃ (fun b o hb e => hs₃.extBut b o hb e) (by simp)

def IsPair (v : Value) (news : List (Addr × Obj)) (v₁ v₂ : Value) : Prop := ∃ t ot nt, v = .ref t ∧ (t, ot) ∈ news ∧ ot.cls = .type "tuple" ∧ ot.data = .seq #[v₁, v₂] nt

theorem asg_Pair {x x₂ : Str} {px px₂ tp : Pos} {tk} {scope : Scope} {cl : List (Str × Addr)} {I : Addr} {n : Nat} {P : Nat → Value → Prop} {St : Nat → Heap → Prop} (hh : A.handled = none) (hLI : ∀ i h, St i h → ∃ l j, h.IsListIter I l j)
    (hx : scope.names.lookup x = some .local) (hx₂ : scope.names.lookup x₂ = some .local) (hxx : x ≠ x₂) (hkind : scope.kind = .function) :
    AsgOk prog w A h₀ L (.Tuple [.Name x px, .Name x₂ px₂] tk tp) (fun C => compEnvC scope cl C env) I n P St (fun v nw => ∃ v₁ v₂, IsPair v nw v₁ v₂) (fun v nw m₂ => ∃ v₁ v₂, IsPair v nw v₁ v₂ ∧ m₂ x = some v₁ ∧ m₂ x₂ = some v₂) := by
  rintro C i v news s m' Q E _ _ ⟨v₁, v₂, t, ot, nt, rfl, hmt, hct, hdt⟩ N hst hn h
  have ht : IsTup s.heap t #[v₁, v₂] := ⟨ot, (N _ hmt).1, hct, nt, hdt⟩
  obtain ⟨lI, jI, hLi⟩ := hLI _ _ hst
  refine wpAny_letOwnedTupleGo_listiter hLi ?_
  refine assign_Tuple_tuple hh ht rfl rfl fun h₅ he => ?_
  have he' : ∀ b o, s.heap.get? b = some o → h₅.get? b = some o := fun b o e => he b o (Nat.ne_of_lt (Heap.lt_size e)) e
  refine assignInOrder_cons (wpAny_assign_Name (wpAny_storeName_local (lookup_relabel_local hx) (hn.at' fun o e => he' _ o e) (fun h₆ hn₆ hs₆ => ?_) (by simp [compEnvC, relabel, hkind])))
  refine assignInOrder_cons (wpAny_assign_Name (wpAny_storeName_local (lookup_relabel_local hx₂) hn₆ (fun h₃ hn₃ hs₃ => ?_) (by simp [compEnvC, relabel, hkind])))
  refine assignInOrder_nil ?_
  exact h h₃ _ _ hn₃ (fun b o hb e => hs₃.extBut b o hb (hs₆.extBut b o hb (he' b o e))) ⟨v₁, v₂, ⟨t, ot, nt, rfl, hmt, hct, hdt⟩, by simp [hxx], by simp⟩

section
variable {elt target iter : PySem.Expr} {ifs : List PySem.Expr} {scope : Scope} {cl : List (Str × Addr)} {pos : Pos} {news : List (Addr × Obj)} {VP : Value → List (Addr × Obj) → Prop} {Bd : Value → List (Addr × Obj) → (Str → Option Value) → Prop} {l : Addr} {items : Array Value} {cap : Nat}

abbrev listSt (I l : Addr) (items : Array Value) (i : Nat) (h : Heap) : Prop := h.IsListIter I l i ∧ h.IsList l items

theorem SrcL.list {use : Option (Value → Sem Unit)} {Q : Value → Shared → Prop} (hh : A.handled = none) (F : Fr h₀ L s.heap m) (N : News h₀ L s.heap news) (hsz : items.size ≤ sizeLine)
    (J : Nat → List Value → List (Addr × Obj) → Prop) (hJl : ∀ i ys nw, J i ys nw → (l, listOf items cap) ∈ nw)
    (hcell : ∀ y ∈ scope.names, y.2 ≠ .cell) (hkind : scope.kind = .function)
    (hasg : ∀ I, AsgOk prog w A h₀ L target (fun C => compEnvC scope cl C env) I items.size (fun i v => items[i]? = some v) (listSt I l items) VP Bd)
    (hVP : ∀ i v ys nw, items[i]? = some v → J i ys nw → VP v nw) (hys : ∀ i ys nw, J i ys nw → ys.length ≤ i) (h0 : J 0 [] news)
    (turn : ∀ i v ys nw I oI C oC D m₂ h tk (E' : Value → Shared → Prop), items[i]? = some v → J i ys nw → NsObj oC m₂ → Bd v nw m₂ → Fr h₀ L h m → News h₀ L h ((I, oI) :: (C, oC) :: (D, lst ys) :: nw) → (∀ p ∈ nw, p.1 ≠ I ∧ p.1 ≠ C ∧ p.1 ≠ D) → (I ≠ C ∧ I ≠ D ∧ C ≠ D) →
      wpAny (model prog w) A (tests ifs (compEnvC scope cl C env)) (fun ok s₃ => if ok = true then wpAny (model prog w) A (eval elt (compEnvC scope cl C env)) (fun y s₄ => CEnd h₀ L m J { s with heap := h, toks := tk } I oI C oC D (lst ys) (i + 1) (ys ++ [y]) s₄) E' s₃
        else CEnd h₀ L m J { s with heap := h, toks := tk } I oI C oC D (lst ys) (i + 1) ys s₃) E' { s with heap := h, toks := tk })
    (fin : ∀ D h tk ys nw, Fr h₀ L h m → News h₀ L h ((D, lst ys) :: nw) → (∀ p ∈ nw, p.1 ≠ D) → J items.size ys nw → s.heap.objs.size ≤ D → ∀ (C : Addr) (m' : Str → Option Value), h.Ns C m' → C ≠ L → D ≠ L → h₀.get? C = none → C ≠ D → (∀ p ∈ nw, p.1 ≠ C) →
      compPost (model prog w) A E use Q (.ref D) C (.ok .next) { s with heap := h, toks := tk }) :
    SrcL prog w A env elt target iter ifs scope cl pos use Q E (.ref l) s := by
  have hl : s.heap.IsList l items := ⟨_, (N _ (hJl _ _ _ h0)).1, rfl, _, rfl⟩
  have hlt : l < s.heap.objs.size := by obtain ⟨_, e, _⟩ := hl; exact Heap.lt_size e
  unfold SrcL
  refine wpAny_pyIter_list hl ?_
  have up : ∀ b o, s.heap.get? b = some o → (s.heap.push { cls := .type "list_iterator", data := .fields #[.ref l, .int 0 0] }).get? b = some o := fun b o e => Heap.get?_push_of_some _ e
  refine blockL (Walks.list hh s.heap.objs.size l (Nat.ne_of_lt hlt) items) hsz (fun i h st => by obtain ⟨o, e, _⟩ := st.1; exact ⟨o, e⟩) J (fun i h h' o nw j ys st e e' _ Nw hJ => ?_) hcell hkind ⟨⟨_, Heap.get?_push_size _ rfl, rfl, rfl⟩, hl.push _⟩ (fun b hb => ?_)
    (hasg _) (fun i v ys nw _ hv hJ => hVP i v ys nw hv hJ) hys (F.keeps up) (N.grown up) (Nat.ne_of_lt F.ns.lt) (next_is_new F) (fun p hp => Nat.ne_of_lt (Heap.lt_size (N p hp).1)) h0 (fun i v ys nw oI C oC D m₂ h tk E' _ hv => turn i v ys nw _ oI C oC D m₂ h tk E' hv) ?_
  · obtain ⟨o1, e1, c1, d1⟩ := st.1
    rw [e] at e1; cases e1
    exact ⟨⟨_, e', c1, d1⟩, ⟨_, (Nw _ (hJl _ _ _ hJ)).1, rfl, _, rfl⟩⟩
  · show b < (s.heap.push _).objs.size
    rw [Heap.size_push]
    rcases List.mem_cons.mp hb with rfl | hb
    · exact Nat.lt_succ_self _
    · rw [List.mem_singleton.mp hb]; exact Nat.lt_succ_of_lt hlt
  · intro D C h tk m' ys nw F' N' o1 hn hC₀ hD₀ hCL hDL hCD offC hJ hsD
    exact fin D h tk ys nw F' N' o1 hJ (Nat.le_trans (by rw [Heap.size_push]; exact Nat.le_succ _) hsD) C m' hn hCL hDL hC₀ hCD offC

theorem post_eval {Q : Value → Shared → Prop} {D C : Addr} {h : Heap} {tk : Nat} {ys : List Value} {nw : List (Addr × Obj)} {m' : Str → Option Value} (F : Fr h₀ L h m) (N : News h₀ L h ((D, lst ys) :: nw)) (hn : h.Ns C m') (hCL : C ≠ L) (hC₀ : h₀.get? C = none) (hCD : C ≠ D) (offC : ∀ p ∈ nw, p.1 ≠ C)
    (hq : ∀ h', Fr h₀ L h' m → News h₀ L h' ((D, lst ys) :: nw) → Q (.ref D) { s with heap := h', toks := tk }) : compPost (model prog w) A E none Q (.ref D) C (.ok .next) { s with heap := h, toks := tk } := by
  refine ⟨m', hn, fun h'' hs'' => hq h'' (F.change hs'' hCL hC₀) (fun p hp => ?_)⟩
  refine ⟨hs''.extBut _ _ ?_ (N p hp).1, (N p hp).2⟩
  rcases List.mem_cons.mp hp with rfl | hp
  · exact Ne.symm hCD
  · exact offC p hp

theorem post_assign {y : Str} {py : Pos} {Q : Shared → Prop} {D C : Addr} {h : Heap} {tk : Nat} {ys : List Value} {nw : List (Addr × Obj)} {m' : Str → Option Value} (hLe : env.locals = L) (hy : env.kindOf y = some .local) (hp : (env.scope.kind == .class || (env.scope.kind == .module && env.locals != env.globals)) = false)
    (F : Fr h₀ L h m) (N : News h₀ L h ((D, lst ys) :: nw)) (hn : h.Ns C m') (hCL : C ≠ L) (hC₀ : h₀.get? C = none) (hCD : C ≠ D) (offC : ∀ p ∈ nw, p.1 ≠ C)
    (hq : ∀ h' tk', Fr h₀ L h' (fun z => if z = y then some (.ref D) else m z) → News h₀ L h' ((D, lst ys) :: nw) → Q { s with heap := h', toks := tk' }) :
    compPost (model prog w) A E (some (assign (.Name y py) env)) (fun _ s' => Q s') (.ref D) C (.ok .next) { s with heap := h, toks := tk } := by
  subst hLe
  show wpAny _ A (assign (.Name y py) env (.ref D)) _ _ _
  refine wpAny_assign_Name (wpAny_storeName_local hy F.ns (fun h₂ hn₂ hs₂ => ?_) hp)
  have hL₀ : h₀.get? env.locals = none := Heap.get?_none_of_le F.above
  have F₂ : Fr h₀ env.locals h₂ (fun z => if z = y then some (.ref D) else m z) := ⟨hn₂, fun b o e => hs₂.extBut b o (fun q => by rw [q, hL₀] at e; cases e) (F.keep b o e), F.above⟩
  refine ⟨m', hn.sameBut hs₂ hCL, fun h'' hs'' => hq h'' _ (F₂.change hs'' hCL hC₀) (fun p hp => ?_)⟩
  have z : h₂.get? p.1 = some p.2 := hs₂.extBut _ _ (N p hp).2.1 (N p hp).1
  refine ⟨hs''.extBut _ _ ?_ z, (N p hp).2⟩
  rcases List.mem_cons.mp hp with rfl | hp
  · exact Ne.symm hCD
  · exact offC p hp
end
end
end Mine

/-! ## C3 -/
namespace Mine
open PySem PySem.W PySem.Calls PyProof.Rows PyProof.Rows.LCg
open Sem (wp)
set_option maxRecDepth 100000
set_option maxHeartbeats 2000000
section
variable {prog : Program} {w : World} {A : Around} {E : Value → Shared → Prop} {s : Shared} {h₀ : Heap} {L : Addr} {m : Str → Option Value} {env : Env}
variable {elt target iter : PySem.Expr} {ifs : List PySem.Expr} {scope : Scope} {cl : List (Str × Addr)} {pos : Pos} {news : List (Addr × Obj)} {VP : Value → List (Addr × Obj) → Prop} {Bd : Value → List (Addr × Obj) → (Str → Option Value) → Prop}
abbrev rangeSt (I : Addr) (n : Nat) (i : Nat) (h : Heap) : Prop := IsRangeIter h I ((0 : Int) + (i : Nat) * 1) ((n : Int) - (i : Nat)) 1
theorem SrcL.range {r : Addr} {n : Nat} {t u v : Tok} {use : Option (Value → Sem Unit)} {Q : Value → Shared → Prop} (hh : A.handled = none) (F : Fr h₀ L s.heap m) (N : News h₀ L s.heap news) (hr : IsRange s.heap r 0 (n : Int) 1 t u v) (hsz : n ≤ 1000)
    (J : Nat → List Value → List (Addr × Obj) → Prop)
    (hcell : ∀ y ∈ scope.names, y.2 ≠ .cell) (hkind : scope.kind = .function)
    (hasg : ∀ I, AsgOk prog w A h₀ L target (fun C => compEnvC scope cl C env) I n (fun i v => ∃ t, v = .int ((0 : Int) + i * 1) t) (rangeSt I n) VP Bd)
    (hVP : ∀ i v ys nw, i < n → J i ys nw → VP v nw) (hys : ∀ i ys nw, J i ys nw → ys.length ≤ i) (h0 : J 0 [] news)
    (turn : ∀ i ti ys nw I oI C oC D m₂ h tk (E' : Value → Shared → Prop), i < n → J i ys nw → NsObj oC m₂ → Bd (.int (i : Nat) ti) nw m₂ → Fr h₀ L h m → News h₀ L h ((I, oI) :: (C, oC) :: (D, lst ys) :: nw) → (∀ p ∈ nw, p.1 ≠ I ∧ p.1 ≠ C ∧ p.1 ≠ D) → (I ≠ C ∧ I ≠ D ∧ C ≠ D) →
      wpAny (model prog w) A (tests ifs (compEnvC scope cl C env)) (fun ok s₃ => if ok = true then wpAny (model prog w) A (eval elt (compEnvC scope cl C env)) (fun y s₄ => CEnd h₀ L m J { s with heap := h, toks := tk } I oI C oC D (lst ys) (i + 1) (ys ++ [y]) s₄) E' s₃
        else CEnd h₀ L m J { s with heap := h, toks := tk } I oI C oC D (lst ys) (i + 1) ys s₃) E' { s with heap := h, toks := tk })
    (fin : ∀ D h tk ys nw, Fr h₀ L h m → News h₀ L h ((D, lst ys) :: nw) → (∀ p ∈ nw, p.1 ≠ D) → J n ys nw → s.heap.objs.size ≤ D → ∀ (C : Addr) (m' : Str → Option Value), h.Ns C m' → C ≠ L → D ≠ L → h₀.get? C = none → C ≠ D → (∀ p ∈ nw, p.1 ≠ C) →
      compPost (model prog w) A E use Q (.ref D) C (.ok .next) { s with heap := h, toks := tk }) :
    SrcL prog w A env elt target iter ifs scope cl pos use Q E (.ref r) s := by
  have hsz' : Builtin.Range.rangeSize 0 (n : Int) 1 = n := by
    unfold Builtin.Range.rangeSize
    rw [if_pos (by decide)]
    by_cases h : (0 : Int) < n
    · rw [if_pos h]; omega
    · rw [if_neg h]; omega
  have hsm : Builtin.Range.small 0 (n : Int) 1 = true := by
    unfold Builtin.Range.small
    rw [hsz']
    simp [Builtin.Range.rangeFitsLong]
    omega
  unfold SrcL
  refine wpAny_pyIter_range hr hsm ?_
  rw [hsz']
  have up : ∀ b o, s.heap.get? b = some o → (s.heap.push { cls := .type "range_iterator", data := .fields #[rawInt 0, rawInt n, rawInt 1] }).get? b = some o := fun b o e => Heap.get?_push_of_some _ e
  refine blockL (Walks.range hh s.heap.objs.size 0 1 n) (by rw [sizeLine_eq]; omega) (fun i h st => ⟨_, st⟩) J (fun i h h' o nw j ys st e e' _ Nw hJ => ?_) hcell hkind ?_ (fun b hb => ?_)
    (hasg _) (fun i v ys nw hi _ hJ => hVP i v ys nw hi hJ) hys (F.keeps up) (N.grown up) (Nat.ne_of_lt F.ns.lt) (next_is_new F) (fun p hp => Nat.ne_of_lt (Heap.lt_size (N p hp).1)) h0 (fun i v ys nw oI C oC D m₂ h tk E' hi hv => ?_) ?_
  · have st : h.get? s.heap.objs.size = _ := st
    rw [st] at e; cases e; exact e'
  · have e1 : ((0 : Int) + ((0 : Nat) : Int) * 1) = 0 := by omega
    have e2 : ((n : Int) - ((0 : Nat) : Int)) = n := by omega
    show IsRangeIter _ _ _ _ _
    rw [e1, e2]
    exact Heap.get?_push_size _ rfl
  · show b < (s.heap.push _).objs.size
    rw [Heap.size_push]
    rw [List.mem_singleton.mp hb]; exact Nat.lt_succ_self _
  · obtain ⟨ti, rfl⟩ := hv
    have e : ((0 : Int) + (i : Nat) * 1) = (i : Nat) := by omega
    rw [e]
    exact turn i ti ys nw _ oI C oC D m₂ h tk E' hi
  · intro D C h tk m' ys nw F' N' o1 hn hC₀ hD₀ hCL hDL hCD offC hJ hsD
    exact fin D h tk ys nw F' N' o1 hJ (Nat.le_trans (by rw [Heap.size_push]; exact Nat.le_succ _) hsD) C m' hn hCL hDL hC₀ hCD offC
end
end Mine

/-! ## D2 -/
namespace Mine
open PySem PySem.W PySem.Calls PyProof.Rows PyProof.Rows.LCg
open Sem (wp)
set_option maxRecDepth 100000
set_option maxHeartbeats 2000000
/-- ends with the ledger as it was -/
def Ek (h₀ : Heap) (L : Addr) (m : Str → Option Value) (s₁ : Shared) (led : List (Addr × Obj)) (s₂ : Shared) : Prop :=
  ∃ h' tk, s₂ = { s₁ with heap := h', toks := tk } ∧ Fr h₀ L h' m ∧ News h₀ L h' led
/-- a turn of a comprehension that gives an int or nothing -/
def TurnI (prog : Program) (w : World) (A : Around) (cenv : Env) (ifs : List PySem.Expr) (elt : PySem.Expr) (r : Option Int) (End : Shared → Prop) (E' : Value → Shared → Prop) (s : Shared) : Prop :=
  wpAny (model prog w) A (tests ifs cenv) (fun ok s₃ => if ok = true then wpAny (model prog w) A (eval elt cenv) (fun y s₄ => (∃ z t, y = .int z t ∧ r = some z) ∧ End s₄) E' s₃ else r = none ∧ End s₃) E' s
section
variable {prog : Program} {w : World} {A : Around} {E : Value → Shared → Prop} {s : Shared} {h₀ : Heap} {L : Addr} {m : Str → Option Value} {env : Env}
variable {elt target iter : PySem.Expr} {ifs : List PySem.Expr} {scope : Scope} {cl : List (Str × Addr)} {pos : Pos} {news : List (Addr × Obj)}
variable {use : Option (Value → Sem Unit)} {Q : Value → Shared → Prop}

abbrev FinI (prog : Program) (w : World) (A : Around) (E : Value → Shared → Prop) (use : Option (Value → Sem Unit)) (Q : Value → Shared → Prop) (h₀ : Heap) (L : Addr) (m : Str → Option Value) (s : Shared) (news : List (Addr × Obj)) (res : List Int) : Prop :=
  ∀ D h tk ys, Fr h₀ L h m → News h₀ L h ((D, lst ys) :: news) → IntsAre ys res → (∀ q ∈ news, q.1 < D) → ∀ (C : Addr) (m' : Str → Option Value), h.Ns C m' → C ≠ L → D ≠ L → h₀.get? C = none → C ≠ D → (∀ p ∈ news, p.1 ≠ C) →
      compPost (model prog w) A E use Q (.ref D) C (.ok .next) { s with heap := h, toks := tk }

theorem filterMap_snoc {ns : List Int} {f : Int → Option Int} {i : Nat} {z : Int} (h : ns[i]? = some z) : (ns.take (i + 1)).filterMap f = (ns.take i).filterMap f ++ (f z).toList := by
  rw [List.take_add_one, h, List.filterMap_append]
  cases e : f z <;> simp [e]

theorem take_len {ns : List Int} {f : Int → Option Int} {i : Nat} : ((ns.take i).filterMap f).length ≤ i :=
  Nat.le_trans (List.length_filterMap_le _ _) (by rw [List.length_take]; exact Nat.min_le_left _ _)

/-- a comprehension over a ledger list of ints; no cell of its own -/
theorem compL {x : Str} {px : Pos} {l : Addr} {vs : List Value} {ns : List Int} {cap : Nat} (hh : A.handled = none) (F : Fr h₀ L s.heap m) (N : News h₀ L s.heap news) (hl : (l, listOf vs.toArray cap) ∈ news) (hi : IntsAre vs ns) (hsz : vs.length ≤ 1000) (f : Int → Option Int)
    (hcell : ∀ y ∈ scope.names, y.2 ≠ .cell) (hkind : scope.kind = .function) (hx : scope.names.lookup x = some .local)
    (turn : ∀ z ∈ ns, ∀ t I oI C oC D oD m₂ h tk (E' : Value → Shared → Prop), NsObj oC m₂ → m₂ x = some (.int z t) → Fr h₀ L h m → News h₀ L h ((I, oI) :: (C, oC) :: (D, oD) :: news) →
      TurnI prog w A (compEnvC scope cl C env) ifs elt (f z) (Ek h₀ L m s ((I, oI) :: (C, oC) :: (D, oD) :: news)) E' { s with heap := h, toks := tk })
    (fin : FinI prog w A E use Q h₀ L m s news (ns.filterMap f)) :
    SrcL prog w A env elt (.Name x px) iter ifs scope cl pos use Q E (.ref l) s := by
  have hlen := hi.length
  have hat : ∀ (i : Nat) v, vs.toArray[i]? = some v → ∃ z t, ns[i]? = some z ∧ v = Value.int z t := fun i v hv => by
    obtain ⟨k, t, e, hk⟩ := IntsAre.at hi i v (by simpa only [List.getElem?_toArray] using hv)
    exact ⟨k, t, hk, e⟩
  refine SrcL.list (l := l) (items := vs.toArray) (cap := cap) (VP := fun _ _ => True) (Bd := fun v _ m₂ => m₂ x = some v) hh F N (by rw [List.size_toArray, sizeLine_eq]; omega) (fun i ys nw => nw = news ∧ IntsAre ys ((ns.take i).filterMap f)) ?_ hcell hkind (fun I => asg_Name hx hkind) (fun _ _ _ _ _ _ => trivial) ?_ ⟨rfl, by rw [List.take_zero]; exact .nil⟩ ?_ ?_
  · rintro i ys nw ⟨rfl, _⟩; exact hl
  · rintro i ys nw ⟨_, hy⟩
    rw [hy.length]; exact take_len
  · rintro i v ys nw I oI C oC D m₂ h tk E' hv ⟨rfl, hy⟩ hoC hB F3 N3 off ne
    obtain ⟨z, t, hz, rfl⟩ := hat i v hv
    refine wpAny_mono (turn z (List.mem_of_getElem? hz) t I oI C oC D _ m₂ h tk E' hoC hB F3 N3) (fun ok s₃ h₃ => ?_) fun _ _ e => e
    cases ok with
    | true =>
      simp only [if_true] at h₃ ⊢
      refine wpAny_mono h₃ (fun y s₄ h₄ => ?_) fun _ _ e => e
      obtain ⟨⟨z', t', rfl, hf⟩, h', tk', rfl, F4, N4⟩ := h₄
      refine ⟨h', tk', _, rfl, F4, N4, off, rfl, ?_⟩
      rw [filterMap_snoc hz, hf]
      exact hy.append (.cons _ _ .nil)
    | false =>
      simp only [Bool.false_eq_true, if_false] at h₃ ⊢
      obtain ⟨hf, h', tk', rfl, F4, N4⟩ := h₃
      refine ⟨h', tk', _, rfl, F4, N4, off, rfl, ?_⟩
      rw [filterMap_snoc hz, hf]
      simpa using hy
  · rintro D h tk ys nw F3 N3 hD ⟨rfl, hy⟩ hsD C m' hn hCL hDL hC₀ hCD offC
    rw [List.take_of_length_le (by rw [List.size_toArray]; omega)] at hy
    exact fin D h tk ys F3 N3 hy (fun q hq => Nat.lt_of_lt_of_le (lt_get (N q hq).1) hsD) C m' hn hCL hDL hC₀ hCD offC

/-- over a range object -/
theorem compR {x : Str} {px : Pos} {r : Addr} {n : Nat} {t0 u0 v0 : Tok} (hh : A.handled = none) (F : Fr h₀ L s.heap m) (N : News h₀ L s.heap news) (hr : IsRange s.heap r 0 (n : Int) 1 t0 u0 v0) (hsz : n ≤ 1000) (f : Int → Option Int)
    (hcell : ∀ y ∈ scope.names, y.2 ≠ .cell) (hkind : scope.kind = .function) (hx : scope.names.lookup x = some .local)
    (turn : ∀ i : Nat, i < n → ∀ t I oI C oC D oD m₂ h tk (E' : Value → Shared → Prop), NsObj oC m₂ → m₂ x = some (.int (i : Int) t) → Fr h₀ L h m → News h₀ L h ((I, oI) :: (C, oC) :: (D, oD) :: news) →
      TurnI prog w A (compEnvC scope cl C env) ifs elt (f (i : Int)) (Ek h₀ L m s ((I, oI) :: (C, oC) :: (D, oD) :: news)) E' { s with heap := h, toks := tk })
    (fin : FinI prog w A E use Q h₀ L m s news (((List.range n).map fun i : Nat => (i : Int)).filterMap f)) :
    SrcL prog w A env elt (.Name x px) iter ifs scope cl pos use Q E (.ref r) s := by
  have hat : ∀ i, i < n → ((List.range n).map fun i : Nat => (i : Int))[i]? = some (i : Int) := fun i h => by simp [h]
  refine SrcL.range (VP := fun _ _ => True) (Bd := fun v _ m₂ => m₂ x = some v) hh F N hr hsz (fun i ys nw => nw = news ∧ IntsAre ys ((((List.range n).map fun i : Nat => (i : Int)).take i).filterMap f)) hcell hkind (fun I => asg_Name hx hkind) (fun _ _ _ _ _ _ => trivial) ?_ ⟨rfl, by rw [List.take_zero]; exact .nil⟩ ?_ ?_
  · rintro i ys nw ⟨_, hy⟩
    rw [hy.length]; exact take_len
  · rintro i ti ys nw I oI C oC D m₂ h tk E' hv ⟨rfl, hy⟩ hoC hB F3 N3 off ne
    refine wpAny_mono (turn i hv ti I oI C oC D _ m₂ h tk E' hoC hB F3 N3) (fun ok s₃ h₃ => ?_) fun _ _ e => e
    cases ok with
    | true =>
      simp only [if_true] at h₃ ⊢
      refine wpAny_mono h₃ (fun y s₄ h₄ => ?_) fun _ _ e => e
      obtain ⟨⟨z', t', rfl, hf⟩, h', tk', rfl, F4, N4⟩ := h₄
      refine ⟨h', tk', _, rfl, F4, N4, off, rfl, ?_⟩
      rw [filterMap_snoc (hat i hv), hf]
      exact hy.append (.cons _ _ .nil)
    | false =>
      simp only [Bool.false_eq_true, if_false] at h₃ ⊢
      obtain ⟨hf, h', tk', rfl, F4, N4⟩ := h₃
      refine ⟨h', tk', _, rfl, F4, N4, off, rfl, ?_⟩
      rw [filterMap_snoc (hat i hv), hf]
      simpa using hy
  · rintro D h tk ys nw F3 N3 hD ⟨rfl, hy⟩ hsD C m' hn hCL hDL hC₀ hCD offC
    rw [List.take_of_length_le (by simp)] at hy
    exact fin D h tk ys F3 N3 hy (fun q hq => Nat.lt_of_lt_of_le (lt_get (N q hq).1) hsD) C m' hn hCL hDL hC₀ hCD offC

/-- refs to tuples of two ints -/
def PairsIn (news : List (Addr × Obj)) (vs : List Value) (qs : List (Int × Int)) : Prop :=
  vs.length = qs.length ∧ ∀ (i : Nat) q, qs[i]? = some q → ∃ a o t u nt, vs[i]? = some (Value.ref a) ∧ (a, o) ∈ news ∧ o.cls = .type "tuple" ∧ o.data = .seq #[.int q.1 t, .int q.2 u] nt

theorem PairsIn.mono {nw nw' : List (Addr × Obj)} {vs : List Value} {qs : List (Int × Int)} (P : PairsIn nw vs qs) (h : ∀ q ∈ nw, q ∈ nw') : PairsIn nw' vs qs :=
  ⟨P.1, fun i q e => let ⟨a, o, t, u, nt, h1, h2, h3⟩ := P.2 i q e; ⟨a, o, t, u, nt, h1, h _ h2, h3⟩⟩
theorem PairsIn.nil {nw : List (Addr × Obj)} : PairsIn nw [] [] := ⟨rfl, fun i q e => by simp at e⟩
theorem PairsIn.snoc {nw : List (Addr × Obj)} {vs : List Value} {qs : List (Int × Int)} (P : PairsIn nw vs qs) {a : Addr} {o : Obj} {b c : Int} {t u : Tok} {nt : Nat} (h : (a, o) ∈ nw) (hc : o.cls = .type "tuple") (hd : o.data = .seq #[.int b t, .int c u] nt) :
    PairsIn nw (vs ++ [.ref a]) (qs ++ [(b, c)]) := by
  refine ⟨by simp [P.1], fun i q e => ?_⟩
  by_cases hlt : i < qs.length
  · rw [List.getElem?_append_left hlt] at e
    obtain ⟨a, o, t, u, nt, h1, h2⟩ := P.2 i q e
    exact ⟨a, o, t, u, nt, by rw [List.getElem?_append_left (by rw [P.1]; exact hlt)]; exact h1, h2⟩
  · have hie : i = qs.length := by
      have := (List.getElem?_eq_some_iff.mp e).1
      simp at this; omega
    subst hie
    rw [List.getElem?_append_right (Nat.le_refl _), Nat.sub_self] at e
    obtain rfl : (b, c) = q := by simpa using e
    exact ⟨a, o, t, u, nt, by rw [← P.1, List.getElem?_append_right (Nat.le_refl _), Nat.sub_self]; rfl, h, hc, hd⟩

theorem filterMap_snocP {ns : List (Int × Int)} {f : Int × Int → Option Int} {i : Nat} {z : Int × Int} (h : ns[i]? = some z) : (ns.take (i + 1)).filterMap f = (ns.take i).filterMap f ++ (f z).toList := by
  rw [List.take_add_one, h, List.filterMap_append]
  cases e : f z <;> simp [e]

/-- over a ledger list of pairs -/
theorem compP {x x₂ : Str} {px px₂ tp : Pos} {tk} {l : Addr} {vs : List Value} {qs : List (Int × Int)} {cap : Nat} (hh : A.handled = none) (F : Fr h₀ L s.heap m) (N : News h₀ L s.heap news) (hl : (l, listOf vs.toArray cap) ∈ news) (hi : PairsIn news vs qs) (hsz : vs.length ≤ 1000) (f : Int × Int → Option Int)
    (hcell : ∀ y ∈ scope.names, y.2 ≠ .cell) (hkind : scope.kind = .function) (hx : scope.names.lookup x = some .local) (hx₂ : scope.names.lookup x₂ = some .local) (hxx : x ≠ x₂)
    (turn : ∀ z ∈ qs, ∀ t t₂ I oI C oC D oD m₂ h tk (E' : Value → Shared → Prop), NsObj oC m₂ → m₂ x = some (.int z.1 t) → m₂ x₂ = some (.int z.2 t₂) → Fr h₀ L h m → News h₀ L h ((I, oI) :: (C, oC) :: (D, oD) :: news) →
      TurnI prog w A (compEnvC scope cl C env) ifs elt (f z) (Ek h₀ L m s ((I, oI) :: (C, oC) :: (D, oD) :: news)) E' { s with heap := h, toks := tk })
    (fin : FinI prog w A E use Q h₀ L m s news (qs.filterMap f)) :
    SrcL prog w A env elt (.Tuple [.Name x px, .Name x₂ px₂] tk tp) iter ifs scope cl pos use Q E (.ref l) s := by
  have hlen := hi.1
  have hat : ∀ (i : Nat) v, vs.toArray[i]? = some v → ∃ (z : Int × Int), ∃ a o t u nt, qs[i]? = some z ∧ v = Value.ref a ∧ (a, o) ∈ news ∧ o.cls = .type "tuple" ∧ o.data = .seq #[.int z.1 t, .int z.2 u] nt := fun i v hv => by
    have hv : vs[i]? = some v := by simpa only [List.getElem?_toArray] using hv
    have hlt : i < qs.length := by rw [← hlen]; exact (List.getElem?_eq_some_iff.mp hv).1
    obtain ⟨a, o, t, u, nt, h1, h2⟩ := hi.2 i qs[i] (List.getElem?_eq_getElem hlt)
    rw [hv] at h1
    exact ⟨_, a, o, t, u, nt, List.getElem?_eq_getElem hlt, Option.some.inj h1, h2⟩
  refine SrcL.list (l := l) (items := vs.toArray) (cap := cap) hh F N (by rw [List.size_toArray, sizeLine_eq]; omega) (fun i ys nw => nw = news ∧ IntsAre ys ((qs.take i).filterMap f)) ?_ hcell hkind (fun I => asg_Pair hh (fun i h st => ⟨_, _, st.1⟩) hx hx₂ hxx hkind) ?_ ?_ ⟨rfl, by rw [List.take_zero]; exact .nil⟩ ?_ ?_
  · rintro i ys nw ⟨rfl, _⟩; exact hl
  · rintro i v ys nw hv ⟨rfl, _⟩
    obtain ⟨z, a, o, t, u, nt, hz, rfl, ha, hc, hd⟩ := hat i v hv
    exact ⟨_, _, a, o, nt, rfl, ha, hc, hd⟩
  · rintro i ys nw ⟨_, hy⟩
    rw [hy.length]
    exact Nat.le_trans (List.length_filterMap_le _ _) (by rw [List.length_take]; exact Nat.min_le_left _ _)
  · rintro i v ys nw I oI C oC D m₂ h tk E' hv ⟨rfl, hy⟩ hoC hB F3 N3 off ne
    obtain ⟨z, a, o, t, u, nt, hz, rfl, ha, hc, hd⟩ := hat i v hv
    obtain ⟨v₁, v₂, ⟨t', ot', nt', e, hm', hc', hd'⟩, hb1, hb2⟩ := hB
    cases e
    have g1 := (N3 _ (.tail _ (.tail _ (.tail _ hm')))).1
    have g2 := (N3 _ (.tail _ (.tail _ (.tail _ ha)))).1
    dsimp only at g1 g2
    rw [g1] at g2
    cases g2
    rw [hd'] at hd
    cases hd
    refine wpAny_mono (turn z (List.mem_of_getElem? hz) t u I oI C oC D _ m₂ h tk E' hoC hb1 hb2 F3 N3) (fun ok s₃ h₃ => ?_) fun _ _ e => e
    cases ok with
    | true =>
      simp only [if_true] at h₃ ⊢
      refine wpAny_mono h₃ (fun y s₄ h₄ => ?_) fun _ _ e => e
      obtain ⟨⟨z', t', rfl, hf⟩, h', tk', rfl, F4, N4⟩ := h₄
      refine ⟨h', tk', _, rfl, F4, N4, off, rfl, ?_⟩
      rw [filterMap_snocP hz, hf]
      exact hy.append (.cons _ _ .nil)
    | false =>
      simp only [Bool.false_eq_true, if_false] at h₃ ⊢
      obtain ⟨hf, h', tk', rfl, F4, N4⟩ := h₃
      refine ⟨h', tk', _, rfl, F4, N4, off, rfl, ?_⟩
      rw [filterMap_snocP hz, hf]
      simpa using hy
  · rintro D h tk ys nw F3 N3 hD ⟨rfl, hy⟩ hsD C m' hn hCL hDL hC₀ hCD offC
    rw [List.take_of_length_le (by rw [List.size_toArray]; omega)] at hy
    exact fin D h tk ys F3 N3 hy (fun q hq => Nat.lt_of_lt_of_le (lt_get (N q hq).1) hsD) C m' hn hCL hDL hC₀ hCD offC
end
end Mine

/-! ## D3 -/
namespace Mine
open PySem PySem.W PySem.Calls PyProof.Rows PyProof.Rows.LCg
open Sem (wp)
set_option maxRecDepth 100000
set_option maxHeartbeats 2000000
section
variable {prog : Program} {w : World} {A : Around} {E : Value → Shared → Prop} {s : Shared} {h₀ : Heap} {L : Addr} {m : Str → Option Value} {env : Env}
variable {elt target iter : PySem.Expr} {ifs : List PySem.Expr} {scope : Scope} {cl : List (Str × Addr)} {pos : Pos} {news : List (Addr × Obj)}
variable {use : Option (Value → Sem Unit)} {Q : Value → Shared → Prop}

theorem newEnv_one {M : Model} {globals : Addr} {qual x : Str} {Q : Env → Shared → Prop} (hpc : ∀ h, pushCells h scope.names = h.push { cls := .type "cell", data := .cell none }) (hcs : ∀ n, cellsFrom n scope.names cl = (x, n) :: cl)
    (h : Q (newEnv scope s.heap.objs.size globals ((x, s.heap.objs.size + 1) :: cl) qual none .none (some env) builtinsNs) { s with heap := (s.heap.push { cls := .type "dict", data := .dict #[] }).push { cls := .type "cell", data := .cell none } }) :
    wpAny M A (newFunctionEnv scope globals cl [] qual none .none (some env)) Q E s := by
  simp only [newFunctionEnv, Option.isSome_some, if_true]
  refine wpAny_bind (wpAny_alloc ?_)
  refine wpAny_bind (wpAny_layCells _ (fun name kind cells => by cases hkc : kind == NameKind.cell <;> simp [hkc]) _ _ _ _ ?_)
  rw [hpc, hcs]
  rw [show ({ s with heap := s.heap.push { cls := .type "dict", data := .dict #[] } } : Shared).heap.objs.size = s.heap.objs.size + 1 from Heap.size_push ..]
  exact wpAny_pure h

/-- over a ledger list of ints; the target is a cell -/
theorem compC {x : Str} {px : Pos} {l : Addr} {vs : List Value} {ns : List Int} {cap : Nat} (hh : A.handled = none) (F : Fr h₀ L s.heap m) (N : News h₀ L s.heap news) (hl : (l, listOf vs.toArray cap) ∈ news) (hi : IntsAre vs ns) (hsz : vs.length ≤ 1000) (f : Int → Option Int)
    (hpc : ∀ h, pushCells h scope.names = h.push { cls := .type "cell", data := .cell none }) (hcs : ∀ n, cellsFrom n scope.names cl = (x, n) :: cl) (hkx : ∀ cl C, (compEnvC scope cl C env).kindOf x = some .cell) (hkind : ∀ cl C, (compEnvC scope cl C env).scope.kind = .function)
    (turn : ∀ z ∈ ns, ∀ t I oI C oC D oD K oK h tk (E' : Value → Shared → Prop), oK.data = .cell (some (.int z t)) → Fr h₀ L h m → News h₀ L h ((I, oI) :: (C, oC) :: (D, oD) :: (K, oK) :: news) →
      TurnI prog w A (compEnvC scope ((x, K) :: cl) C env) ifs elt (f z) (Ek h₀ L m s ((I, oI) :: (C, oC) :: (D, oD) :: (K, oK) :: news)) E' { s with heap := h, toks := tk })
    (fin : FinI prog w A E use Q h₀ L m s news (ns.filterMap f)) :
    SrcL prog w A env elt (.Name x px) iter ifs scope cl pos use Q E (.ref l) s := by
  have hlen := hi.length
  have hat : ∀ (i : Nat) v, vs.toArray[i]? = some v → ∃ z t, ns[i]? = some z ∧ v = Value.int z t := fun i v hv => by
    obtain ⟨k, t, e, hk⟩ := IntsAre.at hi i v (by simpa only [List.getElem?_toArray] using hv)
    exact ⟨k, t, hk, e⟩
  have hL : s.heap.IsList l vs.toArray := ⟨_, (N _ hl).1, rfl, _, rfl⟩
  unfold SrcL
  refine wpAny_pyIter_list hL ?_
  refine wpAny_newObj_type (newEnv_one hpc hcs ?_)
  dsimp only
  generalize hH1 : s.heap.push { cls := .type "list_iterator", data := .fields #[.ref l, .int 0 0] } = H1
  generalize hH2 : H1.push { cls := .type "list", dict := none, data := .seq ([] : List Value).toArray } = H2
  generalize hH3 : H2.push { cls := .type "dict", data := .dict #[] } = H3
  have s1 : H1.objs.size = s.heap.objs.size + 1 := by rw [← hH1, Heap.size_push]
  have s2 : H2.objs.size = s.heap.objs.size + 2 := by rw [← hH2, Heap.size_push, s1]
  have s3 : H3.objs.size = s.heap.objs.size + 3 := by rw [← hH3, Heap.size_push, s2]
  obtain ⟨I, hI⟩ : ∃ I : Addr, I = s.heap.objs.size := ⟨_, rfl⟩
  obtain ⟨D, hD⟩ : ∃ D : Addr, D = H1.objs.size := ⟨_, rfl⟩
  obtain ⟨C, hC⟩ : ∃ C : Addr, C = H2.objs.size := ⟨_, rfl⟩
  obtain ⟨K, hK⟩ : ∃ K : Addr, K = H3.objs.size := ⟨_, rfl⟩
  have hK' : K = H2.objs.size + 1 := by rw [hK, s3, s2]
  have dI : @Eq Nat I (s.heap.objs.size) := hI
  have dD : @Eq Nat D (s.heap.objs.size + 1) := hD.trans s1
  have dC : @Eq Nat C (s.heap.objs.size + 2) := hC.trans s2
  have dK : @Eq Nat K (s.heap.objs.size + 3) := hK.trans s3
  have hK2 : K = C + 1 := by rw [hC]; exact hK'
  rw [← hI, ← hD, ← hC, ← hK2]
  generalize hH4 : H3.push { cls := .type "cell", data := .cell none } = H4
  have old : ∀ b o, s.heap.get? b = some o → H4.get? b = some o := fun b o e => by
    rw [← hH4, ← hH3, ← hH2, ← hH1]
    exact Heap.get?_push_of_some _ (Heap.get?_push_of_some _ (Heap.get?_push_of_some _ (Heap.get?_push_of_some _ e)))
  have gI : H4.get? I = some { cls := .type "list_iterator", data := .fields #[.ref l, .int 0 0] } := by
    rw [← hH4, ← hH3, ← hH2, hI, ← hH1]
    exact Heap.get?_push_of_some _ (Heap.get?_push_of_some _ (Heap.get?_push_of_some _ (Heap.get?_push_size _ rfl)))
  have gD : H4.get? D = some (lst []) := by
    rw [← hH4, ← hH3, hD, ← hH2]
    exact Heap.get?_push_of_some _ (Heap.get?_push_of_some _ (Heap.get?_push_size _ rfl))
  have nC : H4.Ns C (fun _ => none) := by
    rw [← hH4, hC, ← hH3]
    exact (Heap.Ns.new H2 (.type "dict")).keeps fun b o e => Heap.get?_push_of_some _ e
  have gK : H4.get? K = some { cls := .type "cell", data := .cell none } := by
    rw [← hH4, hK]
    exact Heap.get?_push_size _ rfl
  have fresh₀ : ∀ a : Addr, @LE.le Nat _ s.heap.objs.size a → h₀.get? a = none := fun a ha => by
    cases e : h₀.get? a with
    | none => rfl
    | some o' => exact absurd (Heap.lt_size (F.keep a o' e)) (Nat.not_lt.mpr ha)
  have hLlt : @LT.lt Nat _ L s.heap.objs.size := F.ns.lt
  have offn : ∀ p ∈ news, @LT.lt Nat _ p.1 s.heap.objs.size := fun p hp => Heap.lt_size (N p hp).1
  have neN : ∀ (a b : Addr), @Ne Nat a b → a ≠ b := fun a b h e => h e
  have hIL : I ≠ L := neN _ _ (by omega)
  have hDL : D ≠ L := neN _ _ (by omega)
  have hCL : C ≠ L := neN _ _ (by omega)
  have hKL : K ≠ L := neN _ _ (by omega)
  have hID : I ≠ D := neN _ _ (by omega)
  have hIC : I ≠ C := neN _ _ (by omega)
  have hIK : I ≠ K := neN _ _ (by omega)
  have hDC : D ≠ C := neN _ _ (by omega)
  have hDK : D ≠ K := neN _ _ (by omega)
  have hCK : C ≠ K := neN _ _ (by omega)
  have hI₀ := fresh₀ I (by omega)
  have hD₀ := fresh₀ D (by omega)
  have hC₀ := fresh₀ C (by omega)
  have hK₀ := fresh₀ K (by omega)
  have on : ∀ p ∈ news, p.1 ≠ I ∧ p.1 ≠ D ∧ p.1 ≠ C ∧ p.1 ≠ K := fun p hp => by
    have := offn p hp
    exact ⟨neN _ _ (by omega), neN _ _ (by omega), neN _ _ (by omega), neN _ _ (by omega)⟩
  have lI : l ≠ I := (on _ hl).1
  have W := Walks.list (prog := prog) (w := w) hh I l lI vs.toArray
  have loop : ∀ s₃ : Shared, s₃ = { s with heap := H4 } →
      codeAny (model prog w) A (.compLoop (.ListComp elt [⟨.Name x px, iter, ifs, 0⟩] scope pos) 0 (.ref I) (.ref D) (compEnvC scope ((x, K) :: cl) C env)) (compPost (model prog w) A E use Q (.ref D) C) s₃ := by
    rintro s₃ rfl
    refine cLoopT
      (fun k s' => ∃ h' tk i ys m' oK ov, s' = { s with heap := h', toks := tk } ∧ i ≤ vs.toArray.size ∧ k = vs.toArray.size + 1 - i ∧ (h'.IsListIter I l i ∧ h'.IsList l vs.toArray) ∧ Fr h₀ L h' m ∧ h'.Ns C m' ∧ oK.data = .cell ov ∧ News h₀ L h' ((D, lst ys) :: (K, oK) :: news) ∧
        IntsAre ys ((ns.take i).filterMap f)) ?_ (vs.toArray.size + 1)
      ⟨H4, s.toks, 0, [], _, { cls := .type "cell", data := .cell none }, none, rfl, Nat.zero_le _, rfl, ⟨⟨_, gI, rfl, rfl⟩, hL.at fun o e => old _ o e⟩, F.keeps old, nC, rfl, fun p hp => ?_, by rw [List.take_zero]; exact .nil⟩
    · rintro k s' ⟨h', tk, i, ys, m', oK, ov, rfl, hile, rfl, hst', F', hn', hoK, N', hy⟩
      by_cases hlt : i < vs.toArray.size
      · refine W.item i _ _ _ hlt hst' fun v h₂ tk₂ hPv hst₂ hk₂ => ?_
        obtain ⟨z, t, hz, rfl⟩ := hat i v hPv
        have N₂ : News h₀ L h₂ ((D, lst ys) :: (K, oK) :: news) := news_but N' hk₂ fun p hp => by
          rcases List.mem_cons.mp hp with rfl | hp
          · exact Ne.symm hID
          rcases List.mem_cons.mp hp with rfl | hp
          · exact Ne.symm hIK
          · exact (on p hp).1
        have hn₂ : h₂.Ns C m' := hn'.at' fun o e => hk₂ _ o (by simpa using Ne.symm hIC) e
        have F₂ : Fr h₀ L h₂ m := fr_but F' hk₂ (Ne.symm hIL) hI₀
        refine wpAny_pure (wpAny_assign_Name (wpAny_storeName_cell (v₀ := ov) (hkind _ _) (hkx _ _) (show List.lookup x ((x, K) :: cl) = some K by simp) ⟨oK, (N₂ _ (.tail _ (.head _))).1, hoK⟩ fun h₃ hc₃ hs₃ => ?_))
        obtain ⟨oK3, gK3, dK3⟩ := hc₃
        have F₃ : Fr h₀ L h₃ m := F₂.change hs₃ hKL hK₀
        have old3 : ∀ b o, b ≠ K → h₂.get? b = some o → h₃.get? b = some o := fun b o hb e => hs₃.extBut b o hb e
        obtain ⟨oI, heI, hcI, hdI⟩ := hst₂.1
        obtain ⟨oC, heC, hoC⟩ := ns_obj hn₂
        have N₃ : News h₀ L h₃ ((I, oI) :: (C, oC) :: (D, lst ys) :: (K, oK3) :: news) := fun p hp => by
          rcases List.mem_cons.mp hp with rfl | hp
          · exact ⟨old3 _ _ hIK heI, hIL, hI₀⟩
          rcases List.mem_cons.mp hp with rfl | hp
          · exact ⟨old3 _ _ hCK heC, hCL, hC₀⟩
          rcases List.mem_cons.mp hp with rfl | hp
          · exact ⟨old3 _ _ hDK (N₂ _ (.head _)).1, hDL, hD₀⟩
          rcases List.mem_cons.mp hp with rfl | hp
          · exact ⟨gK3, hKL, hK₀⟩
          · have z := N₂ p (.tail _ (.tail _ hp))
            exact ⟨old3 _ _ (on p hp).2.2.2 z.1, z.2⟩
        have back : ∀ h₄, News h₀ L h₄ ((I, oI) :: (C, oC) :: (D, lst ys) :: (K, oK3) :: news) → (h₄.IsListIter I l (i + 1) ∧ h₄.IsList l vs.toArray) ∧ h₄.Ns C m' ∧ News h₀ L h₄ ((D, lst ys) :: (K, oK3) :: news) := fun h₄ N₄ =>
          ⟨⟨⟨oI, (N₄ _ (.head _)).1, hcI, hdI⟩, ⟨_, (N₄ _ (.tail _ (.tail _ (.tail _ (.tail _ hl))))).1, rfl, _, rfl⟩⟩, hoC.ns (N₄ _ (.tail _ (.head _))).1, fun p hp => N₄ p (.tail _ (.tail _ hp))⟩
        refine wpAny_mono (turn z (List.mem_of_getElem? hz) t I oI C oC D _ K oK3 h₃ _ _ dK3 F₃ N₃) (fun ok s₄ h₄ => ?_) fun _ _ e => e
        cases ok with
        | true =>
          simp only [if_true] at h₄ ⊢
          refine wpAny_mono h₄ (fun y s₅ h₅ => ?_) fun _ _ e => e
          obtain ⟨⟨z', t', rfl, hf⟩, h₅, tk₅, rfl, F₅, N₅⟩ := h₅
          obtain ⟨st₅, n₅, N₅'⟩ := back h₅ N₅
          refine append_at (hsz := by show ys.toArray.size ≤ sizeLine; rw [List.size_toArray, hy.length, sizeLine_eq]; have := take_len (ns := ns) (f := f) (i := i); rw [List.size_toArray] at hlt; omega) (N₅' _ (.head _)).1 fun h₆ hs₆ hD₆ => ?_
          have old6 : ∀ b o, b ≠ D → h₅.get? b = some o → h₆.get? b = some o := fun b o hb e => hs₆.extBut b o hb e
          refine ⟨vs.toArray.size + 1 - (i + 1), by omega, h₆, tk₅, i + 1, ys ++ [.int z' t'], m', oK3, _, rfl, hlt, rfl, W.frame _ _ _ st₅ (fun b hb o e => old6 b o (fun q => ?_) e), F₅.change hs₆ hDL hD₀, n₅.sameBut hs₆ (Ne.symm hDC), dK3, fun p hp => ?_, ?_⟩
          · rcases List.mem_cons.mp hb with e | hb
            · exact hID (e ▸ q)
            · exact (on _ hl).2.1 ((List.mem_singleton.mp hb) ▸ q)
          · rcases List.mem_cons.mp hp with rfl | hp
            · exact ⟨hD₆.trans (congrArg some (lst_snoc ys _)), hDL, hD₀⟩
            rcases List.mem_cons.mp hp with rfl | hp
            · exact ⟨old6 _ _ (Ne.symm hDK) (N₅' _ (.tail _ (.head _))).1, hKL, hK₀⟩
            · have z := N₅' p (.tail _ (.tail _ hp))
              exact ⟨old6 _ _ (on p hp).2.1 z.1, z.2⟩
          · rw [filterMap_snoc hz, hf]
            exact hy.append (.cons _ _ .nil)
        | false =>
          simp only [Bool.false_eq_true, if_false] at h₄ ⊢
          obtain ⟨hf, h₅, tk₅, rfl, F₅, N₅⟩ := h₄
          obtain ⟨st₅, n₅, N₅'⟩ := back h₅ N₅
          refine ⟨vs.toArray.size + 1 - (i + 1), by omega, h₅, tk₅, i + 1, ys, m', oK3, _, rfl, hlt, rfl, st₅, F₅, n₅, dK3, N₅', ?_⟩
          rw [filterMap_snoc hz, hf]
          simpa using hy
      · obtain rfl : i = vs.toArray.size := Nat.le_antisymm hile (Nat.not_lt.mp hlt)
        refine W.done _ _ _ hst' fun h₂ tk₂ hk₂ => ?_
        rw [List.take_of_length_le (by rw [List.size_toArray]; omega)] at hy
        have N₂ := news_but N' hk₂ fun p hp => by
          rcases List.mem_cons.mp hp with rfl | hp
          · exact Ne.symm hID
          rcases List.mem_cons.mp hp with rfl | hp
          · exact Ne.symm hIK
          · exact (on p hp).1
        exact fin D h₂ tk₂ ys (fr_but F' hk₂ (Ne.symm hIL) hI₀) (fun p hp => N₂ p (by
          rcases List.mem_cons.mp hp with rfl | hp
          · exact .head _
          · exact .tail _ (.tail _ hp))) hy (fun p hp => by have := offn p hp; show @LT.lt Nat _ p.1 D; omega) C m' (hn'.at' fun o e => hk₂ _ o (by simpa using Ne.symm hIC) e) hCL hDL hC₀ (Ne.symm hDC) (fun p hp => (on p hp).2.2.1)
    · rcases List.mem_cons.mp hp with rfl | hp
      · exact ⟨gD, hDL, hD₀⟩
      rcases List.mem_cons.mp hp with rfl | hp
      · exact ⟨gK, hKL, hK₀⟩
      · exact ⟨old _ _ (N p hp).1, (N p hp).2⟩
  exact codeAny_compStart_list (loop _ rfl) (W.self 0 _ _ _ ⟨⟨_, gI, rfl, rfl⟩, hL.at fun o e => old _ o e⟩ (loop _ rfl))
end
end Mine

/-! ## D1 -/
namespace Mine
open PySem PySem.W PySem.Calls PyProof.Rows
open Sem (wp)
set_option maxRecDepth 100000
set_option maxHeartbeats 2000000

theorem cellsFrom_app : ∀ (names : List (Str × NameKind)) (n : Nat) (acc : List (Str × Addr)), cellsFrom n names acc = cellsFrom n names [] ++ acc
  | [], _, _ => rfl
  | (name, kind) :: r, n, acc => by
    unfold cellsFrom
    split
    · rw [cellsFrom_app r, cellsFrom_app r _ [(name, n)], List.append_assoc]; rfl
    · exact cellsFrom_app r n acc

def cm1 (x : Str) (v : Value) : Str → Option Value := fun n => if n = x then some v else none

section
variable {prog : Program} {w : World} {A₀ A : Around} {base h₀ : Heap} {outer : List Env} {env : Env} {L : Addr} {m mg mb : Str → Option Value} {s : Shared} {K : Frag} {news : List (Addr × Obj)}
  {p : Program} {loose : List Str} {mean : ExcName → Option Value}

theorem lookup_app {α : Type} {x : Str} {c : α} : ∀ {a b : List (Str × α)}, a.lookup x = some c → (a ++ b).lookup x = some c
  | (k, v) :: r, b, h => by
    rw [List.cons_append, List.lookup_cons]
    rw [List.lookup_cons] at h
    cases hb : x == k with
    | true => rw [hb] at h; exact h
    | false => rw [hb] at h; exact lookup_app h

theorem code_own {R : Result → Shared → Prop} {name qual : Str} {params : Arguments} {body : List Stmt} {scope : Scope} {cl : List (Str × Addr)} {doc pm ctv : Value} {c' : Addr} {f : Addr} {args : Args} {x : Str} {v : Value}
    (B : Below A₀ base outer h₀) (F : Fr h₀ L s.heap m) (X₀ : K.In h₀) (N : News h₀ L s.heap news) (T : Top p loose mean mg mb h₀) (hA : A.frames = some (env :: outer)) (hf : env.frame = some L) (hke : env.scope.kind = .function)
    (ho : (f, fnMade name qual params body scope cl doc pm c' ctv) ∈ news) (hcd : s.heap.CodeRec (.ref c') qual) (hroom : A.depth < recursionLimit)
    (hbind : BindsTo s (fnX name qual params body scope cl .none .none doc pm none (.ref c') ctv) args [(x, v)])
    (hx : ∀ L' f', (envX qual scope L' f' (.ref c') (cellsFrom (L' + 1) scope.names cl)).kindOf x = some .cell) (hlk : ∀ n, ∃ c, (cellsFrom n scope.names []).lookup x = some c) (hnd : ((cellsFrom 0 scope.names []).map (·.1)).Nodup)
    (h : ∀ g L' h₁ tk cells, Fr h₀ L g m → Fr g L' h₁ (fun _ => none) → News g L' h₁ (cells ++ news) → CellsAre (cm1 x v) (cellsFrom (L' + 1) scope.names []) cells → Below A base (env :: outer) g → K.In g → Top p loose mean mg mb g → (∀ p ∈ news, p.1 < L') →
      wpAny (model prog w) (A.deeper (envX qual scope L' f (.ref c') (cellsFrom (L' + 1) scope.names cl))) (execs body (envX qual scope L' f (.ref c') (cellsFrom (L' + 1) scope.names cl)))
        (fun fl s' => LeaveK h₀ L m g R (match fl with | .ret v => v | _ => .none) s')
        (fun e s' => wpAny (model prog w) (A.deeper (envX qual scope L' f (.ref c') (cellsFrom (L' + 1) scope.names cl))) (leaving (envX qual scope L' f (.ref c') (cellsFrom (L' + 1) scope.names cl)) e) (fun _ s'' => R (.error e) s'') (fun e' s'' => R (.error e') s'') s')
        { s with heap := h₁, toks := tk })
    (hco : scope.isCoroutine = false) (hgen : scope.isGenerator = false) (hk : scope.kind = .function) : codeAny (model prog w) A (.call (.ref f) args) R s := by
  obtain ⟨FG, BG, st, lv⟩ := groundX (R := R) B F N hA hf hke
  refine codeAny_call_function (body := body) hroom (N _ ho).1 rfl hco hgen rfl hcd (hbind _ _ _ _ ?_)
  simp only [newFunctionEnv, Option.isSome_none, Bool.false_eq_true, if_false]
  refine wpAny_bind (wpAny_alloc ?_)
  refine wpAny_bind (wpAny_layCells _ (fun name kind cells => by cases hkc : kind == NameKind.cell <;> simp [hkc]) _ _ _ _ ?_)
  have ok := cellsFrom_ok scope.names (s.heap.push { cls := .type "frame", data := .dict #[] }) (s.heap.objs.size + 1) [] ⟨fun _ _ hm => (nomatch hm), List.Pairwise.nil⟩ (by rw [Heap.size_push]; exact Nat.le_refl _)
  rw [Heap.size_push] at ok
  rw [show ({ s with heap := s.heap.push { cls := .type "frame", data := .dict #[] } } : Shared).heap.objs.size = s.heap.objs.size + 1 from Heap.size_push ..]
  simp only [List.forIn_cons, List.forIn_nil]
  obtain ⟨c, hc⟩ := hlk (s.heap.objs.size + 1)
  have hc' : (cellsFrom (s.heap.objs.size + 1) scope.names cl).lookup x = some c := by rw [cellsFrom_app]; exact lookup_app hc
  refine wpAny_bind (wpAny_bind (wpAny_bind (wpAny_storeName_cell (v₀ := none) (env := envX qual scope s.heap.objs.size f (.ref c') (cellsFrom (s.heap.objs.size + 1) scope.names cl)) (name := x) (v := v) hk (hx _ _) hc' (ok.empty x c (mem_of_lookup hc)).1 fun h₁ hc₁ hs₁ => wpAny_pure (wpAny_pure (wpAny_pure ?_)))))
  have keepf : ∀ b o, s.heap.get? b = some o → (pushCells (s.heap.push { cls := .type "frame", data := .dict #[] }) scope.names).get? b = some o := fun b o e => pushCells_keeps _ _ b o (Heap.get?_push_of_some _ e)
  have hcg : @LT.lt Nat _ s.heap.objs.size c := (ok.empty x c (mem_of_lookup hc)).2
  have hk₁ : ∀ b o, s.heap.get? b = some o → h₁.get? b = some o := fun b o e => hs₁.extBut b o (Nat.ne_of_lt (Nat.lt_trans (Heap.lt_size e) hcg)) (keepf b o e)
  have hns : h₁.Ns s.heap.objs.size fun _ => none := ((Heap.Ns.new s.heap (.type "frame")).keeps (pushCells_keeps _ _)).sameBut hs₁ (Nat.ne_of_lt hcg)
  have nd := cellsFrom_names scope.names 0 (s.heap.objs.size + 1) [] [] rfl ▸ hnd
  obtain ⟨cells, NC, Y⟩ := Cl.news (h₀ := s.heap) (h := h₁) (cm := cm1 x v) (cs := cellsFrom (s.heap.objs.size + 1) scope.names []) (Nat.le_refl s.heap.objs.size) fun n a hm => by
    have z := ok.empty n a hm
    refine ⟨?_, z.2⟩
    by_cases hn : n = x
    · have e := lookup_of_mem_nodup nd hm
      rw [hn, hc] at e
      cases e
      unfold cm1; rw [if_pos hn]; exact hc₁
    · have e : a ≠ c := fun e => hn (name_of_addr ok.apart hm (e ▸ mem_of_lookup hc))
      unfold cm1; rw [if_neg hn]
      obtain ⟨o, g1, g2⟩ := z.1
      exact ⟨o, hs₁.extBut _ _ e g1, g2⟩
  refine ⟨((T.nolimit).keeps F.keep).keeps hk₁, codeAny_func ?_⟩
  refine wpAny_mono (h _ s.heap.objs.size h₁ _ cells FG ⟨hns, fun b o e => hk₁ b o (of_hideAll _ e), Nat.le_of_eq (hideAll_size _ _)⟩ (fun p hp => ?_) Y BG (X₀.keeps st) (T.keeps st) (fun p hp => Heap.lt_size (N p hp).1)) (fun fl s' hl => lv _ _ hl) fun _ _ y => y
  rcases List.mem_append.mp hp with hp | hp
  · refine ⟨(NC p hp).1, (NC p hp).2.1, ?_⟩
    cases q : (hideAll s.heap (news.map (·.1))).get? p.1 with
    | none => rfl
    | some o => have := of_hideAll _ q; rw [(NC p hp).2.2] at this; cases this
  · exact ⟨hk₁ _ _ (N p hp).1, Nat.ne_of_lt (Heap.lt_size (N p hp).1), hideAll_none _ (List.mem_map_of_mem hp)⟩
end
end Mine

/-! ## D5 -/
namespace Mine
open PySem PySem.W PySem.Calls PyProof.Rows PyProof.Rows.LCg
open Sem (wp)
set_option maxRecDepth 100000
set_option maxHeartbeats 2000000
section
variable {prog : Program} {w : World} {A : Around} {E : Value → Shared → Prop} {s : Shared} {h₀ : Heap} {L : Addr} {m : Str → Option Value} {env : Env}
variable {elt target target2 iter iter2 : PySem.Expr} {ifs : List PySem.Expr} {scope : Scope} {cl : List (Str × Addr)} {pos : Pos} {news : List (Addr × Obj)} {g0 : Comprehension}
variable {use : Option (Value → Sem Unit)} {Q : Value → Shared → Prop}

theorem compTurn_two1 (it acc : Value) (env : Env) :
    compTurn (.ListComp elt [g0, ⟨target, iter, [], 0⟩] scope pos) 1 it acc env = (do
      standAt iter.pos
      match ← pyNext it with
      | none => pure (.done .next)
      | some v =>
        letOwnedTupleGo target it v
        assign target env v
        (do let _ ← call (.builtin "list.append") [acc, ← eval elt env])
        again (.compLoop (.ListComp elt [g0, ⟨target, iter, [], 0⟩] scope pos) 1 it acc env)) := by rfl

theorem compTurn_two0 (it acc : Value) (env : Env) :
    compTurn (.ListComp elt [⟨target, iter, [], 0⟩, ⟨target2, iter2, [], 0⟩] scope pos) 0 it acc env = (do
      standAt iter.pos
      match ← pyNext it with
      | none => pure (.done .next)
      | some v =>
        letOwnedTupleGo target it v
        assign target env v
        let x ← eval iter2 env
        standAt iter2.pos
        let x ← foldedSetIterable iter2 env x
        let _ ← runOwn (.compStart (.ListComp elt [⟨target, iter, [], 0⟩, ⟨target2, iter2, [], 0⟩] scope pos) 1 (← holding [x] (pyIter x)) acc env) env
        again (.compLoop (.ListComp elt [⟨target, iter, [], 0⟩, ⟨target2, iter2, [], 0⟩] scope pos) 0 it acc env)) := by rfl

theorem cLoop1 {it acc : Value} {env : Env} {R : Result → Shared → Prop} (I : Nat → Shared → Prop)
    (turn : ∀ n s, I n s → wpAny (model prog w) A (pyNext it) (fun r s₁ => match r with
      | none => R (.ok .next) s₁
      | some v => wpAny (model prog w) A (letOwnedTupleGo target it v) (fun _ s₁' => wpAny (model prog w) A (assign target env v) (fun _ s₂ =>
          wpAny (model prog w) A (eval elt env) (fun x s₄ =>
              wpAny (model prog w) A (call (.builtin "list.append") [acc, x]) (fun _ s₅ => ∃ m, m < n ∧ I m s₅) (notedBy (model prog w) A env fun e s' => R (.error e) s') s₄) (notedBy (model prog w) A env fun e s' => R (.error e) s') s₂)
          (notedBy (model prog w) A env fun e s' => R (.error e) s') s₁') (notedBy (model prog w) A env fun e s' => R (.error e) s') s₁) (notedBy (model prog w) A env fun e s' => R (.error e) s') s)
    (n : Nat) (h : I n s) : codeAny (model prog w) A (.compLoop (.ListComp elt [g0, ⟨target, iter, [], 0⟩] scope pos) 1 it acc env) R s := by
  refine codeAny_loop rfl I (fun n s hI => ?_) n h
  show wpAny _ A ((compTurn (.ListComp elt [g0, ⟨target, iter, [], 0⟩] scope pos) 1 it acc env).onRaise (fun x => do noteFrame x env; theTreesLotGoes x)) _ _ s
  refine wpAny_noted ?_
  rw [compTurn_two1]
  refine wpAny_bind (wpAny_standAt (wpAny_bind (wpAny_mono (turn n s hI) (fun r s₁ h₁ => ?_) fun _ _ h' => h')))
  cases r with
  | none => exact wpAny_pure h₁
  | some v =>
    refine wpAny_bind (wpAny_mono h₁ (fun _ s₁' h₁' => ?_) fun _ _ h' => h')
    refine wpAny_bind (wpAny_mono h₁' (fun _ s₂ h₂ => ?_) fun _ _ h' => h')
    exact wpAny_bind (wpAny_bind (wpAny_mono h₂ (fun x s₄ h₄ => wpAny_bind (wpAny_mono h₄ (fun _ s₅ h₅ => wpAny_pure (wpAny_pure ⟨rfl, h₅⟩)) fun _ _ h' => h')) fun _ _ h' => h'))

theorem cLoop0 {it acc : Value} {env : Env} {R : Result → Shared → Prop} (hs : ∀ x, foldedSetIterable iter2 env x = pure x) (I : Nat → Shared → Prop)
    (turn : ∀ n s, I n s → wpAny (model prog w) A (pyNext it) (fun r s₁ => match r with
      | none => R (.ok .next) s₁
      | some v => wpAny (model prog w) A (letOwnedTupleGo target it v) (fun _ s₁' => wpAny (model prog w) A (assign target env v) (fun _ s₂ =>
          wpAny (model prog w) A (eval iter2 env) (fun x s₃ => wpAny (model prog w) A (pyIter x) (fun it2 s₄ =>
            codeAny (model prog w) A (.compStart (.ListComp elt [⟨target, iter, [], 0⟩, ⟨target2, iter2, [], 0⟩] scope pos) 1 it2 acc env) (fun r s₅ => r = .ok .next ∧ ∃ m, m < n ∧ I m s₅) s₄)
            (notedBy (model prog w) A env fun e s' => R (.error e) s') s₃) (notedBy (model prog w) A env fun e s' => R (.error e) s') s₂)
          (notedBy (model prog w) A env fun e s' => R (.error e) s') s₁') (notedBy (model prog w) A env fun e s' => R (.error e) s') s₁) (notedBy (model prog w) A env fun e s' => R (.error e) s') s)
    (n : Nat) (h : I n s) : codeAny (model prog w) A (.compLoop (.ListComp elt [⟨target, iter, [], 0⟩, ⟨target2, iter2, [], 0⟩] scope pos) 0 it acc env) R s := by
  refine codeAny_loop rfl I (fun n s hI => ?_) n h
  show wpAny _ A ((compTurn (.ListComp elt [⟨target, iter, [], 0⟩, ⟨target2, iter2, [], 0⟩] scope pos) 0 it acc env).onRaise (fun x => do noteFrame x env; theTreesLotGoes x)) _ _ s
  refine wpAny_noted ?_
  rw [compTurn_two0]
  refine wpAny_bind (wpAny_standAt (wpAny_bind (wpAny_mono (turn n s hI) (fun r s₁ h₁ => ?_) fun _ _ h' => h')))
  cases r with
  | none => exact wpAny_pure h₁
  | some v =>
    refine wpAny_bind (wpAny_mono h₁ (fun _ s₁' h₁' => ?_) fun _ _ h' => h')
    refine wpAny_bind (wpAny_mono h₁' (fun _ s₂ h₂ => ?_) fun _ _ h' => h')
    refine wpAny_bind (wpAny_mono h₂ (fun x s₃ h₃ => wpAny_bind (wpAny_standAt (wpAny_bind (wpAny_of_eq (hs x) ?_)))) fun _ _ h' => h')
    refine wpAny_bind (wpAny_holding (wpAny_mono h₃ (fun it2 s₄ h₄ => ?_) fun _ _ h' => h'))
    refine wpAny_bind (wpAny_runOwn (codeAny_mono h₄ fun r s₅ hr => ?_))
    obtain ⟨rfl, hm⟩ := hr
    exact wpAny_pure ⟨rfl, hm⟩

theorem compStart1 {it acc : Value} {env : Env} {R : Result → Shared → Prop}
    (h0 : codeAny (model prog w) A (.compLoop (.ListComp elt [g0, ⟨target, iter, [], 0⟩] scope pos) 1 it acc env) R s)
    (h : wpAny (model prog w) A (pyIter it) (fun it' s' => codeAny (model prog w) A (.compLoop (.ListComp elt [g0, ⟨target, iter, [], 0⟩] scope pos) 1 it' acc env) R s')
      (notedBy (model prog w) A env fun x s' => R (.error x) s') s) :
    codeAny (model prog w) A (.compStart (.ListComp elt [g0, ⟨target, iter, [], 0⟩] scope pos) 1 it acc env) R s := by
  refine codeAny_of_tree ?_
  show wpAny _ _ ((compStart (.ListComp elt [g0, ⟨target, iter, [], 0⟩] scope pos) 1 it acc env).onRaise (fun x => do noteFrame x env; standAt theWindowsPlace)) _ _ s
  refine wpAny_notedAt ?_
  unfold compStart
  show wpAny _ _ (ask >>= _) _ _ s
  refine wpAny_bind (wpAny_askSetting (wpAny_ite ?_))
  split
  · first
      | exact wpAny_bind (wpAny_pure (wpAny_pure (And.intro rfl h0)))
      | exact wpAny_pure (And.intro rfl h0)
  · first
      | exact wpAny_bind (wpAny_rule (wpAny_bind (wpAny_standAt (wpAny_bind (wpAny_mono h (fun it' s' h' => wpAny_pure (And.intro rfl h')) fun _ _ x => x)))))
      | (refine wpAny_bind (wpAny_rule ?_); show wpAny _ _ (standAt iter.pos >>= _) _ _ s; exact wpAny_bind (wpAny_standAt (wpAny_bind (wpAny_mono h (fun it' s' h' => wpAny_pure (And.intro rfl h')) fun _ _ x => x))))
end
end Mine

/-! ## D6 -/
namespace Mine
open PySem PySem.W PySem.Calls PyProof.Rows PyProof.Rows.LCg
open Sem (wp)
set_option maxRecDepth 100000
set_option maxHeartbeats 2000000

def rowP (i n : Nat) : List (Int × Int) := (List.range n).map fun b : Nat => ((b : Int), (i : Int))
def preP (n : Nat) : List (Int × Int) := (List.range n).flatMap fun i => rowP i i
theorem preP_succ (n : Nat) : preP (n + 1) = preP n ++ rowP n n := by
  unfold preP
  rw [List.range_succ, List.flatMap_append]
  simp
theorem rowP_succ (i n : Nat) : rowP i (n + 1) = rowP i n ++ [((n : Int), (i : Int))] := by
  unfold rowP
  rw [List.range_succ, List.map_append]
  rfl
theorem rowP_len (i n : Nat) : (rowP i n).length = n := by simp [rowP]
section
variable {prog : Program} {w : World} {A : Around} {E : Value → Shared → Prop} {s : Shared} {h₀ : Heap} {L : Addr} {m : Str → Option Value} {env : Env}
variable {elt target target2 iter iter2 : PySem.Expr} {ifs : List PySem.Expr} {scope : Scope} {cl : List (Str × Addr)} {pos : Pos} {news : List (Addr × Obj)} {g0 : Comprehension}
variable {use : Option (Value → Sem Unit)} {Q : Value → Shared → Prop}

/-- an element is a pair in a new tuple -/
def PairEnd (h₀ : Heap) (L : Addr) (m : Str → Option Value) (s₁ : Shared) (led : List (Addr × Obj)) (b c : Int) (y : Value) (s₂ : Shared) : Prop :=
  ∃ a o t u nt h' tk, y = .ref a ∧ o.cls = .type "tuple" ∧ o.data = .seq #[.int b t, .int c u] nt ∧ s₂ = { s₁ with heap := h', toks := tk } ∧ Fr h₀ L h' m ∧ News h₀ L h' ((a, o) :: led) ∧ ∀ q ∈ led, q.1 < a

theorem inner2 {x1 x2 : Str} {px2 : Pos} {I2 I C D : Addr} {oI2 oI oC : Obj} {m₂ : Str → Option Value} {i n : Nat} {ti : Tok} {qs : List (Int × Int)} {ys : List Value} {tups : List (Addr × Obj)} {R : Result → Shared → Prop} (hh : A.handled = none)
    (hkind : scope.kind = .function) (hx2 : scope.names.lookup x2 = some .local) (hxx : x1 ≠ x2) (F : Fr h₀ L s.heap m) (hoC : NsObj oC m₂) (hm1 : m₂ x1 = some (.int (i : Int) ti)) (hit : IsRangeIter s.heap I2 0 (n : Int) 1)
    (N : News h₀ L s.heap ((I2, oI2) :: (I, oI) :: (C, oC) :: (D, lst ys) :: (tups ++ news))) (off : ∀ p ∈ (I, oI) :: (C, oC) :: (D, lst ys) :: (tups ++ news), p.1 ≠ I2) (hIC : I ≠ C) (hID : I ≠ D) (hCD : C ≠ D) (offT : ∀ p ∈ tups ++ news, p.1 ≠ I ∧ p.1 ≠ C ∧ p.1 ≠ D)
    (hab : ∀ p ∈ tups, ∀ q ∈ news, q.1 < p.1) (hP : PairsIn tups ys qs) (hlen : qs.length + n ≤ 1000)
    (elt2 : ∀ j, j < n → ∀ tj oI2 oC D' oD m₃ h tk nw (E' : Value → Shared → Prop), NsObj oC m₃ → m₃ x1 = some (.int (i : Int) ti) → m₃ x2 = some (.int (j : Int) tj) → Fr h₀ L h m → News h₀ L h ((I2, oI2) :: (I, oI) :: (C, oC) :: (D', oD) :: nw) →
      wpAny (model prog w) A (eval elt (compEnvC scope cl C env)) (PairEnd h₀ L m { s with heap := h, toks := tk } ((I2, oI2) :: (I, oI) :: (C, oC) :: (D', oD) :: nw) (j : Int) (i : Int)) E' { s with heap := h, toks := tk })
    (hR : ∀ h' tk oC' m' ys' tups', Fr h₀ L h' m → NsObj oC' m' → News h₀ L h' ((I, oI) :: (C, oC') :: (D, lst ys') :: (tups' ++ news)) → (∀ p ∈ tups' ++ news, p.1 ≠ I ∧ p.1 ≠ C ∧ p.1 ≠ D) → (∀ p ∈ tups', ∀ q ∈ news, q.1 < p.1) → PairsIn tups' ys' (qs ++ rowP i n) → R (.ok .next) { s with heap := h', toks := tk }) :
    codeAny (model prog w) A (.compLoop (.ListComp elt [g0, ⟨.Name x2 px2, iter2, [], 0⟩] scope pos) 1 (.ref I2) (.ref D) (compEnvC scope cl C env)) R s := by
  have W := Walks.range (prog := prog) (w := w) hh I2 0 1 n
  have r0 : ∀ h, IsRangeIter h I2 0 (n : Int) 1 → IsRangeIter h I2 ((0 : Int) + ((0 : Nat) : Int) * 1) ((n : Int) - ((0 : Nat) : Int)) 1 := fun h e => by
    have e1 : ((0 : Int) + ((0 : Nat) : Int) * 1) = 0 := by omega
    have e2 : ((n : Int) - ((0 : Nat) : Int)) = n := by omega
    rw [e1, e2]; exact e
  have hI2L := (N _ (.head _)).2.1
  have hI20 := (N _ (.head _)).2.2
  have hCL := (N _ (.tail _ (.tail _ (.head _)))).2.1
  have hC0 := (N _ (.tail _ (.tail _ (.head _)))).2.2
  have hDL := (N _ (.tail _ (.tail _ (.tail _ (.head _))))).2.1
  have hD0 := (N _ (.tail _ (.tail _ (.tail _ (.head _))))).2.2
  have hI2I : I ≠ I2 := off _ (.head _)
  have hI2C : C ≠ I2 := off _ (.tail _ (.head _))
  have hI2D : D ≠ I2 := off _ (.tail _ (.tail _ (.head _)))
  refine cLoop1
    (fun k s' => ∃ h' tk j ys' tups' oC' m', s' = { s with heap := h', toks := tk } ∧ j ≤ n ∧ k = n + 1 - j ∧ IsRangeIter h' I2 ((0 : Int) + (j : Nat) * 1) ((n : Int) - (j : Nat)) 1 ∧ Fr h₀ L h' m ∧ NsObj oC' m' ∧ m' x1 = some (.int (i : Int) ti) ∧
      News h₀ L h' ((I, oI) :: (C, oC') :: (D, lst ys') :: (tups' ++ news)) ∧ (∀ p ∈ tups' ++ news, p.1 ≠ I2 ∧ p.1 ≠ I ∧ p.1 ≠ C ∧ p.1 ≠ D) ∧ (∀ p ∈ tups', ∀ q ∈ news, q.1 < p.1) ∧ PairsIn tups' ys' (qs ++ rowP i j)) ?_ (n + 1)
    ⟨s.heap, s.toks, 0, ys, tups, oC, m₂, rfl, Nat.zero_le _, rfl, r0 _ hit, F, hoC, hm1, fun q hq => N q (.tail _ hq), fun p hp => ⟨off p (.tail _ (.tail _ (.tail _ hp))), offT p hp⟩, hab, by simpa [rowP] using hP⟩
  rintro k s' ⟨h', tk, j, ys', tups', oC', m', rfl, hj, rfl, hst, F', hoC', hm', N', off', hab', hP'⟩
  by_cases hlt : j < n
  · refine W.item j _ _ _ hlt hst fun v h₂ tk₂ hPv hst₂ hk₂ => ?_
    obtain ⟨tj, rfl⟩ := hPv
    have e0 : ((0 : Int) + (j : Nat) * 1) = (j : Int) := by omega
    rw [e0]
    have N₂ : News h₀ L h₂ ((I, oI) :: (C, oC') :: (D, lst ys') :: (tups' ++ news)) := news_but N' hk₂ fun p hp => by
      rcases List.mem_cons.mp hp with rfl | hp
      · exact hI2I
      rcases List.mem_cons.mp hp with rfl | hp
      · exact hI2C
      rcases List.mem_cons.mp hp with rfl | hp
      · exact hI2D
      · exact (off' p hp).1
    have F₂ : Fr h₀ L h₂ m := fr_but F' hk₂ (Ne.symm hI2L) hI20
    have hn₂ : h₂.Ns C m' := hoC'.ns (N₂ _ (.tail _ (.head _))).1
    refine wpAny_pure (wpAny_assign_Name (wpAny_storeName_local (lookup_relabel_local hx2) hn₂ (fun h₃ hn₃ hs₃ => ?_) (by simp [compEnvC, relabel, hkind])))
    have old3 : ∀ b o, b ≠ C → h₂.get? b = some o → h₃.get? b = some o := fun b o hb e => hs₃.extBut b o hb e
    obtain ⟨oC3, heC, hoC3⟩ := ns_obj hn₃
    have F₃ : Fr h₀ L h₃ m := F₂.change hs₃ hCL hC0
    have gI2 : h₃.get? I2 = some _ := old3 _ _ (Ne.symm hI2C) hst₂
    have N₃ : News h₀ L h₃ ((I2, _) :: (I, oI) :: (C, oC3) :: (D, lst ys') :: (tups' ++ news)) := fun p hp => by
      rcases List.mem_cons.mp hp with rfl | hp
      · exact ⟨gI2, hI2L, hI20⟩
      rcases List.mem_cons.mp hp with rfl | hp
      · have z := N₂ _ (.head _); exact ⟨old3 _ _ hIC z.1, z.2⟩
      rcases List.mem_cons.mp hp with rfl | hp
      · exact ⟨heC, hCL, hC0⟩
      rcases List.mem_cons.mp hp with rfl | hp
      · have z := N₂ _ (.tail _ (.tail _ (.head _))); exact ⟨old3 _ _ (Ne.symm hCD) z.1, z.2⟩
      · have z := N₂ p (.tail _ (.tail _ (.tail _ hp))); exact ⟨old3 _ _ (off' p hp).2.2.1 z.1, z.2⟩
    have hx1' : (fun z => if z = x2 then some (Value.int (j : Int) tj) else m' z) x1 = some (.int (i : Int) ti) := by
      show (if x1 = x2 then _ else _) = _
      rw [if_neg hxx]; exact hm'
    refine wpAny_mono (elt2 j hlt tj _ oC3 D _ _ h₃ _ _ _ hoC3 hx1' (by simp) F₃ N₃) (fun y s₄ h₄ => ?_) fun _ _ e => e
    obtain ⟨a, o, t, u, nt, h₅, tk₅, rfl, hoc, hod, rfl, F₅, N₅, offl⟩ := h₄
    have offa : ∀ q ∈ (I2, _) :: (I, oI) :: (C, oC3) :: (D, lst ys') :: (tups' ++ news), q.1 ≠ a := fun q hq => Nat.ne_of_lt (offl q hq)
    have hys' : ys'.length = qs.length + j := by rw [hP'.1, List.length_append, rowP_len]
    refine append_at (hsz := by show ys'.toArray.size ≤ sizeLine; rw [List.size_toArray, sizeLine_eq]; omega) (N₅ (D, lst ys') (.tail _ (.tail _ (.tail _ (.tail _ (.head _)))))).1 fun h₆ hs₆ hD₆ => ?_
    have old6 : ∀ b o, b ≠ D → h₅.get? b = some o → h₆.get? b = some o := fun b o hb e => hs₆.extBut b o hb e
    have haD : a ≠ D := Ne.symm (offa _ (.tail _ (.tail _ (.tail _ (.head _)))))
    refine ⟨n + 1 - (j + 1), by omega, h₆, tk₅, j + 1, ys' ++ [.ref a], (a, o) :: tups', oC3, _, rfl, hlt, rfl, ?_, F₅.change hs₆ hDL hD0, hoC3, hx1', fun p hp => ?_, fun p hp => ?_, fun p hp => ?_, ?_⟩
    · exact old6 _ _ (Ne.symm hI2D) (N₅ _ (.tail _ (.head _))).1
    · rcases List.mem_cons.mp hp with rfl | hp
      · have z := N₅ _ (.tail _ (.tail _ (.head _))); exact ⟨old6 _ _ hID z.1, z.2⟩
      rcases List.mem_cons.mp hp with rfl | hp
      · have z := N₅ _ (.tail _ (.tail _ (.tail _ (.head _)))); exact ⟨old6 _ _ hCD z.1, z.2⟩
      rcases List.mem_cons.mp hp with rfl | hp
      · exact ⟨hD₆.trans (congrArg some (lst_snoc ys' _)), hDL, hD0⟩
      rcases List.mem_cons.mp hp with rfl | hp
      · have z := N₅ _ (.head _); exact ⟨old6 _ _ haD z.1, z.2⟩
      · have z := N₅ p (.tail _ (.tail _ (.tail _ (.tail _ (.tail _ hp))))); exact ⟨old6 _ _ (off' p hp).2.2.2 z.1, z.2⟩
    · rcases List.mem_cons.mp hp with rfl | hp
      · exact ⟨Ne.symm (offa _ (.head _)), Ne.symm (offa _ (.tail _ (.head _))), Ne.symm (offa _ (.tail _ (.tail _ (.head _)))), haD⟩
      · exact off' p hp
    · rcases List.mem_cons.mp hp with rfl | hp
      · exact fun q hq => offl q (.tail _ (.tail _ (.tail _ (.tail _ (List.mem_append_right _ hq)))))
      · exact hab' p hp
    · rw [rowP_succ, ← List.append_assoc]
      exact (hP'.mono fun q hq => .tail _ hq).snoc (.head _) hoc hod
  · obtain rfl : j = n := Nat.le_antisymm hj (Nat.not_lt.mp hlt)
    refine W.done _ _ _ hst fun h₂ tk₂ hk₂ => ?_
    refine hR h₂ tk₂ oC' m' ys' tups' (fr_but F' hk₂ (Ne.symm hI2L) hI20) hoC' (news_but N' hk₂ fun p hp => ?_) (fun p hp => (off' p hp).2) hab' hP'
    rcases List.mem_cons.mp hp with rfl | hp
    · exact hI2I
    rcases List.mem_cons.mp hp with rfl | hp
    · exact hI2C
    rcases List.mem_cons.mp hp with rfl | hp
    · exact hI2D
    · exact (off' p hp).1
end
end Mine

/-! ## D7 -/
namespace Mine
open PySem PySem.W PySem.Calls PyProof.Rows PyProof.Rows.LCg
open Sem (wp)
set_option maxRecDepth 100000
set_option maxHeartbeats 2000000
section
variable {prog : Program} {w : World} {A : Around} {E : Value → Shared → Prop} {s : Shared} {h₀ : Heap} {L : Addr} {m : Str → Option Value} {env : Env}
variable {elt iter iter2 : PySem.Expr} {scope : Scope} {cl : List (Str × Addr)} {pos : Pos} {news : List (Addr × Obj)}
variable {use : Option (Value → Sem Unit)} {Q : Value → Shared → Prop}

def SrcG (prog : Program) (w : World) (A : Around) (env : Env) (e : PySem.Expr) (scope : Scope) (cl : List (Str × Addr)) (use : Option (Value → Sem Unit)) (Q E : Value → Shared → Prop) (xv : Value) (s₁ : Shared) : Prop :=
  wpAny (model prog w) A (pyIter xv) (fun it s₂ => wpAny (model prog w) A (newList []) (fun acc s₃ => wpAny (model prog w) A (newFunctionEnv scope env.globals cl [] env.qual none .none (some env)) (fun cenv s₄ =>
      codeAny (model prog w) A (.compStart e 0 it acc { cenv with scope := relabel scope env }) (compPost (model prog w) A E use Q acc cenv.locals) s₄) E s₃) E s₂) E s₁

theorem compAssign2 {t1 t2 : PySem.Expr} {spos py : Pos} {y : Str} {Q : Flow → Shared → Prop}
    (hsw : swapsWith (.ListComp elt [⟨t1, iter, [], 0⟩, ⟨t2, iter2, [], 0⟩] scope pos) (some (.Name y py)) spos.line env = pure true)
    (hclos : closureFor scope env = pure cl) (hkind : scope.kind = .function)
    (hnames : ∀ y ∈ scope.names, y.2 = .local → scope.names.lookup y.1 = some .local) (hs : ∀ x, foldedSetIterable iter env x = pure x)
    (h : wpAny (model prog w) A (eval iter env) (SrcG prog w A env (.ListComp elt [⟨t1, iter, [], 0⟩, ⟨t2, iter2, [], 0⟩] scope pos) scope cl (some (assign (.Name y py) env)) (fun _ s' => Q .next s') E) E s) :
    wpAny (model prog w) A (exec (.Assign [.Name y py] (.ListComp elt [⟨t1, iter, [], 0⟩, ⟨t2, iter2, [], 0⟩] scope pos) spos) env) Q E s := by
  rw [exec_Assign_Name_used _ _ _ _ hsw]
  refine wpAny_bind (wpAny_standAt (wpAny_bind ?_))
  show wpAny _ A (do let _ ← comprehension (.ListComp elt [⟨t1, iter, [], 0⟩, ⟨t2, iter2, [], 0⟩] scope pos) scope env _ (newList []) false (eval iter env) (some (assign (.Name y py) env))) _ _ s
  exact wpAny_bind (wpAny_mono (wpAny_comprehension_free (use := some (assign (.Name y py) env)) (Q := fun _ s' => Q .next s') rfl hs hclos hkind hnames h) (fun _ s' hq => wpAny_pure (wpAny_pure hq)) fun _ _ e => e)

theorem comp2 {x1 x2 : Str} {px px2 : Pos} {r : Addr} {n : Nat} {t0 u0 v0 : Tok} (hh : A.handled = none) (F : Fr h₀ L s.heap m) (N : News h₀ L s.heap news) (hr : IsRange s.heap r 0 (n : Int) 1 t0 u0 v0) (hsz : n ≤ 1000) (hlen : ∀ i < n, (preP i).length + i ≤ 1000)
    (hcell : ∀ y ∈ scope.names, y.2 ≠ .cell) (hkind : scope.kind = .function) (hx1 : scope.names.lookup x1 = some .local) (hx2 : scope.names.lookup x2 = some .local) (hxx : x1 ≠ x2) (hs : ∀ C x, foldedSetIterable iter2 (compEnvC scope cl C env) x = pure x)
    (inner : ∀ i : Nat, i < n → ∀ t I oI C oC D oD m₂ h tk nw (E' : Value → Shared → Prop), NsObj oC m₂ → m₂ x1 = some (.int (i : Int) t) → Fr h₀ L h m → News h₀ L h ((I, oI) :: (C, oC) :: (D, oD) :: nw) →
      wpAny (model prog w) A (eval iter2 (compEnvC scope cl C env)) (fun v s₂ => ∃ r2 t u v' h' tk', v = .ref r2 ∧ s₂ = { s with heap := h', toks := tk' } ∧ Fr h₀ L h' m ∧ News h₀ L h' ((I, oI) :: (C, oC) :: (D, oD) :: nw) ∧ IsRange h' r2 0 (i : Int) 1 t u v') E' { s with heap := h, toks := tk })
    (elt2 : ∀ i : Nat, i < n → ∀ j : Nat, j < i → ∀ ti tj I2 I oI C D oI2 oC oD m₃ h tk nw (E' : Value → Shared → Prop), NsObj oC m₃ → m₃ x1 = some (.int (i : Int) ti) → m₃ x2 = some (.int (j : Int) tj) → Fr h₀ L h m → News h₀ L h ((I2, oI2) :: (I, oI) :: (C, oC) :: (D, oD) :: nw) →
      wpAny (model prog w) A (eval elt (compEnvC scope cl C env)) (PairEnd h₀ L m { s with heap := h, toks := tk } ((I2, oI2) :: (I, oI) :: (C, oC) :: (D, oD) :: nw) (j : Int) (i : Int)) E' { s with heap := h, toks := tk })
    (fin : ∀ D h tk ys tups, Fr h₀ L h m → News h₀ L h ((D, lst ys) :: (tups ++ news)) → PairsIn tups ys (preP n) → (∀ p ∈ tups ++ news, p.1 ≠ D) → (∀ q ∈ news, q.1 < D) → (∀ p ∈ tups, ∀ q ∈ news, q.1 < p.1) → ∀ (C : Addr) (m' : Str → Option Value), h.Ns C m' → C ≠ L → D ≠ L → h₀.get? C = none → C ≠ D → (∀ p ∈ tups ++ news, p.1 ≠ C) →
      compPost (model prog w) A E use Q (.ref D) C (.ok .next) { s with heap := h, toks := tk }) :
    SrcG prog w A env (.ListComp elt [⟨.Name x1 px, iter, [], 0⟩, ⟨.Name x2 px2, iter2, [], 0⟩] scope pos) scope cl use Q E (.ref r) s := by
  have hsz' : ∀ k : Nat, Builtin.Range.rangeSize 0 (k : Int) 1 = k := fun k => by
    unfold Builtin.Range.rangeSize
    rw [if_pos (by decide)]
    by_cases h : (0 : Int) < k
    · rw [if_pos h]; omega
    · rw [if_neg h]; omega
  have hsm : ∀ k : Nat, k ≤ 1000 → Builtin.Range.small 0 (k : Int) 1 = true := fun k hk => by
    unfold Builtin.Range.small
    rw [hsz']
    simp [Builtin.Range.rangeFitsLong]
    omega
  have r0 : ∀ (k : Nat) h I, IsRangeIter h I 0 (k : Int) 1 → IsRangeIter h I ((0 : Int) + ((0 : Nat) : Int) * 1) ((k : Int) - ((0 : Nat) : Int)) 1 := fun k h I e => by
    have e1 : ((0 : Int) + ((0 : Nat) : Int) * 1) = 0 := by omega
    have e2 : ((k : Int) - ((0 : Nat) : Int)) = k := by omega
    rw [e1, e2]; exact e
  unfold SrcG
  refine wpAny_pyIter_range hr (hsm n hsz) ?_
  rw [hsz']
  refine wpAny_newObj_type (wpAny_newFunctionEnv hcell (by intro y hy; simp at hy) (fun h₁ hns₁ hsb₁ => ?_) hkind)
  dsimp only at hns₁ hsb₁ ⊢
  generalize hH1 : s.heap.push { cls := .type "range_iterator", data := .fields #[rawInt 0, rawInt n, rawInt 1] } = H1 at hns₁ hsb₁ ⊢
  generalize hH2 : H1.push { cls := .type "list", dict := none, data := .seq ([] : List Value).toArray } = H2 at hns₁ hsb₁ ⊢
  have s1 : H1.objs.size = s.heap.objs.size + 1 := by rw [← hH1, Heap.size_push]
  have s2 : H2.objs.size = s.heap.objs.size + 2 := by rw [← hH2, Heap.size_push, s1]
  obtain ⟨I, hI⟩ : ∃ I : Addr, I = s.heap.objs.size := ⟨_, rfl⟩
  obtain ⟨D, hD⟩ : ∃ D : Addr, D = H1.objs.size := ⟨_, rfl⟩
  obtain ⟨C, hC⟩ : ∃ C : Addr, C = H2.objs.size := ⟨_, rfl⟩
  have dI : @Eq Nat I (s.heap.objs.size) := hI
  have dD : @Eq Nat D (s.heap.objs.size + 1) := hD.trans s1
  have dC : @Eq Nat C (s.heap.objs.size + 2) := hC.trans s2
  rw [← hC] at hns₁ hsb₁
  rw [← hI, ← hD, ← hC]
  have neN : ∀ (a b : Addr), @Ne Nat a b → a ≠ b := fun a b h e => h e
  have old : ∀ b o, s.heap.get? b = some o → h₁.get? b = some o := fun b o e => by
    have hb : @LT.lt Nat _ b s.heap.objs.size := Heap.lt_size e
    refine hsb₁.extBut b o (neN _ _ (by omega)) (Heap.get?_push_of_some _ ?_)
    rw [← hH2, ← hH1]
    exact Heap.get?_push_of_some _ (Heap.get?_push_of_some _ e)
  have hIC : I ≠ C := neN _ _ (by omega)
  have hID : I ≠ D := neN _ _ (by omega)
  have hCD : C ≠ D := neN _ _ (by omega)
  have gI : IsRangeIter h₁ I 0 (n : Int) 1 := by
    refine hsb₁.extBut I _ hIC (Heap.get?_push_of_some _ ?_)
    rw [← hH2, hI, ← hH1]
    exact Heap.get?_push_of_some _ (Heap.get?_push_size _ rfl)
  have gD : h₁.get? D = some (lst []) := by
    refine hsb₁.extBut D _ (Ne.symm hCD) (Heap.get?_push_of_some _ ?_)
    rw [hD, ← hH2]
    exact Heap.get?_push_size _ rfl
  have fresh₀ : ∀ a : Addr, @LE.le Nat _ s.heap.objs.size a → h₀.get? a = none := fun a ha => by
    cases e : h₀.get? a with
    | none => rfl
    | some o' => exact absurd (Heap.lt_size (F.keep a o' e)) (Nat.not_lt.mpr ha)
  have hLlt : @LT.lt Nat _ L s.heap.objs.size := F.ns.lt
  have offn : ∀ p ∈ news, @LT.lt Nat _ p.1 s.heap.objs.size := fun p hp => Heap.lt_size (N p hp).1
  have hIL : I ≠ L := neN _ _ (by omega)
  have hDL : D ≠ L := neN _ _ (by omega)
  have hCL : C ≠ L := neN _ _ (by omega)
  have hI₀ := fresh₀ I (by omega)
  have hD₀ := fresh₀ D (by omega)
  have hC₀ := fresh₀ C (by omega)
  have W := Walks.range (prog := prog) (w := w) hh I 0 1 n
  have loop : ∀ s₃ : Shared, s₃ = { s with heap := h₁, toks := s.toks + ([] : List (Str × Value)).length } →
      codeAny (model prog w) A (.compLoop (.ListComp elt [⟨.Name x1 px, iter, [], 0⟩, ⟨.Name x2 px2, iter2, [], 0⟩] scope pos) 0 (.ref I) (.ref D) (compEnvC scope cl C env)) (compPost (model prog w) A E use Q (.ref D) C) s₃ := by
    rintro s₃ rfl
    refine cLoop0 (hs C)
      (fun k s' => ∃ h' tk i ys tups m', s' = { s with heap := h', toks := tk } ∧ i ≤ n ∧ k = n + 1 - i ∧ IsRangeIter h' I ((0 : Int) + (i : Nat) * 1) ((n : Int) - (i : Nat)) 1 ∧ Fr h₀ L h' m ∧ h'.Ns C m' ∧
        News h₀ L h' ((D, lst ys) :: (tups ++ news)) ∧ (∀ p ∈ tups ++ news, p.1 ≠ I ∧ p.1 ≠ C ∧ p.1 ≠ D) ∧ (∀ p ∈ tups, ∀ q ∈ news, q.1 < p.1) ∧ PairsIn tups ys (preP i)) ?_ (n + 1)
      ⟨h₁, _, 0, [], [], _, rfl, Nat.zero_le _, rfl, r0 _ _ _ gI, F.keeps old, hns₁, fun p hp => ?_, fun p hp => ?_, (fun p hp => nomatch hp), PairsIn.nil⟩
    · rintro k s' ⟨h', tk, i, ys, tups, m', rfl, hi, rfl, hst, F', hn', N', off', hab, hP⟩
      by_cases hlt : i < n
      · refine W.item i _ _ _ hlt hst fun v h₂ tk₂ hPv hst₂ hk₂ => ?_
        obtain ⟨t, rfl⟩ := hPv
        have e0 : ((0 : Int) + (i : Nat) * 1) = (i : Int) := by omega
        rw [e0]
        have N₂ : News h₀ L h₂ ((D, lst ys) :: (tups ++ news)) := news_but N' hk₂ fun p hp => by
          rcases List.mem_cons.mp hp with rfl | hp
          · exact Ne.symm hID
          · exact (off' p hp).1
        have F₂ : Fr h₀ L h₂ m := fr_but F' hk₂ (Ne.symm hIL) hI₀
        have hn₂ : h₂.Ns C m' := hn'.at' fun o e => hk₂ _ o (by simpa using Ne.symm hIC) e
        refine wpAny_pure (wpAny_assign_Name (wpAny_storeName_local (lookup_relabel_local hx1) hn₂ (fun h₃ hn₃ hs₃ => ?_) (by simp [compEnvC, relabel, hkind])))
        have old3 : ∀ b o, b ≠ C → h₂.get? b = some o → h₃.get? b = some o := fun b o hb e => hs₃.extBut b o hb e
        obtain ⟨oC3, heC, hoC3⟩ := ns_obj hn₃
        have F₃ : Fr h₀ L h₃ m := F₂.change hs₃ hCL hC₀
        have N₃ : News h₀ L h₃ ((I, _) :: (C, oC3) :: (D, lst ys) :: (tups ++ news)) := fun p hp => by
          rcases List.mem_cons.mp hp with rfl | hp
          · exact ⟨old3 _ _ hIC hst₂, hIL, hI₀⟩
          rcases List.mem_cons.mp hp with rfl | hp
          · exact ⟨heC, hCL, hC₀⟩
          rcases List.mem_cons.mp hp with rfl | hp
          · have z := N₂ _ (.head _); exact ⟨old3 _ _ (Ne.symm hCD) z.1, z.2⟩
          · have z := N₂ p (.tail _ hp); exact ⟨old3 _ _ (off' p hp).2.1 z.1, z.2⟩
        refine wpAny_mono (inner i hlt t _ _ C oC3 D _ _ h₃ _ _ _ hoC3 (by simp) F₃ N₃) (fun x s₄ h₄ => ?_) fun _ _ e => e
        obtain ⟨r2, t2, u2, v2, h₄, tk₄, rfl, rfl, F₄, N₄, hr2⟩ := h₄
        refine wpAny_pyIter_range hr2 (hsm i (by omega)) ?_
        rw [hsz']
        dsimp only
        have up : ∀ b o, h₄.get? b = some o → (h₄.push { cls := .type "range_iterator", data := .fields #[rawInt 0, rawInt i, rawInt 1] }).get? b = some o := fun b o e => Heap.get?_push_of_some _ e
        have gI2 : IsRangeIter (h₄.push { cls := .type "range_iterator", data := .fields #[rawInt 0, rawInt i, rawInt 1] }) h₄.objs.size 0 (i : Int) 1 := Heap.get?_push_size _ rfl
        have lt4 : ∀ p ∈ (I, _) :: (C, oC3) :: (D, lst ys) :: (tups ++ news), p.1 ≠ h₄.objs.size := fun p hp => Nat.ne_of_lt (Heap.lt_size (N₄ p hp).1)
        have N₅ := N₄.grown up
        have F₅ := F₄.keeps up
        have hin : codeAny (model prog w) A (.compLoop (.ListComp elt [⟨.Name x1 px, iter, [], 0⟩, ⟨.Name x2 px2, iter2, [], 0⟩] scope pos) 1 (.ref h₄.objs.size) (.ref D) (compEnvC scope cl C env)) (fun r s₅ => r = .ok .next ∧ ∃ m_1, m_1 < n + 1 - i ∧ ∃ h' tk i ys tups m', s₅ = { s with heap := h', toks := tk } ∧ i ≤ n ∧ m_1 = n + 1 - i ∧ IsRangeIter h' I ((0 : Int) + (i : Nat) * 1) ((n : Int) - (i : Nat)) 1 ∧ Fr h₀ L h' m ∧ h'.Ns C m' ∧
        News h₀ L h' ((D, lst ys) :: (tups ++ news)) ∧ (∀ p ∈ tups ++ news, p.1 ≠ I ∧ p.1 ≠ C ∧ p.1 ≠ D) ∧ (∀ p ∈ tups, ∀ q ∈ news, q.1 < p.1) ∧ PairsIn tups ys (preP i)) { s with heap := h₄.push { cls := .type "range_iterator", data := .fields #[rawInt 0, rawInt i, rawInt 1] }, toks := tk₄ } := by
          refine inner2 (oI2 := { cls := .type "range_iterator", data := .fields #[rawInt 0, rawInt i, rawInt 1] }) (x1 := x1) (i := i) (n := i) (ti := t) (qs := preP i) (s := { s with heap := h₄.push { cls := .type "range_iterator", data := .fields #[rawInt 0, rawInt i, rawInt 1] }, toks := tk₄ }) hh hkind hx2 hxx F₅ hoC3 (by simp) gI2 (fun p hp => ?_) lt4 hIC hID hCD off' hab hP (hlen i hlt) (fun j hj tj oI2 oC D' oD m₃ h tk nw E' => elt2 i hlt j hj _ tj _ _ _ _ D' oI2 oC oD m₃ h tk nw E') ?_
          · rcases List.mem_cons.mp hp with rfl | hp
            · exact ⟨gI2, Nat.ne_of_gt F₄.ns.lt, by
                cases e : h₀.get? h₄.objs.size with
                | none => rfl
                | some o' => exact absurd (Heap.lt_size (F₄.keep _ o' e)) (Nat.lt_irrefl _)⟩
            · exact N₅ p hp
          · intro h₆ tk₆ oC₆ m₆ ys₆ tups₆ F₆ hoC₆ N₆ off₆ hab₆ hP₆
            refine ⟨rfl, n + 1 - (i + 1), by omega, h₆, tk₆, i + 1, ys₆, tups₆, m₆, rfl, hlt, rfl, (N₆ _ (.head _)).1, F₆, hoC₆.ns (N₆ _ (.tail _ (.head _))).1, fun p hp => N₆ p (.tail _ (.tail _ hp)), off₆, hab₆, by rw [preP_succ]; exact hP₆⟩
        exact compStart1 hin (wpAny_pyIter_rangeiter gI2 hin)
      · obtain rfl : i = n := Nat.le_antisymm hi (Nat.not_lt.mp hlt)
        refine W.done _ _ _ hst fun h₂ tk₂ hk₂ => ?_
        exact fin D h₂ tk₂ ys tups (fr_but F' hk₂ (Ne.symm hIL) hI₀) (news_but N' hk₂ fun p hp => by
          rcases List.mem_cons.mp hp with rfl | hp
          · exact Ne.symm hID
          · exact (off' p hp).1) hP (fun p hp => (off' p hp).2.2) (fun p hp => by have := offn p hp; show @LT.lt Nat _ p.1 D; omega) hab C m' (hn'.at' fun o e => hk₂ _ o (by simpa using Ne.symm hIC) e) hCL hDL hC₀ hCD (fun p hp => (off' p hp).2.1)
    · rcases List.mem_cons.mp hp with rfl | hp
      · exact ⟨gD, hDL, hD₀⟩
      · have z := N p hp; exact ⟨old _ _ z.1, z.2⟩
    · have := offn p hp
      exact ⟨neN _ _ (by omega), neN _ _ (by omega), neN _ _ (by omega)⟩
  exact codeAny_compStart_list (loop _ rfl) (wpAny_pyIter_rangeiter gI (loop _ rfl))
end
end Mine

/-! ## D9 -/
namespace Mine
open PySem PySem.W PySem.Calls PyProof.Rows PyProof.Rows.LCg
open Sem (wp)
set_option maxRecDepth 100000
set_option maxHeartbeats 2000000
/-- the items whose index is wanted -/
def selI {α : Type} (p : Nat → Bool) (items : List α) (n : Nat) : List α := (List.range n).filterMap fun i => if p i then items[i]? else none
theorem selI_succ {α : Type} (p : Nat → Bool) (items : List α) (n : Nat) {v : α} (h : items[n]? = some v) : selI p items (n + 1) = selI p items n ++ (if p n then [v] else []) := by
  unfold selI
  rw [List.range_succ, List.filterMap_append]
  congr 1
  cases hp : p n <;> simp [hp, h]
section
variable {prog : Program} {w : World} {A : Around} {E : Value → Shared → Prop} {s : Shared} {h₀ : Heap} {L : Addr} {m : Str → Option Value} {env : Env}
variable {elt iter : PySem.Expr} {ifs : List PySem.Expr} {scope : Scope} {cl : List (Str × Addr)} {pos : Pos} {news : List (Addr × Obj)}
variable {use : Option (Value → Sem Unit)} {Q : Value → Shared → Prop}

theorem compE {xi xv : Str} {pi pv pt : Pos} {x1} {l : Addr} {vs : List Value} {cap : Nat} (hh : A.handled = none) (F : Fr h₀ L s.heap m) (N : News h₀ L s.heap news) (hl : (l, listOf vs.toArray cap) ∈ news) (hsz : vs.length ≤ 1000) (p : Nat → Bool)
    (hcell : ∀ y ∈ scope.names, y.2 ≠ .cell) (hkind : scope.kind = .function) (hxi : scope.names.lookup xi = some .local) (hxv : scope.names.lookup xv = some .local) (hxx : xi ≠ xv)
    (turn : ∀ (j : Nat) (v : Value), vs[j]? = some v → ∀ t e oe it oit C oC D oD m₂ h tk (E' : Value → Shared → Prop), NsObj oC m₂ → m₂ xi = some (.int (j : Int) t) → m₂ xv = some v → Fr h₀ L h m → News h₀ L h ((e, oe) :: (it, oit) :: (C, oC) :: (D, oD) :: news) →
      wpAny (model prog w) A (tests ifs (compEnvC scope cl C env)) (fun ok s₃ => if ok = true then wpAny (model prog w) A (eval elt (compEnvC scope cl C env)) (fun y s₄ => (y = v ∧ p j = true) ∧ Ek h₀ L m s ((e, oe) :: (it, oit) :: (C, oC) :: (D, oD) :: news) s₄) E' s₃
        else p j = false ∧ Ek h₀ L m s ((e, oe) :: (it, oit) :: (C, oC) :: (D, oD) :: news) s₃) E' { s with heap := h, toks := tk })
    (fin : ∀ D h tk, Fr h₀ L h m → News h₀ L h ((D, lst (selI p vs vs.length)) :: news) → (∀ q ∈ news, q.1 < D) → ∀ (C : Addr) (m' : Str → Option Value), h.Ns C m' → C ≠ L → D ≠ L → h₀.get? C = none → C ≠ D → (∀ p ∈ news, p.1 ≠ C) →
      compPost (model prog w) A E use Q (.ref D) C (.ok .next) { s with heap := h, toks := tk }) :
    wpAny (model prog w) A (call (.type "enumerate") [.ref l]) (SrcL prog w A env elt (.Tuple [.Name xi pi, .Name xv pv] x1 pt) iter ifs scope cl pos use Q E) E s := by
  refine call_enumerate_list (items := vs.toArray) ⟨_, (N _ hl).1, rfl, _, rfl⟩ fun h1 he1 hit1 hz1 hk1 => ?_
  unfold SrcL
  refine wpAny_pyIter_enum he1 ?_
  obtain ⟨it, hit⟩ : ∃ it : Addr, it = s.heap.objs.size := ⟨_, rfl⟩
  obtain ⟨e, hee⟩ : ∃ e : Addr, e = it + 1 := ⟨_, rfl⟩
  rw [← hit, ← hee] at he1
  rw [← hit] at hit1 hz1
  rw [← hit, ← hee]
  refine wpAny_newObj_type (wpAny_newFunctionEnv hcell (by intro y hy; simp at hy) (fun h₁ hns₁ hsb₁ => ?_) hkind)
  dsimp only at hns₁ hsb₁ ⊢
  generalize hH2 : h1.push { cls := .type "list", dict := none, data := .seq ([] : List Value).toArray } = H2 at hns₁ hsb₁ ⊢
  have s1 : @Eq Nat h1.objs.size (s.heap.objs.size + 2) := by rw [hz1, hit]
  have s2 : @Eq Nat H2.objs.size (s.heap.objs.size + 3) := by rw [← hH2, Heap.size_push, s1]
  obtain ⟨D, hD⟩ : ∃ D : Addr, D = h1.objs.size := ⟨_, rfl⟩
  obtain ⟨C, hC⟩ : ∃ C : Addr, C = H2.objs.size := ⟨_, rfl⟩
  have dI : @Eq Nat it s.heap.objs.size := hit
  have de : @Eq Nat e (s.heap.objs.size + 1) := by rw [hee, hit]
  have dD : @Eq Nat D (s.heap.objs.size + 2) := hD.trans s1
  have dC : @Eq Nat C (s.heap.objs.size + 3) := hC.trans s2
  rw [← hC] at hns₁ hsb₁
  rw [← hD, ← hC]
  have neN : ∀ (a b : Addr), @Ne Nat a b → a ≠ b := fun a b h e => h e
  have old1 : ∀ b o, h1.get? b = some o → h₁.get? b = some o := fun b o e => by
    have hb : @LT.lt Nat _ b h1.objs.size := Heap.lt_size e
    refine hsb₁.extBut b o (neN _ _ (by omega)) (Heap.get?_push_of_some _ ?_)
    rw [← hH2]
    exact Heap.get?_push_of_some _ e
  have old : ∀ b o, s.heap.get? b = some o → h₁.get? b = some o := fun b o e => old1 b o (hk1 b o e)
  have gD : h₁.get? D = some (lst []) := by
    refine hsb₁.extBut D _ (neN _ _ (by omega)) (Heap.get?_push_of_some _ ?_)
    rw [hD, ← hH2]
    exact Heap.get?_push_size _ rfl
  obtain ⟨oi1, hoi1, hoic1⟩ := id hit1
  have fresh₀ : ∀ a : Addr, @LE.le Nat _ s.heap.objs.size a → h₀.get? a = none := fun a ha => by
    cases e : h₀.get? a with
    | none => rfl
    | some o' => exact absurd (Heap.lt_size (F.keep a o' e)) (Nat.not_lt.mpr ha)
  have hLlt : @LT.lt Nat _ L s.heap.objs.size := F.ns.lt
  have offn : ∀ p ∈ news, @LT.lt Nat _ p.1 s.heap.objs.size := fun p hp => Heap.lt_size (N p hp).1
  have hiL : it ≠ L := neN _ _ (by omega)
  have heL : e ≠ L := neN _ _ (by omega)
  have hDL : D ≠ L := neN _ _ (by omega)
  have hCL : C ≠ L := neN _ _ (by omega)
  have hei : e ≠ it := neN _ _ (by omega)
  have hCe : C ≠ e := neN _ _ (by omega)
  have hCi : C ≠ it := neN _ _ (by omega)
  have hDe : D ≠ e := neN _ _ (by omega)
  have hDi : D ≠ it := neN _ _ (by omega)
  have hCD : C ≠ D := neN _ _ (by omega)
  have hi₀ := fresh₀ it (by omega)
  have he₀ := fresh₀ e (by omega)
  have hD₀ := fresh₀ D (by omega)
  have hC₀ := fresh₀ C (by omega)
  have on : ∀ p ∈ news, p.1 ≠ e ∧ p.1 ≠ it ∧ p.1 ≠ C ∧ p.1 ≠ D := fun p hp => by
    have := offn p hp
    exact ⟨neN _ _ (by omega), neN _ _ (by omega), neN _ _ (by omega), neN _ _ (by omega)⟩
  have loop : ∀ s₃ : Shared, s₃ = { s with heap := h₁, toks := s.toks + ([] : List (Str × Value)).length } →
      codeAny (model prog w) A (.compLoop (.ListComp elt [⟨.Tuple [.Name xi pi, .Name xv pv] x1 pt, iter, ifs, 0⟩] scope pos) 0 (.ref e) (.ref D) (compEnvC scope cl C env)) (compPost (model prog w) A E use Q (.ref D) C) s₃ := by
    rintro s₃ rfl
    refine cLoopT
      (fun k s' => ∃ h' tk j m' old oit, s' = { s with heap := h', toks := tk } ∧ j ≤ vs.length ∧ k = vs.length + 1 - j ∧ (oit.cls = .type "list_iterator" ∧ oit.data = .fields #[.ref l, .int (j : Nat) 0]) ∧ Fr h₀ L h' m ∧ h'.Ns C m' ∧
        News h₀ L h' ((e, { cls := .type "enumerate", dict := none, data := .fields #[.none, .bool false, .ref it, rawInt (j : Nat), .none, old], slots := #[] }) :: (it, oit) :: (D, lst (selI p vs j)) :: news)) ?_ (vs.length + 1)
      ⟨h₁, _, 0, _, .none, oi1, rfl, Nat.zero_le _, rfl, hoic1, F.keeps old, hns₁, fun q hq => ?_⟩
    · rintro k s' ⟨h3, tk3, j, m3, oldv, oit, rfl, hj, rfl, hoit, F3, hn3, N3⟩
      have he3 : IsEnum h3 e it ((j : Nat) : Int) oldv := (N3 _ (.head _)).1
      have hit3 : h3.IsListIter it l j := ⟨oit, (N3 _ (.tail _ (.head _))).1, hoit⟩
      have hil : h3.IsList l vs.toArray := ⟨_, (N3 _ (.tail _ (.tail _ (.tail _ hl)))).1, rfl, _, rfl⟩
      by_cases hjl : j < vs.length
      · have hx0 : vs[j]? = some vs[j] := List.getElem?_eq_getElem hjl
        obtain ⟨v, hv⟩ : ∃ v, v = vs[j] := ⟨_, rfl⟩
        rw [← hv] at hx0
        have hx : vs.toArray[j]? = some v := by simpa using hx0
        have heH : e < h3.objs.size := lt_get he3
        have hLH : L < h3.objs.size := F3.ns.lt
        have hCH : C < h3.objs.size := hn3.lt
        obtain ⟨oi, hoi, _⟩ := id hit3
        have hiH : it < h3.objs.size := lt_get hoi
        refine wpAny_pyNext_enum_item he3 hit3 hil hx hei fun h₁ heo hit₁ ht₁ hz₁ hk₁ => ?_
        dsimp only at hz₁ ht₁ hk₁ heo ⊢
        refine wpAny_letOwnedTupleGo_enum heo fun h₂ he₂ hs₂ => ?_
        replace hs₂ : Heap.SameBut e h₁ h₂ := hs₂
        have ht₂ : h₂.IsTuple h3.objs.size #[.int j tk3, v] := ⟨_, (hs₂.2 _ (Nat.ne_of_gt heH)).trans ht₁, rfl, _, rfl⟩
        have hz₂ : h₂.objs.size = h3.objs.size + 1 := hs₂.1.trans hz₁
        refine wpAny_assign_Tuple hh ht₂ rfl rfl fun h₃ hx₃ => ?_
        replace hx₃ : Heap.ExtBut h₂.objs.size h₂ h₃ := hx₃
        have old₃ : ∀ b o, b < h3.objs.size → h₂.get? b = some o → h₃.get? b = some o := fun b o hb x => hx₃ b o (by rw [hz₂]; exact Nat.ne_of_lt (Nat.lt_succ_of_lt hb)) x
        have hn₃ : h₃.Ns C m3 := (hn3.at' fun o x => hk₁ _ o hCe hCi x).sameBut hs₂ hCe |>.at' fun o x => old₃ _ o hCH x
        show wpAny _ A (do holding [v] (assign (.Name xi pi) (compEnvC scope cl C env) (.int j tk3)); do holding [] (assign (.Name xv pv) (compEnvC scope cl C env) v); pure ()) _ _ _
        refine wpAny_bind (wpAny_holding (wpAny_assign_Name (wpAny_storeName_local (lookup_relabel_local hxi) hn₃ (fun h₄ hn₄ hs₄ => ?_) (by simp [compEnvC, relabel, hkind]))))
        replace hs₄ : Heap.SameBut C h₃ h₄ := hs₄
        refine wpAny_bind (wpAny_holding (wpAny_assign_Name (wpAny_storeName_local (lookup_relabel_local hxv) hn₄ (fun h₅ hn₅ hs₅ => wpAny_pure ?_) (by simp [compEnvC, relabel, hkind]))))
        replace hs₅ : Heap.SameBut C h₄ h₅ := hs₅
        have up : ∀ b o, b ≠ C → b < h3.objs.size → h₂.get? b = some o → h₅.get? b = some o := fun b o hbC hb x => hs₅.extBut b o hbC (hs₄.extBut b o hbC (old₃ b o hb x))
        have upo : ∀ b o, b ≠ C → b ≠ e → b ≠ it → h3.get? b = some o → h₅.get? b = some o := fun b o hbC hbe hbi x => up b o hbC (lt_get x) (hs₂.extBut b o hbe (hk₁ b o hbe hbi x))
        have ne0 : ∀ (a b : Addr) (o : Obj), h₀.get? a = none → h₀.get? b = some o → b ≠ a := fun a b o h1 h2 q => by rw [q, h1] at h2; cases h2
        have F5 : Fr h₀ L h₅ m := ⟨F3.ns.at' fun o x => upo _ o (Ne.symm hCL) (Ne.symm heL) (Ne.symm hiL) x, fun b o x => upo b o (ne0 _ _ o hC₀ x) (ne0 _ _ o he₀ x) (ne0 _ _ o hi₀ x) (F3.keep b o x), F3.above⟩
        obtain ⟨oit5, ho5, hoit5⟩ := ((hit₁.extBut hs₂.extBut (Ne.symm hei)).at fun o x => up it o (Ne.symm hCi) hiH x)
        obtain ⟨oC5, heC5, hoC5⟩ := ns_obj hn₅
        have N5 : News h₀ L h₅ ((e, { cls := .type "enumerate", dict := none, data := .fields #[.none, .bool false, .ref it, rawInt ((j + 1 : Nat) : Int), .none, v], slots := #[] }) :: (it, oit5) :: (C, oC5) :: (D, lst (selI p vs j)) :: news) := fun q hq => by
          rcases List.mem_cons.mp hq with rfl | hq
          · have he5 := up e _ (Ne.symm hCe) heH he₂
            exact ⟨by push_cast; exact he5, heL, he₀⟩
          rcases List.mem_cons.mp hq with rfl | hq
          · exact ⟨ho5, hiL, hi₀⟩
          rcases List.mem_cons.mp hq with rfl | hq
          · exact ⟨heC5, hCL, hC₀⟩
          rcases List.mem_cons.mp hq with rfl | hq
          · have z := N3 _ (.tail _ (.tail _ (.head _)))
            exact ⟨upo _ _ (Ne.symm hCD) hDe hDi z.1, z.2⟩
          · have z := N3 q (.tail _ (.tail _ (.tail _ hq)))
            exact ⟨upo _ _ (on q hq).2.2.1 (on q hq).1 (on q hq).2.1 z.1, z.2⟩
        refine wpAny_mono (turn j v hx0 tk3 e _ it oit5 C oC5 D _ _ h₅ _ _ hoC5 (by simp [hxx]) (by simp) F5 N5) (fun ok s₄ h₄ => ?_) fun _ _ e => e
        cases ok with
        | true =>
          simp only [if_true] at h₄ ⊢
          refine wpAny_mono h₄ (fun y s₅ h₅ => ?_) fun _ _ e => e
          obtain ⟨⟨rfl, hp⟩, h₆, tk₆, rfl, F₆, N₆⟩ := h₅
          have hsl : (selI p vs j).length ≤ j := Nat.le_trans (List.length_filterMap_le _ _) (by rw [List.length_range]; exact Nat.le_refl _)
          refine append_at (hsz := by show (selI p vs j).toArray.size ≤ sizeLine; rw [List.size_toArray, sizeLine_eq]; omega) (N₆ (D, lst (selI p vs j)) (.tail _ (.tail _ (.tail _ (.head _))))).1 fun h₇ hs₇ hD₇ => ?_
          have old7 : ∀ b o, b ≠ D → h₆.get? b = some o → h₇.get? b = some o := fun b o hb e => hs₇.extBut b o hb e
          refine ⟨vs.length + 1 - (j + 1), by omega, h₇, tk₆, j + 1, _, y, oit5, rfl, hjl, rfl, hoit5, F₆.change hs₇ hDL hD₀, (hoC5.ns (N₆ _ (.tail _ (.tail _ (.head _)))).1).sameBut hs₇ hCD, fun q hq => ?_⟩
          rcases List.mem_cons.mp hq with rfl | hq
          · have z := N₆ _ (.head _); exact ⟨old7 _ _ (Ne.symm hDe) z.1, z.2⟩
          rcases List.mem_cons.mp hq with rfl | hq
          · have z := N₆ _ (.tail _ (.head _)); exact ⟨old7 _ _ (Ne.symm hDi) z.1, z.2⟩
          rcases List.mem_cons.mp hq with rfl | hq
          · refine ⟨?_, hDL, hD₀⟩
            rw [selI_succ p vs j hx0, if_pos hp]
            exact hD₇.trans (congrArg some (lst_snoc _ _))
          · have z := N₆ q (.tail _ (.tail _ (.tail _ (.tail _ hq)))); exact ⟨old7 _ _ (on q hq).2.2.2 z.1, z.2⟩
        | false =>
          simp only [Bool.false_eq_true, if_false] at h₄ ⊢
          obtain ⟨hp, h₆, tk₆, rfl, F₆, N₆⟩ := h₄
          refine ⟨vs.length + 1 - (j + 1), by omega, h₆, tk₆, j + 1, _, v, oit5, rfl, hjl, rfl, hoit5, F₆, hoC5.ns (N₆ _ (.tail _ (.tail _ (.head _)))).1, fun q hq => ?_⟩
          rw [selI_succ p vs j hx0, hp] at hq
          simp only [Bool.false_eq_true, if_false, List.append_nil] at hq
          rcases List.mem_cons.mp hq with rfl | hq
          · exact N₆ _ (.head _)
          rcases List.mem_cons.mp hq with rfl | hq
          · exact N₆ _ (.tail _ (.head _))
          rcases List.mem_cons.mp hq with rfl | hq
          · exact N₆ _ (.tail _ (.tail _ (.tail _ (.head _))))
          · exact N₆ q (.tail _ (.tail _ (.tail _ (.tail _ hq))))
      · have hje : j = vs.length := by omega
        subst hje
        refine wpAny_pyNext_enum_end hh he3 hit3 hil (by rw [Array.getElem?_eq_none_iff]; simp) fun h4 hs4 => ?_
        have hs4 : Heap.ExtBut it h3 h4 := hs4
        have N4 : News h₀ L h4 ((D, lst (selI p vs vs.length)) :: news) := fun q hq => by
          have z := N3 q (.tail _ (.tail _ hq))
          refine ⟨hs4 _ _ ?_ z.1, z.2⟩
          rcases List.mem_cons.mp hq with rfl | hq
          · exact hDi
          · exact (on q hq).2.1
        have F4 : Fr h₀ L h4 m := ⟨F3.ns.extBut hs4 (Ne.symm hiL), fun b o x => hs4 b o (fun q => by rw [q, hi₀] at x; cases x) (F3.keep b o x), F3.above⟩
        exact fin D h4 tk3 F4 N4 (fun q hq => by have := offn q hq; show @LT.lt Nat _ q.1 D; omega) C m3 (hn3.at' fun o x => hs4 C o hCi x) hCL hDL hC₀ hCD (fun q hq => (on q hq).2.2.1)
    · rcases List.mem_cons.mp hq with rfl | hq
      · exact ⟨old1 _ _ he1, heL, he₀⟩
      rcases List.mem_cons.mp hq with rfl | hq
      · exact ⟨old1 _ _ hoi1, hiL, hi₀⟩
      rcases List.mem_cons.mp hq with rfl | hq
      · exact ⟨gD, hDL, hD₀⟩
      · have z := N q hq; exact ⟨old _ _ z.1, z.2⟩
  exact codeAny_compStart_list (loop _ rfl) (wpAny_pyIter_enum (old1 _ _ he1) (loop _ rfl))
end
end Mine

/-! ## F4 -/
namespace Mine
open PySem PySem.W PySem.Calls PyProof.Rows PyProof.Rows.LCg
open Sem (wp)
set_option maxRecDepth 100000
set_option maxHeartbeats 1000000

def NextG (h₀ : Heap) (L : Addr) (J : Nat → (Str → Option Value) → List (Addr × Obj) → Prop) (j : Nat) (it : Addr) (oit : Obj) (s₀ s₃ : Shared) : Prop :=
  ∃ h3 tk3 m3 news3, s₃ = { s₀ with heap := h3, toks := tk3 } ∧ J j m3 news3 ∧ Fr h₀ L h3 m3 ∧ News h₀ L h3 ((it, oit) :: news3) ∧ ∀ q ∈ news3, q.1 ≠ it

section
variable {prog : Program} {w : World} {A : Around} {s : Shared} {E : Value → Shared → Prop} {h₀ : Heap} {L : Addr} {m : Str → Option Value} {news : List (Addr × Obj)}

theorem forG {R : Result → Shared → Prop} {x : Str} {px : Pos} {body : List Stmt} {env : Env} {I : Addr} {fp : List Addr} {n : Nat} {P : Nat → Value → Prop} {St : Nat → Heap → Prop} (W : Walks prog w A I fp [I] n P St)
    (hIo : ∀ i h, St i h → ∃ o, h.get? I = some o) (hst : St 0 s.heap) (F : Fr h₀ L s.heap m) (N : News h₀ L s.heap news) (hIL : I ≠ L) (hI0 : h₀.get? I = none) (off : ∀ q ∈ news, q.1 ≠ I)
    (J : Nat → (Str → Option Value) → List (Addr × Obj) → Prop) (h0 : J 0 m news)
    (hSt : ∀ i j h h' o nw m', St i h → h.get? I = some o → h'.get? I = some o → News h₀ L h' nw → J j m' nw → St i h')
    (turn : ∀ j v h' tk m' news' oit, j < n → P j v → J j m' news' → Fr h₀ L h' m' → News h₀ L h' ((I, oit) :: news') → (∀ q ∈ news', q.1 ≠ I) →
      wpAny (model prog w) A (assign (.Name x px) env v) (fun _ s₂ => wpAny (model prog w) A (execs body env) (fun f s₃ => match f with
            | .next | .cont => Stop (NextG h₀ L J (j + 1) I oit s s₃)
            | .brk => R (.ok .next) s₃
            | .ret v => R (.ok (.ret v)) s₃) (notedBy (model prog w) A env fun e s' => R (.error e) s') s₂) (notedBy (model prog w) A env fun e s' => R (.error e) s') { s with heap := h', toks := tk })
    (done : ∀ h' tk m' news', J n m' news' → Fr h₀ L h' m' → News h₀ L h' news' → R (.ok .next) { s with heap := h', toks := tk }) :
    codeAny (model prog w) A (.forLoop (.Name x px) (.ref I) body [] env) R s := by
  refine forLoopA (fun _ kk s' => ∃ j h3 tk3 m3 news3, kk = n - j ∧ j ≤ n ∧ s' = { s with heap := h3, toks := tk3 } ∧ St j h3 ∧ J j m3 news3 ∧ Fr h₀ L h3 m3 ∧ News h₀ L h3 news3 ∧ ∀ q ∈ news3, q.1 ≠ I) ?_ n
    ⟨0, s.heap, s.toks, m, news, rfl, Nat.zero_le _, rfl, hst, h0, F, N, off⟩
  rintro kk s' ⟨j, h3, tk3, m3, news3, rfl, hj, rfl, hst3, hJ3, F3, N3, off3⟩
  by_cases hjl : j < n
  · refine W.item j _ _ _ hjl hst3 fun v h₂ tk₂ hPv hst₂ hk₂ => ?_
    obtain ⟨oit, heI⟩ := hIo _ _ hst₂
    have F4 : Fr h₀ L h₂ m3 := fr_but F3 hk₂ (Ne.symm hIL) hI0
    have N4' : News h₀ L h₂ news3 := news_but N3 hk₂ off3
    have N4 : News h₀ L h₂ ((I, oit) :: news3) := fun q hq => by
      rcases List.mem_cons.mp hq with rfl | hq
      · exact ⟨heI, hIL, hI0⟩
      · exact N4' q hq
    refine own_Name ?_
    refine wpAny_mono (turn j v h₂ tk₂ m3 news3 oit hjl hPv hJ3 F4 N4 off3) (fun _ s₂ h₂' => wpAny_mono h₂' (fun f s₃ h₃ => ?_) fun _ _ x => x) fun _ _ x => x
    have fin : Stop (NextG h₀ L J (j + 1) I oit s s₃) → Stop (∃ m_1, m_1 < n - j ∧ ∃ j h3 tk3 m3 news3, m_1 = n - j ∧ j ≤ n ∧ s₃ = { s with heap := h3, toks := tk3 } ∧ St j h3 ∧ J j m3 news3 ∧ Fr h₀ L h3 m3 ∧ News h₀ L h3 news3 ∧ ∀ q ∈ news3, q.1 ≠ I) := by
      rintro ⟨h5, tk5, m5, news5, rfl, hJ5, F5, N5, off5⟩
      exact ⟨n - (j + 1), by omega, j + 1, h5, tk5, m5, news5, rfl, hjl, rfl, hSt _ _ _ _ _ _ _ hst₂ heI (N5 _ (.head _)).1 (fun q hq => N5 q (.tail _ hq)) hJ5, hJ5, F5, (fun q hq => N5 q (.tail _ hq)), off5⟩
    cases f with
    | next => exact fin h₃
    | cont => exact fin h₃
    | brk => exact h₃
    | ret v => exact h₃
  · have hje : j = n := by omega
    subst hje
    refine W.done _ _ _ hst3 fun h₂ tk₂ hk₂ => ?_
    exact wpAny_execs_nil (done h₂ tk₂ m3 news3 hJ3 (fr_but F3 hk₂ (Ne.symm hIL) hI0) (news_but N3 hk₂ off3))

/-- for over a range object -/
theorem forR {R : Result → Shared → Prop} {x : Str} {px : Pos} {body : List Stmt} {env : Env} {r : Addr} {n : Nat} {t u v : Tok} (hh : A.handled = none) (F : Fr h₀ L s.heap m) (N : News h₀ L s.heap news) (hr : IsRange s.heap r 0 (n : Int) 1 t u v) (hsz : n ≤ 1000)
    (J : Nat → (Str → Option Value) → List (Addr × Obj) → Prop) (h0 : J 0 m news)
    (turn : ∀ j tj h' tk m' news' I oit, j < n → J j m' news' → Fr h₀ L h' m' → News h₀ L h' ((I, oit) :: news') → (∀ q ∈ news', q.1 ≠ I) → (∀ q ∈ news, q.1 < I) →
      wpAny (model prog w) A (assign (.Name x px) env (.int (j : Int) tj)) (fun _ s₂ => wpAny (model prog w) A (execs body env) (fun f s₃ => match f with
            | .next | .cont => Stop (NextG h₀ L J (j + 1) I oit s s₃)
            | .brk => R (.ok .next) s₃
            | .ret v => R (.ok (.ret v)) s₃) (notedBy (model prog w) A env fun e s' => R (.error e) s') s₂) (notedBy (model prog w) A env fun e s' => R (.error e) s') { s with heap := h', toks := tk })
    (done : ∀ h' tk m' news', J n m' news' → Fr h₀ L h' m' → News h₀ L h' news' → R (.ok .next) { s with heap := h', toks := tk }) :
    wpAny (model prog w) A (pyIter (.ref r)) (fun it s₂ => codeAny (model prog w) A (.forLoop (.Name x px) it body [] env) R s₂) E s := by
  have hsz' : Builtin.Range.rangeSize 0 (n : Int) 1 = n := by
    unfold Builtin.Range.rangeSize
    rw [if_pos (by decide)]
    by_cases h : (0 : Int) < n
    · rw [if_pos h]; omega
    · rw [if_neg h]; omega
  have hsm : Builtin.Range.small 0 (n : Int) 1 = true := by
    unfold Builtin.Range.small
    rw [hsz']
    simp [Builtin.Range.rangeFitsLong]
    omega
  refine wpAny_pyIter_range hr hsm ?_
  rw [hsz']
  have up : ∀ b o, s.heap.get? b = some o → (s.heap.push { cls := .type "range_iterator", data := .fields #[rawInt 0, rawInt n, rawInt 1] }).get? b = some o := fun b o e => Heap.get?_push_of_some _ e
  have hlt : ∀ q ∈ news, @LT.lt Nat _ q.1 s.heap.objs.size := fun q hq => Heap.lt_size (N q hq).1
  refine forG (s := { s with heap := s.heap.push { cls := .type "range_iterator", data := .fields #[rawInt 0, rawInt n, rawInt 1] } }) (Walks.range hh s.heap.objs.size 0 1 n) (fun i h st => ⟨_, st⟩) ?_ (F.keeps up) (N.grown up) (Nat.ne_of_gt F.ns.lt) (next_is_new F) (fun q hq => Nat.ne_of_lt (hlt q hq)) J h0 (fun i j h h' o nw m' st e e' _ _ => ?_) (fun j v h' tk m' news' oit hj hv hJ F' N' off => ?_) done
  · have e1 : ((0 : Int) + ((0 : Nat) : Int) * 1) = 0 := by omega
    have e2 : ((n : Int) - ((0 : Nat) : Int)) = n := by omega
    show IsRangeIter _ _ _ _ _
    rw [e1, e2]
    exact Heap.get?_push_size _ rfl
  · have st : h.get? s.heap.objs.size = _ := st
    rw [st] at e; cases e; exact e'
  · obtain ⟨tj, rfl⟩ := hv
    have e : ((0 : Int) + (j : Nat) * 1) = (j : Nat) := by omega
    rw [e]
    exact turn j tj h' tk m' news' _ oit hj hJ F' N' off hlt

/-- for over a tuple of the ledger -/
theorem forT {R : Result → Shared → Prop} {x : Str} {px : Pos} {body : List Stmt} {env : Env} {a : Addr} {oa : Obj} {items : Array Value} {cap : Nat} (hh : A.handled = none) (F : Fr h₀ L s.heap m) (N : News h₀ L s.heap news) (hoc : oa.cls = .type "tuple") (hod : oa.data = .seq items cap)
    (J : Nat → (Str → Option Value) → List (Addr × Obj) → Prop) (h0 : J 0 m news) (hJ : ∀ j m nw, J j m nw → (a, oa) ∈ nw)
    (turn : ∀ j v h' tk m' news' I oit, items[j]? = some v → J j m' news' → Fr h₀ L h' m' → News h₀ L h' ((I, oit) :: news') → (∀ q ∈ news', q.1 ≠ I) → (∀ q ∈ news, q.1 < I) →
      wpAny (model prog w) A (assign (.Name x px) env v) (fun _ s₂ => wpAny (model prog w) A (execs body env) (fun f s₃ => match f with
            | .next | .cont => Stop (NextG h₀ L J (j + 1) I oit s s₃)
            | .brk => R (.ok .next) s₃
            | .ret v => R (.ok (.ret v)) s₃) (notedBy (model prog w) A env fun e s' => R (.error e) s') s₂) (notedBy (model prog w) A env fun e s' => R (.error e) s') { s with heap := h', toks := tk })
    (done : ∀ h' tk m' news', J items.size m' news' → Fr h₀ L h' m' → News h₀ L h' news' → R (.ok .next) { s with heap := h', toks := tk }) :
    wpAny (model prog w) A (pyIter (.ref a)) (fun it s₂ => codeAny (model prog w) A (.forLoop (.Name x px) it body [] env) R s₂) E s := by
  have ha := N _ (hJ _ _ _ h0)
  have ht : s.heap.IsTuple a items := ⟨_, ha.1, hoc, _, hod⟩
  have hlt : ∀ q ∈ news, @LT.lt Nat _ q.1 s.heap.objs.size := fun q hq => Heap.lt_size (N q hq).1
  refine wpAny_pyIter_tuple ht ?_
  have up : ∀ b o, s.heap.get? b = some o → (s.heap.push { cls := .type "tuple_iterator", data := .fields #[.ref a, .int 0 0] }).get? b = some o := fun b o e => Heap.get?_push_of_some _ e
  refine forG (s := { s with heap := s.heap.push { cls := .type "tuple_iterator", data := .fields #[.ref a, .int 0 0] } }) (Walks.tuple hh s.heap.objs.size a (Nat.ne_of_lt (Heap.lt_size ha.1)) items) (fun i h st => by obtain ⟨o, e, _⟩ := st.1; exact ⟨o, e⟩) ⟨⟨_, Heap.get?_push_size _ rfl, rfl, rfl⟩, ht.push _⟩ (F.keeps up) (N.grown up) (Nat.ne_of_gt F.ns.lt) (next_is_new F) (fun q hq => Nat.ne_of_lt (hlt q hq)) J h0 (fun i j h h' o nw m' st e e' Nw hJ' => ?_) (fun j v h' tk m' news' oit hj hv hJ F' N' off => ?_) done
  · obtain ⟨o1, e1, c1, d1⟩ := st.1
    rw [e] at e1; cases e1
    exact ⟨⟨_, e', c1, d1⟩, ⟨_, (Nw _ (hJ _ _ _ hJ')).1, hoc, _, hod⟩⟩
  · exact turn j v h' tk m' news' _ oit hv hJ F' N' off hlt
end
end Mine

/-! ## L2a -/
namespace Mine
open PySem PySem.W PySem.Calls PyProof.Rows
open Sem (wp)
set_option maxRecDepth 100000

theorem fillK4b : ∀ w : World, PySem.Challenge.rw_bh0019_01.Holds → hd.heap_39 w.params = hd.heap_39 w.params := by
  w_top off
  first | (walk1; fail) | skip
  k_fill
  intro _ _; rfl

local macro_rules | `(tactic| k_mem) => `(tactic| assumption)
local macro_rules | `(tactic| k_room) => `(tactic| ((simp only [depth_under_make, depth_under_kw, depth_in1, depth_deeper, depth_caller, Around.in1_units, Around.deeper_units]); omega))
local macro_rules | `(tactic| k_all) => `(tactic| first | assumption | exact allNe_of (by assumption) (by omega))
local macro_rules | `(tactic| walk_at "assign Tuple") => `(tactic| (k_here; (with_reducible show wpAny _ _ (assign (Expr.Tuple _ _ _) _ (Value.ref _)) _ _ _); k_dflt (refine' unpackN_ ?k1 ?k2 ?k3 ?k4 ?k5 ?k6 ?_; (case k1 => k_asm); (case k2 => k_asm); (case k3 => (exact News.isTup (by k_asm) (by k_mem))); (case k4 => assumption); (case k5 => exact rfl); (case k6 => exact rfl); k_whole); intro h' F' N'; (try k_sweep)))
local macro_rules | `(tactic| walk_at "eval Name") => `(tactic| (k_here; kc_free; k_dflt (refine' nameX_F ?N ?c ?m ?d ?_ ?a ?b; (case a => rfl); (case b => rfl); (case N => k_asm); (case c => rfl); (case m => k_mem); (case d => k_asm); k_whole)))
local macro_rules | `(tactic| walk_at "eval Name") => `(tactic| (k_here; k_dflt (refine' nameX_L ?k1 ?k2 ?_ ?k3 ?k4 ?k5; (case k3 => rfl); (case k4 => rfl); (case k5 => decide); (case k1 => k_asm); (case k2 => assumption); k_whole)))
local macro_rules | `(tactic| walk_at "compareOp In int ref") => `(tactic| (refine d_in (by k_asm) (by k_mem) (by k_asm) (by k_asm) ?_))

local macro_rules | `(tactic| walk_at "callWith ref") => `(tactic| (k_here; k_dflt (first
  | (refine' callWith_F ?k1 ?_; (case k1 => exact FnAt.of (by k_asm) (by k_mem)); k_whole)
  | (refine' callWith_F0 ?k1 ?_; (case k1 => exact FnAt.of (by k_asm) (by k_mem)); k_whole; try dsimp only [List.nil_append, List.cons_append]))))

local macro_rules | `(tactic| walk_at "exec Try") => `(tactic| (k_here; refine wpAny_Try_except ?_))

structure MOk (m : Str → Option Value) (pf af cst cl wl hcf : Addr) (mn : Int) : Prop where
  pf : m (Str.ofString "lookup_parents") = some (.ref pf)
  af : m (Str.ofString "lookup_stamp") = some (.ref af)
  cst : m (Str.ofString "cstates") = some (.ref cst)
  cl : m (Str.ofString "cands") = some (.ref cl)
  wl : m (Str.ofString "wlst") = some (.ref wl)
  hcf : m (Str.ofString "_has_candidates") = some (.ref hcf)
  a1 : ∃ t, m (Str.ofString "_ANC_OF_1") = some (.int 1 t)
  a2 : ∃ t, m (Str.ofString "_ANC_OF_2") = some (.int 2 t)
  a8 : ∃ t, m (Str.ofString "_LCA") = some (.int 8 t)
  mn : ∃ t, m (Str.ofString "min_stamp") = some (.int mn t)
  sh : m (Str.ofString "shallows") = some .none

section
variable {prog : Program} {w : World} {A₀ A : Around} {base h₀ : Heap} {outer : List Env} {L : Addr} {mg mb : Str → Option Value} {s : Shared}
  {p : Program} {loose : List Str} {mean : ExcName → Option Value} {E : Value → Shared → Prop} {Q : Flow → Shared → Prop}

theorem MOk.set {m : Str → Option Value} {pf af cst cl wl hcf : Addr} {mn : Int} (M : MOk m pf af cst cl wl hcf mn) {x : Str} {v : Value} (hx : x ∉ [Str.ofString "lookup_parents", Str.ofString "lookup_stamp", Str.ofString "cstates", Str.ofString "cands", Str.ofString "wlst", Str.ofString "_has_candidates", Str.ofString "_ANC_OF_1", Str.ofString "_ANC_OF_2", Str.ofString "_LCA", Str.ofString "min_stamp", Str.ofString "shallows"]) :
    MOk (fun y => if y = x then some v else m y) pf af cst cl wl hcf mn := by
  simp only [List.mem_cons, List.not_mem_nil, or_false, not_or] at hx
  obtain ⟨h1, h2, h3, h4, h5, h6, h7, h8, h9, h10, h11⟩ := hx
  constructor
  · rw [if_neg (Ne.symm h1)]; exact M.pf
  · rw [if_neg (Ne.symm h2)]; exact M.af
  · rw [if_neg (Ne.symm h3)]; exact M.cst
  · rw [if_neg (Ne.symm h4)]; exact M.cl
  · rw [if_neg (Ne.symm h5)]; exact M.wl
  · rw [if_neg (Ne.symm h6)]; exact M.hcf
  · rw [if_neg (Ne.symm h7)]; exact M.a1
  · rw [if_neg (Ne.symm h8)]; exact M.a2
  · rw [if_neg (Ne.symm h9)]; exact M.a8
  · rw [if_neg (Ne.symm h10)]; exact M.mn
  · rw [if_neg (Ne.symm h11)]; exact M.sh

theorem intsAre_get {vs : List Value} {ns : List Int} (h : IntsAre vs ns) : ∀ {i : Nat} {v : Value}, vs[i]? = some v → ∃ n t, v = .int n t ∧ ns[i]? = some n := by
  induction h with
  | nil => intro i v e; simp at e
  | cons n t r ih =>
    intro i v e
    cases i with
    | zero => simp at e; exact ⟨n, t, e.symm, rfl⟩
    | succ i => simp at e; obtain ⟨n', t', h1, h2⟩ := ih e; exact ⟨n', t', h1, by simpa using h2⟩

theorem DRel.mono {prog : Program} {w : World} {od : Obj} {c : Cst} {N N' : Nat} (D : DRel prog w od c N) (h : N ≤ N') : DRel prog w od c N' :=
  let ⟨kvs, h1, h2, h3⟩ := D; ⟨kvs, h1, Nat.le_trans h2 h, h3⟩

set_option maxHeartbeats 8000000 in
theorem lcas_tail {fd90 : FuncData} {oc90 : Value} {od90 : Option Addr} {osl90 : Array (Option Value)} {stmts : List Stmt} {test : PySem.Expr} {wbody tl : List Stmt} {wpos : Pos}
   (hK : (hd.heap_39 w.params).lookup 90 = some ⟨oc90, od90, .func fd90, osl90⟩) (hst : fd90.body = .stmts stmts) 
   (h11 : stmts[11]? = some (.While test wbody [] wpos)) (htl : wbody.drop 5 = tl)
   (B : Below A₀ base outer h₀) (X : (hd.heap_39 w.params).In h₀) (T : Top p loose mean mg mb h₀)
   (hA : A.frames = some (envOfC fd90.qualname fd90.scope L 90 (.ref 89) :: outer)) (hh : A.handled = none) (hdep : A.depth + 50 < recursionLimit) (hu : A.units + 150 < cLine)
   {pf af wl wld pql cst cl hcf : Addr} {mn : Int} {age : Int → Int} {par : Int → List Int} {dom : Int → Prop} {led : List (Addr × Obj)} {hsh : Int} {tq : Tok}
   (SA : AgeSpec prog w af led age dom) (SP : ParSpec prog w pf led par dom)
   (o2 : cst < pql) (lo : (cst == sysModules) = false)
   {m : Str → Option Value} {R : List (Addr × Obj)} {fda fdp : FuncData} {oca ocp : Value} {oda odp : Option Addr} {sla slp : Array (Option Value)} (hafo : (af, (⟨oca, oda, .func fda, sla⟩ : Obj)) ∈ R) (hpfo : (pf, (⟨ocp, odp, .func fdp, slp⟩ : Obj)) ∈ R) (hled : ∀ q ∈ led, q ∈ R) (hw : (wl, inst 80 wld) ∈ R) (hwd : (wld, qDict hsh tq pql) ∈ R) 
   {xs : Array Value} {n Nd : Nat} {ks : Array Key} {odc : Obj} {c : Cst} {pq : List Key} {x cf : Int} {tx tcf : Tok}
   (F : Fr h₀ L s.heap m) (N : News h₀ L s.heap ((pql, listOf xs n) :: (cst, odc) :: R)) (M : MOk m pf af cst cl wl hcf mn) (m_cmt : m (Str.ofString "cmt") = some (.int x tx)) (m_cf : m (Str.ofString "cflags") = some (.int cf tcf))
   (hsep1 : ∀ q ∈ R, q.1 ≠ pql) (hsep2 : ∀ q ∈ R, q.1 ≠ cst)
   {tups : List (Addr × Obj)} (hst2 : ∀ q ∈ tups, q ∈ R) (P : PQL tups xs ks) (H : IsHeap ks) (hperm : ks.toList.Perm pq) (D : DRel prog w odc c Nd)
   (hz : ks.size < 900) (hz2 : Nd < 9000) (hdx : dom x) (hdp : ∀ p ∈ par x, dom p) (hlen : (par x).length ≤ 4)
   (h : ∀ h' tk m' added xs' n' ks' odc', Fr h₀ L h' m' → News h₀ L h' ((pql, listOf xs' n') :: (cst, odc') :: (added ++ R)) → MOk m' pf af cst cl wl hcf mn →
      (∀ q ∈ added, pql < q.1) → PQL (added ++ tups) xs' ks' → IsHeap ks' → ks'.toList.Perm (pushPar age mn cf (par x) (c, pq)).2 → DRel prog w odc' (pushPar age mn cf (par x) (c, pq)).1 (Nd + 4) → ks'.size ≤ ks.size + 4 →
      Q .next { s with heap := h', toks := tk }) :
   wpAny (model prog w) A (execs tl (envOfC fd90.qualname fd90.scope L 90 (.ref 89))) Q E s := by
  have e90 := lk hK (by k_is)
  cases e90
  cases hst
  cases h11
  cases htl
  dsimp only at hA h ⊢
  have m_pf := M.pf
  have m_af := M.af
  have m_cst := M.cst
  have m_cl := M.cl
  have m_wl := M.wl
  obtain ⟨tmn, m_mn⟩ := M.mn
  have m_sh := M.sh
  k_steps
  (rename News h₀ _ _ _ => N9)
  (rename Fr h₀ _ _ _ => F9)
  refine SP (A := A) B F9 X T hA rfl rfl hh (by omega) (by omega) N9 (fun q hq => List.mem_cons_of_mem _ (List.mem_cons_of_mem _ (hled q hq))) hdx ?_
  intro h1 tk1 r vs nv F1 N1 hvs hr1
  clear F9 N9
  k_steps
  case refine_2 =>
    rename_i hno
    rename News h₀ _ _ _ => N9
    rename Fr h₀ _ _ _ => F9
    have e0 : par x = [] := by
      cases hx : par x with
      | nil => rfl
      | cons _ _ => rw [hx] at hno; exact absurd (Nat.succ_pos _) hno
    rw [e0] at h
    refine h _ _ _ [(r, listOf vs nv)] xs n ks odc F9 (fun q hq => N9 q ?_) (M.set (by decide)) (fun q hq => ?_) (P.mono fun q hq => List.mem_cons_of_mem _ hq) H hperm ?_ (by omega)
    · rcases List.mem_cons.mp hq with e | hq
      · exact List.mem_cons_of_mem _ (e ▸ .head _)
      rcases List.mem_cons.mp hq with e | hq
      · exact List.mem_cons_of_mem _ (List.mem_cons_of_mem _ (e ▸ .head _))
      rcases List.mem_cons.mp hq with e | hq
      · exact e ▸ .head _
      · exact List.mem_cons_of_mem _ (List.mem_cons_of_mem _ (List.mem_cons_of_mem _ hq))
    · rcases List.mem_cons.mp hq with e | hq
      · exact e ▸ hr1 _ (.head _)
      · cases hq
    · exact D.mono (by omega)
  rename_i hyes _
  rename News h₀ _ _ _ => N2
  rename Fr h₀ _ _ _ => F2
  refine wpAny_For ?_
  k_steps
  rename News h₀ _ _ _ => N9
  rename Fr h₀ _ _ _ => F9
  have hvl : vs.size = (par x).length := by have := hvs.length; simpa using this
  refine wpAny_pyIter_list (items := vs) ⟨_, (N9 _ (.head _)).1, rfl, _, rfl⟩ ?_
  rename Heap => h9
  obtain ⟨it, hit⟩ : ∃ it : Addr, it = h9.objs.size := ⟨_, rfl⟩
  have hitl : ∀ q ∈ (r, listOf vs nv) :: (pql, listOf xs n) :: (cst, odc) :: R, q.1 < it := fun q hq => hit ▸ lt_get (N9 q hq).1
  dsimp only
  rw [← hit]
  refine forLoopA (fun _ kk s' => ∃ j h3 tk3 m3 added xs3 n3 ks3 odc3 c3 pq3 oit, kk = vs.size - j ∧ j ≤ vs.size ∧ s' = { s with heap := h3, toks := tk3 } ∧ Fr h₀ L h3 m3 ∧
      News h₀ L h3 ((pql, listOf xs3 n3) :: (cst, odc3) :: (it, oit) :: (added ++ R)) ∧ (oit.cls = .type "list_iterator" ∧ oit.data = .fields #[.ref r, .int j 0]) ∧ MOk m3 pf af cst cl wl hcf mn ∧ m3 (Str.ofString "cflags") = some (.int cf tcf) ∧
      (r, listOf vs nv) ∈ added ∧ (∀ q ∈ added, pql < q.1) ∧ (∀ q ∈ added, q.1 ≠ it) ∧ PQL (added ++ tups) xs3 ks3 ∧ IsHeap ks3 ∧ ks3.toList.Perm pq3 ∧ DRel prog w odc3 c3 (Nd + j) ∧ ks3.size ≤ ks.size + j ∧
      pushPar age mn cf ((par x).drop j) (c3, pq3) = pushPar age mn cf (par x) (c, pq)) ?_ vs.size ⟨0, _, _, _, [(r, listOf vs nv)], xs, n, ks, odc, c, pq, ({ cls := .type "list_iterator", data := .fields #[.ref r, .int 0 0] } : Obj), rfl, Nat.zero_le _, rfl, F9.push _, ?i1, ⟨rfl, rfl⟩, M.set (by decide), m_cf, .head _, ?i2, ?i3, P.mono fun q hq => List.mem_cons_of_mem _ hq, H, hperm, D, Nat.le_refl _, rfl⟩
  case i1 =>
    have N9' := N9.push F9 { cls := .type "list_iterator", data := .fields #[.ref r, .int 0 0] }
    rw [← hit] at N9'
    refine fun q hq => N9' q ?_
    simp only [List.mem_cons, List.cons_append, List.nil_append] at hq ⊢
    rcases hq with e | e | e | e | e
    · exact .inr (.inr (.inl e))
    · exact .inr (.inr (.inr (.inl e)))
    · exact .inl e
    · exact .inr (.inl e)
    · exact .inr (.inr (.inr (.inr e)))
  case i2 =>
    intro q hq
    rcases List.mem_cons.mp hq with e | hq
    · exact e ▸ hr1 _ (.head _)
    · cases hq
  case i3 =>
    intro q hq
    rcases List.mem_cons.mp hq with e | hq
    · exact e ▸ Nat.ne_of_lt (hitl _ (.head _))
    · cases hq
  rintro kk s' ⟨j, h3, tk3, m3, added, xs3, n3, ks3, odc3, c3, pq3, oit, rfl, hj, rfl, F3, N3, hoit, M3, m_cf3, hradd, hadd1, hadd2, P3, H3, hperm3, D3, hz3, hpp⟩
  have hitR : ∀ q ∈ R, q.1 ≠ it := fun q hq => Nat.ne_of_lt (hitl q (.tail _ (.tail _ (.tail _ hq))))
  have hpi : pql < it := hitl _ (.tail _ (.head _))
  have hci : cst < it := hitl _ (.tail _ (.tail _ (.head _)))
  have N3r : News h₀ L h3 (added ++ R) := fun q hq => N3 q (.tail _ (.tail _ (.tail _ hq)))
  have hl3 : h3.IsList r vs := ⟨_, (N3r _ (List.mem_append_left _ hradd)).1, rfl, _, rfl⟩
  have hi3 : h3.IsListIter it r j := ⟨oit, (N3 _ (.tail _ (.tail _ (.head _)))).1, hoit⟩
  have hAR : ∀ q ∈ added ++ R, q.1 ≠ it := fun q hq => (List.mem_append.mp hq).elim (hadd2 q) (hitR q)
  have hAp : ∀ q ∈ added ++ R, q.1 ≠ pql := fun q hq => (List.mem_append.mp hq).elim (fun h => Nat.ne_of_gt (hadd1 q h)) (hsep1 q)
  have hAc : ∀ q ∈ added ++ R, q.1 ≠ cst := fun q hq => (List.mem_append.mp hq).elim (fun h => Nat.ne_of_gt (Nat.lt_trans o2 (hadd1 q h))) (hsep2 q)
  clear N9 F9
  by_cases hjl : j < vs.size
  · refine wpAny_pyNext_list_item hi3 hl3 (Array.getElem?_eq_getElem hjl) fun h4 hit4 hs4 => ?_
    obtain ⟨oit4, ho4, hoit4⟩ := hit4
    obtain ⟨pc, tpc, hpc, hpx⟩ := intsAre_get hvs (i := j) (v := vs[j]) (by rw [Array.getElem?_toList, Array.getElem?_eq_getElem hjl])
    rw [hpc]
    have F4 : Fr h₀ L h4 m3 := F3.update N3 (.tail _ (.tail _ (.head _))) hs4
    have N4 : News h₀ L h4 ((pql, listOf xs3 n3) :: (cst, odc3) :: (it, oit4) :: (added ++ R)) := by
      refine News.setAt (own := [_, _]) N3 (fun q hq => ?_) hAR hs4 ho4
      rcases List.mem_cons.mp hq with e | hq
      · exact e ▸ Nat.ne_of_lt hpi
      rcases List.mem_cons.mp hq with e | hq
      · exact e ▸ Nat.ne_of_lt hci
      · cases hq
    have hdrop : (par x).drop j = pc :: (par x).drop (j + 1) := by
      have := List.drop_eq_getElem_cons (l := par x) (i := j) (by omega)
      rw [this]
      rw [List.getElem?_eq_getElem (by omega)] at hpx
      rw [Option.some.inj hpx]
    rw [hdrop] at hpp
    have hdpc : dom pc := hdp _ (List.mem_of_getElem? hpx)
    clear N3 F3 N3r hl3 hi3
    have m_pf := M3.pf
    have m_af := M3.af
    have m_cst := M3.cst
    have m_cl := M3.cl
    have m_wl := M3.wl
    obtain ⟨tmn, m_mn⟩ := M3.mn
    have m_sh := M3.sh
    refine wpAny_pure ?_
    k_steps
    refine d_getm (by k_asm) (by k_mem) D3 ?_
    k_steps
    refine d_get2 (by k_asm) (by k_mem) D3 lo ?_
    intro upf
    have hafo3 := List.mem_append_right added hafo
    have hw3 := List.mem_append_right added hw
    have hwd3 := List.mem_append_right added hwd
    k_steps
    · rename_i hin
      rename News h₀ _ _ _ => N9
      rename Fr h₀ _ _ _ => F9
      refine ⟨vs.size - (j + 1), by omega, j + 1, _, _, _, added, xs3, n3, ks3, odc3, c3, pq3, oit4, rfl, hjl, rfl, F9, N9, hoit4, (M3.set (by decide)).set (by decide), m_cf3, hradd, hadd1, hadd2, P3, H3, hperm3, D3.mono (by omega), by omega, ?_⟩
      rw [← hpp]
      show _ = pushPar age mn cf ((par x).drop (j + 1)) _
      rw [if_pos hin]
    · rename_i hin
      rename News h₀ _ _ _ => N9
      rename Fr h₀ _ _ _ => F9
      k_steps
      refine SA (A := A) B F9 X T hA rfl rfl hh (by omega) (by omega) N9 (fun q hq => List.mem_cons_of_mem _ (List.mem_cons_of_mem _ (List.mem_cons_of_mem _ (List.mem_append_right _ (hled q hq))))) hdpc ?_
      intro h5 tk5 u5 F5 N5
      clear F9 N9
      k_steps
      · rename_i hlt
        rename News h₀ _ _ _ => N9
        rename Fr h₀ _ _ _ => F9
        refine ⟨vs.size - (j + 1), by omega, j + 1, _, _, _, added, xs3, n3, ks3, odc3, c3, pq3, oit4, rfl, hjl, rfl, F9, N9, hoit4, ((M3.set (by decide)).set (by decide)).set (by decide), m_cf3, hradd, hadd1, hadd2, P3, H3, hperm3, D3.mono (by omega), by omega, ?_⟩
        rw [← hpp]
        show _ = pushPar age mn cf ((par x).drop (j + 1)) _
        rw [if_neg hin, if_pos hlt]
      · rename_i hlt
        rename News h₀ _ _ _ => N9
        rename Fr h₀ _ _ _ => F9
        refine d_set (gn := fun o' => (pql, listOf xs3 n3) :: (cst, o') :: (it, oit4) :: (added ++ R)) F9 N9 (UpdF.tail (Nat.ne_of_gt o2) (UpdF.head ?hne)) D3 (by omega) ?_
        case hne =>
          intro q hq
          rcases List.mem_cons.mp hq with e | hq
          · exact e ▸ Nat.ne_of_gt hci
          · exact hAc q hq
        intro h6 odc6 F6 N6 D6
        clear F9 N9
        k_steps
        rename News h₀ _ _ _ => N9
        rename Fr h₀ _ _ _ => F9
        rename_i D8 h8 l1
        have hat : ∀ q ∈ added ++ tups, q ∈ added ++ R := fun q hq => (List.mem_append.mp hq).elim (List.mem_append_left _) (fun h => List.mem_append_right _ (hst2 q h))
        have hsw : News h₀ L _ ((pql, listOf xs3 n3) :: (D8, _) :: (cst, odc6) :: (it, oit4) :: (added ++ R)) := fun q hq => N9 q (by
          rcases List.mem_cons.mp hq with e | hq
          · exact .tail _ (e ▸ .head _)
          rcases List.mem_cons.mp hq with e | hq
          · exact e ▸ .head _
          exact .tail _ (.tail _ hq))
        refine add_spec (A := A) B F9 X T hA rfl rfl hh (by omega) (by omega) hsw (.tail _ (.tail _ (.tail _ hw3))) (.tail _ (.tail _ (.tail _ hwd3))) (.head _) ?gne (fun q hq => .tail _ (.tail _ (.tail _ (hat q hq)))) P3 H3 (by omega) ?_
        case gne =>
          intro q hq
          rcases List.mem_cons.mp hq with e | hq
          · exact e ▸ Nat.ne_of_gt l1.1
          rcases List.mem_cons.mp hq with e | hq
          · exact e ▸ Nat.ne_of_lt o2
          rcases List.mem_cons.mp hq with e | hq
          · exact e ▸ Nat.ne_of_gt hpi
          exact hAp q hq
        intro h7 tk7 xs7 ks7 n7 a7 t7 u7 F7 N7 P7 H7 hpr7 hlt7
        clear F9 N9 hsw
        have hsz7 : ks7.size = ks3.size + 1 := by have := hpr7.length_eq; simpa using this
        k_steps
        rename News h₀ _ _ _ => N9
        rename Fr h₀ _ _ _ => F9
        refine ⟨vs.size - (j + 1), by omega, j + 1, _, _, _, (a7, tp (-(age pc)) t7 pc u7) :: (D8, tp (age pc) u5 pc tpc) :: added, xs7, n7, ks7, odc6, _, _, oit4, rfl, hjl, rfl, F9, fun q hq => N9 q ?_, hoit4, ((M3.set (by decide)).set (by decide)).set (by decide), m_cf3, .tail _ (.tail _ hradd), ?_, ?_, P7.mono ?_, H7, hpr7.trans (hperm3.cons _), D6.mono (by omega), by omega, ?_⟩
        · simp only [List.mem_cons, List.cons_append] at hq ⊢
          rcases hq with e | e | e | e | e | e
          · exact .inr (.inl e)
          · exact .inr (.inr (.inr (.inl e)))
          · exact .inr (.inr (.inr (.inr (.inl e))))
          · exact .inl e
          · exact .inr (.inr (.inl e))
          · exact .inr (.inr (.inr (.inr (.inr e))))
        · intro q hq
          rcases List.mem_cons.mp hq with e | hq
          · exact e ▸ hlt7 _ (.head _)
          rcases List.mem_cons.mp hq with e | hq
          · exact e ▸ l1.1
          exact hadd1 q hq
        · intro q hq
          rcases List.mem_cons.mp hq with e | hq
          · exact e ▸ Nat.ne_of_gt (hlt7 _ (.tail _ (.tail _ (.tail _ (.head _)))))
          rcases List.mem_cons.mp hq with e | hq
          · exact e ▸ Nat.ne_of_gt l1.2.2.1
          exact hadd2 q hq
        · intro q hq
          simp only [List.mem_cons, List.cons_append] at hq ⊢
          rcases hq with e | e
          · exact .inl e
          · exact .inr (.inr e)
        · rw [← hpp]
          show _ = pushPar age mn cf ((par x).drop (j + 1)) _
          rw [if_neg hin, if_neg hlt]
  · have hje : j = vs.size := by omega
    refine wpAny_pyNext_list_end hh hi3 hl3 (by rw [Array.getElem?_eq_none_iff]; omega) fun h4 hs4 => ?_
    have hs4 : Heap.ExtBut it h3 h4 := hs4
    have N3' : News h₀ L h3 ((pql, listOf xs3 n3) :: (cst, odc3) :: (added ++ R)) := fun q hq => N3 q (by
      rcases List.mem_cons.mp hq with e | hq
      · exact e ▸ .head _
      rcases List.mem_cons.mp hq with e | hq
      · exact .tail _ (e ▸ .head _)
      exact .tail _ (.tail _ (.tail _ hq)))
    have N4 : News h₀ L h4 ((pql, listOf xs3 n3) :: (cst, odc3) :: (added ++ R)) := fun q hq => ⟨hs4 _ _ (by
      rcases List.mem_cons.mp hq with e | hq
      · exact e ▸ Nat.ne_of_lt hpi
      rcases List.mem_cons.mp hq with e | hq
      · exact e ▸ Nat.ne_of_lt hci
      exact hAR q hq) (N3' q hq).1, (N3' q hq).2⟩
    have F4 : Fr h₀ L h4 m3 := by
      have hne := (N3 _ (.tail _ (.tail _ (.head _)))).2
      exact ⟨F3.ns.extBut hs4 (Ne.symm hne.1), fun b o e => hs4 b o (fun hb => by rw [hb, hne.2] at e; exact nomatch e) (F3.keep b o e), F3.above⟩
    clear N3 N3r F3
    k_steps
    rename News h₀ _ _ _ => N9
    rename Fr h₀ _ _ _ => F9
    have hd0 : (par x).drop j = [] := List.drop_eq_nil_of_le (by omega)
    rw [hd0] at hpp
    have hpp' : (c3, pq3) = pushPar age mn cf (par x) (c, pq) := hpp
    rw [← hpp'] at h
    exact h _ _ m3 added xs3 n3 ks3 odc3 F9 N9 M3 hadd1 P3 H3 hperm3 (D3.mono (by omega)) (by omega)
end
end Mine

/-! ## L2 -/
namespace Mine
open PySem PySem.W PySem.Calls PyProof.Rows
open Sem (wp)
set_option maxRecDepth 100000

theorem fillK5 : ∀ w : World, PySem.Challenge.rw_bh0019_01.Holds → hd.heap_39 w.params = hd.heap_39 w.params := by
  w_top off
  first | (walk1; fail) | skip
  k_fill
  intro _ _; rfl

local macro_rules | `(tactic| k_mem) => `(tactic| assumption)
local macro_rules | `(tactic| k_room) => `(tactic| ((simp only [depth_under_make, depth_under_kw, depth_in1, depth_deeper, depth_caller, Around.in1_units, Around.deeper_units]); omega))
local macro_rules | `(tactic| k_all) => `(tactic| first | assumption | exact allNe_of (by assumption) (by omega))
local macro_rules | `(tactic| walk_at "assign Tuple") => `(tactic| (k_here; (with_reducible show wpAny _ _ (assign (Expr.Tuple _ _ _) _ (Value.ref _)) _ _ _); k_dflt (refine' unpackN_ ?k1 ?k2 ?k3 ?k4 ?k5 ?k6 ?_; (case k1 => k_asm); (case k2 => k_asm); (case k3 => (exact News.isTup (by k_asm) (by k_mem))); (case k4 => assumption); (case k5 => exact rfl); (case k6 => exact rfl); k_whole); intro h' F' N'; (try k_sweep)))
local macro_rules | `(tactic| walk_at "eval Name") => `(tactic| (k_here; kc_free; k_dflt (refine' nameX_F ?N ?c ?m ?d ?_ ?a ?b; (case a => rfl); (case b => rfl); (case N => k_asm); (case c => rfl); (case m => k_mem); (case d => k_asm); k_whole)))
local macro_rules | `(tactic| walk_at "eval Name") => `(tactic| (k_here; k_dflt (refine' nameX_L ?k1 ?k2 ?_ ?k3 ?k4 ?k5; (case k3 => rfl); (case k4 => rfl); (case k5 => decide); (case k1 => k_asm); (case k2 => assumption); k_whole)))
local macro_rules | `(tactic| walk_at "compareOp In int ref") => `(tactic| (refine d_in (by k_asm) (by k_mem) (by k_asm) (by k_asm) ?_))

theorem b12 : Builtin.bitOr 1 2 = 3 := by decide
theorem b34 : Builtin.bitOr 3 4 = 7 := by decide
theorem or12 {prog : Program} {w : World} {A : Around} {t u : Tok} {Q : Value → Shared → Prop} {E : Value → Shared → Prop} {s : Shared} (h : Q (.int 3 s.toks) { s with toks := s.toks + 1 }) : wpAny (model prog w) A (binaryOp .BitOr (.int 1 t) (.int 2 u)) Q E s := or_int (by rw [b12]; exact h)
theorem or34 {prog : Program} {w : World} {A : Around} {t u : Tok} {Q : Value → Shared → Prop} {E : Value → Shared → Prop} {s : Shared} (h : Q (.int 7 s.toks) { s with toks := s.toks + 1 }) : wpAny (model prog w) A (binaryOp .BitOr (.int 3 t) (.int 4 u)) Q E s := or_int (by rw [b34]; exact h)
local macro_rules | `(tactic| walk_at "binaryOp BitOr int int") => `(tactic| (k_here; first | with_reducible refine or12 ?_ | with_reducible refine or34 ?_))
local macro_rules | `(tactic| walk_at "eval Name") => `(tactic| (k_here; k_dflt (refine' nameX_C ?N ?c ?m ?d ?_ ?a ?b; (case b => rfl); (case c => rfl); (case N => k_asm); (case m => k_mem); (case d => k_asm); (case a => rfl); k_whole)))
local macro_rules | `(tactic| walk_at "callWith ref") => `(tactic| (k_here; k_dflt (first
  | (refine' callWith_F ?k1 ?_; (case k1 => exact FnAt.of (by k_asm) (by k_mem)); k_whole)
  | (refine' callWith_F0 ?k1 ?_; (case k1 => exact FnAt.of (by k_asm) (by k_mem)); k_whole; try dsimp only [List.nil_append, List.cons_append]))))

theorem PQL.push {tups : List (Addr × Obj)} {ys : Array Value} {ks : Array Key} (P : PQL tups ys ks) {D : Addr} {k : Key} {t u : Tok} : PQL ((D, tp k.1 t k.2 u) :: tups) (ys.push (.ref D)) (ks.push k) := by
  refine ⟨by rw [Array.size_push, Array.size_push, P.1], fun i hi => ?_⟩
  rw [Array.size_push] at hi
  by_cases h : i < ks.size
  · obtain ⟨a, t', u', h1, h2⟩ := P.2 i h
    have e : g (ks.push k) i = g ks i := by
      refine g_of ?_
      rw [Array.getElem?_push, if_neg (by omega)]
      exact g_get h
    refine ⟨a, t', u', ?_, ?_⟩
    · rw [Array.getElem?_push, if_neg (by rw [P.1]; omega)]; exact h1
    · rw [e]; exact .tail _ h2
  · have hi' : i = ks.size := by omega
    subst hi'
    have e : g (ks.push k) ks.size = k := g_of (by simp)
    refine ⟨D, t, u, by rw [← P.1]; simp, ?_⟩
    rw [e]; exact .head _

section
variable {prog : Program} {w : World} {A₀ A : Around} {base h₀ : Heap} {outer : List Env} {L : Addr} {mg mb : Str → Option Value} {s : Shared}
  {p : Program} {loose : List Str} {mean : ExcName → Option Value} {E : Value → Shared → Prop} {Q : Flow → Shared → Prop}

set_option maxHeartbeats 2000000 in
theorem lcas_while {fd90 : FuncData} {oc90 : Value} {od90 : Option Addr} {osl90 : Array (Option Value)} {stmts : List Stmt} {hname : Str} {hparams : Arguments} {hbody : List Stmt} {hscope : Scope} {hpos : Pos} {test : PySem.Expr} {wbody : List Stmt} {wpos : Pos}
   (hK : (hd.heap_39 w.params).lookup 90 = some ⟨oc90, od90, .func fd90, osl90⟩) (hst : fd90.body = .stmts stmts) (h6 : stmts[6]? = some (.FunctionDef hname hparams hbody [] none [] hscope none hname hpos))
   (h11 : stmts[11]? = some (.While test wbody [] wpos))
   (B : Below A₀ base outer h₀) (X : (hd.heap_39 w.params).In h₀) (T : Top p loose mean mg mb h₀)
   (hA : A.frames = some (envOfC fd90.qualname fd90.scope L 90 (.ref 89) :: outer)) (hh : A.handled = none) (hdep : A.depth + 60 < recursionLimit) (hu : A.units + 200 < cLine)
   {pf af wl wld pql cst cl hcf c' cell : Addr} {qual : Str} {doc pm ctv : Value} {mn : Int} {age : Int → Int} {par : Int → List Int} {dom : Int → Prop} {led : List (Addr × Obj)} {Fin : Cst → List Key → Prop} {hsh : Int} {tq t4 : Tok} {ocell oc' : Obj} {cvs : Array Value} {tc' : Tok}
   (SA : AgeSpec prog w af led age dom) (SP : ParSpec prog w pf led par dom)
   (o1 : cl < cst) (o2 : cst < pql) (lo : (cst == sysModules) = false) (hLc : cell = L + 1) (hcd : ocell.data = .cell (some (.int 4 t4))) (hoc1 : oc'.data = .fields cvs) (hoc2 : cvs[1]? = some (.str qual tc'))
   (rest₀ : List (Addr × Obj)) {fda fdp : FuncData} {oca ocp : Value} {oda odp : Option Addr} {sla slp : Array (Option Value)} (hafo : (af, (⟨oca, oda, .func fda, sla⟩ : Obj)) ∈ rest₀) (hpfo : (pf, (⟨ocp, odp, .func fdp, slp⟩ : Obj)) ∈ rest₀) (hled : ∀ q ∈ led, q ∈ rest₀) (hw : (wl, inst 80 wld) ∈ rest₀) (hwd : (wld, qDict hsh tq pql) ∈ rest₀) (hfo : (hcf, fnMade hname qual hparams hbody hscope [("_DNC", cell)] doc pm c' ctv) ∈ rest₀) (hcell : (cell, ocell) ∈ rest₀) (hcc : (c', oc') ∈ rest₀)
   {m : Str → Option Value} {rest : List (Addr × Obj)} {xs ys : Array Value} {n n2 Nd k : Nat} {ks cks : Array Key} {odc : Obj} {c : Cst} {pq : List Key}
   (F : Fr h₀ L s.heap m) (N : News h₀ L s.heap ((pql, listOf xs n) :: (cst, odc) :: (cl, listOf ys n2) :: rest)) (M : MOk m pf af cst cl wl hcf mn)
   (hsub : ∀ q ∈ rest₀, q ∈ rest) (hsep : ∀ q ∈ rest, q.1 ≠ pql ∧ q.1 ≠ cst ∧ q.1 ≠ cl)
   (P : PQL rest xs ks) (H : IsHeap ks) (hperm : ks.toList.Perm pq) (PC : PQL rest ys cks) (D : DRel prog w odc c Nd)
   (G : LGood par age mn dom Fin k c pq cks.toList) (hz : ks.size + 5 * k < 900) (hz2 : Nd + 6 * k < 9000) (hz3 : cks.size + k < 900)
   (h : ∀ h' tk gens' m' rest' xs' ys' n' n2' cks' odc' c' Nd', Fr h₀ L h' m' → News h₀ L h' ((pql, listOf xs' n') :: (cst, odc') :: (cl, listOf ys' n2') :: rest') → MOk m' pf af cst cl wl hcf mn →
      (∀ q ∈ rest₀, q ∈ rest') → (∀ q ∈ rest', q.1 ≠ pql ∧ q.1 ≠ cst ∧ q.1 ≠ cl) → PQL rest' ys' cks' → DRel prog w odc' c' Nd' → Fin c' cks'.toList →
      (∃ more : Array GenState, gens' = s.gens ++ more ∧ ∀ x ∈ more, x.bare = true) → Q .next { s with heap := h', toks := tk, gens := gens' }) :
   wpAny (model prog w) A (exec (.While test wbody [] wpos) (envOfC fd90.qualname fd90.scope L 90 (.ref 89))) Q E s := by
  have e90 := lk hK (by k_is)
  cases e90
  cases hst
  cases h6
  cases h11
  subst hLc
  dsimp only at hA h ⊢
  refine whileCut 5 (fun _ kk s' => ∃ h1 tk1 gens1 m1 rest1 xs1 ys1 n1 n21 Nd1 ks1 cks1 odc1 c1 pq1, s' = { s with heap := h1, toks := tk1, gens := gens1 } ∧ Fr h₀ L h1 m1 ∧ News h₀ L h1 ((pql, listOf xs1 n1) :: (cst, odc1) :: (cl, listOf ys1 n21) :: rest1) ∧ MOk m1 pf af cst cl wl hcf mn ∧
      (∀ q ∈ rest₀, q ∈ rest1) ∧ (∀ q ∈ rest1, q.1 ≠ pql ∧ q.1 ≠ cst ∧ q.1 ≠ cl) ∧ PQL rest1 xs1 ks1 ∧ IsHeap ks1 ∧ ks1.toList.Perm pq1 ∧ PQL rest1 ys1 cks1 ∧ DRel prog w odc1 c1 Nd1 ∧
      LGood par age mn dom Fin kk c1 pq1 cks1.toList ∧ ks1.size + 5 * kk < 900 ∧ Nd1 + 6 * kk < 9000 ∧ cks1.size + kk < 900 ∧
      (∃ more : Array GenState, gens1 = s.gens ++ more ∧ ∀ x ∈ more, x.bare = true)) ?_ k ⟨s.heap, s.toks, s.gens, m, rest, xs, ys, n, n2, Nd, ks, cks, odc, c, pq, rfl, F, N, M, hsub, hsep, P, H, hperm, PC, D, G, hz, hz2, hz3, #[], by simp, by simp⟩
  rintro kk s' ⟨h1, tk1, gens1, m1, rest1, xs1, ys1, n1, n21, Nd1, ks1, cks1, odc1, c1, pq1, rfl, F1, N1, M1, hsub1, hsep1, P1, H1, hperm1, PC1, D1, G1, hz1, hz21, hz31, hg1⟩
  clear N F M hsub hsep P H hperm PC D G hz hz2 hz3
  simp only [List.take_succ_cons, List.take_zero, List.drop_succ_cons, List.drop_zero]
  have m_pf := M1.pf
  have m_af := M1.af
  have m_cst := M1.cst
  have m_cl := M1.cl
  have m_wl := M1.wl
  have m_hcf := M1.hcf
  obtain ⟨ta1, m_a1⟩ := M1.a1
  obtain ⟨ta2, m_a2⟩ := M1.a2
  obtain ⟨ta8, m_a8⟩ := M1.a8
  obtain ⟨tmn, m_mn⟩ := M1.mn
  have m_sh := M1.sh
  have hw1 := hsub1 _ hw
  have hwd1 := hsub1 _ hwd
  have hfo1 := hsub1 _ hfo
  have hcell1 := hsub1 _ hcell
  have hcc1 := hsub1 _ hcc
  have hr1 : ∀ q ∈ rest1, q.1 ≠ pql := fun q hq => (hsep1 q hq).1
  have hr2 : ∀ q ∈ rest1, q.1 ≠ cst := fun q hq => (hsep1 q hq).2.1
  have hr3 : ∀ q ∈ rest1, q.1 ≠ cl := fun q hq => (hsep1 q hq).2.2
  k_steps
  (rename News h₀ _ _ _ => N9)
  (rename Fr h₀ _ _ _ => F9)
  refine hc_spec (A := A) B F9 X T hA rfl rfl hh (by omega) (by omega) (by k_is) rfl rfl N9 (List.mem_cons_of_mem _ (List.mem_cons_of_mem _ (List.mem_cons_of_mem _ hfo1))) ⟨c', oc', cvs, tc', rfl, (N9 _ (List.mem_cons_of_mem _ (List.mem_cons_of_mem _ (List.mem_cons_of_mem _ hcc1)))).1, hoc1, hoc2⟩ (List.mem_cons_of_mem _ (List.mem_cons_of_mem _ (List.mem_cons_of_mem _ hcell1))) hcd
    (List.mem_cons_of_mem _ (List.mem_cons_of_mem _ (List.mem_cons_of_mem _ hw1))) (List.mem_cons_of_mem _ (List.mem_cons_of_mem _ (List.mem_cons_of_mem _ hwd1))) (.head _) (List.mem_cons_of_mem _ (.head _)) D1 lo (fun q hq => List.mem_cons_of_mem _ (List.mem_cons_of_mem _ (List.mem_cons_of_mem _ hq))) P1 ?_
  intro h2 tk2 gens2 F2 N2 hg2
  clear F9 N9
  obtain ⟨mo1, rfl, hb1⟩ := hg1
  obtain ⟨mo2, rfl, hb2⟩ := hg2
  k_steps
  · rename_i hcan
    rename News h₀ _ _ _ => N9
    rename Fr h₀ _ _ _ => F9
    have hcan' : pq1.any (cand c1) = true := by rw [← hcan]; exact (hperm1.any_eq).symm
    have h0 : 0 < ks1.size := by
      rcases Nat.eq_zero_or_pos ks1.size with e | e
      · rw [Array.size_eq_zero_iff] at e; subst e; cases hcan
      · exact e
    cases kk with
    | zero => exact absurd (hcan'.symm.trans G1.1) (by decide)
    | succ kk =>
    rcases G1 with g | g
    · exact absurd (hcan'.symm.trans g.1) (by decide)
    replace G1 := g.2
    k_steps
    refine get_spec (A := A) B F9 X T hA rfl rfl hh (by omega) (by omega) N9 (List.mem_cons_of_mem _ (List.mem_cons_of_mem _ hw1)) (List.mem_cons_of_mem _ (List.mem_cons_of_mem _ hwd1)) ?gne (fun q hq => List.mem_cons_of_mem _ (List.mem_cons_of_mem _ hq)) P1 H1 h0 (by omega) ?_
    case gne =>
      intro q hq
      rcases List.mem_cons.mp hq with rfl | hq
      · exact neN (Nat.ne_of_lt o2)
      · rcases List.mem_cons.mp hq with rfl | hq
        · exact neN (Nat.ne_of_lt (Nat.lt_trans o1 o2))
        · exact hr1 _ hq
    intro h3 tk3 xs3 ks3 n3 a kq t3 u3 F3 N3 P3 H3 hpr hmin hlt
    clear F9 N9
    obtain ⟨f, hf, hdx, hdp, hlen, G2⟩ := G1 kq ks3.toList (hpr.trans hperm1) (fun k' hk' => hmin k' (hperm1.mem_iff.mpr hk'))
    have hsz3 : ks1.size = ks3.size + 1 := by have := hpr.length_eq; simp at this; omega
    k_steps
    rename News h₀ _ _ _ => N9
    rename Fr h₀ _ _ _ => F9
    refine d_item N9 (by k_mem) D1 hf ?_
    intro uf
    k_steps
    case refine_2 =>
      rename_i hne3
      rename News h₀ _ _ _ => N9
      rename Fr h₀ _ _ _ => F9
      show wpAny _ _ _ _ _ _
      refine lcas_tail (tl := _) (pq := ks3.toList) (tups := rest1) (n := n3) (odc := odc1) hK rfl rfl rfl B X T hA hh (by omega) (by omega) SA SP o2 lo (R := (cl, listOf ys1 n21) :: rest1) (.tail _ (hsub1 _ hafo)) (.tail _ (hsub1 _ hpfo)) (fun q hq => .tail _ (hsub1 _ (hled q hq))) (.tail _ (hsub1 _ hw)) (.tail _ (hsub1 _ hwd)) F9 (fun q hq => N9 q ?nn) ((((M1.set (by decide)).set (by decide)).set (by decide)).set (by decide)) rfl rfl
        (fun q hq => ?np) (fun q hq => ?nc) (fun q hq => .tail _ hq) (id P3) H3 (List.Perm.refl _) D1 (by omega) (by omega) hdx hdp hlen ?_
      case nn => 
        rcases List.mem_cons.mp hq with e | hq
        · exact e ▸ .tail _ (.head _)
        rcases List.mem_cons.mp hq with e | hq
        · exact e ▸ .tail _ (.tail _ (.head _))
        rcases List.mem_cons.mp hq with e | hq
        · exact e ▸ .tail _ (.tail _ (.tail _ (.head _)))
        exact .tail _ (.tail _ (.tail _ (.tail _ hq)))
      case np => 
        rcases List.mem_cons.mp hq with e | hq
        · exact e ▸ Nat.ne_of_lt (Nat.lt_trans o1 o2)
        · exact (hsep1 q hq).1
      case nc => 
        rcases List.mem_cons.mp hq with e | hq
        · exact e ▸ Nat.ne_of_lt o1
        · exact (hsep1 q hq).2.1
      intro h8 tk8 m8 added xs8 n8 ks8 odc8 F8 N8 M8 hadd8 P8 H8 hpm8 D8 hz8
      refine ⟨kk, Nat.lt_succ_self _, h8, tk8, _, m8, added ++ rest1, xs8, ys1, n8, n21, _, ks8, cks1, odc8, _, _, rfl, F8, (fun q hq => N8 q ?_), M8, (fun q hq => List.mem_append_right _ (hsub1 _ hq)), (fun q hq => ?_), P8, H8, hpm8, PC1.mono (fun q hq => List.mem_append_right _ hq), D8, ?_, by omega, by omega, by omega, ⟨mo1 ++ mo2, Array.append_assoc, fun x hx => (Array.mem_append.mp hx).elim (hb1 x) (hb2 x)⟩⟩
      · simp only [List.mem_cons, List.mem_append] at hq ⊢
        rcases hq with e | e | e | e | e
        · exact .inl e
        · exact .inr (.inl e)
        · exact .inr (.inr (.inr (.inl e)))
        · exact .inr (.inr (.inl e))
        · exact .inr (.inr (.inr (.inr e)))
      · rcases List.mem_append.mp hq with hq | hq
        · exact ⟨Nat.ne_of_gt (hadd8 q hq), Nat.ne_of_gt (Nat.lt_trans o2 (hadd8 q hq)), Nat.ne_of_gt (Nat.lt_trans (Nat.lt_trans o1 o2) (hadd8 q hq))⟩
        · exact hsep1 q hq
      · have e1 : tcf f = Builtin.bitAnd f 7 := if_neg hne3
        have e2 : ¬ isNew f := fun h => hne3 h.1
        unfold tc tcs at G2
        rw [e1, if_neg e2, if_neg e2] at G2
        exact G2
    rename_i h37
    rename News h₀ _ _ _ => N9
    rename Fr h₀ _ _ _ => F9
    refine d_item N9 (by k_mem) D1 hf ?_
    intro uf2
    k_steps
    · rename Builtin.bitAnd f 8 = 8 => hL8
      rename News h₀ _ _ _ => N9
      rename Fr h₀ _ _ _ => F9
      show wpAny _ _ _ _ _ _
      refine lcas_tail (tl := _) (pq := ks3.toList) (tups := rest1) (n := n3) (odc := odc1) hK rfl rfl rfl B X T hA hh (by omega) (by omega) SA SP o2 lo (R := (cl, listOf ys1 n21) :: rest1) (.tail _ (hsub1 _ hafo)) (.tail _ (hsub1 _ hpfo)) (fun q hq => .tail _ (hsub1 _ (hled q hq))) (.tail _ (hsub1 _ hw)) (.tail _ (hsub1 _ hwd)) F9 (fun q hq => N9 q ?nn) (((((M1.set (by decide)).set (by decide)).set (by decide)).set (by decide)).set (by decide)) rfl rfl
        (fun q hq => ?np) (fun q hq => ?nc) (fun q hq => .tail _ hq) (id P3) H3 (List.Perm.refl _) D1 (by omega) (by omega) hdx hdp hlen ?_
      case nn => 
        rcases List.mem_cons.mp hq with e | hq
        · exact e ▸ .tail _ (.head _)
        rcases List.mem_cons.mp hq with e | hq
        · exact e ▸ .tail _ (.tail _ (.head _))
        rcases List.mem_cons.mp hq with e | hq
        · exact e ▸ .tail _ (.tail _ (.tail _ (.head _)))
        exact .tail _ (.tail _ (.tail _ (.tail _ hq)))
      case np => 
        rcases List.mem_cons.mp hq with e | hq
        · exact e ▸ Nat.ne_of_lt (Nat.lt_trans o1 o2)
        · exact (hsep1 q hq).1
      case nc => 
        rcases List.mem_cons.mp hq with e | hq
        · exact e ▸ Nat.ne_of_lt o1
        · exact (hsep1 q hq).2.1
      intro h8 tk8 m8 added xs8 n8 ks8 odc8 F8 N8 M8 hadd8 P8 H8 hpm8 D8 hz8
      refine ⟨kk, Nat.lt_succ_self _, h8, tk8, _, m8, added ++ rest1, xs8, ys1, n8, n21, _, ks8, cks1, odc8, _, _, rfl, F8, (fun q hq => N8 q ?_), M8, (fun q hq => List.mem_append_right _ (hsub1 _ hq)), (fun q hq => ?_), P8, H8, hpm8, PC1.mono (fun q hq => List.mem_append_right _ hq), D8, ?_, by omega, by omega, by omega, ⟨mo1 ++ mo2, Array.append_assoc, fun x hx => (Array.mem_append.mp hx).elim (hb1 x) (hb2 x)⟩⟩
      · simp only [List.mem_cons, List.mem_append] at hq ⊢
        rcases hq with e | e | e | e | e
        · exact .inl e
        · exact .inr (.inl e)
        · exact .inr (.inr (.inr (.inl e)))
        · exact .inr (.inr (.inl e))
        · exact .inr (.inr (.inr (.inr e)))
      · rcases List.mem_append.mp hq with hq | hq
        · exact ⟨Nat.ne_of_gt (hadd8 q hq), Nat.ne_of_gt (Nat.lt_trans o2 (hadd8 q hq)), Nat.ne_of_gt (Nat.lt_trans (Nat.lt_trans o1 o2) (hadd8 q hq))⟩
        · exact hsep1 q hq
      · have e1 : tcf f = Builtin.bitOr (Builtin.bitAnd f 7) 4 := by unfold tcf; rw [if_pos h37, h37]; decide
        have e2 : ¬ isNew f := fun h => h.2 hL8
        unfold tc tcs at G2
        rw [e1, if_neg e2, if_neg e2] at G2
        exact G2
    · rename_i hL8
      rename News h₀ _ _ _ => N9
      rename Fr h₀ _ _ _ => F9
      refine d_item N9 (by k_mem) D1 hf ?_
      intro uf3
      k_steps
      rename News h₀ _ _ _ => N9
      rename Fr h₀ _ _ _ => F9
      have hca : cst < a := hlt _ (.tail _ (.head _))
      refine d_set (gn := fun o' => (a, tp (-kq.1) t3 kq.2 u3) :: (pql, listOf xs3 n3) :: (cst, o') :: (cl, listOf ys1 n21) :: rest1) F9 N9 (UpdF.tail (Nat.ne_of_gt hca) (UpdF.tail (Nat.ne_of_gt o2) (UpdF.head ?hne))) D1 (by omega) ?_
      case hne =>
        intro q hq
        rcases List.mem_cons.mp hq with e | hq
        · exact e ▸ Nat.ne_of_lt o1
        · exact hr2 q hq
      intro h6 odc6 F6 N6 D6
      clear F9 N9
      k_steps
      rename News h₀ _ _ _ => N9
      rename Fr h₀ _ _ _ => F9
      rename_i D9 h10 l1
      refine append_K (its := ys1) (n := n21) (news' := (D9, tp (-kq.1) t3 kq.2 u3) :: (a, tp (-kq.1) t3 kq.2 u3) :: (pql, listOf xs3 n3) :: (cst, odc6) :: (cl, listOf (ys1.push (.ref D9)) (n21 + 1)) :: rest1) F9 N9 ?uu ?_ (by rw [sizeLine_eq, PC1.1]; omega)
      case uu =>
        refine Upd.tail (Nat.ne_of_gt l1.2.2.2.1) (Upd.tail (Nat.ne_of_gt (hlt _ (.tail _ (.tail _ (.head _))))) (Upd.tail (Nat.ne_of_gt (Nat.lt_trans o1 o2)) (Upd.tail (Nat.ne_of_gt o1) (Upd.head hr3))))
      intro h11 F11 N11
      clear F9 N9
      k_steps
      rename News h₀ _ _ _ => N9
      rename Fr h₀ _ _ _ => F9
      have hsub2 : ∀ q ∈ rest₀, q ∈ (D9, tp (-kq.1) t3 kq.2 u3) :: rest1 := fun q hq => .tail _ (hsub1 q hq)
      have hsep2 : ∀ q ∈ (D9, tp (-kq.1) t3 kq.2 u3) :: rest1, q.1 ≠ pql ∧ q.1 ≠ cst ∧ q.1 ≠ cl := fun q hq => by
        rcases List.mem_cons.mp hq with e | hq
        · exact e ▸ ⟨Nat.ne_of_gt l1.2.1, Nat.ne_of_gt l1.2.2.1, Nat.ne_of_gt l1.2.2.2.1⟩
        · exact hsep1 q hq
      have PC2 : PQL ((D9, tp (-kq.1) t3 kq.2 u3) :: rest1) (ys1.push (.ref D9)) (cks1.push (-kq.1, kq.2)) := PC1.push
      show wpAny _ _ _ _ _ _
      refine lcas_tail (tl := _) (pq := ks3.toList) (tups := (D9, tp (-kq.1) t3 kq.2 u3) :: rest1) (n := n3) (odc := odc6) hK rfl rfl rfl B X T hA hh (by omega) (by omega) SA SP o2 lo (R := (cl, listOf (ys1.push (.ref D9)) (n21 + 1)) :: (D9, tp (-kq.1) t3 kq.2 u3) :: rest1) (.tail _ (hsub2 _ hafo)) (.tail _ (hsub2 _ hpfo)) (fun q hq => .tail _ (hsub2 _ (hled q hq))) (.tail _ (hsub2 _ hw)) (.tail _ (hsub2 _ hwd)) F9 (fun q hq => N9 q ?nn) (((((M1.set (by decide)).set (by decide)).set (by decide)).set (by decide)).set (by decide)) rfl rfl
        (fun q hq => ?np) (fun q hq => ?nc) (fun q hq => .tail _ hq) (P3.mono fun q hq => .tail _ hq) H3 (List.Perm.refl _) D6 (by omega) (by omega) hdx hdp hlen ?_
      case nn => 
        rcases List.mem_cons.mp hq with e | hq
        · exact e ▸ .tail _ (.tail _ (.head _))
        rcases List.mem_cons.mp hq with e | hq
        · exact e ▸ .tail _ (.tail _ (.tail _ (.head _)))
        rcases List.mem_cons.mp hq with e | hq
        · exact e ▸ .tail _ (.tail _ (.tail _ (.tail _ (.head _))))
        rcases List.mem_cons.mp hq with e | hq
        · exact e ▸ .head _
        exact .tail _ (.tail _ (.tail _ (.tail _ (.tail _ hq))))
      case np => 
        rcases List.mem_cons.mp hq with e | hq
        · exact e ▸ Nat.ne_of_lt (Nat.lt_trans o1 o2)
        · exact (hsep2 q hq).1
      case nc => 
        rcases List.mem_cons.mp hq with e | hq
        · exact e ▸ Nat.ne_of_lt o1
        · exact (hsep2 q hq).2.1
      intro h8 tk8 m8 added xs8 n8 ks8 odc8 F8 N8 M8 hadd8 P8 H8 hpm8 D8 hz8
      refine ⟨kk, Nat.lt_succ_self _, h8, tk8, _, m8, added ++ (D9, tp (-kq.1) t3 kq.2 u3) :: rest1, xs8, ys1.push (.ref D9), n8, n21 + 1, _, ks8, cks1.push (-kq.1, kq.2), odc8, _, _, rfl, F8, (fun q hq => N8 q ?_), M8, (fun q hq => List.mem_append_right _ (hsub2 _ hq)), (fun q hq => ?_), P8, H8, hpm8, PC2.mono (fun q hq => List.mem_append_right _ hq), D8, ?_, by omega, by omega, by (rw [Array.size_push]; omega), ⟨mo1 ++ mo2, Array.append_assoc, fun x hx => (Array.mem_append.mp hx).elim (hb1 x) (hb2 x)⟩⟩
      · simp only [List.mem_cons, List.mem_append] at hq ⊢
        rcases hq with e | e | e | e | e | e
        · exact .inl e
        · exact .inr (.inl e)
        · exact .inr (.inr (.inr (.inl e)))
        · exact .inr (.inr (.inl e))
        · exact .inr (.inr (.inr (.inr (.inl e))))
        · exact .inr (.inr (.inr (.inr (.inr e))))
      · rcases List.mem_append.mp hq with hq | hq
        · exact ⟨Nat.ne_of_gt (hadd8 q hq), Nat.ne_of_gt (Nat.lt_trans o2 (hadd8 q hq)), Nat.ne_of_gt (Nat.lt_trans (Nat.lt_trans o1 o2) (hadd8 q hq))⟩
        · exact hsep2 q hq
      · have e1 : tcf f = Builtin.bitOr (Builtin.bitAnd f 7) 4 := by unfold tcf; rw [if_pos h37, h37]; decide
        have e2 : isNew f := ⟨h37, hL8⟩
        unfold tc tcs at G2
        rw [e1, if_pos e2, if_pos e2] at G2
        rw [Array.toList_push]
        exact G2
  · rename_i hfin
    rename News h₀ _ _ _ => N9
    rename Fr h₀ _ _ _ => F9
    have hfin' : pq1.any (cand c1) = false := by rw [← hfin]; exact (hperm1.any_eq).symm
    have hF : Fin c1 cks1.toList := by
      cases kk with
      | zero => exact G1.2
      | succ _ => rcases G1 with g | g
                  · exact g.2
                  · exact absurd g.1 (by rw [hfin']; decide)
    exact h _ _ _ _ _ _ _ _ _ _ _ _ _ F9 N9 M1 hsub1 hsep1 PC1 D1 hF ⟨mo1 ++ mo2, Array.append_assoc, fun x hx => (Array.mem_append.mp hx).elim (hb1 x) (hb2 x)⟩
end
end Mine

/-! ## L3 -/
namespace Mine
open PySem PySem.W PySem.Calls PyProof.Rows
open Sem (wp)
set_option maxRecDepth 100000

theorem fillK6 : ∀ w : World, PySem.Challenge.rw_bh0019_01.Holds → hd.heap_39 w.params = hd.heap_39 w.params := by
  w_top off
  first | (walk1; fail) | skip
  k_fill
  intro _ _; rfl

local macro_rules | `(tactic| k_mem) => `(tactic| assumption)
local macro_rules | `(tactic| k_room) => `(tactic| ((simp only [depth_under_make, depth_under_kw, depth_in1, depth_deeper, depth_caller, Around.in1_units, Around.deeper_units]); omega))
local macro_rules | `(tactic| k_all) => `(tactic| first | assumption | exact allNe_of (by assumption) (by omega))
local macro_rules | `(tactic| walk_at "assign Tuple") => `(tactic| (k_here; (with_reducible show wpAny _ _ (assign (Expr.Tuple _ _ _) _ (Value.ref _)) _ _ _); k_dflt (refine' unpackN_ ?k1 ?k2 ?k3 ?k4 ?k5 ?k6 ?_; (case k1 => k_asm); (case k2 => k_asm); (case k3 => (exact News.isTup (by k_asm) (by k_mem))); (case k4 => assumption); (case k5 => exact rfl); (case k6 => exact rfl); k_whole); intro h' F' N'; (try k_sweep)))
local macro_rules | `(tactic| walk_at "eval Name") => `(tactic| (k_here; kc_free; k_dflt (refine' nameX_F ?N ?c ?m ?d ?_ ?a ?b; (case a => rfl); (case b => rfl); (case N => k_asm); (case c => rfl); (case m => k_mem); (case d => k_asm); k_whole)))
local macro_rules | `(tactic| walk_at "eval Name") => `(tactic| (k_here; k_dflt (refine' nameX_L ?k1 ?k2 ?_ ?k3 ?k4 ?k5; (case k3 => rfl); (case k4 => rfl); (case k5 => decide); (case k1 => k_asm); (case k2 => assumption); k_whole)))
local macro_rules | `(tactic| walk_at "compareOp In int ref") => `(tactic| (refine d_in (by k_asm) (by k_mem) (by k_asm) (by k_asm) ?_))

local macro_rules | `(tactic| walk_at "binaryOp BitOr int int") => `(tactic| (k_here; first | with_reducible refine or12 ?_ | with_reducible refine or34 ?_))
local macro_rules | `(tactic| walk_at "eval Name") => `(tactic| (k_here; k_dflt (refine' nameX_C ?N ?c ?m ?d ?_ ?a ?b; (case b => rfl); (case c => rfl); (case N => k_asm); (case m => k_mem); (case d => k_asm); (case a => rfl); k_whole)))
local macro_rules | `(tactic| walk_at "exec Try") => `(tactic| (k_here; refine wpAny_Try_except ?_))
local macro_rules | `(tactic| walk_at "callWith ref") => `(tactic| (k_here; k_dflt (first
  | (refine' callWith_F ?k1 ?_; (case k1 => exact FnAt.of (by k_asm) (by k_mem)); k_whole)
  | (refine' callWith_F0 ?k1 ?_; (case k1 => exact FnAt.of (by k_asm) (by k_mem)); k_whole; try dsimp only [List.nil_append, List.cons_append]))))

def nmL (n : Nat) : Str := if n = 30 then Str.ofString "_find_lcas.<locals>._has_candidates" else Str.ofString "_find_lcas.<locals>.<lambda>"

structure MIn (m : Str → Option Value) (pf af c2l : Addr) (c1 mn : Int) : Prop where
  pf : m (Str.ofString "lookup_parents") = some (.ref pf)
  af : m (Str.ofString "lookup_stamp") = some (.ref af)
  c1 : ∃ t, m (Str.ofString "c1") = some (.int c1 t)
  c2 : m (Str.ofString "c2s") = some (.ref c2l)
  mn : ∃ t, m (Str.ofString "min_stamp") = some (.int mn t)
  sh : m (Str.ofString "shallows") = some .none

structure HOut (R : List (Addr × Obj)) (L pf af c2l : Addr) (mn : Int) (hname : Str) (hparams : Arguments) (hbody : List Stmt) (hscope : Scope) (m' : Str → Option Value) (wl wld pql cst cl hcf c' : Addr) (hsh : Int) (tq t4 : Tok) (ocell' oc' : Obj) (cvs : Array Value) (qual : Str) (tc' : Tok)
    (doc pm ctv : Value) (R' : List (Addr × Obj)) (ps' : Array Value) (tb : List (Addr × Obj)) : Prop where
  M : MOk m' pf af cst cl wl hcf mn
  mc2 : m' (Str.ofString "c2s") = some (.ref c2l)
  o1 : cl < cst
  o2 : cst < pql
  lo : (cst == sysModules) = false
  hcd : ocell'.data = .cell (some (.int 4 t4))
  hoc1 : oc'.data = .fields cvs
  hoc2 : cvs[1]? = some (.str qual tc')
  hw : (wl, inst 80 wld) ∈ R'
  hwd : (wld, qDict hsh tq pql) ∈ R'
  hfo : (hcf, fnMade hname qual hparams hbody hscope [("_DNC", L + 1)] doc pm c' ctv) ∈ R'
  hcell : (L + 1, ocell') ∈ R'
  hcc : (c', oc') ∈ R'
  htab : (87, tabObj ps') ∈ R'
  hcl : (cl, listOf #[] 0) ∈ R'
  TO : TabOk nmL tb ps'
  htb : ∀ q ∈ tb, q ∈ R' ∧ q.1 ≠ 87 ∧ (q ∈ R ∨ L + 1 < q.1)
  hsub : ∀ q ∈ R, q ∈ R'
  hsp : ∀ q ∈ R', q.1 ≠ pql
  hsc : ∀ q ∈ R', q.1 ≠ cst
  hsl : ∀ q ∈ R', q.1 = cl → q = (cl, listOf #[] 0)
  hRL : ∀ q ∈ R, q.1 < L
  Ll : L + 1 < cl

section
variable {prog : Program} {w : World} {A₀ A : Around} {base h₀ : Heap} {outer : List Env} {L : Addr} {mg mb : Str → Option Value} {s : Shared}
  {p : Program} {loose : List Str} {mean : ExcName → Option Value} {E : Value → Shared → Prop} {Q : Flow → Shared → Prop}

theorem pickN {h : Heap} {x a b c e : Addr × Obj} {extra R : List (Addr × Obj)} (N : News h₀ L h (x :: (extra ++ (a :: b :: c :: e :: R)))) : ∃ R1, R1 = x :: (extra ++ R) ∧ News h₀ L h (a :: b :: c :: e :: R1) :=
  ⟨_, rfl, fun q hq => N q (by
    simp only [List.mem_cons, List.mem_append] at hq ⊢
    rcases hq with e | e | e | e | e | e | e
    · exact .inr (.inr (.inl e))
    · exact .inr (.inr (.inr (.inl e)))
    · exact .inr (.inr (.inr (.inr (.inl e))))
    · exact .inr (.inr (.inr (.inr (.inr (.inl e)))))
    · exact .inl e
    · exact .inr (.inl e)
    · exact .inr (.inr (.inr (.inr (.inr (.inr e))))))⟩
theorem mem_of_cons {α : Type} {x : α} {r R : List α} (h : R = x :: r) : x ∈ R := h ▸ .head _

set_option maxHeartbeats 4000000 in
theorem lcas_head {fd90 : FuncData} {oc90 : Value} {od90 : Option Addr} {osl90 : Array (Option Value)} {stmts : List Stmt} {hname : Str} {hparams : Arguments} {hbody : List Stmt} {hscope : Scope} {hpos : Pos}
   (hK : (hd.heap_39 w.params).lookup 90 = some ⟨oc90, od90, .func fd90, osl90⟩) (hst : fd90.body = .stmts stmts) (h6 : stmts[6]? = some (.FunctionDef hname hparams hbody [] none [] hscope none hname hpos))
   (B : Below A₀ base outer h₀) (X : (hd.heap_39 w.params).In h₀) (T : Top p loose mean mg mb h₀) (C : Stop (CodeHd h₀ 89 87))
   (hA : A.frames = some (envOfC fd90.qualname fd90.scope L 90 (.ref 89) :: outer)) (hh : A.handled = none) (hdep : A.depth + 60 < recursionLimit) (hu : A.units + 200 < cLine)
   {pf af c2l : Addr} {mn c1 : Int} {age : Int → Int} {dom : Int → Prop} {led : List (Addr × Obj)} {ps : Array Value} {ocell : Obj}
   (SA : AgeSpec prog w af led age dom)
   {m : Str → Option Value} {R : List (Addr × Obj)} {fda : FuncData} {oca : Value} {oda : Option Addr} {sla : Array (Option Value)} (hafo : (af, (⟨oca, oda, .func fda, sla⟩ : Obj)) ∈ R) (hled : ∀ q ∈ led, q ∈ R) 
   (F : Fr h₀ L s.heap m) (N : News h₀ L s.heap ((87, tabObj ps) :: (L + 1, ocell) :: R)) (M : MIn m pf af c2l c1 mn) (hcl : ocell.data = .cell none)
   (TO : TabOk nmL R ps) (hR87 : ∀ q ∈ R, q.1 ≠ 87) (hRL : ∀ q ∈ R, q.1 < L) (h87 : (87 : Addr) < L)
   (hd1 : dom c1)
   (h : ∀ h' tk m' wl wld pql cst cl hcf c' hsh tq t4 ocell' oc' cvs qual tc' doc pm ctv R' ps' tb xs n ks odc tups, Fr h₀ L h' m' → News h₀ L h' ((pql, listOf xs n) :: (cst, odc) :: R') →
      HOut R L pf af c2l mn hname hparams hbody hscope m' wl wld pql cst cl hcf c' hsh tq t4 ocell' oc' cvs qual tc' doc pm ctv R' ps' tb → PQL tups xs ks → (∀ q ∈ tups, q ∈ R' ∧ q.1 ≠ cl) → IsHeap ks → ks.toList.Perm [(-age c1, c1)] → DRel prog w odc (upd (fun _ => none) c1 1) 1 →
      Q .next { s with heap := h', toks := tk }) :
   wpAny (model prog w) A (execs (stmts.take 10) (envOfC fd90.qualname fd90.scope L 90 (.ref 89))) Q E s := by
  have e90 := lk hK (by k_is)
  cases e90
  cases hst
  cases h6
  simp only [List.take_succ_cons, List.take_zero]
  dsimp only at hA ⊢
  have m_pf := M.pf
  have m_af := M.af
  obtain ⟨tc1, m_c1⟩ := M.c1
  have m_c2 := M.c2
  obtain ⟨tmn, m_mn⟩ := M.mn
  have m_sh := M.sh
  have hRL1 : ∀ q ∈ R, q.1 ≠ L + 1 := fun q hq => Nat.ne_of_lt (Nat.lt_succ_of_lt (hRL q hq))
  k_steps
  rename News h₀ _ _ _ => N9
  rename Fr h₀ _ _ _ => F9
  rename_i l h2_ l1 h3_ d h4_ od lo _ _ hdd _ l2 h5_ h6_ h7_
  refine storeX_C (g := fun o' => (d, od) :: (l, listOf #[] 0) :: (87, tabObj ps) :: (L + 1, o') :: R) F9 N9 rfl (UpdF.tail (Nat.ne_of_gt l2.2.2.1) (UpdF.tail (Nat.ne_of_gt l1.2.1) (UpdF.tail (Nat.ne_of_lt (Nat.lt_succ_of_lt h87)) (UpdF.head hRL1)))) hcl ?_
  intro h1 oc1 F1 N1 hoc1
  clear F9 N9
  have D1 : DRel prog w od (fun _ => none) 0 := ⟨[], hdd, Nat.le_refl _, fun k => ⟨fun _ => rfl, fun f e => nomatch e⟩⟩
  k_steps
  rename News h₀ _ _ _ => N9
  rename Fr h₀ _ _ _ => F9
  refine nestDef_K rfl rfl rfl ?_
  refine nest_any (g := fun o' => (d, od) :: (l, listOf #[] 0) :: (87, o') :: (L + 1, oc1) :: R) F9 N9 T C rfl ?u1 TO rfl rfl ?_
  case u1 =>
    refine UpdF.tail (Nat.ne_of_gt l2.2.1) (UpdF.tail (Nat.ne_of_gt l1.1) (UpdF.head ?_))
    intro q hq
    rcases List.mem_cons.mp hq with e | hq
    · exact e ▸ Nat.ne_of_gt (Nat.lt_succ_of_lt h87)
    · exact hR87 q hq
  intro hcf c' oc vs t ctv doc h2 tk2 extra ps' F2 N2 TO2 hcc hoc hvs hlt hex hexf
  clear F9 N9
  obtain ⟨R1, hR1, N3⟩ := pickN N2
  clear N2
  have hfo1 := mem_of_cons hR1
  have hsub1 : ∀ q ∈ R, q ∈ R1 := fun q hq => hR1 ▸ .tail _ (List.mem_append_right _ hq)
  have TO3 : TabOk nmL R1 ps' := TO2.mono fun q hq => hR1 ▸ .tail _ hq
  have hcc1 : (c', oc) ∈ R1 := hR1 ▸ .tail _ hcc
  have hR1d : ∀ q ∈ R1, q.1 ≠ d ∧ q.1 ≠ l ∧ q.1 ≠ 87 ∧ q.1 ≠ L + 1 ∧ (q ∈ R ∨ d < q.1) := fun q hq => by
    have old : ∀ x : Addr, d < x → x ≠ d ∧ x ≠ l ∧ x ≠ 87 ∧ x ≠ L + 1 ∧ (q ∈ R ∨ d < x) := fun x hx => ⟨Nat.ne_of_gt hx, Nat.ne_of_gt (Nat.lt_trans l2.1 hx), Nat.ne_of_gt (Nat.lt_trans l2.2.1 hx), Nat.ne_of_gt (Nat.lt_trans l2.2.2.1 hx), .inr hx⟩
    subst hR1
    rcases List.mem_cons.mp hq with e | hq
    · exact e ▸ old _ (hlt _ (.head _))
    rcases List.mem_append.mp hq with hq | hq
    · exact old _ (hex q hq _ (.head _))
    · exact ⟨Nat.ne_of_lt (allLt_mem l2.2.2.2 q hq), Nat.ne_of_lt (allLt_mem l1.2.2 q hq), hR87 q hq, hRL1 q hq, .inl hq⟩
  clear hR1
  have s1 : ∀ q ∈ R1, q.1 ≠ d := fun q hq => (hR1d q hq).1
  have s2 : ∀ q ∈ R1, q.1 ≠ l := fun q hq => (hR1d q hq).2.1
  have s3 : ∀ q ∈ R1, q.1 ≠ 87 := fun q hq => (hR1d q hq).2.2.1
  have s4 : ∀ q ∈ R1, q.1 ≠ L + 1 := fun q hq => (hR1d q hq).2.2.2.1
  k_steps
  rename News h₀ _ _ _ => N9
  rename Fr h₀ _ _ _ => F9
  refine new_spec (A := A) B F9 X T hA rfl rfl hh (by omega) (by omega) N9 ?_
  intro h4 tk4 wl wld pql hsh tq F4 N4 q1 q2 q3
  clear F9 N9
  have p_d : d < wld := q1 _ (.head _)
  have p_l : l < wld := q1 _ (.tail _ (.head _))
  have s5 : ∀ q ∈ R1, q.1 ≠ wld := fun q hq => Nat.ne_of_lt (q1 q (.tail _ (.tail _ (.tail _ (.tail _ hq)))))
  have s6 : ∀ q ∈ R1, q.1 ≠ wl := fun q hq => Nat.ne_of_lt (Nat.lt_trans (q1 q (.tail _ (.tail _ (.tail _ (.tail _ hq))))) q2)
  have s7 : ∀ q ∈ R1, q.1 ≠ pql := fun q hq => Nat.ne_of_lt (Nat.lt_trans (Nat.lt_trans (q1 q (.tail _ (.tail _ (.tail _ (.tail _ hq))))) q2) q3)
  k_steps
  rename News h₀ _ _ _ => N9
  rename Fr h₀ _ _ _ => F9
  obtain ⟨R2, hR2⟩ : ∃ R2, R2 = (wl, inst 80 wld) :: (wld, qDict hsh tq pql) :: (l, listOf #[] 0) :: (87, tabObj ps') :: (L + 1, oc1) :: R1 := ⟨_, rfl⟩
  have N10 : News h₀ L _ ((pql, listOf #[] 0) :: (d, od) :: R2) := fun q hq => N9 q (by
    subst hR2
    simp only [List.mem_cons] at hq ⊢
    rcases hq with e | e | e | e | e | e | e | e
    · exact .inl e
    · exact .inr (.inr (.inr (.inl e)))
    · exact .inr (.inl e)
    · exact .inr (.inr (.inl e))
    · exact .inr (.inr (.inr (.inr (.inl e))))
    · exact .inr (.inr (.inr (.inr (.inr (.inl e)))))
    · exact .inr (.inr (.inr (.inr (.inr (.inr (.inl e))))))
    · exact .inr (.inr (.inr (.inr (.inr (.inr (.inr e)))))))
  clear N9
  have hw2 : (wl, inst 80 wld) ∈ R2 := hR2 ▸ .head _
  have hwd2 : (wld, qDict hsh tq pql) ∈ R2 := hR2 ▸ .tail _ (.head _)
  have hcl2 : (l, listOf #[] 0) ∈ R2 := hR2 ▸ .tail _ (.tail _ (.head _))
  have htab2 : (87, tabObj ps') ∈ R2 := hR2 ▸ .tail _ (.tail _ (.tail _ (.head _)))
  have hcell2 : (L + 1, oc1) ∈ R2 := hR2 ▸ .tail _ (.tail _ (.tail _ (.tail _ (.head _))))
  have hsub2 : ∀ q ∈ R1, q ∈ R2 := fun q hq => hR2 ▸ .tail _ (.tail _ (.tail _ (.tail _ (.tail _ hq))))
  have p_dp : d < pql := Nat.lt_trans (Nat.lt_trans p_d q2) q3
  have hRp : ∀ q ∈ R2, q.1 ≠ pql := fun q hq => by
    subst hR2
    simp only [List.mem_cons] at hq
    rcases hq with e | e | e | e | e | e
    · exact e ▸ Nat.ne_of_lt q3
    · exact e ▸ Nat.ne_of_lt (Nat.lt_trans q2 q3)
    · exact e ▸ Nat.ne_of_lt (Nat.lt_trans l2.1 p_dp)
    · exact e ▸ Nat.ne_of_lt (Nat.lt_trans l2.2.1 p_dp)
    · exact e ▸ Nat.ne_of_lt (Nat.lt_trans l2.2.2.1 p_dp)
    · exact s7 q e
  have hRd : ∀ q ∈ R2, q.1 ≠ d := fun q hq => by
    subst hR2
    simp only [List.mem_cons] at hq
    rcases hq with e | e | e | e | e | e
    · exact e ▸ Nat.ne_of_gt (Nat.lt_trans p_d q2)
    · exact e ▸ Nat.ne_of_gt p_d
    · exact e ▸ Nat.ne_of_lt l2.1
    · exact e ▸ Nat.ne_of_lt l2.2.1
    · exact e ▸ Nat.ne_of_lt l2.2.2.1
    · exact s1 q e
  have hRl : ∀ q ∈ R2, q.1 = l → q = (l, listOf #[] 0) := fun q hq e => by
    subst hR2
    simp only [List.mem_cons] at hq
    rcases hq with h | h | h | h | h | h
    · exact absurd ((congrArg Prod.fst h).symm.trans e : wl = l) (Nat.ne_of_gt (Nat.lt_trans p_l q2))
    · exact absurd ((congrArg Prod.fst h).symm.trans e : wld = l) (Nat.ne_of_gt p_l)
    · exact h
    · exact absurd ((congrArg Prod.fst h).symm.trans e : 87 = l) (Nat.ne_of_lt l1.1)
    · exact absurd ((congrArg Prod.fst h).symm.trans e : L + 1 = l) (Nat.ne_of_lt l1.2.1)
    · exact absurd e (s2 q h)
  refine d_set (gn := fun o' => (pql, listOf #[] 0) :: (d, o') :: R2) F9 N10 (UpdF.tail (Nat.ne_of_gt p_dp) (UpdF.head hRd)) D1 (by omega) ?_
  intro h5 odc2 F5 N5 D2
  clear F9 N10
  have hafo2 := hsub2 _ (hsub1 _ hafo)
  k_steps
  rename News h₀ _ _ _ => N9
  rename Fr h₀ _ _ _ => F9
  refine SA (A := A) B F9 X T hA rfl rfl hh (by omega) (by omega) N9 (fun q hq => .tail _ (.tail _ (hsub2 _ (hsub1 _ (hled q hq))))) hd1 ?_
  intro h6 tk6 u6 F6 N6
  clear F9 N9
  obtain ⟨D8, hD8⟩ : ∃ D : Addr, D = h6.objs.size := ⟨_, rfl⟩
  have hD8l : ∀ q ∈ (pql, listOf #[] 0) :: (d, odc2) :: R2, q.1 < D8 := fun q hq => hD8 ▸ lt_get (N6 q hq).1
  k_steps
  rename News h₀ _ _ _ => N9
  rename Fr h₀ _ _ _ => F9
  dsimp only at N9
  rw [← hD8] at N9 ⊢
  have N10 : News h₀ L _ ((pql, listOf #[] 0) :: (d, odc2) :: (D8, _) :: R2) := fun q hq => N9 q (by
    simp only [List.mem_cons] at hq ⊢
    rcases hq with e | e | e | e
    · exact .inr (.inl e)
    · exact .inr (.inr (.inl e))
    · exact .inl e
    · exact .inr (.inr (.inr e)))
  have hD8R : ∀ q ∈ R2, q.1 ≠ D8 := fun q hq => Nat.ne_of_lt (hD8l _ (.tail _ (.tail _ hq)))
  have PQ0 : PQL [] #[] #[] := ⟨rfl, fun i hi => absurd hi (Nat.not_lt_zero i)⟩
  refine add_spec (A := A) B F9 X T hA rfl rfl hh (by omega) (by omega) N10 (.tail _ (.tail _ hw2)) (.tail _ (.tail _ hwd2)) (.tail _ (.head _)) ?gne (tups := []) (fun q hq => nomatch hq) PQ0 ?hp (by decide) ?_
  case hp => intro i _ hi; exact absurd hi (Nat.not_lt_zero _)
  case gne =>
    intro q hq
    rcases List.mem_cons.mp hq with e | hq
    · exact e ▸ Nat.ne_of_lt p_dp
    rcases List.mem_cons.mp hq with e | hq
    · exact e ▸ Nat.ne_of_gt (hD8l _ (.head _))
    exact hRp q hq
  intro h7 tk7 xs7 ks7 n7 a7 t7 u7 F7 N7 P7 H7 hpr7 hlt7
  clear F9 N9 N10
  k_steps
  rename News h₀ _ _ _ => N9
  rename Fr h₀ _ _ _ => F9
  have hin : ∀ q ∈ R2, q ∈ (a7, tp (-age c1) t7 c1 u7) :: (D8, tp (age c1) u6 c1 tc1) :: R2 := fun q hq => .tail _ (.tail _ hq)
  refine h _ _ _ wl wld pql d l hcf c' hsh tq _ oc1 oc vs _ t doc _ ctv ((a7, tp (-age c1) t7 c1 u7) :: (D8, tp (age c1) u6 c1 tc1) :: R2) ps' (R1) xs7 n7 ks7 odc2 [(a7, tp (-age c1) t7 c1 u7)] F9 (fun q hq => N9 q ?_) ⟨?_, m_c2, l2.1, p_dp, lo, hoc1, hoc, hvs, hin _ hw2, hin _ hwd2, hin _ (hsub2 _ hfo1), hin _ hcell2, hin _ (hsub2 _ hcc1), hin _ htab2, hin _ hcl2, TO3, fun q hq => ⟨hin _ (hsub2 _ hq), s3 q hq, ?_⟩, fun q hq => hin _ (hsub2 _ (hsub1 _ hq)), ?_, ?_, ?_, hRL, l1.2.1⟩ P7 ?_ H7 hpr7 D2
  · simp only [List.mem_cons] at hq ⊢
    rcases hq with e | e | e | e | e
    · exact .inr (.inl e)
    · exact .inr (.inr (.inl e))
    · exact .inl e
    · exact .inr (.inr (.inr (.inl e)))
    · exact .inr (.inr (.inr (.inr e)))
  · exact ⟨m_pf, m_af, rfl, rfl, rfl, rfl, ⟨_, rfl⟩, ⟨_, rfl⟩, ⟨_, rfl⟩, ⟨_, m_mn⟩, m_sh⟩
  · exact (hR1d q hq).2.2.2.2.imp id (fun h => Nat.lt_trans l2.2.2.1 h)
  · intro q hq
    rcases List.mem_cons.mp hq with e | hq
    · exact e ▸ Nat.ne_of_gt (hlt7 _ (.head _))
    rcases List.mem_cons.mp hq with e | hq
    · exact e ▸ Nat.ne_of_gt (hD8l _ (.head _))
    exact hRp q hq
  · intro q hq
    rcases List.mem_cons.mp hq with e | hq
    · exact e ▸ Nat.ne_of_gt (hlt7 _ (.tail _ (.head _)))
    rcases List.mem_cons.mp hq with e | hq
    · exact e ▸ Nat.ne_of_gt (hD8l _ (.tail _ (.head _)))
    exact hRd q hq
  · intro q hq e
    rcases List.mem_cons.mp hq with e' | hq
    · exact absurd ((congrArg Prod.fst e').symm.trans e : a7 = l) (Nat.ne_of_gt (Nat.lt_trans l2.1 (hlt7 _ (.tail _ (.head _)))))
    rcases List.mem_cons.mp hq with e' | hq
    · exact absurd ((congrArg Prod.fst e').symm.trans e : D8 = l) (Nat.ne_of_gt (Nat.lt_trans l2.1 (hD8l _ (.tail _ (.head _)))))
    exact hRl q hq e
  · intro q hq
    rcases List.mem_cons.mp hq with e | hq
    · have hla : l < a7 := Nat.lt_trans l2.1 (hlt7 _ (.tail _ (.head _)))
      rw [e]
      exact ⟨.head _, Nat.ne_of_gt hla⟩
    · cases hq
end
end Mine

/-! ## L4 -/
namespace Mine
open PySem PySem.W PySem.Calls PyProof.Rows
open Sem (wp)
set_option maxRecDepth 100000

theorem fillK8 : ∀ w : World, PySem.Challenge.rw_bh0019_01.Holds → hd.heap_39 w.params = hd.heap_39 w.params := by
  w_top off
  first | (walk1; fail) | skip
  k_fill
  intro _ _; rfl

local macro_rules | `(tactic| k_mem) => `(tactic| assumption)
local macro_rules | `(tactic| k_room) => `(tactic| ((simp only [depth_under_make, depth_under_kw, depth_in1, depth_deeper, depth_caller, Around.in1_units, Around.deeper_units]); omega))
local macro_rules | `(tactic| k_all) => `(tactic| first | assumption | exact allNe_of (by assumption) (by omega))
local macro_rules | `(tactic| walk_at "assign Tuple") => `(tactic| (k_here; (with_reducible show wpAny _ _ (assign (Expr.Tuple _ _ _) _ (Value.ref _)) _ _ _); k_dflt (refine' unpackN_ ?k1 ?k2 ?k3 ?k4 ?k5 ?k6 ?_; (case k1 => k_asm); (case k2 => k_asm); (case k3 => (exact News.isTup (by k_asm) (by k_mem))); (case k4 => assumption); (case k5 => exact rfl); (case k6 => exact rfl); k_whole); intro h' F' N'; (try k_sweep)))
local macro_rules | `(tactic| walk_at "eval Name") => `(tactic| (k_here; kc_free; k_dflt (refine' nameX_F ?N ?c ?m ?d ?_ ?a ?b; (case a => rfl); (case b => rfl); (case N => k_asm); (case c => rfl); (case m => k_mem); (case d => k_asm); k_whole)))
local macro_rules | `(tactic| walk_at "eval Name") => `(tactic| (k_here; k_dflt (refine' nameX_L ?k1 ?k2 ?_ ?k3 ?k4 ?k5; (case k3 => rfl); (case k4 => rfl); (case k5 => decide); (case k1 => k_asm); (case k2 => assumption); k_whole)))
local macro_rules | `(tactic| walk_at "compareOp In int ref") => `(tactic| (refine d_in (by k_asm) (by k_mem) (by k_asm) (by k_asm) ?_))

local macro_rules | `(tactic| walk_at "binaryOp BitOr int int") => `(tactic| (k_here; first | with_reducible refine or12 ?_ | with_reducible refine or34 ?_))
local macro_rules | `(tactic| walk_at "eval Name") => `(tactic| (k_here; k_dflt (refine' nameX_C ?N ?c ?m ?d ?_ ?a ?b; (case b => rfl); (case c => rfl); (case N => k_asm); (case m => k_mem); (case d => k_asm); (case a => rfl); k_whole)))
local macro_rules | `(tactic| walk_at "exec Try") => `(tactic| (k_here; refine wpAny_Try_except ?_))
local macro_rules | `(tactic| walk_at "callWith ref") => `(tactic| (k_here; k_dflt (first
  | (refine' callWith_F ?k1 ?_; (case k1 => exact FnAt.of (by k_asm) (by k_mem)); k_whole)
  | (refine' callWith_F0 ?k1 ?_; (case k1 => exact FnAt.of (by k_asm) (by k_mem)); k_whole; try dsimp only [List.nil_append, List.cons_append]))))

theorem HOut.ext {R : List (Addr × Obj)} {L pf af c2l : Addr} {mn : Int} {hname : Str} {hparams : Arguments} {hbody : List Stmt} {hscope : Scope} {m' m'' : Str → Option Value} {wl wld pql cst cl hcf c' : Addr} {hsh : Int} {tq t4 : Tok} {ocell' oc' : Obj} {cvs : Array Value} {qual : Str} {tc' : Tok}
    {doc pm ctv : Value} {R' : List (Addr × Obj)} {ps' : Array Value} {tb added : List (Addr × Obj)} (H : HOut R L pf af c2l mn hname hparams hbody hscope m' wl wld pql cst cl hcf c' hsh tq t4 ocell' oc' cvs qual tc' doc pm ctv R' ps' tb)
    (M : MOk m'' pf af cst cl wl hcf mn) (mc2 : m'' (Str.ofString "c2s") = some (.ref c2l)) (ha : ∀ q ∈ added, pql < q.1) : HOut R L pf af c2l mn hname hparams hbody hscope m'' wl wld pql cst cl hcf c' hsh tq t4 ocell' oc' cvs qual tc' doc pm ctv (added ++ R') ps' tb where
  M := M
  mc2 := mc2
  o1 := H.o1
  o2 := H.o2
  lo := H.lo
  hcd := H.hcd
  hoc1 := H.hoc1
  hoc2 := H.hoc2
  hw := List.mem_append_right _ H.hw
  hwd := List.mem_append_right _ H.hwd
  hfo := List.mem_append_right _ H.hfo
  hcell := List.mem_append_right _ H.hcell
  hcc := List.mem_append_right _ H.hcc
  htab := List.mem_append_right _ H.htab
  hcl := List.mem_append_right _ H.hcl
  TO := H.TO
  htb := fun q hq => ⟨List.mem_append_right _ (H.htb q hq).1, (H.htb q hq).2⟩
  hsub := fun q hq => List.mem_append_right _ (H.hsub q hq)
  hsp := fun q hq => (List.mem_append.mp hq).elim (fun h => Nat.ne_of_gt (ha q h)) (H.hsp q)
  hsc := fun q hq => (List.mem_append.mp hq).elim (fun h => Nat.ne_of_gt (Nat.lt_trans H.o2 (ha q h))) (H.hsc q)
  hsl := fun q hq e => (List.mem_append.mp hq).elim (fun h => absurd e (Nat.ne_of_gt (Nat.lt_trans (Nat.lt_trans H.o1 H.o2) (ha q h)))) (fun h => H.hsl q h e)
  hRL := H.hRL
  Ll := H.Ll

section
variable {prog : Program} {w : World} {A₀ A : Around} {base h₀ : Heap} {outer : List Env} {L : Addr} {mg mb : Str → Option Value} {s : Shared}
  {p : Program} {loose : List Str} {mean : ExcName → Option Value} {E : Value → Shared → Prop} {Q : Flow → Shared → Prop}

set_option maxHeartbeats 4000000 in
theorem lcas_for {fd90 : FuncData} {oc90 : Value} {od90 : Option Addr} {osl90 : Array (Option Value)} {stmts : List Stmt} {target it0 : PySem.Expr} {fbody forelse : List Stmt} {fpos : Pos}
   (hK : (hd.heap_39 w.params).lookup 90 = some ⟨oc90, od90, .func fd90, osl90⟩) (hst : fd90.body = .stmts stmts) (h10 : stmts[10]? = some (.For target it0 fbody forelse fpos))
   (B : Below A₀ base outer h₀) (X : (hd.heap_39 w.params).In h₀) (T : Top p loose mean mg mb h₀)
   (hA : A.frames = some (envOfC fd90.qualname fd90.scope L 90 (.ref 89) :: outer)) (hh : A.handled = none) (hdep : A.depth + 60 < recursionLimit) (hu : A.units + 200 < cLine)
   {pf af c2l : Addr} {mn c2 : Int} {age : Int → Int} {dom : Int → Prop} {led : List (Addr × Obj)} 
   (SA : AgeSpec prog w af led age dom)
   {R : List (Addr × Obj)} {fda : FuncData} {oca : Value} {oda : Option Addr} {sla : Array (Option Value)} (hafo : (af, (⟨oca, oda, .func fda, sla⟩ : Obj)) ∈ R) (hled : ∀ q ∈ led, q ∈ R) 
   {t2 : Tok} {n2 : Nat} (hc2 : (c2l, listOf #[.int c2 t2] n2) ∈ R) (hd2 : dom c2) 
   {hname : Str} {hparams : Arguments} {hbody : List Stmt} {hscope : Scope} {m' : Str → Option Value} {wl wld pql cst cl hcf c' : Addr} {hsh : Int} {tq t4 : Tok} {ocell' oc' : Obj} {cvs : Array Value} {qual : Str} {tc' : Tok}
    {doc pm ctv : Value} {R' : List (Addr × Obj)} {ps' : Array Value} {tb tups : List (Addr × Obj)} {xs : Array Value} {n Nd : Nat} {ks : Array Key} {odc : Obj} {pq : List Key} {c : Cst}
   (F : Fr h₀ L s.heap m') (N : News h₀ L s.heap ((pql, listOf xs n) :: (cst, odc) :: R'))
   (H : HOut R L pf af c2l mn hname hparams hbody hscope m' wl wld pql cst cl hcf c' hsh tq t4 ocell' oc' cvs qual tc' doc pm ctv R' ps' tb) (P : PQL tups xs ks) (htu : ∀ q ∈ tups, q ∈ R' ∧ q.1 ≠ cl) (HK : IsHeap ks) (hpm : ks.toList.Perm pq) (hz : ks.size < 900) (D : DRel prog w odc c Nd) (hNd : Nd < 9000)
   (h : ∀ h' tk m' R' xs n ks odc tups, Fr h₀ L h' m' → News h₀ L h' ((pql, listOf xs n) :: (cst, odc) :: R') →
      HOut R L pf af c2l mn hname hparams hbody hscope m' wl wld pql cst cl hcf c' hsh tq t4 ocell' oc' cvs qual tc' doc pm ctv R' ps' tb → PQL tups xs ks → (∀ q ∈ tups, q ∈ R' ∧ q.1 ≠ cl) → IsHeap ks → ks.toList.Perm ((-age c2, c2) :: pq) → DRel prog w odc (upd c c2 (Builtin.bitOr ((c c2).getD 0) 2)) (Nd + 1) →
      Q .next { s with heap := h', toks := tk }) :
   wpAny (model prog w) A (exec (.For target it0 fbody forelse fpos) (envOfC fd90.qualname fd90.scope L 90 (.ref 89))) Q E s := by
  have e90 := lk hK (by k_is)
  cases e90
  cases hst
  cases h10
  dsimp only at hA ⊢
  have m_c2 := H.mc2
  have hc2' := H.hsub _ hc2
  refine wpAny_For ?_
  k_steps
  rename News h₀ _ _ _ => N9
  rename Fr h₀ _ _ _ => F9
  refine wpAny_pyIter_list (items := #[.int c2 t2]) ⟨_, (N9 _ (.tail _ (.tail _ hc2'))).1, rfl, _, rfl⟩ ?_
  obtain ⟨it, hit⟩ : ∃ it : Addr, it = s.heap.objs.size := ⟨_, rfl⟩
  have hitl : ∀ q ∈ (pql, listOf xs n) :: (cst, odc) :: R', q.1 < it := fun q hq => hit ▸ lt_get (N9 q hq).1
  (try dsimp only)
  rw [← hit]
  refine forLoopA (fun _ kk s' => (kk = 1 ∧ s' = { s with heap := s.heap.push { cls := .type "list_iterator", data := .fields #[.ref c2l, .int 0 0] } }) ∨
     (kk = 0 ∧ ∃ h3 tk3 m3 added xs3 n3 ks3 odc3 tups3 oit, s' = { s with heap := h3, toks := tk3 } ∧ Fr h₀ L h3 m3 ∧ News h₀ L h3 ((pql, listOf xs3 n3) :: (cst, odc3) :: (it, oit) :: (added ++ R')) ∧ (oit.cls = .type "list_iterator" ∧ oit.data = .fields #[.ref c2l, .int 1 0]) ∧
       MOk m3 pf af cst cl wl hcf mn ∧ m3 (Str.ofString "c2s") = some (.ref c2l) ∧ (∀ q ∈ added, pql < q.1 ∧ q.1 ≠ it) ∧ PQL tups3 xs3 ks3 ∧ (∀ q ∈ tups3, q ∈ added ++ R' ∧ q.1 ≠ cl) ∧ IsHeap ks3 ∧ ks3.toList.Perm ((-age c2, c2) :: pq) ∧ DRel prog w odc3 (upd c c2 (Builtin.bitOr ((c c2).getD 0) 2)) (Nd + 1))) ?_ 1 (.inl ⟨rfl, rfl⟩)
  have hpi : pql < it := hitl _ (.head _)
  have hci : cst < it := hitl _ (.tail _ (.head _))
  have hRi : ∀ q ∈ R', q.1 ≠ it := fun q hq => Nat.ne_of_lt (hitl q (.tail _ (.tail _ hq)))
  rintro kk s' (⟨rfl, rfl⟩ | ⟨rfl, h3, tk3, m3, added, xs3, n3, ks3, odc3, tups3, oit, rfl, F3, N3, hoit, M3, mc3, hadd, P3, ht3, H3, hpm3, D3⟩)
  · have F9' := F9.push ({ cls := .type "list_iterator", data := .fields #[.ref c2l, .int 0 0] } : Obj)
    have N9' := N9.push F9 ({ cls := .type "list_iterator", data := .fields #[.ref c2l, .int 0 0] } : Obj)
    rw [← hit] at N9'
    refine wpAny_pyNext_list_item (items := #[.int c2 t2]) (i := 0) (x := .int c2 t2) ⟨_, (N9' _ (.head _)).1, rfl, rfl⟩ ⟨_, (N9' _ (.tail _ (.tail _ (.tail _ hc2')))).1, rfl, _, rfl⟩ rfl fun h4 hit4 hs4 => ?_
    obtain ⟨oit4, ho4, hoit4⟩ := hit4
    have F4 := F9'.update N9' (.head _) hs4
    have N4 : News h₀ L h4 ((it, oit4) :: (pql, listOf xs n) :: (cst, odc) :: R') := by
      refine News.setAt (own := []) N9' (fun q hq => nomatch hq) (fun q hq => ?_) hs4 ho4
      exact Nat.ne_of_lt (hitl q hq)
    have N5 : News h₀ L h4 ((pql, listOf xs n) :: (cst, odc) :: (it, oit4) :: R') := fun q hq => N4 q (by
      simp only [List.mem_cons] at hq ⊢
      rcases hq with e | e | e | e
      · exact .inr (.inl e)
      · exact .inr (.inr (.inl e))
      · exact .inl e
      · exact .inr (.inr (.inr e)))
    clear F9 N9 N4 N9' F9'
    have m_af := H.M.af
    have m_cst := H.M.cst
    have m_wl := H.M.wl
    obtain ⟨ta2, m_a2⟩ := H.M.a2
    have m_sh := H.M.sh
    have lo := H.lo
    have o2 := H.o2
    have hw2 := H.hw
    have hwd2 := H.hwd
    have hafo2 := H.hsub _ hafo
    have hRp := H.hsp
    have hRc := H.hsc
    refine wpAny_pure ?_
    k_steps
    refine d_getm (by k_asm) (by k_mem) D ?_
    k_steps
    refine d_get2 (by k_asm) (by k_mem) D lo ?_
    intro upf
    k_steps
    rename News h₀ _ _ _ => N9
    rename Fr h₀ _ _ _ => F9
    refine d_set (gn := fun o' => (pql, listOf xs n) :: (cst, o') :: (it, oit4) :: R') F9 N9 (UpdF.tail (Nat.ne_of_gt o2) (UpdF.head ?hne)) D (by omega) ?_
    case hne =>
      intro q hq
      rcases List.mem_cons.mp hq with e | hq
      · exact e ▸ Nat.ne_of_gt hci
      · exact hRc q hq
    intro h5 odc5 F5 N5 D5
    clear F9 N9
    k_steps
    rename News h₀ _ _ _ => N9
    rename Fr h₀ _ _ _ => F9
    refine SA (A := A) B F9 X T hA rfl rfl hh (by omega) (by omega) N9 (fun q hq => .tail _ (.tail _ (.tail _ (H.hsub _ (hled q hq))))) hd2 ?_
    intro h6 tk6 u6 F6 N6
    clear F9 N9
    k_steps
    rename News h₀ _ _ _ => N9
    rename Fr h₀ _ _ _ => F9
    rename_i D8 h8 l1
    have hD8l : ∀ q ∈ (pql, listOf xs n) :: (cst, odc5) :: (it, oit4) :: R', q.1 < D8 := fun q hq => by
      rcases List.mem_cons.mp hq with e | hq
      · exact e ▸ l1.1
      rcases List.mem_cons.mp hq with e | hq
      · exact e ▸ l1.2.1
      rcases List.mem_cons.mp hq with e | hq
      · exact e ▸ l1.2.2.1
      exact allLt_mem l1.2.2.2 q hq
    have N10 : News h₀ L _ ((pql, listOf xs n) :: (cst, odc5) :: (it, oit4) :: (D8, _) :: R') := fun q hq => N9 q (by
      simp only [List.mem_cons] at hq ⊢
      rcases hq with e | e | e | e | e
      · exact .inr (.inl e)
      · exact .inr (.inr (.inl e))
      · exact .inr (.inr (.inr (.inl e)))
      · exact .inl e
      · exact .inr (.inr (.inr (.inr e))))
    refine add_spec (A := A) B F9 X T hA rfl rfl hh (by omega) (by omega) N10 (.tail _ (.tail _ (.tail _ hw2))) (.tail _ (.tail _ (.tail _ hwd2))) (.tail _ (.tail _ (.head _))) ?gne (tups := tups) (fun q hq => .tail _ (.tail _ (.tail _ (htu q hq).1))) P HK (by omega) ?_
    case gne =>
      intro q hq
      rcases List.mem_cons.mp hq with e | hq
      · exact e ▸ Nat.ne_of_lt o2
      rcases List.mem_cons.mp hq with e | hq
      · exact e ▸ Nat.ne_of_gt hpi
      rcases List.mem_cons.mp hq with e | hq
      · exact e ▸ Nat.ne_of_gt (hD8l _ (.head _))
      exact hRp q hq
    intro h7 tk7 xs7 ks7 n7 a7 t7 u7 F7 N7 P7 H7 hpr7 hlt7
    clear F9 N9 N10
    k_steps
    rename News h₀ _ _ _ => N9
    rename Fr h₀ _ _ _ => F9
    have hla : cl < a7 := Nat.lt_trans (Nat.lt_trans H.o1 o2) (hlt7 _ (.head _))
    refine ⟨0, Nat.zero_lt_one, .inr ⟨rfl, _, _, _, [(a7, tp (-age c2) t7 c2 u7), (D8, tp (age c2) u6 c2 t2)], xs7, n7, ks7, odc5, (a7, tp (-age c2) t7 c2 u7) :: tups, oit4, rfl, F9, fun q hq => N9 q ?_, hoit4, ?_, H.mc2, ?_, P7, ?_, H7, hpr7.trans (hpm.cons _), D5⟩⟩
    · simp only [List.mem_cons, List.cons_append, List.nil_append] at hq ⊢
      rcases hq with e | e | e | e | e | e
      · exact .inr (.inl e)
      · exact .inr (.inr (.inl e))
      · exact .inr (.inr (.inr (.inl e)))
      · exact .inl e
      · exact .inr (.inr (.inr (.inr (.inl e))))
      · exact .inr (.inr (.inr (.inr (.inr e))))
    · exact (H.M.set (by decide)).set (by decide)
    · intro q hq
      rcases List.mem_cons.mp hq with e | hq
      · exact e ▸ ⟨hlt7 _ (.head _), Nat.ne_of_gt (hlt7 _ (.tail _ (.tail _ (.head _))))⟩
      rcases List.mem_cons.mp hq with e | hq
      · exact e ▸ ⟨hD8l _ (.head _), Nat.ne_of_gt (hD8l _ (.tail _ (.tail _ (.head _))))⟩
      cases hq
    · intro q hq
      rcases List.mem_cons.mp hq with e | hq
      · rw [e]; exact ⟨.head _, Nat.ne_of_gt hla⟩
      · exact ⟨List.mem_append_right _ (htu q hq).1, (htu q hq).2⟩
  · have hAR : ∀ q ∈ added ++ R', q.1 ≠ it := fun q hq => (List.mem_append.mp hq).elim (fun h => (hadd q h).2) (hRi q)
    have hc2a : (c2l, listOf #[.int c2 t2] n2) ∈ added ++ R' := List.mem_append_right _ hc2'
    refine wpAny_pyNext_list_end hh (items := #[.int c2 t2]) (i := 1) ⟨oit, (N3 _ (.tail _ (.tail _ (.head _)))).1, hoit⟩ ⟨_, (N3 _ (.tail _ (.tail _ (.tail _ hc2a)))).1, rfl, _, rfl⟩ rfl fun h4 hs4 => ?_
    have hs4 : Heap.ExtBut it h3 h4 := hs4
    have N3' : News h₀ L h3 ((pql, listOf xs3 n3) :: (cst, odc3) :: (added ++ R')) := fun q hq => N3 q (by
      rcases List.mem_cons.mp hq with e | hq
      · exact e ▸ .head _
      rcases List.mem_cons.mp hq with e | hq
      · exact .tail _ (e ▸ .head _)
      exact .tail _ (.tail _ (.tail _ hq)))
    have N4 : News h₀ L h4 ((pql, listOf xs3 n3) :: (cst, odc3) :: (added ++ R')) := fun q hq => ⟨hs4 _ _ (by
      rcases List.mem_cons.mp hq with e | hq
      · exact e ▸ Nat.ne_of_lt hpi
      rcases List.mem_cons.mp hq with e | hq
      · exact e ▸ Nat.ne_of_lt hci
      exact hAR q hq) (N3' q hq).1, (N3' q hq).2⟩
    have F4 : Fr h₀ L h4 m3 := by
      have hne := (N3 _ (.tail _ (.tail _ (.head _)))).2
      exact ⟨F3.ns.extBut hs4 (Ne.symm hne.1), fun b o e => hs4 b o (fun hb => by rw [hb, hne.2] at e; exact nomatch e) (F3.keep b o e), F3.above⟩
    clear N3 F3
    k_steps
    rename News h₀ _ _ _ => N9
    rename Fr h₀ _ _ _ => F9
    exact h _ _ m3 _ xs3 n3 ks3 odc3 tups3 F9 N9 (H.ext M3 mc3 fun q hq => (hadd q hq).1) P3 ht3 H3 hpm3 D3
end
end Mine

/-! ## L5 -/
namespace Mine
open PySem PySem.W PySem.Calls PyProof.Rows
open Sem (wp)
set_option maxRecDepth 100000

theorem fillK9 : ∀ w : World, PySem.Challenge.rw_bh0019_01.Holds → hd.heap_39 w.params = hd.heap_39 w.params := by
  w_top off
  first | (walk1; fail) | skip
  k_fill
  intro _ _; rfl

local macro_rules | `(tactic| k_mem) => `(tactic| assumption)
local macro_rules | `(tactic| k_room) => `(tactic| ((simp only [depth_under_make, depth_under_kw, depth_in1, depth_deeper, depth_caller, Around.in1_units, Around.deeper_units]); omega))
local macro_rules | `(tactic| k_all) => `(tactic| first | assumption | exact allNe_of (by assumption) (by omega))
local macro_rules | `(tactic| walk_at "assign Tuple") => `(tactic| (k_here; (with_reducible show wpAny _ _ (assign (Expr.Tuple _ _ _) _ (Value.ref _)) _ _ _); k_dflt (refine' unpackN_ ?k1 ?k2 ?k3 ?k4 ?k5 ?k6 ?_; (case k1 => k_asm); (case k2 => k_asm); (case k3 => (exact News.isTup (by k_asm) (by k_mem))); (case k4 => assumption); (case k5 => exact rfl); (case k6 => exact rfl); k_whole); intro h' F' N'; (try k_sweep)))
local macro_rules | `(tactic| walk_at "eval Name") => `(tactic| (k_here; kc_free; k_dflt (refine' nameX_F ?N ?c ?m ?d ?_ ?a ?b; (case a => rfl); (case b => rfl); (case N => k_asm); (case c => rfl); (case m => k_mem); (case d => k_asm); k_whole)))
local macro_rules | `(tactic| walk_at "eval Name") => `(tactic| (k_here; k_dflt (refine' nameX_L ?k1 ?k2 ?_ ?k3 ?k4 ?k5; (case k3 => rfl); (case k4 => rfl); (case k5 => decide); (case k1 => k_asm); (case k2 => assumption); k_whole)))
local macro_rules | `(tactic| walk_at "compareOp In int ref") => `(tactic| (refine d_in (by k_asm) (by k_mem) (by k_asm) (by k_asm) ?_))

local macro_rules | `(tactic| walk_at "binaryOp BitOr int int") => `(tactic| (k_here; first | with_reducible refine or12 ?_ | with_reducible refine or34 ?_))
local macro_rules | `(tactic| walk_at "eval Name") => `(tactic| (k_here; k_dflt (refine' nameX_C ?N ?c ?m ?d ?_ ?a ?b; (case b => rfl); (case c => rfl); (case N => k_asm); (case m => k_mem); (case d => k_asm); (case a => rfl); k_whole)))
local macro_rules | `(tactic| walk_at "exec Try") => `(tactic| (k_here; refine wpAny_Try_except ?_))
local macro_rules | `(tactic| walk_at "callWith ref") => `(tactic| (k_here; k_dflt (first
  | (refine' callWith_F ?k1 ?_; (case k1 => exact FnAt.of (by k_asm) (by k_mem)); k_whole)
  | (refine' callWith_F0 ?k1 ?_; (case k1 => exact FnAt.of (by k_asm) (by k_mem)); k_whole; try dsimp only [List.nil_append, List.cons_append]))))

section
variable {prog : Program} {w : World} {A : Around} {h₀ : Heap} {L a : Addr} {m : Str → Option Value} {news : List (Addr × Obj)} {s : Shared} {E : Value → Shared → Prop} {Q : Value → Shared → Prop}
theorem sort_key {f : Addr} {vs : List Value} {kz : List Int} {n : Nat} (F : Fr h₀ L s.heap m) (N : News h₀ L s.heap ((a, listOf vs.toArray n) :: news)) (hna : ∀ p ∈ news, p.1 ≠ a) (hlen : kz.length = vs.length) (h64 : vs.length < 64)
    (turn : ∀ (i : Nat) (v : Value) (k : Int), vs[i]? = some v → kz[i]? = some k → ∀ (h : Heap) (tk : Nat) (own : List (Addr × Obj)), Fr h₀ L h m → News h₀ L h (news ++ own) →
      wpAny (model prog w) A.in1 (call (.ref f) [v]) (KskEnd h₀ L m (news ++ own) k { s with heap := h, toks := tk }) (fun _ _ => False) { s with heap := h, toks := tk })
    (h : ∀ h' tk out c, Fr h₀ L h' m → News h₀ L h' ((a, listOf out c) :: news) → KskOut false kz vs out.toList → Q .none { s with heap := h', toks := tk }) :
    wpAny (model prog w) A (call (.builtin "list.sort") [.ref a] [("key", .ref f)]) Q E s := by
  have z := N _ (.head _)
  refine wpAny_call_entry_kw slot_list_sort ⟨_, z.1, rfl⟩ entry_list_sort ?_ (ksk_l1 _ _)
  show wpAny (model prog w) A.in1 (Builtin.«list.sort» ⟨[.ref a], [(Str.ofString "key", .ref f)]⟩) _ _ _
  rw [ksk_t1]
  exact ksk_sort F (fun p hp => N p (.tail _ hp)) z.1 z.2.1 z.2.2 hna hlen h64 turn fun h' tk out c F' N' k' => ⟨_, rfl, h h' tk out c F' N' k'⟩
end

theorem pickL {h₀ h : Heap} {L : Addr} {x a b : Addr × Obj} {extra R : List (Addr × Obj)} (N : News h₀ L h (x :: (extra ++ (a :: b :: R)))) : ∃ R1, R1 = x :: (extra ++ R) ∧ News h₀ L h (a :: b :: R1) :=
  ⟨_, rfl, fun q hq => N q (by
    simp only [List.mem_cons, List.mem_append] at hq ⊢
    rcases hq with e | e | e | e | e
    · exact .inr (.inr (.inl e))
    · exact .inr (.inr (.inr (.inl e)))
    · exact .inl e
    · exact .inr (.inl e)
    · exact .inr (.inr (.inr (.inr e))))⟩

theorem kskOut_short {kz : List Int} {vs out : List Value} (hk : kz.length = vs.length) (hv : vs.length ≤ 1) (h : KskOut false kz vs out) : out = vs := by
  obtain ⟨ps, hp, rfl, _⟩ := h
  match vs, kz, hk, hv with
  | [], [], _, _ => rw [List.zip_nil_left] at hp; rw [hp.eq_nil]; rfl
  | [v], [k], _, _ => 
    have : ps = [(k, v)] := List.perm_singleton.mp hp
    rw [this]; rfl

section
variable {prog : Program} {w : World} {A₀ A : Around} {base h₀ : Heap} {outer : List Env} {L : Addr} {mg mb : Str → Option Value} {s : Shared}
  {p : Program} {loose : List Str} {mean : ExcName → Option Value} {E : Value → Shared → Prop} {Q : Flow → Shared → Prop}

set_option maxHeartbeats 4000000 in
theorem lcas_end {fd90 : FuncData} {oc90 : Value} {od90 : Option Addr} {osl90 : Array (Option Value)} {stmts : List Stmt} 
   (hK : (hd.heap_39 w.params).lookup 90 = some ⟨oc90, od90, .func fd90, osl90⟩) (hst : fd90.body = .stmts stmts) {tl : List Stmt} (htl : stmts.drop 14 = tl)
   (B : Below A₀ base outer h₀) (X : (hd.heap_39 w.params).In h₀) (T : Top p loose mean mg mb h₀) (C : Stop (CodeHd h₀ 89 87))
   (hA : A.frames = some (envOfC fd90.qualname fd90.scope L 90 (.ref 89) :: outer)) (hh : A.handled = none) (hdep : A.depth + 60 < recursionLimit) (hu : A.units + 200 < cLine)
   {m : Str → Option Value} {R tb : List (Addr × Obj)} {ps : Array Value} {rl : Addr} {n2 : Nat} (m_r : m (Str.ofString "results") = some (.ref rl))
   {vs : List Value} {res : List Int} (hvr : (vs = [] ∧ res = []) ∨ ∃ a d t x u, vs = [.ref a] ∧ (a, tp d t x u) ∈ R ∧ res = [x])
   (F : Fr h₀ L s.heap m) (N : News h₀ L s.heap ((rl, listOf vs.toArray n2) :: (87, tabObj ps) :: R)) (TO : TabOk nmL tb ps) (hR87 : ∀ q ∈ R, q.1 ≠ 87) (hRr : ∀ q ∈ R, q.1 ≠ rl) (h87 : 87 < rl) (htb : ∀ q ∈ tb, q ∈ R)
   (h : ∀ h' tk m' r vs' n' extra ps', Fr h₀ L h' m' → News h₀ L h' ((87, tabObj ps') :: (r, listOf vs' n') :: (extra ++ R)) → TabOk nmL (extra ++ tb) ps' → IntsAre vs'.toList res → (∀ q ∈ extra, rl < q.1 ∧ ∀ q' ∈ R, q'.1 < q.1) → (∀ q ∈ extra ++ R, q.1 < r) → rl < r → Q (.ret (.ref r)) { s with heap := h', toks := tk }) :
   wpAny (model prog w) A (execs tl (envOfC fd90.qualname fd90.scope L 90 (.ref 89))) Q E s := by
  have e90 := lk hK (by k_is)
  cases e90
  cases hst
  cases htl
  simp only [List.drop_succ_cons, List.drop_zero]
  dsimp only at hA ⊢
  have hrl : rl ≠ 87 := Nat.ne_of_gt h87
  k_steps
  dsimp only
  refine callWith_builtin_kwB rfl rfl ?_
  refine evalArgs_kw2_nil rfl ?_
  refine kwAll_cons ?_
  refine kla_eval rfl ?_
  refine lam_any (g := fun o' => (rl, listOf vs.toArray n2) :: (87, o') :: R) F N T C rfl (UpdF.tail hrl (UpdF.head hR87)) TO rfl rfl ?_
  intro f c' oc cvs t ctv h1 tk1 extra ps' F1 N1 TO1 hcm hoc hcv hlt hex hexf
  obtain ⟨R1, hR1, N2⟩ := pickL N1
  have hf1 := mem_of_cons hR1
  have hsub1 : ∀ q ∈ R, q ∈ R1 := fun q hq => hR1 ▸ .tail _ (List.mem_append_right _ hq)
  have hne1 : ∀ q ∈ R1, q.1 ≠ rl ∧ q.1 ≠ 87 := fun q hq => by
    subst hR1
    have old : ∀ x : Addr, rl < x → x ≠ rl ∧ x ≠ 87 := fun x hx => ⟨Nat.ne_of_gt hx, Nat.ne_of_gt (Nat.lt_trans h87 hx)⟩
    rcases List.mem_cons.mp hq with e | hq
    · exact e ▸ old _ (hlt _ (.head _))
    rcases List.mem_append.mp hq with hq | hq
    · exact old _ (hex q hq _ (.head _))
    · exact ⟨hRr q hq, hR87 q hq⟩
  have hcR : (c', oc) ∈ R1 := hR1 ▸ .tail _ ((List.mem_append.mp hcm).elim (List.mem_append_left _) (fun h => List.mem_append_right _ (htb _ h)))
  refine kwAll_nil ?_
  show wpAny (model prog w) A (call (.builtin "list.sort") [.ref rl] [(Str.ofString "key", .ref f)]) _ _ _
  obtain ⟨kz, hkl, hkz⟩ : ∃ kz : List Int, kz.length = vs.length ∧ ∀ (i : Nat) (v : Value) (k : Int), vs[i]? = some v → kz[i]? = some k → ∃ a t x u, v = .ref a ∧ (a, tp k t x u) ∈ R := by
    rcases hvr with ⟨rfl, _⟩ | ⟨a, d, t, x, u, rfl, ha, _⟩
    · exact ⟨[], rfl, fun i v k h => by simp at h⟩
    · refine ⟨[d], rfl, fun i v k h h' => ?_⟩
      cases i with
      | zero => simp at h h'; subst h; subst h'; exact ⟨a, t, x, u, rfl, ha⟩
      | succ i => simp at h
  have hvl : vs.length ≤ 1 := by
    rcases hvr with ⟨rfl, _⟩ | ⟨a, d, t, x, u, rfl, ha, _⟩
    · exact Nat.zero_le _
    · exact Nat.le_refl _
  refine sort_key F1 N2 (fun q hq => ?_) hkl (by omega) ?_ ?_
  · rcases List.mem_cons.mp hq with e | hq
    · exact e ▸ Ne.symm hrl
    · exact (hne1 q hq).1
  · intro i v k hv hk h tk own Fh Nh
    obtain ⟨a, ta, x, ua, rfl, hmem⟩ := hkz i v k hv hk
    refine wpAny_call ?_
    refine kla_code B Fh X Nh T hA rfl rfl (List.mem_append_left _ (.tail _ hf1)) ?hcd (by show A.depth + 0 < _; omega) rfl (locs rfl) ?_ rfl rfl rfl (by decide)
    case hcd => exact ⟨c', oc, cvs, t, rfl, (Nh _ (List.mem_append_left _ (.tail _ hcR))).1, hoc, hcv⟩
    intro g' L' h2 FG' F' N' B' X' T'
    (try dsimp only)
    (try k_lift B')
    (try k_fold)
    k_steps
    rename News _ _ _ _ => N9
    refine item_tuple (j := 0) (x := .int k ta) (News.isTup N9 (List.mem_append_left _ (.tail _ (hsub1 _ hmem)))) (by decide) (by decide) rfl rfl ?_
    k_steps
  · intro h2 tk2 out cc F2 N2' hko
    have hout := kskOut_short hkl hvl hko
    have hout' : out = vs.toArray := by rw [← hout]
    subst hout'
    have hvr' : ∀ (i : Nat) (v : Value), vs[i]? = some v → ∃ a d t x u, v = .ref a ∧ (a, tp d t x u) ∈ R ∧ res[i]? = some x := by
      rcases hvr with ⟨rfl, _⟩ | ⟨a, d, t, x, u, rfl, ha, rfl⟩
      · intro i v h; simp at h
      · intro i v h
        cases i with
        | zero => simp at h; exact ⟨a, d, t, x, u, h.symm, ha, rfl⟩
        | succ i => simp at h
    have hrv : res.length = vs.length := by
      rcases hvr with ⟨rfl, rfl⟩ | ⟨a, d, t, x, u, rfl, ha, rfl⟩ <;> rfl
    refine wpAny_execs_cons ?_
    refine compAssign (cl := []) (by rfl) (by with_unfolding_all rfl) rfl (by decide) (fun _ => rfl) ?_
    clear F N F1 N1 N2
    k_steps
    rename News h₀ _ _ _ => N9
    rename Fr h₀ _ _ _ => F9
    refine SrcL.list (l := rl) (items := vs.toArray) (cap := cc) hh F9 N9 (by rw [List.size_toArray, sizeLine_eq]; omega) (fun i ys nw => nw = (rl, listOf vs.toArray cc) :: (87, tabObj ps') :: R1 ∧ IntsAre ys (res.take i) ∧ ys.length = i) ?_ (by decide) rfl (fun I => asg_Pair hh (fun i h st => ⟨_, _, st.1⟩) rfl rfl (by decide) rfl) ?_ ?_ ⟨rfl, by rw [List.take_zero]; exact .nil, rfl⟩ ?_ ?_
    · rintro i ys nw ⟨rfl, _, _⟩; exact .head _
    · rintro i v ys nw hv ⟨rfl, _, _⟩
      obtain ⟨a, d, t, x, u, rfl, ha, _⟩ := hvr' i v (by simpa using hv)
      exact ⟨_, _, a, _, _, rfl, .tail _ (.tail _ (hsub1 _ ha)), rfl, rfl⟩
    · rintro i ys nw ⟨_, _, hl⟩; omega
    · rintro i v ys nw I oI C oC D m₂ h3 tk3 E' hv ⟨rfl, hi, hyl⟩ hoC hB F3 N3 off ne
      refine tests_nil ?_
      obtain ⟨v₁, v₂, ⟨t', ot', nt', rfl, hm', hc', hd'⟩, hb1, hb2⟩ := hB
      obtain ⟨a, d, t, x, u, e, ha, hx⟩ := hvr' i _ (by simpa using hv)
      cases e
      have g1 := (N3 _ (.tail _ (.tail _ (.tail _ hm')))).1
      have g2 := (N3 _ (.tail _ (.tail _ (.tail _ (.tail _ (.tail _ (hsub1 _ ha))))))).1
      dsimp only at g1 g2
      rw [g1] at g2
      cases g2
      cases hd'
      rw [if_pos rfl]
      refine wpAny_Name (wpAny_loadName_local rfl rfl (hoC.ns (N3 _ (.tail _ (.head _))).1) hb2 ?_) (by decide)
      refine ⟨h3, tk3, _, rfl, F3, N3, off, rfl, ?_, by rw [List.length_append, hyl]; rfl⟩
      rw [List.take_add_one, hx]
      exact hi.append (.cons _ _ .nil)
    · rintro D h3 tk3 ys nw F3 N3 hDn ⟨rfl, hi, hyl⟩ hsD C' m' hnC hCL hDL hC₀ hCD offC
      refine post_assign (L := L) ?a1 ?a2 ?a3 F3 N3 hnC hCL hC₀ hCD offC ?_
      case a1 => rfl
      case a2 => rfl
      case a3 => rfl
      intro h4 tk4 F4 N4
      have hlt9 : ∀ q ∈ (rl, listOf vs.toArray cc) :: (87, tabObj ps') :: R1, q.1 < D := fun q hq => Nat.lt_of_lt_of_le (lt_get (N9 q hq).1) hsD
      clear F9 N9
      k_steps
      rename News h₀ _ _ _ => N9
      rename Fr h₀ _ _ _ => F9
      have hall : IntsAre ys res := by
        have e : res.take vs.toArray.size = res := List.take_of_length_le (by rw [List.size_toArray, hrv]; exact Nat.le_refl _)
        rw [e] at hi; exact hi
      have hE : ∀ q ∈ extra ++ R, q ∈ R1 := fun q hq => hR1 ▸ .tail _ hq
      exact h _ _ _ D ys.toArray ys.length extra ps' F9 (fun q hq => N9 q (by
        rcases List.mem_cons.mp hq with e | hq
        · exact e ▸ .tail _ (.tail _ (.head _))
        rcases List.mem_cons.mp hq with e | hq
        · exact e ▸ .head _
        exact .tail _ (.tail _ (.tail _ (hE q hq))))) TO1 (by simpa using hall) (fun q hq => ⟨hex q hq _ (.head _), fun q' hq' => hex q hq q' (.tail _ (.tail _ hq'))⟩) (fun q hq => hlt9 q (.tail _ (.tail _ (hE q hq)))) (hlt9 _ (.head _))
end
end Mine

/-! ## L6 -/
namespace Mine
open PySem PySem.W PySem.Calls PyProof.Rows
open Sem (wp)
set_option maxRecDepth 100000

theorem fillK10 : ∀ w : World, PySem.Challenge.rw_bh0019_01.Holds → hd.heap_39 w.params = hd.heap_39 w.params := by
  w_top off
  first | (walk1; fail) | skip
  k_fill
  intro _ _; rfl

local macro_rules | `(tactic| k_mem) => `(tactic| assumption)
local macro_rules | `(tactic| k_room) => `(tactic| ((simp only [depth_under_make, depth_under_kw, depth_in1, depth_deeper, depth_caller, Around.in1_units, Around.deeper_units]); omega))
local macro_rules | `(tactic| k_all) => `(tactic| first | assumption | exact allNe_of (by assumption) (by omega))
local macro_rules | `(tactic| walk_at "assign Tuple") => `(tactic| (k_here; (with_reducible show wpAny _ _ (assign (Expr.Tuple _ _ _) _ (Value.ref _)) _ _ _); k_dflt (refine' unpackN_ ?k1 ?k2 ?k3 ?k4 ?k5 ?k6 ?_; (case k1 => k_asm); (case k2 => k_asm); (case k3 => (exact News.isTup (by k_asm) (by k_mem))); (case k4 => assumption); (case k5 => exact rfl); (case k6 => exact rfl); k_whole); intro h' F' N'; (try k_sweep)))
local macro_rules | `(tactic| walk_at "eval Name") => `(tactic| (k_here; kc_free; k_dflt (refine' nameX_F ?N ?c ?m ?d ?_ ?a ?b; (case a => rfl); (case b => rfl); (case N => k_asm); (case c => rfl); (case m => k_mem); (case d => k_asm); k_whole)))
local macro_rules | `(tactic| walk_at "eval Name") => `(tactic| (k_here; k_dflt (refine' nameX_L ?k1 ?k2 ?_ ?k3 ?k4 ?k5; (case k3 => rfl); (case k4 => rfl); (case k5 => decide); (case k1 => k_asm); (case k2 => assumption); k_whole)))
local macro_rules | `(tactic| walk_at "compareOp In int ref") => `(tactic| (refine d_in (by k_asm) (by k_mem) (by k_asm) (by k_asm) ?_))

local macro_rules | `(tactic| walk_at "binaryOp BitOr int int") => `(tactic| (k_here; first | with_reducible refine or12 ?_ | with_reducible refine or34 ?_))
local macro_rules | `(tactic| walk_at "eval Name") => `(tactic| (k_here; k_dflt (refine' nameX_C ?N ?c ?m ?d ?_ ?a ?b; (case b => rfl); (case c => rfl); (case N => k_asm); (case m => k_mem); (case d => k_asm); (case a => rfl); k_whole)))
local macro_rules | `(tactic| walk_at "exec Try") => `(tactic| (k_here; refine wpAny_Try_except ?_))
local macro_rules | `(tactic| walk_at "callWith ref") => `(tactic| (k_here; k_dflt (first
  | (refine' callWith_F ?k1 ?_; (case k1 => exact FnAt.of (by k_asm) (by k_mem)); k_whole)
  | (refine' callWith_F0 ?k1 ?_; (case k1 => exact FnAt.of (by k_asm) (by k_mem)); k_whole; try dsimp only [List.nil_append, List.cons_append]))))

section
variable {prog : Program} {w : World} {A₀ A : Around} {base h₀ : Heap} {outer : List Env} {L : Addr} {mg mb : Str → Option Value} {s : Shared}
  {p : Program} {loose : List Str} {mean : ExcName → Option Value} {E : Value → Shared → Prop} {Q : Flow → Shared → Prop}

set_option maxHeartbeats 4000000 in
theorem lcas_res {fd90 : FuncData} {oc90 : Value} {od90 : Option Addr} {osl90 : Array (Option Value)} {stmts : List Stmt} 
   (hK : (hd.heap_39 w.params).lookup 90 = some ⟨oc90, od90, .func fd90, osl90⟩) (hst : fd90.body = .stmts stmts)
   (B : Below A₀ base outer h₀) (X : (hd.heap_39 w.params).In h₀) (T : Top p loose mean mg mb h₀) (C : Stop (CodeHd h₀ 89 87))
   (hA : A.frames = some (envOfC fd90.qualname fd90.scope L 90 (.ref 89) :: outer)) (hh : A.handled = none) (hdep : A.depth + 60 < recursionLimit) (hu : A.units + 200 < cLine)
   {m : Str → Option Value} {R tb : List (Addr × Obj)} {ps ys : Array Value} {cl cst : Addr} {n2 Nd : Nat} {odc ocell : Obj} {c : Cst} {t4 : Tok} (m_cl : m (Str.ofString "cands") = some (.ref cl)) (m_cst : m (Str.ofString "cstates") = some (.ref cst))
   {res : List Int} (hvr : (ys = #[] ∧ res = []) ∨ ∃ a d t x u f, ys = #[.ref a] ∧ (a, tp d t x u) ∈ R ∧ c x = some f ∧ Builtin.bitAnd f 4 ≠ 4 ∧ res = [x])
   (F : Fr h₀ L s.heap m) (N : News h₀ L s.heap ((87, tabObj ps) :: R)) (TO : TabOk nmL tb ps) (hR87 : ∀ q ∈ R, q.1 ≠ 87) (hcl : (cl, listOf ys n2) ∈ R) (hcst : (cst, odc) ∈ R) (D : DRel prog w odc c Nd) (lo : (cst == sysModules) = false)
   (hcell : (L + 1, ocell) ∈ R) (hcd : ocell.data = .cell (some (.int 4 t4))) (htb : ∀ q ∈ tb, q ∈ R)
   (h : ∀ h' tk m' r vs' n' extra ps', Fr h₀ L h' m' → News h₀ L h' ((87, tabObj ps') :: (r, listOf vs' n') :: (extra ++ R)) → TabOk nmL (extra ++ tb) ps' → IntsAre vs'.toList res → (∀ q ∈ extra, 87 < q.1 ∧ ∀ q' ∈ R, q'.1 < q.1) → (∀ q ∈ extra ++ R, q.1 < r) → 87 < r → Q (.ret (.ref r)) { s with heap := h', toks := tk }) :
   wpAny (model prog w) A (execs (stmts.drop 12) (envOfC fd90.qualname fd90.scope L 90 (.ref 89))) Q E s := by
  have e90 := lk hK (by k_is)
  cases e90
  cases hst
  simp only [List.drop_succ_cons, List.drop_zero]
  dsimp only at hA ⊢
  refine execs_split (xs := [_, _]) ?_
  k_steps
  refine wpAny_For ?_
  k_steps
  rename News h₀ _ _ _ => N9
  rename Fr h₀ _ _ _ => F9
  rename_i rl hx1 l1 hx2
  have hRr : ∀ q ∈ R, q.1 ≠ rl := fun q hq => Nat.ne_of_lt (allLt_mem l1.2 q hq)
  refine forL (l := cl) (items := ys) (cap := n2) hh F9 N9 (fun j m' news' g => g = s.gens ∧ m' (Str.ofString "results") = some (.ref rl) ∧ m' (Str.ofString "cstates") = some (.ref cst) ∧ ∃ (vs : List Value) (n3 : Nat) (ex : List (Addr × Obj)), news' = (rl, listOf vs.toArray n3) :: (87, tabObj ps) :: (ex ++ R) ∧ (∀ q ∈ ex, rl < q.1 ∧ ∀ q' ∈ R, q'.1 < q.1) ∧
    ((j = 0 ∧ vs = [] ∧ ex = []) ∨ (j = 1 ∧ ∃ a d t x u, vs = [.ref a] ∧ (a, tp d t x u) ∈ ex ∧ res = [x]))) ⟨rfl, rfl, m_cst, [], 0, [], rfl, (fun q hq => nomatch hq), Or.inl ⟨rfl, rfl, rfl⟩⟩ ?_ ?_ ?_ ?_
  · rintro j m' news' g ⟨_, _, _, vs, n3, ex, rfl, _, _⟩; exact .tail _ (.tail _ (List.mem_append_right _ hcl))
  · intro v s' I i Q' E' hv hi hq
    rcases hvr with ⟨rfl, _⟩ | ⟨a, d, t, x, u, f, rfl, _⟩
    · exact nomatch hv
    · obtain rfl : v = .ref a := by simpa using hv
      exact own_Tuple hi hq
  · rintro j v h1 tk1 g1 m1 news1 it oit hv ⟨rfl, m_r, m_cs, vs, n3, ex, rfl, hex, hj⟩ F1 N1 hne1 _
    rcases hvr with ⟨rfl, _⟩ | ⟨a, d, t, x, u, f, rfl, hav, hcx, hbit, rfl⟩
    · simp at hv
    rcases hj with ⟨rfl, rfl, rfl⟩ | ⟨rfl, _⟩
    · obtain rfl : v = .ref a := by simpa using hv.symm
      clear F9 N9
      have hit1 := hne1 _ (.head _)
      have hRi : ∀ q ∈ R, q.1 ≠ it := fun q hq => hne1 q (.tail _ (.tail _ hq))
      simp only [List.nil_append] at N1 hne1
      k_steps
      refine d_item (by k_asm) (by k_mem) D hcx ?_
      intro uf
      k_steps
      · exact absurd ‹Builtin.bitAnd f 4 = 4› hbit
      rename News h₀ _ _ _ => N9
      rename Fr h₀ _ _ _ => F9
      rename Addr => D9
      rename _ ∧ _ ∧ _ ∧ AllLt _ _ => l9
      refine SeqAt.notIn_listAt (items := #[]) (e := fun _ => false) (News.isList N9 (.tail _ (.tail _ (.head _)))) (fun y hy => by simp at hy) ?_
      k_steps
      · rename (_ = true) => hb
        simp at hb
      rename News h₀ _ _ _ => N9
      rename Fr h₀ _ _ _ => F9
      rename Addr => D8
      rename _ ∧ _ ∧ _ ∧ _ ∧ AllLt _ _ => l8
      refine append_K (its := #[]) (n := n3) (news' := (D8, tp d t x u) :: (D9, tp d t x u) :: (it, oit) :: (rl, listOf #[.ref D8] (n3 + 1)) :: (87, tabObj ps) :: R) F9 N9 (Upd.tail (Nat.ne_of_gt l8.2.2.1) (Upd.tail (Nat.ne_of_gt l9.2.1) (Upd.tail (Ne.symm hit1) (Upd.head ?hu)))) ?_ (Nat.zero_le _)
      case hu =>
        intro q hq
        rcases List.mem_cons.mp hq with e | hq
        · exact e ▸ Nat.ne_of_lt l1.1
        · exact hRr q hq
      intro h7 F7 N7
      clear F9 N9
      k_steps
      rename News h₀ _ _ _ => N9
      rename Fr h₀ _ _ _ => F9
      refine ⟨_, _, _, _, (rl, listOf [Value.ref D8].toArray (n3 + 1)) :: (87, tabObj ps) :: ([(D8, tp d t x u), (D9, tp d t x u)] ++ R), rfl, ⟨rfl, by exact m_r, by exact m_cs, [.ref D8], n3 + 1, [(D8, tp d t x u), (D9, tp d t x u)], rfl, fun q hq => ?_, .inr ⟨rfl, D8, d, t, x, u, rfl, .head _, rfl⟩⟩, F9, fun q hq => N9 q ?_, fun q hq => ?_⟩
      · rcases List.mem_cons.mp hq with e | hq
        · exact e ▸ ⟨l8.2.2.1, fun q' hq' => allLt_mem l8.2.2.2.2 q' hq'⟩
        rcases List.mem_cons.mp hq with e | hq
        · exact e ▸ ⟨l9.2.1, fun q' hq' => allLt_mem l9.2.2.2 q' hq'⟩
        cases hq
      · simp only [List.mem_cons, List.cons_append, List.nil_append] at hq ⊢
        rcases hq with e | e | e | e | e | e
        · exact .inr (.inr (.inl e))
        · exact .inr (.inr (.inr (.inl e)))
        · exact .inr (.inr (.inr (.inr (.inl e))))
        · exact .inl e
        · exact .inr (.inl e)
        · exact .inr (.inr (.inr (.inr (.inr e))))
      · simp only [List.mem_cons, List.cons_append, List.nil_append] at hq
        rcases hq with e | e | e | e | e
        · exact e ▸ hit1
        · exact e ▸ hne1 _ (.tail _ (.head _))
        · exact e ▸ Nat.ne_of_gt l8.2.1
        · exact e ▸ Nat.ne_of_gt l9.1
        · exact hRi q e
    · simp at hv
  · rintro h1 tk1 g1 m1 news1 ⟨rfl, m_r, m_cs, vs, n3, ex, rfl, hex, hj⟩ F1 N1
    clear F9 N9
    k_steps
    rename News h₀ _ _ _ => N9
    rename Fr h₀ _ _ _ => F9
    have hexR : ∀ q ∈ ex ++ R, q.1 ≠ 87 ∧ q.1 ≠ rl := fun q hq => (List.mem_append.mp hq).elim (fun h => ⟨Nat.ne_of_gt (Nat.lt_trans l1.1 (hex q h).1), Nat.ne_of_gt (hex q h).1⟩) (fun h => ⟨hR87 q h, hRr q h⟩)
    show wpAny _ _ _ _ _ _
    refine lcas_end hK rfl rfl B X T C hA hh hdep hu (R := ex ++ R) (res := res) (vs := vs) (n2 := n3) (ps := ps) (tb := tb) m_r ?_ F9 N9 TO (fun q hq => (hexR q hq).1) (fun q hq => (hexR q hq).2) l1.1 (fun q hq => List.mem_append_right _ (htb q hq)) ?_
    · rcases hvr with ⟨rfl, rfl⟩ | ⟨a, d, t, x, u, f, rfl, hav, hcx, hbit, rfl⟩
      · rcases hj with ⟨_, rfl, rfl⟩ | ⟨h1, _⟩
        · exact .inl ⟨rfl, rfl⟩
        · simp at h1
      · rcases hj with ⟨h1, _⟩ | ⟨_, a', d', t', x', u', rfl, hm', e⟩
        · simp at h1
        · cases e
          exact .inr ⟨a', d', t', x, u', rfl, List.mem_append_left _ hm', rfl⟩
    · intro h2 tk2 m2 r vs' n' extra ps' F2 N2 TO2 hi2 hx3 hr3 hrr
      refine h _ _ m2 r vs' n' (extra ++ ex) ps' F2 (fun q hq => N2 q (by rw [← List.append_assoc]; exact hq)) (TO2.mono fun q hq => ?_) hi2 (fun q hq => ?_) (fun q hq => hr3 q (by rw [← List.append_assoc]; exact hq)) ?_
      · exact (List.mem_append.mp hq).elim (fun h => List.mem_append_left _ (List.mem_append_left _ h)) (List.mem_append_right _)
      · rcases List.mem_append.mp hq with hq | hq
        · exact ⟨Nat.lt_trans l1.1 (hx3 q hq).1, fun q' hq' => (hx3 q hq).2 q' (List.mem_append_right _ hq')⟩
        · exact ⟨Nat.lt_trans l1.1 (hex q hq).1, (hex q hq).2⟩
      · exact Nat.lt_trans l1.1 hrr
end
end Mine

/-! ## L7 -/
namespace Mine
open PySem PySem.W PySem.Calls PyProof.Rows
open Sem (wp)
set_option maxRecDepth 100000

theorem fillK11 : ∀ w : World, PySem.Challenge.rw_bh0019_01.Holds → hd.heap_39 w.params = hd.heap_39 w.params := by
  w_top off
  first | (walk1; fail) | skip
  k_fill
  intro _ _; rfl

local macro_rules | `(tactic| k_mem) => `(tactic| assumption)
local macro_rules | `(tactic| k_room) => `(tactic| ((simp only [depth_under_make, depth_under_kw, depth_in1, depth_deeper, depth_caller, Around.in1_units, Around.deeper_units]); omega))
local macro_rules | `(tactic| k_all) => `(tactic| first | assumption | exact allNe_of (by assumption) (by omega))
local macro_rules | `(tactic| walk_at "assign Tuple") => `(tactic| (k_here; (with_reducible show wpAny _ _ (assign (Expr.Tuple _ _ _) _ (Value.ref _)) _ _ _); k_dflt (refine' unpackN_ ?k1 ?k2 ?k3 ?k4 ?k5 ?k6 ?_; (case k1 => k_asm); (case k2 => k_asm); (case k3 => (exact News.isTup (by k_asm) (by k_mem))); (case k4 => assumption); (case k5 => exact rfl); (case k6 => exact rfl); k_whole); intro h' F' N'; (try k_sweep)))
local macro_rules | `(tactic| walk_at "eval Name") => `(tactic| (k_here; kc_free; k_dflt (refine' nameX_F ?N ?c ?m ?d ?_ ?a ?b; (case a => rfl); (case b => rfl); (case N => k_asm); (case c => rfl); (case m => k_mem); (case d => k_asm); k_whole)))
local macro_rules | `(tactic| walk_at "eval Name") => `(tactic| (k_here; k_dflt (refine' nameX_L ?k1 ?k2 ?_ ?k3 ?k4 ?k5; (case k3 => rfl); (case k4 => rfl); (case k5 => decide); (case k1 => k_asm); (case k2 => assumption); k_whole)))
local macro_rules | `(tactic| walk_at "compareOp In int ref") => `(tactic| (refine d_in (by k_asm) (by k_mem) (by k_asm) (by k_asm) ?_))

local macro_rules | `(tactic| walk_at "binaryOp BitOr int int") => `(tactic| (k_here; first | with_reducible refine or12 ?_ | with_reducible refine or34 ?_))
local macro_rules | `(tactic| walk_at "eval Name") => `(tactic| (k_here; k_dflt (refine' nameX_C ?N ?c ?m ?d ?_ ?a ?b; (case b => rfl); (case c => rfl); (case N => k_asm); (case m => k_mem); (case d => k_asm); (case a => rfl); k_whole)))
local macro_rules | `(tactic| walk_at "exec Try") => `(tactic| (k_here; refine wpAny_Try_except ?_))
local macro_rules | `(tactic| walk_at "callWith ref") => `(tactic| (k_here; k_dflt (first
  | (refine' callWith_F ?k1 ?_; (case k1 => exact FnAt.of (by k_asm) (by k_mem)); k_whole)
  | (refine' callWith_F0 ?k1 ?_; (case k1 => exact FnAt.of (by k_asm) (by k_mem)); k_whole; try dsimp only [List.nil_append, List.cons_append]))))

def FinR (res : List Int) (c : Cst) (cs : List Key) : Prop := (cs = [] ∧ res = []) ∨ ∃ d x f, cs = [(d, x)] ∧ c x = some f ∧ Builtin.bitAnd f 4 ≠ 4 ∧ res = [x]

theorem TabOk.drop {nm : Nat → Str} {tb : List (Addr × Obj)} {ps : Array Value} {cl : Addr} (T : TabOk nm tb ps) (h : ∀ q ∈ tb, q.1 = cl → ∃ xs n, q.2.data = .seq xs n) : TabOk nm (tb.filter fun q => decide (q.1 ≠ cl)) ps :=
  ⟨T.1, fun pos cv e => by
    obtain ⟨c', oc, vs, t, h1, h2, h3, h4⟩ := T.2 pos cv e
    refine ⟨c', oc, vs, t, h1, List.mem_filter.mpr ⟨h2, by
      have : c' ≠ cl := fun hc => by
        obtain ⟨xs, n, hd⟩ := h _ h2 hc
        have hd : oc.data = .seq xs n := hd
        rw [h3] at hd; cases hd
      simpa using this⟩, h3, h4⟩⟩

theorem pql_fin {R : List (Addr × Obj)} {ys : Array Value} {cks : Array Key} {c : Cst} {res : List Int} (P : PQL R ys cks) (h : FinR res c cks.toList) :
    (ys = #[] ∧ res = []) ∨ ∃ a d t x u f, ys = #[.ref a] ∧ (a, tp d t x u) ∈ R ∧ c x = some f ∧ Builtin.bitAnd f 4 ≠ 4 ∧ res = [x] := by
  rcases h with ⟨h1, h2⟩ | ⟨d, x, f, h1, h2, h3, h4⟩
  · refine .inl ⟨?_, h2⟩
    have : cks = #[] := by simpa using h1
    subst this
    have := P.1
    exact Array.size_eq_zero_iff.mp this
  · have hk : cks = #[(d, x)] := by
      have := congrArg List.toArray h1
      simpa using this
    subst hk
    obtain ⟨a, t, u, h5, h6⟩ := P.2 0 (by simp)
    refine .inr ⟨a, d, t, x, u, f, ?_, h6, h2, h3, h4⟩
    have hs := P.1
    apply Array.ext (by simpa using hs)
    intro i hi hi'
    have h0 : i = 0 := by simp at hi'; exact hi'
    subst h0
    rw [Array.getElem?_eq_getElem hi] at h5
    simpa using h5

section
variable {prog : Program} {w : World} {A₀ A : Around} {base h₀ : Heap} {outer : List Env} {L : Addr} {mg mb : Str → Option Value} {s : Shared}
  {p : Program} {loose : List Str} {mean : ExcName → Option Value} {E : Value → Shared → Prop} {Q : Flow → Shared → Prop}

set_option maxHeartbeats 4000000 in
theorem lcas_body {fd90 : FuncData} {oc90 : Value} {od90 : Option Addr} {osl90 : Array (Option Value)} {stmts : List Stmt} 
   (hK : (hd.heap_39 w.params).lookup 90 = some ⟨oc90, od90, .func fd90, osl90⟩) (hst : fd90.body = .stmts stmts) {env : Env} (henv : env = envOfC fd90.qualname fd90.scope L 90 (.ref 89))
   (B : Below A₀ base outer h₀) (X : (hd.heap_39 w.params).In h₀) (T : Top p loose mean mg mb h₀) (C : Stop (CodeHd h₀ 89 87))
   (hA : A.frames = some (env :: outer)) (hh : A.handled = none) (hdep : A.depth + 60 < recursionLimit) (hu : A.units + 200 < cLine)
   {pf af c2l : Addr} {mn c1 c2 : Int} {age : Int → Int} {par : Int → List Int} {dom : Int → Prop} {led : List (Addr × Obj)} {ps : Array Value} {ocell : Obj} {res : List Int}
   (SA : AgeSpec prog w af led age dom) (SP : ParSpec prog w pf led par dom)
   {m : Str → Option Value} {R : List (Addr × Obj)} {fda fdp : FuncData} {oca ocp : Value} {oda odp : Option Addr} {sla slp : Array (Option Value)} (hafo : (af, (⟨oca, oda, .func fda, sla⟩ : Obj)) ∈ R) (hpfo : (pf, (⟨ocp, odp, .func fdp, slp⟩ : Obj)) ∈ R) (hled : ∀ q ∈ led, q ∈ R) 
   (F : Fr h₀ L s.heap m) (N : News h₀ L s.heap ((87, tabObj ps) :: (L + 1, ocell) :: R)) (M : MIn m pf af c2l c1 mn) (hcl : ocell.data = .cell none)
   (TO : TabOk nmL R ps) (hR87 : ∀ q ∈ R, q.1 ≠ 87) (hRL : ∀ q ∈ R, q.1 < L) (h87 : (87 : Addr) < L)
   {t2 : Tok} {n2 k : Nat} (hc2 : (c2l, listOf #[.int c2 t2] n2) ∈ R) (hd1 : dom c1) (hd2 : dom c2) (hk : k ≤ 150)
   (G : LGood par age mn dom (FinR res) k (upd (upd (fun _ => none) c1 1) c2 (Builtin.bitOr (((upd (fun _ => none) c1 1) c2).getD 0) 2)) [(-age c2, c2), (-age c1, c1)] [])
   (h : ∀ h' tk gens' m' r vs' n' cs ps', Fr h₀ L h' m' → News h₀ L h' ((87, tabObj ps') :: (r, listOf vs' n') :: (cs ++ R)) → TabOk nmL (cs ++ R) ps' → IntsAre vs'.toList res → (∀ q ∈ cs, L < q.1) → (∀ q ∈ cs ++ R, q.1 < r) → L < r →
      (∃ more : Array GenState, gens' = s.gens ++ more ∧ ∀ x ∈ more, x.bare = true) → Q (.ret (.ref r)) { s with heap := h', toks := tk, gens := gens' }) :
   wpAny (model prog w) A (execs stmts env) Q E s := by
  have e90 := lk hK (by k_is)
  cases e90
  cases hst
  subst henv
  dsimp only at hA ⊢
  refine execs_split (xs := [_, _, _, _, _, _, _, _, _, _]) ?_
  refine lcas_head hK rfl rfl B X T C hA hh hdep hu SA hafo hled F N M hcl TO hR87 hRL h87 hd1 ?_
  intro h1 tk1 m1 wl wld pql cst cl hcf c' hsh tq t4 ocell1 oc' cvs qual tc' doc pm ctv R1 ps1 tb xs1 n1 ks1 odc1 tups F1 N1 H1 P1 htu1 HK1 hpm1 D1
  clear F N
  have hz1 : ks1.size = 1 := by have := hpm1.length_eq; simpa using this
  refine wpAny_execs_cons ?_
  refine lcas_for hK rfl rfl B X T hA hh hdep hu SA hafo hled hc2 hd2 F1 N1 H1 P1 htu1 HK1 hpm1 (by omega) D1 (by omega) ?_
  intro h2 tk2 m2 R2 xs2 n2' ks2 odc2 tups2 F2 N2 H2 P2 htu2 HK2 hpm2 D2
  clear F1 N1 H1 P1 htu1 HK1 hpm1 D1
  have hz2 : ks2.size = 2 := by have := hpm2.length_eq; simpa using this
  -- the ledger of the loop
  have hRcl : ∀ q ∈ R, q.1 ≠ cl := fun q hq => Nat.ne_of_lt (Nat.lt_trans (hRL q hq) (Nat.lt_trans (Nat.lt_succ_self _) H2.Ll))
  obtain ⟨R3, hR3⟩ : ∃ R3, R3 = R2.filter (fun q => decide (q.1 ≠ cl)) := ⟨_, rfl⟩
  have to3 : ∀ q ∈ R2, q.1 ≠ cl → q ∈ R3 := fun q hq hne => hR3 ▸ List.mem_filter.mpr ⟨hq, by simpa using hne⟩
  have of3 : ∀ q ∈ R3, q ∈ R2 ∧ q.1 ≠ cl := fun q hq => by
    subst hR3
    have := List.mem_filter.mp hq
    exact ⟨this.1, by simpa using this.2⟩
  have sub3 : ∀ q ∈ R, q ∈ R3 := fun q hq => to3 q (H2.hsub q hq) (hRcl q hq)
  have hw3 := to3 _ H2.hw (fun e => by have := congrArg (fun q => q.2.cls) (H2.hsl _ H2.hw e); simp at this)
  have hwd3 := to3 _ H2.hwd (fun e => by have := congrArg (fun q => q.2.cls) (H2.hsl _ H2.hwd e); simp [dictOf] at this)
  have hfo3 := to3 _ H2.hfo (fun e => by have := congrArg (fun q => q.2.data) (H2.hsl _ H2.hfo e); simp [fnMade] at this)
  have hcell3 := to3 _ H2.hcell (Nat.ne_of_lt H2.Ll)
  have hcc3 := to3 _ H2.hcc (fun e => by have := congrArg (fun q => q.2.data) (H2.hsl _ H2.hcc e); dsimp only at this; rw [H2.hoc1] at this; cases this)
  have htab3 := to3 _ H2.htab (fun e => by have := congrArg (fun q => q.2.data) (H2.hsl _ H2.htab e); dsimp only at this; cases this)
  have htu3 : ∀ q ∈ tups2, q ∈ R3 := fun q hq => to3 q (htu2 q hq).1 (htu2 q hq).2
  have N3 : News h₀ L h2 ((pql, listOf xs2 n2') :: (cst, odc2) :: (cl, listOf #[] 0) :: R3) := fun q hq => N2 q (by
    rcases List.mem_cons.mp hq with e | hq
    · exact e ▸ .head _
    rcases List.mem_cons.mp hq with e | hq
    · exact .tail _ (e ▸ .head _)
    rcases List.mem_cons.mp hq with e | hq
    · exact .tail _ (.tail _ (e ▸ H2.hcl))
    · exact .tail _ (.tail _ (of3 q hq).1))
  show Stop _
  refine wpAny_execs_cons ?_
  refine lcas_while (k := k) (Fin := FinR res) (pq := [(-age c2, c2), (-age c1, c1)]) (cks := #[]) hK rfl rfl rfl B X T hA hh hdep hu SA SP H2.o1 H2.o2 H2.lo rfl H2.hcd H2.hoc1 H2.hoc2 R3 (sub3 _ hafo) (sub3 _ hpfo) (fun q hq => sub3 _ (hled q hq)) hw3 hwd3 hfo3 hcell3 hcc3
    F2 N3 H2.M (fun q hq => hq) (fun q hq => ⟨H2.hsp q (of3 q hq).1, H2.hsc q (of3 q hq).1, (of3 q hq).2⟩) (P2.mono htu3) HK2 hpm2 ⟨rfl, fun i hi => absurd hi (Nat.not_lt_zero i)⟩ D2 G (by omega) (by omega) ?hzz ?_
  case hzz => show 0 + k < 900; omega
  intro h4 tk4 gens4 m4 R4 xs4 ys4 n4 n4' cks4 odc4 c4 Nd4 F4 N4 M4 sub4 sep4 P4 D4 hfin hgen
  clear F2 N2 N3
  obtain ⟨R6, hR6⟩ : ∃ R6, R6 = ((pql, listOf xs4 n4) :: (cst, odc4) :: (cl, listOf ys4 n4') :: R4).filter (fun q => decide (q.1 ≠ 87)) := ⟨_, rfl⟩
  have h87cl : (87 : Addr) < cl := Nat.lt_trans h87 (Nat.lt_trans (Nat.lt_succ_self _) H2.Ll)
  have to6 : ∀ q ∈ (pql, listOf xs4 n4) :: (cst, odc4) :: (cl, listOf ys4 n4') :: R4, q.1 ≠ 87 → q ∈ R6 := fun q hq hne => hR6 ▸ List.mem_filter.mpr ⟨hq, by simpa using hne⟩
  have of6 : ∀ q ∈ R6, q ∈ (pql, listOf xs4 n4) :: (cst, odc4) :: (cl, listOf ys4 n4') :: R4 ∧ q.1 ≠ 87 := fun q hq => by
    subst hR6
    have := List.mem_filter.mp hq
    exact ⟨this.1, by simpa using this.2⟩
  have to6' : ∀ q ∈ R3, q.1 ≠ 87 → q ∈ R6 := fun q hq => to6 q (.tail _ (.tail _ (.tail _ (sub4 q hq))))
  have N6 : News h₀ L h4 ((87, tabObj ps1) :: R6) := fun q hq => by
    rcases List.mem_cons.mp hq with e | hq
    · exact e ▸ N4 _ (.tail _ (.tail _ (.tail _ (sub4 _ htab3))))
    · exact N4 _ (of6 q hq).1
  have TO6 : TabOk nmL (tb.filter fun q => decide (q.1 ≠ cl)) ps1 := H2.TO.drop fun q hq e => ⟨#[], 0, by rw [H2.hsl q (H2.htb q hq).1 e]⟩
  have htb6 : ∀ q ∈ tb.filter (fun q => decide (q.1 ≠ cl)), q ∈ R6 := fun q hq => by
    have hq' := List.mem_filter.mp hq
    have hne : q.1 ≠ cl := by simpa using hq'.2
    exact to6' q (to3 q (H2.htb q hq'.1).1 hne) (H2.htb q hq'.1).2.1
  show wpAny _ _ _ _ _ _
  have P4' : PQL R6 ys4 cks4 := by
    refine ⟨P4.1, fun i hi => ?_⟩
    obtain ⟨a, t, u, e1, e2⟩ := P4.2 i hi
    refine ⟨a, t, u, e1, to6 _ (.tail _ (.tail _ (.tail _ e2))) fun e => ?_⟩
    have g1 := (N4 _ (.tail _ (.tail _ (.tail _ e2)))).1
    have g2 := (N6 _ (.head _)).1
    have e : a = 87 := e
    dsimp only at g1 g2
    rw [e, g2] at g1
    cases g1
  refine lcas_res hK rfl B X T C hA hh hdep hu (R := R6) M4.cl M4.cst (pql_fin P4' hfin) F4 N6 TO6 (fun q hq => (of6 q hq).2) (to6 _ (.tail _ (.tail _ (.head _))) (Nat.ne_of_gt h87cl)) (to6 _ (.tail _ (.head _)) (Nat.ne_of_gt (Nat.lt_trans h87cl H2.o1))) D4 H2.lo
    (to6' _ hcell3 (Nat.ne_of_gt (Nat.lt_succ_of_lt h87))) H2.hcd htb6 ?_
  intro h8 tk8 m8 r vs8 n8 extra ps8 F8 N8 TO8 hi8 hex8 hr8 h87r
  have hL1 : ∀ q ∈ extra, L < q.1 := fun q hq => Nat.lt_of_succ_lt ((hex8 q hq).2 _ (to6' _ hcell3 (Nat.ne_of_gt (Nat.lt_succ_of_lt h87))))
  have hmem : ∀ q ∈ extra ++ tb.filter (fun q => decide (q.1 ≠ cl)), q ∈ extra ++ R6 := fun q hq => (List.mem_append.mp hq).elim (List.mem_append_left _) (fun h => List.mem_append_right _ (htb6 q h))
  have hcs : ∀ q ∈ (extra ++ tb.filter (fun q => decide (q.1 ≠ cl))).filter (fun q => decide (L < q.1)) ++ R, q ∈ extra ++ R6 := fun q hq => by
    rcases List.mem_append.mp hq with hq | hq
    · exact hmem q (List.mem_filter.mp hq).1
    · exact List.mem_append_right _ (to6' q (sub3 q hq) (hR87 q hq))
  have hin : ∀ q ∈ extra ++ tb.filter (fun q => decide (q.1 ≠ cl)), q ∈ (extra ++ tb.filter (fun q => decide (q.1 ≠ cl))).filter (fun q => decide (L < q.1)) ++ R := fun q hq => by
    by_cases hl : L < q.1
    · exact List.mem_append_left _ (List.mem_filter.mpr ⟨hq, by simpa using hl⟩)
    · rcases List.mem_append.mp hq with h | h
      · exact absurd (hL1 q h) hl
      · rcases (H2.htb q (List.mem_filter.mp h).1).2.2 with h | h
        · exact List.mem_append_right _ h
        · exact absurd (Nat.lt_of_succ_lt h) hl
  refine h h8 tk8 gens4 m8 r vs8 n8 ((extra ++ tb.filter (fun q => decide (q.1 ≠ cl))).filter (fun q => decide (L < q.1))) ps8 F8 (fun q hq => N8 q ?_) (TO8.mono hin) hi8 (fun q hq => by simpa using (List.mem_filter.mp hq).2) (fun q hq => hr8 q (hcs q hq)) ?_ hgen
  · rcases List.mem_cons.mp hq with e | hq
    · exact e ▸ .head _
    rcases List.mem_cons.mp hq with e | hq
    · exact .tail _ (e ▸ .head _)
    · exact .tail _ (.tail _ (hcs q hq))
  · exact Nat.lt_of_succ_lt (hr8 _ (List.mem_append_right _ (to6' _ hcell3 (Nat.ne_of_gt (Nat.lt_succ_of_lt h87)))))
end
end Mine

/-! ## L8 -/
namespace Mine
open PySem PySem.W PySem.Calls PyProof.Rows
open Sem (wp)
set_option maxRecDepth 100000

theorem fillK12 : ∀ w : World, PySem.Challenge.rw_bh0019_01.Holds → hd.heap_39 w.params = hd.heap_39 w.params := by
  w_top off
  first | (walk1; fail) | skip
  k_fill
  intro _ _; rfl

local macro_rules | `(tactic| k_mem) => `(tactic| assumption)
local macro_rules | `(tactic| k_room) => `(tactic| ((simp only [depth_under_make, depth_under_kw, depth_in1, depth_deeper, depth_caller, Around.in1_units, Around.deeper_units]); omega))
local macro_rules | `(tactic| k_all) => `(tactic| first | assumption | exact allNe_of (by assumption) (by omega))
local macro_rules | `(tactic| walk_at "assign Tuple") => `(tactic| (k_here; (with_reducible show wpAny _ _ (assign (Expr.Tuple _ _ _) _ (Value.ref _)) _ _ _); k_dflt (refine' unpackN_ ?k1 ?k2 ?k3 ?k4 ?k5 ?k6 ?_; (case k1 => k_asm); (case k2 => k_asm); (case k3 => (exact News.isTup (by k_asm) (by k_mem))); (case k4 => assumption); (case k5 => exact rfl); (case k6 => exact rfl); k_whole); intro h' F' N'; (try k_sweep)))
local macro_rules | `(tactic| walk_at "eval Name") => `(tactic| (k_here; kc_free; k_dflt (refine' nameX_F ?N ?c ?m ?d ?_ ?a ?b; (case a => rfl); (case b => rfl); (case N => k_asm); (case c => rfl); (case m => k_mem); (case d => k_asm); k_whole)))
local macro_rules | `(tactic| walk_at "eval Name") => `(tactic| (k_here; k_dflt (refine' nameX_L ?k1 ?k2 ?_ ?k3 ?k4 ?k5; (case k3 => rfl); (case k4 => rfl); (case k5 => decide); (case k1 => k_asm); (case k2 => assumption); k_whole)))
local macro_rules | `(tactic| walk_at "compareOp In int ref") => `(tactic| (refine d_in (by k_asm) (by k_mem) (by k_asm) (by k_asm) ?_))

local macro_rules | `(tactic| walk_at "binaryOp BitOr int int") => `(tactic| (k_here; first | with_reducible refine or12 ?_ | with_reducible refine or34 ?_))
local macro_rules | `(tactic| walk_at "eval Name") => `(tactic| (k_here; k_dflt (refine' nameX_C ?N ?c ?m ?d ?_ ?a ?b; (case b => rfl); (case c => rfl); (case N => k_asm); (case m => k_mem); (case d => k_asm); (case a => rfl); k_whole)))
local macro_rules | `(tactic| walk_at "exec Try") => `(tactic| (k_here; refine wpAny_Try_except ?_))
local macro_rules | `(tactic| walk_at "callWith ref") => `(tactic| (k_here; k_dflt (first
  | (refine' callWith_F ?k1 ?_; (case k1 => exact FnAt.of (by k_asm) (by k_mem)); k_whole)
  | (refine' callWith_F0 ?k1 ?_; (case k1 => exact FnAt.of (by k_asm) (by k_mem)); k_whole; try dsimp only [List.nil_append, List.cons_append]))))

section
variable {prog : Program} {w : World} {A₀ A : Around} {base h₀ : Heap} {outer : List Env} {env : Env} {L : Addr} {m mg mb : Str → Option Value} {s : Shared}
  {p : Program} {loose : List Str} {mean : ExcName → Option Value} {E : Value → Shared → Prop} {Q : Value → Shared → Prop}

set_option maxHeartbeats 4000000 in
theorem lcas_spec (B : Below A₀ base outer h₀) (F : Fr h₀ L s.heap m) (X : (hd.heap_39 w.params).In h₀) (T : Top p loose mean mg mb h₀) (C : Stop (CodeHd h₀ 89 87))
   (hA : A.frames = some (env :: outer)) (hf : env.frame = some L) (hke : env.scope.kind = .function) (hh : A.handled = none) (hd : A.depth + 80 < recursionLimit) (hu : A.units + 250 < cLine)
   {pf af c2l : Addr} {c1 c2 : Int} {t1 t2 : Tok} {age : Int → Int} {par : Int → List Int} {dom : Int → Prop} {led : List (Addr × Obj)} {ps : Array Value} {res : List Int} {n2 k : Nat}
   (SA : AgeSpec prog w af led age dom) (SP : ParSpec prog w pf led par dom)
   {R : List (Addr × Obj)} {fda fdp : FuncData} {oca ocp : Value} {oda odp : Option Addr} {sla slp : Array (Option Value)} (hafo : (af, (⟨oca, oda, .func fda, sla⟩ : Obj)) ∈ R) (hpfo : (pf, (⟨ocp, odp, .func fdp, slp⟩ : Obj)) ∈ R) (hled : ∀ q ∈ led, q ∈ R) 
   (N : News h₀ L s.heap ((87, tabObj ps) :: R)) (TO : TabOk nmL R ps) (hR87 : ∀ q ∈ R, q.1 ≠ 87) 
   (hc2 : (c2l, listOf #[.int c2 t2] n2) ∈ R) (hd1 : dom c1) (hd2 : dom c2) (hk : k ≤ 150)
   (G : LGood par age 0 dom (FinR res) k (upd (upd (fun _ => none) c1 1) c2 (Builtin.bitOr (((upd (fun _ => none) c1 1) c2).getD 0) 2)) [(-age c2, c2), (-age c1, c1)] [])
   (h : ∀ h' tk gens' r vs' n' cs ps', Fr h₀ L h' m → News h₀ L h' ((87, tabObj ps') :: (r, listOf vs' n') :: (cs ++ R)) → TabOk nmL (cs ++ R) ps' → IntsAre vs'.toList res → (∀ q ∈ cs, ∀ q' ∈ (87, tabObj ps) :: R, q'.1 < q.1) → (∀ q ∈ (87, tabObj ps) :: (cs ++ R), q.1 < r) →
      (∃ more : Array GenState, gens' = s.gens ++ more ∧ ∀ x ∈ more, x.bare = true) → Q (.ref r) { s with heap := h', toks := tk, gens := gens' }) :
   wpAny (model prog w) A (call (.ref 90) [.ref pf, .int c1 t1, .ref c2l, .ref af] [("shallows", .none)]) Q E s := by
  refine wpAny_call ?_
  refine code_defC B F X N T hA hf hke (by k_is) (by k_is) (by omega) (by first | exact BindsTo.of_eq rfl | exact binds_K (by k_in) rfl (by k_is) rfl rfl rfl) rfl (by decide +kernel) ?_ rfl rfl rfl
  intro g' L' h' tk' cells' FG' F' N' Y' B' X' T' l1
  k_cells Y'
  (try simp only [List.cons_append, List.nil_append] at N')
  (try dsimp only)
  (try k_lift B')
  (try k_fold)
  rename Obj => oc0
  rename Obj.data _ = _ => hoc0
  have N2 : News g' L' h' ((87, tabObj ps) :: (L' + 1, oc0) :: R) := fun q hq => N' q (by
    simp only [List.mem_cons] at hq ⊢
    rcases hq with e | e | e
    · exact .inr (.inl e)
    · exact .inl e
    · exact .inr (.inr e))
  have C' : Stop (CodeHd g' 89 87) := CodeHd.keeps C FG'.keep
  refine' lcas_body (A := A.deeper _) (s := { s with heap := h', toks := tk' }) (k := k) (R := R) (mn := 0) ?k90 ?hst ?henv B' X' T' C' ?hA hh ?dd ?uu SA SP hafo hpfo hled F' N2 ?mm hoc0 TO hR87 (fun q hq => l1 q (.tail _ hq)) (l1 _ (.head _)) hc2 hd1 hd2 hk G ?_
  case k90 => k_is
  case hst => rfl
  case henv => rfl
  case hA => exact Around.frames_deeper B'.stack
  case dd => k_room
  case uu => k_room
  case mm => exact ⟨rfl, rfl, ⟨_, rfl⟩, rfl, ⟨_, rfl⟩, rfl⟩
  intro h3 tk3 gens3 m3 r vs3 n3 cs ps3 F3 N3 TO3 hi3 hcs hr3 hLr hg3
  clear N2 N' F'
  k_steps
  rename News h₀ _ _ _ => N9
  rename Fr h₀ _ _ _ => F9
  refine h _ _ _ r vs3 n3 cs ps3 F9 N9 TO3 hi3 (fun q hq q' hq' => Nat.lt_trans (l1 q' hq') (hcs q hq)) (fun q hq => ?_) hg3
  rcases List.mem_cons.mp hq with e | hq
  · exact e ▸ Nat.lt_trans (l1 _ (.head _)) hLr
  · exact hr3 q hq
set_option maxHeartbeats 4000000 in
theorem lcas_spec_ff (B : Below A₀ base outer h₀) (F : Fr h₀ L s.heap m) (X : (hd.heap_39 w.params).In h₀) (T : Top p loose mean mg mb h₀) (C : Stop (CodeHd h₀ 89 87))
   (hA : A.frames = some (env :: outer)) (hf : env.frame = some L) (hke : env.scope.kind = .function) (hh : A.handled = none) (hd : A.depth + 80 < recursionLimit) (hu : A.units + 250 < cLine)
   {pf af c2l : Addr} {mn c1 c2 : Int} {t1 t2 tm : Tok} {age : Int → Int} {par : Int → List Int} {dom : Int → Prop} {led : List (Addr × Obj)} {ps : Array Value} {res : List Int} {n2 k : Nat}
   (SA : AgeSpec prog w af led age dom) (SP : ParSpec prog w pf led par dom)
   {R : List (Addr × Obj)} {fda fdp : FuncData} {oca ocp : Value} {oda odp : Option Addr} {sla slp : Array (Option Value)} (hafo : (af, (⟨oca, oda, .func fda, sla⟩ : Obj)) ∈ R) (hpfo : (pf, (⟨ocp, odp, .func fdp, slp⟩ : Obj)) ∈ R) (hled : ∀ q ∈ led, q ∈ R) 
   (N : News h₀ L s.heap ((87, tabObj ps) :: R)) (TO : TabOk nmL R ps) (hR87 : ∀ q ∈ R, q.1 ≠ 87) 
   (hc2 : (c2l, listOf #[.int c2 t2] n2) ∈ R) (hd1 : dom c1) (hd2 : dom c2) (hk : k ≤ 150)
   (G : LGood par age mn dom (FinR res) k (upd (upd (fun _ => none) c1 1) c2 (Builtin.bitOr (((upd (fun _ => none) c1 1) c2).getD 0) 2)) [(-age c2, c2), (-age c1, c1)] [])
   (h : ∀ h' tk gens' r vs' n' cs ps', Fr h₀ L h' m → News h₀ L h' ((87, tabObj ps') :: (r, listOf vs' n') :: (cs ++ R)) → TabOk nmL (cs ++ R) ps' → IntsAre vs'.toList res → (∀ q ∈ cs, ∀ q' ∈ (87, tabObj ps) :: R, q'.1 < q.1) → (∀ q ∈ (87, tabObj ps) :: (cs ++ R), q.1 < r) →
      (∃ more : Array GenState, gens' = s.gens ++ more ∧ ∀ x ∈ more, x.bare = true) → Q (.ref r) { s with heap := h', toks := tk, gens := gens' }) :
   wpAny (model prog w) A (call (.ref 90) [.ref pf, .int c1 t1, .ref c2l, .ref af] [("min_stamp", .int mn tm), ("shallows", .none)]) Q E s := by
  refine wpAny_call ?_
  refine code_defC B F X N T hA hf hke (by k_is) (by k_is) (by omega) (by first | exact BindsTo.of_eq rfl | exact binds_K (by k_in) rfl (by k_is) rfl rfl rfl) rfl (by decide +kernel) ?_ rfl rfl rfl
  intro g' L' h' tk' cells' FG' F' N' Y' B' X' T' l1
  k_cells Y'
  (try simp only [List.cons_append, List.nil_append] at N')
  (try dsimp only)
  (try k_lift B')
  (try k_fold)
  rename Obj => oc0
  rename Obj.data _ = _ => hoc0
  have N2 : News g' L' h' ((87, tabObj ps) :: (L' + 1, oc0) :: R) := fun q hq => N' q (by
    simp only [List.mem_cons] at hq ⊢
    rcases hq with e | e | e
    · exact .inr (.inl e)
    · exact .inl e
    · exact .inr (.inr e))
  have C' : Stop (CodeHd g' 89 87) := CodeHd.keeps C FG'.keep
  refine' lcas_body (A := A.deeper _) (s := { s with heap := h', toks := tk' }) (k := k) (R := R) (mn := mn) ?k90 ?hst ?henv B' X' T' C' ?hA hh ?dd ?uu SA SP hafo hpfo hled F' N2 ?mm hoc0 TO hR87 (fun q hq => l1 q (.tail _ hq)) (l1 _ (.head _)) hc2 hd1 hd2 hk G ?_
  case k90 => k_is
  case hst => rfl
  case henv => rfl
  case hA => exact Around.frames_deeper B'.stack
  case dd => k_room
  case uu => k_room
  case mm => exact ⟨rfl, rfl, ⟨_, rfl⟩, rfl, ⟨_, rfl⟩, rfl⟩
  intro h3 tk3 gens3 m3 r vs3 n3 cs ps3 F3 N3 TO3 hi3 hcs hr3 hLr hg3
  clear N2 N' F'
  k_steps
  rename News h₀ _ _ _ => N9
  rename Fr h₀ _ _ _ => F9
  refine h _ _ _ r vs3 n3 cs ps3 F9 N9 TO3 hi3 (fun q hq q' hq' => Nat.lt_trans (l1 q' hq') (hcs q hq)) (fun q hq => ?_) hg3
  rcases List.mem_cons.mp hq with e | hq
  · exact e ▸ Nat.lt_trans (l1 _ (.head _)) hLr
  · exact hr3 q hq
end
end Mine

/-! ## M1 -/
namespace Mine
open PySem PySem.W PySem.Calls PyProof.Rows
open Sem (wp)
set_option maxRecDepth 100000

theorem fillK13 : ∀ w : World, PySem.Challenge.rw_bh0019_01.Holds → hd.heap_39 w.params = hd.heap_39 w.params := by
  w_top off
  first | (walk1; fail) | skip
  k_fill
  intro _ _; rfl

local macro_rules | `(tactic| k_mem) => `(tactic| assumption)
local macro_rules | `(tactic| k_room) => `(tactic| ((simp only [depth_under_make, depth_under_kw, depth_in1, depth_deeper, depth_caller, Around.in1_units, Around.deeper_units]); omega))
local macro_rules | `(tactic| k_all) => `(tactic| first | assumption | exact allNe_of (by assumption) (by omega))
local macro_rules | `(tactic| walk_at "assign Tuple") => `(tactic| (k_here; (with_reducible show wpAny _ _ (assign (Expr.Tuple _ _ _) _ (Value.ref _)) _ _ _); k_dflt (refine' unpackN_ ?k1 ?k2 ?k3 ?k4 ?k5 ?k6 ?_; (case k1 => k_asm); (case k2 => k_asm); (case k3 => (exact News.isTup (by k_asm) (by k_mem))); (case k4 => assumption); (case k5 => exact rfl); (case k6 => exact rfl); k_whole); intro h' F' N'; (try k_sweep)))
local macro_rules | `(tactic| walk_at "eval Name") => `(tactic| (k_here; kc_free; k_dflt (refine' nameX_F ?N ?c ?m ?d ?_ ?a ?b; (case a => rfl); (case b => rfl); (case N => k_asm); (case c => rfl); (case m => k_mem); (case d => k_asm); k_whole)))
local macro_rules | `(tactic| walk_at "eval Name") => `(tactic| (k_here; k_dflt (refine' nameX_L ?k1 ?k2 ?_ ?k3 ?k4 ?k5; (case k3 => rfl); (case k4 => rfl); (case k5 => decide); (case k1 => k_asm); (case k2 => assumption); k_whole)))
local macro_rules | `(tactic| walk_at "compareOp In int ref") => `(tactic| (refine d_in (by k_asm) (by k_mem) (by k_asm) (by k_asm) ?_))

local macro_rules | `(tactic| walk_at "binaryOp BitOr int int") => `(tactic| (k_here; first | with_reducible refine or12 ?_ | with_reducible refine or34 ?_))
local macro_rules | `(tactic| walk_at "eval Name") => `(tactic| (k_here; k_dflt (refine' nameX_C ?N ?c ?m ?d ?_ ?a ?b; (case b => rfl); (case c => rfl); (case N => k_asm); (case m => k_mem); (case d => k_asm); (case a => rfl); k_whole)))
local macro_rules | `(tactic| walk_at "exec Try") => `(tactic| (k_here; refine wpAny_Try_except ?_))
local macro_rules | `(tactic| walk_at "callWith ref") => `(tactic| (k_here; k_dflt (first
  | (refine' callWith_F ?k1 ?_; (case k1 => exact FnAt.of (by k_asm) (by k_mem)); k_whole)
  | (refine' callWith_F0 ?k1 ?_; (case k1 => exact FnAt.of (by k_asm) (by k_mem)); k_whole; try dsimp only [List.nil_append, List.cons_append]))))

theorem truthyL {prog : Program} {w : World} {A : Around} {s : Shared} {E : Value → Shared → Prop} {h₀ : Heap} {L l : Addr} {news : List (Addr × Obj)} {v : Value} {vs : List Value} {n : Nat} {Q : Bool → Shared → Prop} (N : News h₀ L s.heap news) (hm : (l, listOf (v :: vs).toArray n) ∈ news) (hz : vs.length < 1000) (h : Q true { s with toks := s.toks + 1 + 1 }) : wpAny (model prog w) A (truthy (.ref l)) Q E s := by
  refine wpAny_truthy_list (News.isList N hm) (by rw [List.size_toArray, List.length_cons]; omega) ?_
  simpa using h
local macro_rules | `(tactic| walk_at "truthy ref") => `(tactic| (k_here; k_dflt (refine' truthyL ?N ?m ?z ?_; (case N => k_asm); (case m => k_mem); (case z => exact Nat.le_of_ble_eq_true rfl))))

section
variable {prog : Program} {w : World} {A₀ A : Around} {base h₀ : Heap} {outer : List Env} {env : Env} {L : Addr} {m mg mb : Str → Option Value} {s : Shared}
  {p : Program} {loose : List Str} {mean : ExcName → Option Value} {E : Value → Shared → Prop} {Q : Value → Shared → Prop}

set_option maxHeartbeats 4000000 in
theorem mb_spec (B : Below A₀ base outer h₀) (F : Fr h₀ L s.heap m) (X : (hd.heap_39 w.params).In h₀) (T : Top p loose mean mg mb h₀) (C : Stop (CodeHd h₀ 89 87))
   (hA : A.frames = some (env :: outer)) (hf : env.frame = some L) (hke : env.scope.kind = .function) (hh : A.handled = none) (hd : A.depth + 90 < recursionLimit) (hu : A.units + 280 < cLine)
   {pf af cl : Addr} {c1 c2 : Int} {t1 t2 : Tok} {age : Int → Int} {par : Int → List Int} {dom : Int → Prop} {led : List (Addr × Obj)} {ps : Array Value} {res : List Int} {n2 k : Nat}
   (SA : AgeSpec prog w af led age dom) (SP : ParSpec prog w pf led par dom)
   {R : List (Addr × Obj)} {fda fdp : FuncData} {oca ocp : Value} {oda odp : Option Addr} {sla slp : Array (Option Value)} (hafo : (af, (⟨oca, oda, .func fda, sla⟩ : Obj)) ∈ R) (hpfo : (pf, (⟨ocp, odp, .func fdp, slp⟩ : Obj)) ∈ R) (hled : ∀ q ∈ led, q ∈ R) 
   (N : News h₀ L s.heap ((87, tabObj ps) :: R)) (TO : TabOk nmL R ps) (hR87 : ∀ q ∈ R, q.1 ≠ 87) 
   (hcl : (cl, listOf #[.int c1 t1, .int c2 t2] n2) ∈ R) (hd1 : dom c1) (hd2 : dom c2) (hne : c1 ≠ c2) (hk : k ≤ 150)
   (G : LGood par age 0 dom (FinR res) k (upd (upd (fun _ => none) c1 1) c2 (Builtin.bitOr (((upd (fun _ => none) c1 1) c2).getD 0) 2)) [(-age c2, c2), (-age c1, c1)] [])
   (h : ∀ h' tk gens' r vs' n' cs ps', Fr h₀ L h' m → News h₀ L h' ((87, tabObj ps') :: (r, listOf vs' n') :: (cs ++ R)) → TabOk nmL (cs ++ R) ps' → IntsAre vs'.toList res → (∀ q ∈ cs, ∀ q' ∈ (87, tabObj ps) :: R, q'.1 < q.1) → (∀ q ∈ (87, tabObj ps) :: (cs ++ R), q.1 < r) →
      (∃ more : Array GenState, gens' = s.gens ++ more ∧ ∀ x ∈ more, x.bare = true) → Q (.ref r) { s with heap := h', toks := tk, gens := gens' }) :
   wpAny (model prog w) A (call (.ref 97) [.ref pf, .ref af, .none, .ref cl]) Q E s := by
  refine wpAny_call ?_
  refine code_def B F X N T hA hf hke (by k_is) (by k_is) (by omega) (by first | exact BindsTo.of_eq rfl | exact binds_K (by k_in) rfl (by k_is) rfl rfl rfl) (locs rfl) ?_ rfl rfl rfl (by decide)
  intro g' L' h' FG' F' N' B' X' T'
  (try dsimp only)
  (try k_lift B')
  (try k_fold)
  have hints : IntsAre [Value.int c1 t1, .int c2 t2] [c1, c2] := .cons _ _ (.cons _ _ .nil)
  k_steps
  · rename (_ = true) => hb
    simp at hb
    exact absurd hb.symm hne
  rename News _ _ _ _ => N9
  rename Fr _ _ _ _ => F9
  show wpAny _ _ (call (.ref 90) [_, .int c1 _, _, _] [("shallows", .none)]) _ _ _
  have C' : Stop (CodeHd g' 89 87) := CodeHd.keeps C FG'.keep
  rename _ ∧ _ ∧ AllLt _ _ => l9
  rename_i D1 _ _ D2 c2' _ _ _ _ _
  have N2 : News g' L' _ ((87, tabObj ps) :: (D2, listOf #[.int c2 t2] c2') :: R) := fun q hq => N9 q (by
    rcases List.mem_cons.mp hq with e | hq
    · exact .tail _ (.tail _ (e ▸ .head _))
    rcases List.mem_cons.mp hq with e | hq
    · exact e ▸ .head _
    · exact .tail _ (.tail _ (.tail _ hq)))
  refine lcas_spec (k := k) (res := res) B' F9 X' T' C' (Around.frames_deeper B'.stack) rfl rfl hh (by k_room) (by k_room) SA SP (.tail _ hafo) (.tail _ hpfo) (fun q hq => .tail _ (hled q hq)) N2 (TO.mono fun q hq => .tail _ hq) ?hn7 (.head _) hd1 hd2 hk G ?_
  case hn7 =>
    intro q hq
    rcases List.mem_cons.mp hq with e | hq
    · exact e ▸ Nat.ne_of_gt l9.2.1
    · exact hR87 q hq
  intro h3 tk3 gens3 r vs3 n3 cs ps3 F3 N3 TO3 hi3 hcs hr3 hg3
  clear N2 N9 F9
  k_steps
  rename News h₀ _ _ _ => N9
  rename Fr h₀ _ _ _ => F9
  have hsub : ∀ q ∈ cs ++ R, q ∈ cs ++ (D2, listOf #[.int c2 t2] c2') :: R := fun q hq => (List.mem_append.mp hq).elim (List.mem_append_left _) (fun h => List.mem_append_right _ (.tail _ h))
  have TO4 : TabOk nmL (cs ++ R) ps3 := by
    refine (TO3.drop (cl := D2) fun q hq e => ?_).mono fun q hq => ?_
    · rcases List.mem_append.mp hq with h | h
      · exact absurd e (Nat.ne_of_gt (hcs q h _ (.tail _ (.head _))))
      · rcases List.mem_cons.mp h with h | h
        · exact ⟨_, _, by rw [h]⟩
        · exact absurd e (Nat.ne_of_lt (allLt_mem l9.2.2 q h))
    · have hq' := List.mem_filter.mp hq
      rcases List.mem_append.mp hq'.1 with h | h
      · exact List.mem_append_left _ h
      · rcases List.mem_cons.mp h with h | h
        · exact absurd (congrArg Prod.fst h) (by simpa using hq'.2)
        · exact List.mem_append_right _ h
  refine h _ _ _ r vs3 n3 cs ps3 F9 (fun q hq => N9 q ?_) TO4 hi3 (fun q hq q' hq' => hcs q hq q' ?_) (fun q hq => hr3 q ?_) hg3
  · rcases List.mem_cons.mp hq with e | hq
    · exact e ▸ .head _
    rcases List.mem_cons.mp hq with e | hq
    · exact .tail _ (e ▸ .head _)
    · exact .tail _ (.tail _ (hsub q hq))
  · rcases List.mem_cons.mp hq' with e | hq'
    · exact e ▸ .head _
    · exact .tail _ (.tail _ hq')
  · rcases List.mem_cons.mp hq with e | hq
    · exact e ▸ .head _
    · exact .tail _ (hsub q hq)
end
end Mine

/-! ## M2 -/
namespace Mine
open PySem PySem.W PySem.Calls PyProof.Rows
open Sem (wp)
set_option maxRecDepth 100000

theorem fillK14 : ∀ w : World, PySem.Challenge.rw_bh0019_01.Holds → hd.heap_39 w.params = hd.heap_39 w.params := by
  w_top off
  first | (walk1; fail) | skip
  k_fill
  intro _ _; rfl

local macro_rules | `(tactic| k_mem) => `(tactic| assumption)
local macro_rules | `(tactic| k_room) => `(tactic| ((simp only [depth_under_make, depth_under_kw, depth_in1, depth_deeper, depth_caller, Around.in1_units, Around.deeper_units]); omega))
local macro_rules | `(tactic| k_all) => `(tactic| first | assumption | exact allNe_of (by assumption) (by omega))
local macro_rules | `(tactic| walk_at "assign Tuple") => `(tactic| (k_here; (with_reducible show wpAny _ _ (assign (Expr.Tuple _ _ _) _ (Value.ref _)) _ _ _); k_dflt (refine' unpackN_ ?k1 ?k2 ?k3 ?k4 ?k5 ?k6 ?_; (case k1 => k_asm); (case k2 => k_asm); (case k3 => (exact News.isTup (by k_asm) (by k_mem))); (case k4 => assumption); (case k5 => exact rfl); (case k6 => exact rfl); k_whole); intro h' F' N'; (try k_sweep)))
local macro_rules | `(tactic| walk_at "eval Name") => `(tactic| (k_here; kc_free; k_dflt (refine' nameX_F ?N ?c ?m ?d ?_ ?a ?b; (case a => rfl); (case b => rfl); (case N => k_asm); (case c => rfl); (case m => k_mem); (case d => k_asm); k_whole)))
local macro_rules | `(tactic| walk_at "eval Name") => `(tactic| (k_here; k_dflt (refine' nameX_L ?k1 ?k2 ?_ ?k3 ?k4 ?k5; (case k3 => rfl); (case k4 => rfl); (case k5 => decide); (case k1 => k_asm); (case k2 => assumption); k_whole)))
local macro_rules | `(tactic| walk_at "compareOp In int ref") => `(tactic| (refine d_in (by k_asm) (by k_mem) (by k_asm) (by k_asm) ?_))

local macro_rules | `(tactic| walk_at "binaryOp BitOr int int") => `(tactic| (k_here; first | with_reducible refine or12 ?_ | with_reducible refine or34 ?_))
local macro_rules | `(tactic| walk_at "eval Name") => `(tactic| (k_here; k_dflt (refine' nameX_C ?N ?c ?m ?d ?_ ?a ?b; (case b => rfl); (case c => rfl); (case N => k_asm); (case m => k_mem); (case d => k_asm); (case a => rfl); k_whole)))
local macro_rules | `(tactic| walk_at "exec Try") => `(tactic| (k_here; refine wpAny_Try_except ?_))
local macro_rules | `(tactic| walk_at "callWith ref") => `(tactic| (k_here; k_dflt (first
  | (refine' callWith_F ?k1 ?_; (case k1 => exact FnAt.of (by k_asm) (by k_mem)); k_whole)
  | (refine' callWith_F0 ?k1 ?_; (case k1 => exact FnAt.of (by k_asm) (by k_mem)); k_whole; try dsimp only [List.nil_append, List.cons_append]))))

local macro_rules | `(tactic| walk_at "truthy ref") => `(tactic| (k_here; k_dflt (refine' truthyL ?N ?m ?z ?_; (case N => k_asm); (case m => k_mem); (case z => exact Nat.le_of_ble_eq_true rfl))))

section
variable {prog : Program} {w : World} {A₀ A : Around} {base h₀ : Heap} {outer : List Env} {env : Env} {L : Addr} {m mg mb : Str → Option Value} {s : Shared}
  {p : Program} {loose : List Str} {mean : ExcName → Option Value} {E : Value → Shared → Prop} {Q : Value → Shared → Prop}

set_option maxHeartbeats 4000000 in
theorem ff_spec (B : Below A₀ base outer h₀) (F : Fr h₀ L s.heap m) (X : (hd.heap_39 w.params).In h₀) (T : Top p loose mean mg mb h₀) (C : Stop (CodeHd h₀ 89 87))
   (hA : A.frames = some (env :: outer)) (hf : env.frame = some L) (hke : env.scope.kind = .function) (hh : A.handled = none) (hd : A.depth + 90 < recursionLimit) (hu : A.units + 280 < cLine)
   {pf af : Addr} {c1 c2 : Int} {t1 t2 : Tok} {age : Int → Int} {par : Int → List Int} {dom : Int → Prop} {led : List (Addr × Obj)} {ps : Array Value} {res : List Int} {k : Nat}
   (SA : AgeSpec prog w af led age dom) (SP : ParSpec prog w pf led par dom)
   {R : List (Addr × Obj)} {fda fdp : FuncData} {oca ocp : Value} {oda odp : Option Addr} {sla slp : Array (Option Value)} (hafo : (af, (⟨oca, oda, .func fda, sla⟩ : Obj)) ∈ R) (hpfo : (pf, (⟨ocp, odp, .func fdp, slp⟩ : Obj)) ∈ R) (hled : ∀ q ∈ led, q ∈ R) 
   (N : News h₀ L s.heap ((87, tabObj ps) :: R)) (TO : TabOk nmL R ps) (hR87 : ∀ q ∈ R, q.1 ≠ 87) 
   (hd1 : dom c1) (hd2 : dom c2) (hne : c1 ≠ c2) (hk : k ≤ 150)
   (G : LGood par age (age c1) dom (FinR res) k (upd (upd (fun _ => none) c1 1) c2 (Builtin.bitOr (((upd (fun _ => none) c1 1) c2).getD 0) 2)) [(-age c2, c2), (-age c1, c1)] [])
   (h : ∀ h' tk gens' cs ps', Fr h₀ L h' m → News h₀ L h' ((87, tabObj ps') :: (cs ++ R)) → TabOk nmL (cs ++ R) ps' → (∀ q ∈ cs, ∀ q' ∈ (87, tabObj ps) :: R, q'.1 < q.1) →
      (∃ more : Array GenState, gens' = s.gens ++ more ∧ ∀ x ∈ more, x.bare = true) → Q (.bool (decide (res = [c1]))) { s with heap := h', toks := tk, gens := gens' }) :
   wpAny (model prog w) A (call (.ref 111) [.ref pf, .ref af, .none, .int c1 t1, .int c2 t2]) Q E s := by
  refine wpAny_call ?_
  refine code_def B F X N T hA hf hke (by k_is) (by k_is) (by omega) (by first | exact BindsTo.of_eq rfl | exact binds_K (by k_in) rfl (by k_is) rfl rfl rfl) (locs rfl) ?_ rfl rfl rfl (by decide)
  intro g' L' h' FG' F' N' B' X' T'
  (try dsimp only)
  (try k_lift B')
  (try k_fold)
  k_steps
  · rename c1 = c2 => hb
    exact absurd hb hne
  rename News _ _ _ _ => N9
  rename Fr _ _ _ _ => F9
  refine SA (A := A.deeper _) B' F9 X' T' (Around.frames_deeper B'.stack) rfl rfl hh (by k_room) (by k_room) N9 (fun q hq => .tail _ (hled q hq)) hd1 ?_
  intro h1 tk1 u1 F1 N1
  clear F9 N9
  k_steps
  rename News _ _ _ _ => N9
  rename Fr _ _ _ _ => F9
  rename _ ∧ AllLt _ _ => l9
  show wpAny _ _ (call (.ref 90) [_, .int c1 _, _, _] [("min_stamp", .int (age c1) _), ("shallows", .none)]) _ _ _
  have C' : Stop (CodeHd g' 89 87) := CodeHd.keeps C FG'.keep
  rename Addr => D2
  have N2 : News g' L' _ ((87, tabObj ps) :: (D2, listOf #[.int c2 t2] 0) :: R) := fun q hq => N9 q (by
    rcases List.mem_cons.mp hq with e | hq
    · exact .tail _ (e ▸ .head _)
    rcases List.mem_cons.mp hq with e | hq
    · exact e ▸ .head _
    · exact .tail _ (.tail _ hq))
  refine lcas_spec_ff (k := k) (res := res) B' F9 X' T' C' (Around.frames_deeper B'.stack) rfl rfl hh (by k_room) (by k_room) SA SP (.tail _ hafo) (.tail _ hpfo) (fun q hq => .tail _ (hled q hq)) N2 (TO.mono fun q hq => .tail _ hq) ?hn7 (.head _) hd1 hd2 hk G ?_
  case hn7 =>
    intro q hq
    rcases List.mem_cons.mp hq with e | hq
    · exact e ▸ Nat.ne_of_gt l9.1
    · exact hR87 q hq
  intro h3 tk3 gens3 r vs3 n3 cs ps3 F3 N3 TO3 hi3 hcs hr3 hg3
  clear N2 N9 F9
  k_steps
  rename News h₀ _ _ _ => N9
  rename Fr h₀ _ _ _ => F9
  have hsub : ∀ q ∈ cs ++ R, q ∈ cs ++ (D2, listOf #[.int c2 t2] 0) :: R := fun q hq => (List.mem_append.mp hq).elim (List.mem_append_left _) (fun h => List.mem_append_right _ (.tail _ h))
  have TO4 : TabOk nmL (cs ++ R) ps3 := by
    refine (TO3.drop (cl := D2) fun q hq e => ?_).mono fun q hq => ?_
    · rcases List.mem_append.mp hq with h | h
      · exact absurd e (Nat.ne_of_gt (hcs q h _ (.tail _ (.head _))))
      · rcases List.mem_cons.mp h with h | h
        · exact ⟨_, _, by rw [h]⟩
        · exact absurd e (Nat.ne_of_lt (allLt_mem l9.2 q h))
    · have hq' := List.mem_filter.mp hq
      rcases List.mem_append.mp hq'.1 with h | h
      · exact List.mem_append_left _ h
      · rcases List.mem_cons.mp h with h | h
        · exact absurd (congrArg Prod.fst h) (by simpa using hq'.2)
        · exact List.mem_append_right _ h
  refine h _ _ _ cs ps3 F9 (fun q hq => N9 q ?_) TO4 (fun q hq q' hq' => hcs q hq q' ?_) hg3
  · rcases List.mem_cons.mp hq with e | hq
    · exact .tail _ (e ▸ .head _)
    · exact .tail _ (.tail _ (.tail _ (hsub q hq)))
  · rcases List.mem_cons.mp hq' with e | hq'
    · exact e ▸ .head _
    · exact .tail _ (.tail _ hq')
end
end Mine

/-! ## M3 -/
namespace Mine
open PySem PySem.W PySem.Calls PyProof.Rows
open Sem (wp)
set_option maxRecDepth 100000

theorem fillK15 : ∀ w : World, PySem.Challenge.rw_bh0019_01.Holds → hd.heap_39 w.params = hd.heap_39 w.params := by
  w_top off
  first | (walk1; fail) | skip
  k_fill
  intro _ _; rfl

local macro_rules | `(tactic| k_mem) => `(tactic| assumption)
local macro_rules | `(tactic| k_room) => `(tactic| ((simp only [depth_under_make, depth_under_kw, depth_in1, depth_deeper, depth_caller, Around.in1_units, Around.deeper_units]); omega))
local macro_rules | `(tactic| k_all) => `(tactic| first | assumption | exact allNe_of (by assumption) (by omega))
local macro_rules | `(tactic| walk_at "assign Tuple") => `(tactic| (k_here; (with_reducible show wpAny _ _ (assign (Expr.Tuple _ _ _) _ (Value.ref _)) _ _ _); k_dflt (refine' unpackN_ ?k1 ?k2 ?k3 ?k4 ?k5 ?k6 ?_; (case k1 => k_asm); (case k2 => k_asm); (case k3 => (exact News.isTup (by k_asm) (by k_mem))); (case k4 => assumption); (case k5 => exact rfl); (case k6 => exact rfl); k_whole); intro h' F' N'; (try k_sweep)))
local macro_rules | `(tactic| walk_at "eval Name") => `(tactic| (k_here; kc_free; k_dflt (refine' nameX_F ?N ?c ?m ?d ?_ ?a ?b; (case a => rfl); (case b => rfl); (case N => k_asm); (case c => rfl); (case m => k_mem); (case d => k_asm); k_whole)))
local macro_rules | `(tactic| walk_at "eval Name") => `(tactic| (k_here; k_dflt (refine' nameX_L ?k1 ?k2 ?_ ?k3 ?k4 ?k5; (case k3 => rfl); (case k4 => rfl); (case k5 => decide); (case k1 => k_asm); (case k2 => assumption); k_whole)))
local macro_rules | `(tactic| walk_at "compareOp In int ref") => `(tactic| (refine d_in (by k_asm) (by k_mem) (by k_asm) (by k_asm) ?_))

local macro_rules | `(tactic| walk_at "binaryOp BitOr int int") => `(tactic| (k_here; first | with_reducible refine or12 ?_ | with_reducible refine or34 ?_))
local macro_rules | `(tactic| walk_at "eval Name") => `(tactic| (k_here; k_dflt (refine' nameX_C ?N ?c ?m ?d ?_ ?a ?b; (case b => rfl); (case c => rfl); (case N => k_asm); (case m => k_mem); (case d => k_asm); (case a => rfl); k_whole)))
local macro_rules | `(tactic| walk_at "exec Try") => `(tactic| (k_here; refine wpAny_Try_except ?_))
local macro_rules | `(tactic| walk_at "callWith ref") => `(tactic| (k_here; k_dflt (first
  | (refine' callWith_F ?k1 ?_; (case k1 => exact FnAt.of (by k_asm) (by k_mem)); k_whole)
  | (refine' callWith_F0 ?k1 ?_; (case k1 => exact FnAt.of (by k_asm) (by k_mem)); k_whole; try dsimp only [List.nil_append, List.cons_append]))))

local macro_rules | `(tactic| walk_at "truthy ref") => `(tactic| (k_here; k_dflt (refine' truthyL ?N ?m ?z ?_; (case N => k_asm); (case m => k_mem); (case z => exact Nat.le_of_ble_eq_true rfl))))

section
variable {prog : Program} {w : World} {A₀ A : Around} {base h₀ : Heap} {outer : List Env} {env : Env} {L : Addr} {m mg mb : Str → Option Value} {s : Shared}
  {p : Program} {loose : List Str} {mean : ExcName → Option Value} {E : Value → Shared → Prop} {Q : Value → Shared → Prop}

abbrev cst0 (c1 c2 : Int) : Cst := upd (upd (fun _ => none) c1 1) c2 (Builtin.bitOr (((upd (fun _ => none) c1 1) c2).getD 0) 2)
abbrev pq0 (age : Int → Int) (c1 c2 : Int) : List Key := [(-age c2, c2), (-age c1, c1)]

set_option maxHeartbeats 4000000 in
theorem oct_spec (B : Below A₀ base outer h₀) (F : Fr h₀ L s.heap m) (X : (hd.heap_39 w.params).In h₀) (T : Top p loose mean mg mb h₀) (C : Stop (CodeHd h₀ 89 87))
   (hA : A.frames = some (env :: outer)) (hf : env.frame = some L) (hke : env.scope.kind = .function) (hh : A.handled = none) (hd : A.depth + 90 < recursionLimit) (hu : A.units + 280 < cLine)
   {pf af cl : Addr} {a b c x y : Int} {t1 t2 t3 : Tok} {age : Int → Int} {par : Int → List Int} {dom : Int → Prop} {led : List (Addr × Obj)} {ps : Array Value} {n2 k1 k2 : Nat}
   (SA : AgeSpec prog w af led age dom) (SP : ParSpec prog w pf led par dom)
   {R : List (Addr × Obj)} {fda fdp : FuncData} {oca ocp : Value} {oda odp : Option Addr} {sla slp : Array (Option Value)} (hafo : (af, (⟨oca, oda, .func fda, sla⟩ : Obj)) ∈ R) (hpfo : (pf, (⟨ocp, odp, .func fdp, slp⟩ : Obj)) ∈ R) (hled : ∀ q ∈ led, q ∈ R) 
   (N : News h₀ L s.heap ((87, tabObj ps) :: R)) (TO : TabOk nmL R ps) (hR87 : ∀ q ∈ R, q.1 ≠ 87) 
   (hcl : (cl, listOf #[.int a t1, .int b t2, .int c t3] n2) ∈ R) (hda : dom a) (hdb : dom b) (hdc : dom c) (hdx : dom x) (hk1 : k1 ≤ 150) (hk2 : k2 ≤ 150)
   (G1 : LGood par age 0 dom (FinR [x]) k1 (cst0 b a) (pq0 age b a) []) (G2 : LGood par age 0 dom (FinR [y]) k2 (cst0 c x) (pq0 age c x) [])
   (h : ∀ h' tk gens' r vs' n' cs ps', Fr h₀ L h' m → News h₀ L h' ((87, tabObj ps') :: (r, listOf vs' n') :: (cs ++ R)) → TabOk nmL (cs ++ R) ps' → IntsAre vs'.toList [y] → (∀ q ∈ cs, ∀ q' ∈ (87, tabObj ps) :: R, q'.1 < q.1) → (∀ q ∈ (87, tabObj ps) :: (cs ++ R), q.1 < r) →
      (∃ more : Array GenState, gens' = s.gens ++ more ∧ ∀ x ∈ more, x.bare = true) → Q (.ref r) { s with heap := h', toks := tk, gens := gens' }) :
   wpAny (model prog w) A (call (.ref 104) [.ref pf, .ref af, .none, .ref cl]) Q E s := by
  refine wpAny_call ?_
  refine code_def B F X N T hA hf hke (by k_is) (by k_is) (by omega) (by first | exact BindsTo.of_eq rfl | exact binds_K (by k_in) rfl (by k_is) rfl rfl rfl) (locs rfl) ?_ rfl rfl rfl (by decide)
  intro g' L' h' FG' F' N' B' X' T'
  (try dsimp only)
  (try k_lift B')
  (try k_fold)
  have hints : IntsAre [Value.int a t1, .int b t2, .int c t3] [a, b, c] := .cons _ _ (.cons _ _ (.cons _ _ .nil))
  refine execs_split (xs := [_, _, _, _]) ?_
  k_steps
  rename News _ _ _ _ => N9
  rename Fr _ _ _ _ => F9
  rename _ ∧ _ ∧ AllLt _ _ => l9
  show wpAny _ _ _ _ _ _
  refine wpAny_execs_cons ?_
  refine wpAny_For ?_
  refine wpAny_Name (wpAny_loadName_local rfl rfl F9.ns rfl ?_) (by decide)
  rename_i _ lc0 hx1 l8 hx2 ot hx3 hx4
  have N10 : News g' L' hx4 ((87, tabObj ps) :: (lc0, _) :: ([] ++ (ot, listOf #[.int b t2, .int c t3] 0) :: R)) := fun q hq => N9 q (by
    simp only [List.mem_cons, List.nil_append] at hq ⊢
    rcases hq with e | e | e | e
    · exact .inr (.inr (.inl e))
    · exact .inr (.inl e)
    · exact .inl e
    · exact .inr (.inr (.inr e)))
  clear N9 hints
  have hRo : ∀ q ∈ R, q.1 ≠ ot := fun q hq => Nat.ne_of_lt (allLt_mem l9.2.2 q hq)
  refine forLS (l := ot) (items := #[.int b t2, .int c t3]) (cap := 0) 1 hh F9 N10 (fun j m' nw g => (∃ more : Array GenState, g = s.gens ++ more ∧ ∀ x ∈ more, x.bare = true) ∧ m' (Str.ofString "lookup_parents") = some (.ref pf) ∧ m' (Str.ofString "lookup_stamp") = some (.ref af) ∧ m' (Str.ofString "shallows") = some .none ∧
    ∃ lc t n cs ps', m' (Str.ofString "lcas") = some (.ref lc) ∧ nw = (87, tabObj ps') :: (lc, listOf #[.int (if j = 0 then a else if j = 1 then x else y) t] n) :: (cs ++ (ot, listOf #[.int b t2, .int c t3] 0) :: R) ∧ TabOk nmL (cs ++ R) ps' ∧ (∀ q ∈ cs, ∀ q' ∈ (87, tabObj ps) :: R, q'.1 < q.1) ∧ (∀ q ∈ cs, q.1 ≠ ot ∧ q.1 ≠ lc) ∧ 87 < lc ∧ (∀ q ∈ R, q.1 < lc) ∧ lc ≠ ot ∧ (∀ q ∈ cs, q.1 < lc)) ?h0 ?hJ ?hown ?turn ?done
  case h0 => exact ⟨⟨#[], by simp, by simp⟩, rfl, rfl, rfl, lc0, _, _, [], ps, rfl, rfl, TO, (fun q hq => nomatch hq), (fun q hq => nomatch hq), l8.1, fun q hq => allLt_mem l8.2 q hq, Nat.ne_of_lt l9.1, (fun q hq => nomatch hq)⟩
  case hJ => rintro j m' nw g ⟨_, _, _, _, lc, t, n, cs, ps', _, rfl, _⟩; exact .tail _ (.tail _ (List.mem_append_right _ (.head _)))
  case hown => intro v s' I i Q' E' _ _ hq; exact own_Name hq
  case turn =>
    rintro j v h1 tk1 g1 m1 nw1 it oit hv ⟨⟨more, rfl, hmore⟩, m_pf, m_af, m_sh, lc, t, n, cs, ps', m_lc, rfl, TO1, hcs, hcs2, hlc1, hlc2, hlc3, hlc4⟩ F1 N1 hne1 hod1
    clear N10 F9
    have hn1 : (87 : Addr) ≠ it := hne1 _ (.head _)
    have hn2 : lc ≠ it := hne1 _ (.tail _ (.head _))
    have hn3 : ∀ q ∈ cs ++ (ot, listOf #[.int b t2, .int c t3] 0) :: R, q.1 ≠ it := fun q hq => hne1 q (.tail _ (.tail _ hq))
    obtain ⟨cc, tcc, rfl⟩ : ∃ cc tcc, v = .int cc tcc := by
      match j, hv with
      | 0, hv => exact ⟨b, t2, by simpa using hv.symm⟩
      | 1, hv => exact ⟨c, t3, by simpa using hv.symm⟩
      | j + 2, hv => simp at hv
    simp only [List.take_succ_cons, List.take_zero, List.drop_succ_cons, List.drop_zero]
    k_steps
    rename News g' _ _ _ => N9
    rename Fr g' _ _ _ => F9
    rename _ ∧ _ ∧ _ ∧ AllLt _ _ => l5
    rename_i nl hy1 hy2
    obtain ⟨va, hva⟩ : ∃ va, va = (if j = 0 then a else if j = 1 then x else y) := ⟨_, rfl⟩
    obtain ⟨vb, hvb⟩ : ∃ vb, vb = (if j + 1 = 0 then a else if j + 1 = 1 then x else y) := ⟨_, rfl⟩
    obtain ⟨hdva, hdcc, k, hk, G⟩ : dom va ∧ dom cc ∧ ∃ k, k ≤ 150 ∧ LGood par age 0 dom (FinR [vb]) k (cst0 cc va) (pq0 age cc va) [] := by
      match j, hv, hva, hvb with
      | 0, hv, hva, hvb =>
        have e : b = cc ∧ t2 = tcc := by simpa using hv
        obtain ⟨rfl, rfl⟩ := e
        have hva : va = a := hva
        have hvb : vb = x := hvb
        subst hva; subst hvb
        exact ⟨hda, hdb, k1, hk1, G1⟩
      | 1, hv, hva, hvb =>
        have e : c = cc ∧ t3 = tcc := by simpa using hv
        obtain ⟨rfl, rfl⟩ := e
        have hva : va = x := hva
        have hvb : vb = y := hvb
        subst hva; subst hvb
        exact ⟨hdx, hdc, k2, hk2, G2⟩
      | j + 2, hv, _, _ => simp at hv
    have N9' : News g' L' hy2 ((nl, listOf #[] 0) :: (it, oit) :: (87, tabObj ps') :: (lc, listOf #[.int va t] n) :: (cs ++ (ot, listOf #[.int b t2, .int c t3] 0) :: R)) := by rw [hva]; exact N9
    clear N9
    show wpAny _ _ _ _ _ _
    refine wpAny_execs_cons ?_
    refine wpAny_For ?_
    refine wpAny_Name (wpAny_loadName_local rfl rfl F9.ns m_lc ?_) (by decide)
    refine forL (l := lc) (items := #[.int va t]) (cap := n) hh F9 N9' (fun i m' nw g => (∃ more : Array GenState, g = s.gens ++ more ∧ ∀ x ∈ more, x.bare = true) ∧ m' (Str.ofString "lookup_parents") = some (.ref pf) ∧ m' (Str.ofString "lookup_stamp") = some (.ref af) ∧ m' (Str.ofString "shallows") = some .none ∧ m' (Str.ofString "cmt") = some (.int cc tcc) ∧ m' (Str.ofString "next_lcas") = some (.ref nl) ∧
      ∃ (vs : List Value) (n3 : Nat) (cs2 : List (Addr × Obj)) (ps2 : Array Value), nw = (nl, listOf vs.toArray n3) :: (it, oit) :: (87, tabObj ps2) :: (lc, listOf #[.int va t] n) :: (cs2 ++ (ot, listOf #[.int b t2, .int c t3] 0) :: R) ∧ TabOk nmL (cs2 ++ R) ps2 ∧ (∀ q ∈ cs2, ∀ q' ∈ (87, tabObj ps) :: R, q'.1 < q.1) ∧ (∀ q ∈ cs2, q.1 ≠ ot ∧ q.1 ≠ lc ∧ q.1 ≠ it ∧ q.1 ≠ nl) ∧ ((i = 0 ∧ vs = []) ∨ (i = 1 ∧ IntsAre vs [vb]))) ?ih0 ?ihJ ?ihown ?iturn ?idone
    case ih0 => exact ⟨⟨more, rfl, hmore⟩, m_pf, m_af, m_sh, rfl, rfl, [], 0, cs, ps', rfl, TO1, hcs, fun q hq => ⟨(hcs2 q hq).1, (hcs2 q hq).2, hn3 q (List.mem_append_left _ hq), Nat.ne_of_lt (allLt_mem l5.2.2.2 q (List.mem_append_left _ hq))⟩, .inl ⟨rfl, rfl⟩⟩
    case ihJ => rintro i m' nw g ⟨_, _, _, _, _, _, vs, n3, cs2, ps2, rfl, _⟩; exact .tail _ (.tail _ (.tail _ (.head _)))
    case ihown => intro v s' I i Q' E' _ _ hq; exact own_Name hq
    case iturn =>
      rintro i v h2 tk2 g2 m2 nw2 it2 oit2 hv2 ⟨⟨more2, rfl, hmore2⟩, m_pf2, m_af2, m_sh2, m_cm2, m_nl2, vs, n3, cs2, ps2, rfl, TO2, hcs5, hcs6, hi⟩ F2 N2 hne2 hod2
      clear N9' F9
      obtain ⟨rfl, rfl⟩ : i = 0 ∧ vs = [] := by
        rcases hi with h | ⟨rfl, _⟩
        · exact h
        · simp at hv2
      obtain rfl : v = .int va t := by simpa using hv2.symm
      have hp1 : nl ≠ it2 := hne2 _ (.head _)
      have hp2 : it ≠ it2 := hne2 _ (.tail _ (.head _))
      have hp3 : (87 : Addr) ≠ it2 := hne2 _ (.tail _ (.tail _ (.head _)))
      have hp4 : lc ≠ it2 := hne2 _ (.tail _ (.tail _ (.tail _ (.head _))))
      have hp5 : ∀ q ∈ cs2 ++ (ot, listOf #[.int b t2, .int c t3] 0) :: R, q.1 ≠ it2 := fun q hq => hne2 q (.tail _ (.tail _ (.tail _ (.tail _ hq))))
      k_steps
      rename News g' _ _ _ => N9
      rename Fr g' _ _ _ => F9
      rename _ ∧ _ ∧ _ ∧ _ ∧ _ ∧ AllLt _ _ => l6
      rename_i hz1 D2 hz2
      show wpAny _ _ (call (.ref 90) [_, .int cc _, _, _] [("shallows", .none)]) _ _ _
      have C' : Stop (CodeHd g' 89 87) := CodeHd.keeps C FG'.keep
      obtain ⟨R9, hR9⟩ : ∃ R9, R9 = (D2, listOf #[.int va t] 0) :: (it2, oit2) :: (nl, listOf #[] n3) :: (it, oit) :: (lc, listOf #[.int va t] n) :: (cs2 ++ (ot, listOf #[.int b t2, .int c t3] 0) :: R) := ⟨_, rfl⟩
      have N10 : News g' L' hz2 ((87, tabObj ps2) :: R9) := fun q hq => N9 q (by
        subst hR9
        simp only [List.mem_cons] at hq ⊢
        rcases hq with e | e | e | e | e | e | e
        · exact .inr (.inr (.inr (.inr (.inl e))))
        · exact .inl e
        · exact .inr (.inl e)
        · exact .inr (.inr (.inl e))
        · exact .inr (.inr (.inr (.inl e)))
        · exact .inr (.inr (.inr (.inr (.inr (.inl e)))))
        · exact .inr (.inr (.inr (.inr (.inr (.inr e))))))
      have hR2 : ∀ q ∈ cs2 ++ R, q ∈ R9 := fun q hq => hR9 ▸ .tail _ (.tail _ (.tail _ (.tail _ (.tail _ ((List.mem_append.mp hq).elim (List.mem_append_left _) (fun h => List.mem_append_right _ (.tail _ h)))))))
      have hR3 : ∀ q ∈ R, q ∈ R9 := fun q hq => hR2 q (List.mem_append_right _ hq)
      have h7 : ∀ q ∈ R9, q.1 ≠ 87 := fun q hq => by
        subst hR9
        simp only [List.mem_cons, List.mem_append] at hq
        rcases hq with e | e | e | e | e | e | e | e
        · exact e ▸ Nat.ne_of_gt l6.2.2.2.1
        · exact e ▸ Ne.symm hp3
        · exact e ▸ Nat.ne_of_gt l5.2.1
        · exact e ▸ Ne.symm hn1
        · exact e ▸ Nat.ne_of_gt hlc1
        · exact Nat.ne_of_gt (hcs5 q e _ (.head _))
        · exact e ▸ Nat.ne_of_gt l9.2.1
        · exact hR87 q e
      have hD2 : (D2, listOf #[.int va t] 0) ∈ R9 := hR9 ▸ .head _
      refine lcas_spec (k := k) (res := [vb]) (R := R9) B' F9 X' T' C' (Around.frames_deeper B'.stack) rfl rfl hh (by k_room) (by k_room) SA SP (hR3 _ hafo) (hR3 _ hpfo) (fun q hq => hR3 _ (hled q hq)) N10 (TO2.mono hR2) h7 hD2 hdcc hdva hk G ?_
      intro h3 tk3 gens3 r vs3 n3' cs3 ps3 F3 N3 TO3 hi3 hcs3 hr3 hg3
      clear N9 N10 F9
      have N4 : News g' L' h3 ((nl, listOf #[] n3) :: (it2, oit2) :: (it, oit) :: (87, tabObj ps3) :: (lc, listOf #[.int va t] n) :: (r, listOf vs3 n3') :: ((cs3 ++ cs2) ++ (ot, listOf #[.int b t2, .int c t3] 0) :: R)) := fun q hq => N3 q (by
        subst hR9
        simp only [List.mem_cons, List.mem_append] at hq ⊢
        rcases hq with e | e | e | e | e | e | (e | e) | e | e
        · exact .inr (.inr (.inr (.inr (.inr (.inl e)))))
        · exact .inr (.inr (.inr (.inr (.inl e))))
        · exact .inr (.inr (.inr (.inr (.inr (.inr (.inl e))))))
        · exact .inl e
        · exact .inr (.inr (.inr (.inr (.inr (.inr (.inr (.inl e)))))))
        · exact .inr (.inl e)
        · exact .inr (.inr (.inl e))
        · exact .inr (.inr (.inr (.inr (.inr (.inr (.inr (.inr (.inl e))))))))
        · exact .inr (.inr (.inr (.inr (.inr (.inr (.inr (.inr (.inr (.inl e)))))))))
        · exact .inr (.inr (.inr (.inr (.inr (.inr (.inr (.inr (.inr (.inr e))))))))))
      have mR9 : ∀ q ∈ R9, q ∈ (87, tabObj ps2) :: R9 := fun q hq => .tail _ hq
      have onl : (nl, listOf #[] n3) ∈ R9 := hR9 ▸ .tail _ (.tail _ (.head _))
      have oit_ : (it, oit) ∈ R9 := hR9 ▸ .tail _ (.tail _ (.tail _ (.head _)))
      have oit2_ : (it2, oit2) ∈ R9 := hR9 ▸ .tail _ (.head _)
      have olc : (lc, listOf #[.int va t] n) ∈ R9 := hR9 ▸ .tail _ (.tail _ (.tail _ (.tail _ (.head _))))
      have oot : (ot, listOf #[.int b t2, .int c t3] 0) ∈ R9 := hR9 ▸ .tail _ (.tail _ (.tail _ (.tail _ (.tail _ (List.mem_append_right _ (.head _))))))
      have hrn : ∀ q ∈ R9, q.1 < r := fun q hq => hr3 q (.tail _ (List.mem_append_right _ hq))
      clear N3
      have TO4 : TabOk nmL ((cs3 ++ cs2) ++ R) ps3 := by
        refine TO3.keep fun q hq => ?_
        subst hR9
        simp only [List.mem_cons, List.mem_append] at hq ⊢
        have nl_ : ∀ (l : Addr) (xs : Array Value) (k : Nat), q = (l, listOf xs k) → ∀ vs x t, q.2.data = .fields vs → vs[1]? ≠ some (.str x t) := fun l xs k e vs x t h => by rw [e] at h; cases h
        have ni_ : ∀ (l : Addr) (o : Obj), (∃ (l' : Addr) (i : Int), o.data = .fields #[.ref l', .int i 0]) → q = (l, o) → ∀ vs x t, q.2.data = .fields vs → vs[1]? ≠ some (.str x t) := fun l o ⟨l', i, hd⟩ e vs x t h h2 => by
          rw [e] at h
          have h : o.data = .fields vs := h
          rw [hd] at h; cases h; simp at h2
        rcases hq with e | e | e | e | e | e | e | e | e
        · exact .inl (.inl (.inl e))
        · exact .inr (nl_ _ _ _ e)
        · exact .inr (ni_ _ _ hod2 e)
        · exact .inr (nl_ _ _ _ e)
        · exact .inr (ni_ _ _ hod1 e)
        · exact .inr (nl_ _ _ _ e)
        · exact .inl (.inl (.inr e))
        · exact .inr (nl_ _ _ _ e)
        · exact .inl (.inr e)
      k_steps
      rename News g' _ _ _ => N9
      rename Fr g' _ _ _ => F9
      refine extend_in_ints (own := []) (ys := []) (ns := []) (ms := [vb]) F9 N9 (fun q hq => nomatch hq) ?hap (N9 _ (.tail _ (.tail _ (.tail _ (.tail _ (.tail _ (.head _))))))).1 .nil hi3 ?_ ?hsz
      case hap =>
        intro q hq
        simp only [List.mem_cons, List.mem_append] at hq
        rcases hq with e | e | e | e | e | (e | e) | e | e
        · exact e ▸ Ne.symm hp1
        · exact e ▸ Nat.ne_of_lt l5.1
        · exact e ▸ Nat.ne_of_lt l5.2.1
        · exact e ▸ Nat.ne_of_lt l5.2.2.1
        · exact e ▸ Nat.ne_of_gt (hrn _ onl)
        · exact Nat.ne_of_gt (hcs3 q e _ (mR9 _ onl))
        · exact (hcs6 q e).2.2.2
        · exact e ▸ Nat.ne_of_lt (allLt_mem l5.2.2.2 _ (List.mem_append_right _ (.head _)))
        · exact Nat.ne_of_lt (allLt_mem l5.2.2.2 _ (List.mem_append_right _ (.tail _ e)))
      case hsz =>
        have := hi3.length
        simp only [Array.length_toList, List.length_cons, List.length_nil] at this
        rw [this, sizeLine_eq, List.length_nil]; omega
      intro h4 n4 F4 N4' hi4
      clear N9 F9
      simp only [List.nil_append] at N4' hi4
      k_steps
      rename News g' _ _ _ => N9
      rename Fr g' _ _ _ => F9
      obtain ⟨more3, rfl, hmore3⟩ := hg3
      refine ⟨_, _, _, _, (nl, listOf vs3.toList.toArray n4) :: (it, oit) :: (87, tabObj ps3) :: (lc, listOf #[.int va t] n) :: ((cs3 ++ cs2) ++ (ot, listOf #[.int b t2, .int c t3] 0) :: R), rfl, ⟨⟨more2 ++ more3, Array.append_assoc, fun x hx => (Array.mem_append.mp hx).elim (hmore2 x) (hmore3 x)⟩, by exact m_pf2, by exact m_af2, by exact m_sh2, by exact m_cm2, by exact m_nl2, vs3.toList, n4, cs3 ++ cs2, ps3, rfl, TO4, ?a1, ?a2, .inr ⟨rfl, hi4⟩⟩, F9, fun q hq => N9 q ?a3, ?a4⟩
      case a1 =>
        intro q hq q' hq'
        rcases List.mem_append.mp hq with h | h
        · rcases List.mem_cons.mp hq' with e | h'
          · have h8 := hcs3 q h (87, tabObj ps2) (.head _)
            rw [e]; exact h8
          · exact hcs3 q h _ (mR9 _ (hR3 _ h'))
        · exact hcs5 q h q' hq'
      case a2 =>
        intro q hq
        rcases List.mem_append.mp hq with h | h
        · exact ⟨Nat.ne_of_gt (hcs3 q h _ (mR9 _ oot)), Nat.ne_of_gt (hcs3 q h _ (mR9 _ olc)), Nat.ne_of_gt (hcs3 q h _ (mR9 _ oit_)), Nat.ne_of_gt (hcs3 q h _ (mR9 _ onl))⟩
        · exact hcs6 q h
      case a3 =>
        simp only [List.mem_cons] at hq ⊢
        rcases hq with e | e | e | e | e | e
        · exact .inr (.inl e)
        · exact .inl e
        · exact .inr (.inr (.inl e))
        · exact .inr (.inr (.inr (.inl e)))
        · exact .inr (.inr (.inr (.inr (.inl e))))
        · exact .inr (.inr (.inr (.inr (.inr (.inr e)))))
      case a4 =>
        intro q hq
        simp only [List.mem_cons, List.mem_append] at hq
        rcases hq with e | e | e | e | (e | e) | e | e
        · exact e ▸ hp1
        · exact e ▸ hp2
        · exact e ▸ hp3
        · exact e ▸ hp4
        · exact Nat.ne_of_gt (hcs3 q e _ (mR9 _ oit2_))
        · exact hp5 q (List.mem_append_left _ e)
        · exact e ▸ hp5 _ (List.mem_append_right _ (.head _))
        · exact hp5 q (List.mem_append_right _ (.tail _ e))
    case idone =>
      rintro h2 tk2 g2 m2 nw2 ⟨⟨more2, rfl, hmore2⟩, m_pf2, m_af2, m_sh2, m_cm2, m_nl2, vs, n3, cs2, ps2, rfl, TO2, hcs5, hcs6, hi⟩ F2 N2
      clear N9' F9
      have hi2 : IntsAre vs [vb] := by
        rcases hi with ⟨h, _⟩ | ⟨_, h⟩
        · simp at h
        · exact h
      obtain ⟨tb, rfl⟩ : ∃ tb, vs = [.int vb tb] := by
        cases hi2 with
        | cons _ t r => cases r; exact ⟨_, rfl⟩
      k_steps
      rename News g' _ _ _ => N9
      rename Fr g' _ _ _ => F9
      rename_i D5 hz5 l7 hz6
      have hot : ot < D5 := allLt_mem l7.2.2.2.2 _ (List.mem_append_right _ (.head _))
      refine ⟨_, _, _, _, (87, tabObj ps2) :: (D5, listOf #[.int vb tb] 0) :: (cs2 ++ (ot, listOf #[.int b t2, .int c t3] 0) :: R), rfl, ⟨⟨more2, rfl, hmore2⟩, by exact m_pf2, by exact m_af2, by exact m_sh2, D5, tb, 0, cs2, ps2, rfl, by rw [← hvb], TO2, hcs5, fun q hq => ⟨(hcs6 q hq).1, Nat.ne_of_lt (allLt_mem l7.2.2.2.2 q (List.mem_append_left _ hq))⟩, l7.2.2.1, fun q hq => allLt_mem l7.2.2.2.2 q (List.mem_append_right _ (.tail _ hq)), Nat.ne_of_gt hot, fun q hq => allLt_mem l7.2.2.2.2 q (List.mem_append_left _ hq)⟩, F9, fun q hq => N9 q ?b3, ?b4⟩
      case b3 =>
        simp only [List.mem_cons] at hq ⊢
        rcases hq with e | e | e | e
        · exact .inr (.inr (.inl e))
        · exact .inr (.inr (.inr (.inl e)))
        · exact .inl e
        · exact .inr (.inr (.inr (.inr (.inr e))))
      case b4 =>
        intro q hq
        simp only [List.mem_cons, List.mem_append] at hq
        rcases hq with e | e | e | e | e
        · exact e ▸ hn1
        · exact e ▸ Nat.ne_of_gt l7.2.1
        · exact (hcs6 q e).2.2.1
        · exact e ▸ hn3 _ (List.mem_append_right _ (.head _))
        · exact hn3 q (List.mem_append_right _ (.tail _ e))
  case done =>
    rintro h1 tk1 g1 m1 nw1 ⟨hmore, m_pf, m_af, m_sh, lc, t, n, cs, ps', m_lc, rfl, TO1, hcs, hcs2, hlc1, hlc2, hlc3, hlc4⟩ F1 N1
    clear N10 F9
    k_steps
    rename News h₀ _ _ _ => N9
    rename Fr h₀ _ _ _ => F9
    refine h _ _ _ lc #[.int y t] n cs ps' F9 (fun q hq => N9 q ?_) TO1 (.cons y t .nil) hcs (fun q hq => ?_) hmore
    · simp only [List.mem_cons, List.mem_append] at hq ⊢
      rcases hq with e | e | e | e
      · exact .inl e
      · exact .inr (.inl e)
      · exact .inr (.inr (.inl e))
      · exact .inr (.inr (.inr (.inr e)))
    · rcases List.mem_cons.mp hq with e | hq
      · exact e ▸ hlc1
      · exact (List.mem_append.mp hq).elim (hlc4 q) (hlc2 q)
end
end Mine

/-! ## M4 -/
namespace Mine
open PySem PySem.W PySem.Calls PyProof.Rows
open Sem (wp)
set_option maxRecDepth 100000

theorem fillK16 : ∀ w : World, PySem.Challenge.rw_bh0019_01.Holds → hd.heap_39 w.params = hd.heap_39 w.params := by
  w_top off
  first | (walk1; fail) | skip
  k_fill
  intro _ _; rfl

local macro_rules | `(tactic| k_mem) => `(tactic| assumption)
local macro_rules | `(tactic| k_room) => `(tactic| ((simp only [depth_under_make, depth_under_kw, depth_in1, depth_deeper, depth_caller, Around.in1_units, Around.deeper_units]); omega))
local macro_rules | `(tactic| k_all) => `(tactic| first | assumption | exact allNe_of (by assumption) (by omega))
local macro_rules | `(tactic| walk_at "assign Tuple") => `(tactic| (k_here; (with_reducible show wpAny _ _ (assign (Expr.Tuple _ _ _) _ (Value.ref _)) _ _ _); k_dflt (refine' unpackN_ ?k1 ?k2 ?k3 ?k4 ?k5 ?k6 ?_; (case k1 => k_asm); (case k2 => k_asm); (case k3 => (exact News.isTup (by k_asm) (by k_mem))); (case k4 => assumption); (case k5 => exact rfl); (case k6 => exact rfl); k_whole); intro h' F' N'; (try k_sweep)))
local macro_rules | `(tactic| walk_at "eval Name") => `(tactic| (k_here; kc_free; k_dflt (refine' nameX_F ?N ?c ?m ?d ?_ ?a ?b; (case a => rfl); (case b => rfl); (case N => k_asm); (case c => rfl); (case m => k_mem); (case d => k_asm); k_whole)))
local macro_rules | `(tactic| walk_at "eval Name") => `(tactic| (k_here; k_dflt (refine' nameX_L ?k1 ?k2 ?_ ?k3 ?k4 ?k5; (case k3 => rfl); (case k4 => rfl); (case k5 => decide); (case k1 => k_asm); (case k2 => assumption); k_whole)))
local macro_rules | `(tactic| walk_at "compareOp In int ref") => `(tactic| (refine d_in (by k_asm) (by k_mem) (by k_asm) (by k_asm) ?_))

local macro_rules | `(tactic| walk_at "binaryOp BitOr int int") => `(tactic| (k_here; first | with_reducible refine or12 ?_ | with_reducible refine or34 ?_))
local macro_rules | `(tactic| walk_at "eval Name") => `(tactic| (k_here; k_dflt (refine' nameX_C ?N ?c ?m ?d ?_ ?a ?b; (case b => rfl); (case c => rfl); (case N => k_asm); (case m => k_mem); (case d => k_asm); (case a => rfl); k_whole)))
local macro_rules | `(tactic| walk_at "exec Try") => `(tactic| (k_here; refine wpAny_Try_except ?_))
local macro_rules | `(tactic| walk_at "callWith ref") => `(tactic| (k_here; k_dflt (first
  | (refine' callWith_F ?k1 ?_; (case k1 => exact FnAt.of (by k_asm) (by k_mem)); k_whole)
  | (refine' callWith_F0 ?k1 ?_; (case k1 => exact FnAt.of (by k_asm) (by k_mem)); k_whole; try dsimp only [List.nil_append, List.cons_append]))))

local macro_rules | `(tactic| walk_at "truthy ref") => `(tactic| (k_here; k_dflt (refine' truthyL ?N ?m ?z ?_; (case N => k_asm); (case m => k_mem); (case z => first | assumption | exact Nat.le_of_ble_eq_true rfl))))

section
variable {prog : Program} {w : World} {A₀ A : Around} {base h₀ : Heap} {outer : List Env} {env : Env} {L : Addr} {m mg mb : Str → Option Value} {s : Shared}
  {p : Program} {loose : List Str} {mean : ExcName → Option Value} {E : Value → Shared → Prop} {Q : Value → Shared → Prop}

theorem lenL {prog : Program} {w : World} {A : Around} {s : Shared} {E : Value → Shared → Prop} {h₀ : Heap} {L l : Addr} {news : List (Addr × Obj)} {vs : List Value} {n : Nat} {Q : Value → Shared → Prop} (N : News h₀ L s.heap news) (hm : (l, listOf vs.toArray n) ∈ news) (hz : vs.length < 1000) (h : Q (.int vs.length (s.toks + 1)) { s with toks := s.toks + 1 + 1 }) : wpAny (model prog w) A (call (.builtin "len") [.ref l]) Q E s := by
  refine call_len_list (News.isList N hm) (by rw [List.size_toArray]; omega) ?_
  rw [List.size_toArray]; exact h

def indep (mbv : Int → Int → Int) (ns : List Int) (x : Int) : Bool := ns.all fun y => decide (y = x) || decide (mbv x y ≠ x)

set_option maxHeartbeats 4000000 in
theorem ind_spec (B : Below A₀ base outer h₀) (F : Fr h₀ L s.heap m) (X : (hd.heap_39 w.params).In h₀) (T : Top p loose mean mg mb h₀) (C : Stop (CodeHd h₀ 89 87))
   (hA : A.frames = some (env :: outer)) (hf : env.frame = some L) (hke : env.scope.kind = .function) (hh : A.handled = none) (hd : A.depth + 110 < recursionLimit) (hu : A.units + 330 < cLine)
   {pf af cl : Addr} {v1 v2 : Value} {vr : List Value} {ns : List Int} {mbv : Int → Int → Int} {age : Int → Int} {par : Int → List Int} {dom : Int → Prop} {led : List (Addr × Obj)} {ps : Array Value} {n2 : Nat}
   (SA : AgeSpec prog w af led age dom) (SP : ParSpec prog w pf led par dom)
   {R : List (Addr × Obj)} {fda fdp : FuncData} {oca ocp : Value} {oda odp : Option Addr} {sla slp : Array (Option Value)} (hafo : (af, (⟨oca, oda, .func fda, sla⟩ : Obj)) ∈ R) (hpfo : (pf, (⟨ocp, odp, .func fdp, slp⟩ : Obj)) ∈ R) (hled : ∀ q ∈ led, q ∈ R) 
   (N : News h₀ L s.heap ((87, tabObj ps) :: R)) (TO : TabOk nmL R ps) (hR87 : ∀ q ∈ R, q.1 ≠ 87) 
   (hcl : (cl, listOf (v1 :: v2 :: vr).toArray n2) ∈ R) (hi : IntsAre (v1 :: v2 :: vr) ns) (hlen : ns.length ≤ 3) (hnd : ns.Nodup) (hdom : ∀ x ∈ ns, dom x)
   (hG : ∀ x ∈ ns, ∀ y ∈ ns, x ≠ y → ∃ k, k ≤ 150 ∧ LGood par age 0 dom (FinR [mbv x y]) k (cst0 x y) (pq0 age x y) [])
   (h : ∀ h' tk gens' r vs' n' cs ps', Fr h₀ L h' m → News h₀ L h' ((87, tabObj ps') :: (r, listOf vs' n') :: (cs ++ R)) → TabOk nmL (cs ++ R) ps' → IntsAre vs'.toList (ns.filter (indep mbv ns)) → (∀ q ∈ cs, ∀ q' ∈ (87, tabObj ps) :: R, q'.1 < q.1) → (∀ q ∈ (87, tabObj ps) :: R, q.1 < r) → (∀ q ∈ cs, q.1 ≠ r) →
      (∃ more : Array GenState, gens' = s.gens ++ more ∧ ∀ x ∈ more, x.bare = true) → Q (.ref r) { s with heap := h', toks := tk, gens := gens' }) :
   wpAny (model prog w) A (call (.ref 118) [.ref pf, .ref af, .none, .ref cl]) Q E s := by
  have hl2 : 2 ≤ ns.length := by
    have := hi.length
    simp only [List.length_cons] at this
    omega
  have hz9 : (v2 :: vr).length < 1000 := by
    have := hi.length
    simp only [List.length_cons] at this ⊢
    omega
  have hz8 : (v1 :: v2 :: vr).length < 1000 := by rw [hi.length]; omega
  refine wpAny_call ?_
  refine code_def B F X N T hA hf hke (by k_is) (by k_is) (by omega) (by first | exact BindsTo.of_eq rfl | exact binds_K (by k_in) rfl (by k_is) rfl rfl rfl) (locs rfl) ?_ rfl rfl rfl (by decide)
  intro g' L' h' FG' F' N' B' X' T'
  (try dsimp only)
  (try k_lift B')
  (try k_fold)
  refine execs_split (xs := [_, _, _]) ?_
  k_steps
  refine lenL (vs := v1 :: v2 :: vr) (by k_asm) (by k_mem) hz8 ?_
  k_steps
  · rename (_ : Int) = 1 => hb
    exfalso
    have := hi.length
    omega
  rename News g' _ _ _ => N9
  rename Fr g' _ _ _ => F9
  rename _ ∧ AllLt _ _ => l9
  rename_i ic hz1 hz2
  show wpAny _ _ _ _ _ _
  refine wpAny_execs_cons ?_
  refine wpAny_For ?_
  k_steps
  have C' : Stop (CodeHd g' 89 87) := CodeHd.keeps C FG'.keep
  refine forE (L := L') (l := cl) (items := (v1 :: v2 :: vr).toArray) (cap := n2) 1 hh rfl rfl rfl rfl F9 N9 (fun j m' nw g => (∃ more : Array GenState, g = s.gens ++ more ∧ ∀ x ∈ more, x.bare = true) ∧ m' (Str.ofString "lookup_parents") = some (.ref pf) ∧ m' (Str.ofString "lookup_stamp") = some (.ref af) ∧ m' (Str.ofString "shallows") = some .none ∧ m' (Str.ofString "commit_ids") = some (.ref cl) ∧ m' (Str.ofString "independent_commits") = some (.ref ic) ∧
    ∃ (ws : List Value) (n3 : Nat) (cs : List (Addr × Obj)) (ps' : Array Value), nw = (ic, listOf ws.toArray n3) :: (87, tabObj ps') :: (cs ++ R) ∧ TabOk nmL (cs ++ R) ps' ∧ (∀ q ∈ cs, ∀ q' ∈ (87, tabObj ps) :: R, q'.1 < q.1) ∧ (∀ q ∈ cs, q.1 ≠ ic) ∧ IntsAre ws ((ns.take j).filter (indep mbv ns)) ∧ ws.length ≤ j) ?h0 ?hJ ?turn ?done
  case h0 => exact ⟨⟨#[], by simp, by simp⟩, rfl, rfl, rfl, rfl, rfl, [], 0, [], ps, rfl, TO, (fun q hq => nomatch hq), (fun q hq => nomatch hq), by simpa using IntsAre.nil, Nat.le_refl _⟩
  case hJ => rintro j m' nw g ⟨_, _, _, _, _, _, ws, n3, cs, ps', rfl, _⟩; exact .tail _ (.tail _ (List.mem_append_right _ hcl))
  case done =>
    rintro h1 tk1 g1 m1 nw1 ⟨hmore, m_pf, m_af, m_sh, m_ci, m_ic, ws, n3, cs, ps', rfl, TO1, hcs, hcs2, hws, hwl⟩ F1 N1
    clear N9 F9
    k_steps
    rename News h₀ _ _ _ => N9
    rename Fr h₀ _ _ _ => F9
    refine h _ _ _ ic ws.toArray n3 cs ps' F9 (fun q hq => N9 q ?_) TO1 ?_ hcs (fun q hq => ?_) hcs2 hmore
    · simp only [List.mem_cons] at hq ⊢
      rcases hq with e | e | e
      · exact .inr (.inl e)
      · exact .inl e
      · exact .inr (.inr e)
    · have e : ns.take (v1 :: v2 :: vr).toArray.size = ns := List.take_of_length_le (by rw [List.size_toArray, hi.length]; exact Nat.le_refl _)
      rw [e] at hws
      simpa using hws
    · rcases List.mem_cons.mp hq with e | hq
      · exact e ▸ l9.1
      · exact allLt_mem l9.2 q hq
  case turn =>
    rintro j v h1 tk1 g1 m1 nw1 e it oe oit ti hv ⟨⟨more, rfl, hmore⟩, m_pf, m_af, m_sh, m_ci, m_ic, ws, n3, cs, ps', rfl, TO1, hcs, hcs2, hws, hwl⟩ F1 N1 hne1 hei hoe hoit
    clear N9 F9
    obtain ⟨a, ta, rfl, hax⟩ := intsAre_get hi (i := j) (v := v) (by simpa using hv)
    have hq1 := hne1 _ (.head _)
    have hq2 := hne1 _ (.tail _ (.head _))
    have hq3 : ∀ q ∈ cs ++ R, q.1 ≠ it ∧ q.1 ≠ e := fun q hq => hne1 q (.tail _ (.tail _ hq))
    simp only [List.take_succ_cons, List.take_zero, List.drop_succ_cons, List.drop_zero]
    k_steps
    rename News g' _ _ _ => N9
    rename Fr g' _ _ _ => F9
    show wpAny _ _ _ _ _ _
    refine wpAny_execs_cons ?_
    refine wpAny_For ?_
    k_steps
    refine forE (L := L') (l := cl) (items := (v1 :: v2 :: vr).toArray) (cap := n2) 0 hh rfl rfl rfl rfl F9 N9 (fun j2 m' nw g => (∃ more : Array GenState, g = s.gens ++ more ∧ ∀ x ∈ more, x.bare = true) ∧ m' (Str.ofString "lookup_parents") = some (.ref pf) ∧ m' (Str.ofString "lookup_stamp") = some (.ref af) ∧ m' (Str.ofString "shallows") = some .none ∧ m' (Str.ofString "commit_ids") = some (.ref cl) ∧ m' (Str.ofString "independent_commits") = some (.ref ic) ∧
      m' (Str.ofString "i") = some (.int j ti) ∧ m' (Str.ofString "commit_id") = some (.int a ta) ∧ m' (Str.ofString "is_independent") = some (.bool true) ∧
      ∃ (cs : List (Addr × Obj)) (ps' : Array Value), nw = (e, oe) :: (it, oit) :: (ic, listOf ws.toArray n3) :: (87, tabObj ps') :: (cs ++ R) ∧ TabOk nmL (cs ++ R) ps' ∧ (∀ q ∈ cs, ∀ q' ∈ (87, tabObj ps) :: R, q'.1 < q.1) ∧ (∀ q ∈ cs, q.1 ≠ ic ∧ q.1 ≠ it ∧ q.1 ≠ e) ∧ ∀ y ∈ ns.take j2, y = a ∨ mbv a y ≠ a) ?ih0 ?ihJ ?iturn ?idone
    case ih0 => exact ⟨⟨more, rfl, hmore⟩, m_pf, m_af, m_sh, m_ci, m_ic, rfl, rfl, rfl, cs, ps', rfl, TO1, hcs, fun q hq => ⟨hcs2 q hq, (hq3 q (List.mem_append_left _ hq)).1, (hq3 q (List.mem_append_left _ hq)).2⟩, fun y hy => by simp at hy⟩
    case ihJ => rintro j m' nw g ⟨_, _, _, _, _, _, _, _, _, cs, ps', rfl, _⟩; exact .tail _ (.tail _ (.tail _ (.tail _ (List.mem_append_right _ hcl))))
    case idone =>
      rintro h2 tk2 g2 m2 nw2 ⟨⟨more2, rfl, hmore2⟩, m_pf2, m_af2, m_sh2, m_ci2, m_ic2, m_i2, m_co2, m_is2, cs2, ps2, rfl, TO2, hcs5, hcs6, hall⟩ F2 N2
      clear N9 F9
      have hsz : ns.take (v1 :: v2 :: vr).toArray.size = ns := List.take_of_length_le (by rw [List.size_toArray, hi.length]; exact Nat.le_refl _)
      rw [hsz] at hall
      have hind : indep mbv ns a = true := List.all_eq_true.mpr fun y hy => by
        rcases hall y hy with h | h
        · simp [h]
        · simp [h]
      k_steps
      rename News g' _ _ _ => N9
      rename Fr g' _ _ _ => F9
      refine append_K (its := ws.toArray) (n := n3) (news' := (e, oe) :: (it, oit) :: (ic, listOf (ws.toArray.push (.int a ta)) (n3 + 1)) :: (87, tabObj ps2) :: (cs2 ++ R)) F9 N9 (Upd.tail (Ne.symm hq1.2) (Upd.tail (Ne.symm hq1.1) (Upd.head ?hu))) ?_ (by rw [List.size_toArray, sizeLine_eq]; have := (List.getElem?_eq_some_iff.mp hax).1; omega)
      case hu =>
        intro q hq
        rcases List.mem_cons.mp hq with e | hq
        · exact e ▸ Nat.ne_of_lt l9.1
        rcases List.mem_append.mp hq with h | h
        · exact (hcs6 q h).1
        · exact Nat.ne_of_lt (allLt_mem l9.2 q h)
      intro h7 F7 N7
      clear F9 N9
      k_steps
      rename News g' _ _ _ => N9
      rename Fr g' _ _ _ => F9
      refine ⟨_, _, _, _, (ic, listOf (ws ++ [Value.int a ta]).toArray (n3 + 1)) :: (87, tabObj ps2) :: (cs2 ++ R), rfl, ⟨⟨more2, rfl, hmore2⟩, by exact m_pf2, by exact m_af2, by exact m_sh2, by exact m_ci2, by exact m_ic2, ws ++ [.int a ta], n3 + 1, cs2, ps2, rfl, TO2, hcs5, fun q hq => (hcs6 q hq).1, ?_, by rw [List.length_append]; exact Nat.succ_le_succ hwl⟩, F9, ?_, fun q hq => ?_⟩
      · rw [List.take_add_one, hax, List.filter_append]
        have : List.filter (indep mbv ns) (some a).toList = [a] := by simp [hind]
        rw [this]
        exact hws.append (.cons _ _ .nil)
      · rw [List.push_toArray] at N9; exact N9
      · rcases List.mem_cons.mp hq with e | hq
        · exact e ▸ hq1
        rcases List.mem_cons.mp hq with e | hq
        · exact e ▸ hq2
        rcases List.mem_append.mp hq with h | h
        · exact ⟨(hcs6 q h).2.1, (hcs6 q h).2.2⟩
        · exact hq3 q (List.mem_append_right _ h)
    case iturn =>
      rintro j2 v' h2 tk2 g2 m2 nw2 e2 it2 oe2 oit2 ti2 hv2 ⟨⟨more2, rfl, hmore2⟩, m_pf2, m_af2, m_sh2, m_ci2, m_ic2, m_i2, m_co2, m_is2, cs2, ps2, rfl, TO2, hcs5, hcs6, hall⟩ F2 N2 hne2 hei2 hoe2 hoit2
      clear N9 F9
      obtain ⟨b, tb, rfl, hbx⟩ := intsAre_get hi (i := j2) (v := v') (by simpa using hv2)
      simp only [List.take_zero, List.drop_zero]
      refine wpAny_execs_nil ?_
      show wpAny _ _ _ _ _ _
      have hr5 := hne2 _ (.tail _ (.tail _ (.head _)))
      have hr6 := hne2 _ (.tail _ (.tail _ (.tail _ (.head _))))
      have hr7 : ∀ q ∈ cs2 ++ R, q.1 ≠ it2 ∧ q.1 ≠ e2 := fun q hq => hne2 q (.tail _ (.tail _ (.tail _ (.tail _ hq))))
      have hr8 := hne2 _ (.head _)
      have hr9 := hne2 _ (.tail _ (.head _))
      k_steps
      · rename (j : Int) = (j2 : Int) => hjj
        have hjj : j = j2 := by omega
        subst hjj
        have hab : a = b := Option.some.inj (hax.symm.trans hbx)
        rename News g' _ _ _ => N9
        rename Fr g' _ _ _ => F9
        refine ⟨_, _, _, _, (e, oe) :: (it, oit) :: (ic, listOf ws.toArray n3) :: (87, tabObj ps2) :: (cs2 ++ R), rfl, ⟨⟨more2, rfl, hmore2⟩, by exact m_pf2, by exact m_af2, by exact m_sh2, by exact m_ci2, by exact m_ic2, by exact m_i2, by exact m_co2, by exact m_is2, cs2, ps2, rfl, TO2, hcs5, hcs6, fun y hy => ?_⟩, F9, N9, hne2⟩
        rw [List.take_add_one, hbx] at hy
        rcases List.mem_append.mp hy with h | h
        · exact hall y h
        · simp at h; exact .inl (h.trans hab.symm)
      rename (j : Int) ≠ (j2 : Int) => hjj
      have hjj : j ≠ j2 := fun e => hjj (by rw [e])
      have hab : a ≠ b := fun e => hjj (by
        obtain ⟨h1, e1⟩ := List.getElem?_eq_some_iff.mp hax
        obtain ⟨h2, e2⟩ := List.getElem?_eq_some_iff.mp hbx
        have hpw := List.pairwise_iff_getElem.mp hnd
        rcases Nat.lt_trichotomy j j2 with h | h | h
        · exact absurd (e1.trans (e.trans e2.symm)) (hpw j j2 h1 h2 h)
        · exact h
        · exact absurd (e1.trans (e.trans e2.symm)).symm (hpw j2 j h2 h1 h))
      have ham : a ∈ ns := List.mem_of_getElem? hax
      have hbm : b ∈ ns := List.mem_of_getElem? hbx
      obtain ⟨k, hk, G⟩ := hG a ham b hbm hab
      rename News g' _ _ _ => N9
      rename Fr g' _ _ _ => F9
      rename _ ∧ _ ∧ _ ∧ _ ∧ _ ∧ _ ∧ AllLt _ _ => l6
      rename_i D2 hz3
      obtain ⟨R9, hR9⟩ : ∃ R9, R9 = (D2, listOf #[.int a ta, .int b tb] 0) :: (e2, oe2) :: (it2, oit2) :: (e, oe) :: (it, oit) :: (ic, listOf ws.toArray n3) :: (cs2 ++ R) := ⟨_, rfl⟩
      have N10 : News g' L' hz3 ((87, tabObj ps2) :: R9) := fun q hq => N9 q (by
        subst hR9
        simp only [List.mem_cons] at hq ⊢
        rcases hq with e | e | e | e | e | e | e | e
        · exact .inr (.inr (.inr (.inr (.inr (.inr (.inl e))))))
        · exact .inl e
        · exact .inr (.inl e)
        · exact .inr (.inr (.inl e))
        · exact .inr (.inr (.inr (.inl e)))
        · exact .inr (.inr (.inr (.inr (.inl e))))
        · exact .inr (.inr (.inr (.inr (.inr (.inl e)))))
        · exact .inr (.inr (.inr (.inr (.inr (.inr (.inr e)))))))
      have hR2 : ∀ q ∈ cs2 ++ R, q ∈ R9 := fun q hq => hR9 ▸ .tail _ (.tail _ (.tail _ (.tail _ (.tail _ (.tail _ hq)))))
      have hR3 : ∀ q ∈ R, q ∈ R9 := fun q hq => hR2 q (List.mem_append_right _ hq)
      have h7 : ∀ q ∈ R9, q.1 ≠ 87 := fun q hq => by
        subst hR9
        simp only [List.mem_cons, List.mem_append] at hq
        rcases hq with e | e | e | e | e | e | e | e
        · exact e ▸ Nat.ne_of_gt l6.2.2.2.2.2.1
        · exact e ▸ Ne.symm hr6.2
        · exact e ▸ Ne.symm hr6.1
        · exact e ▸ Ne.symm hq2.2
        · exact e ▸ Ne.symm hq2.1
        · exact e ▸ Nat.ne_of_gt l9.1
        · exact Nat.ne_of_gt (hcs5 q e _ (.head _))
        · exact hR87 q e
      have hD2 : (D2, listOf #[.int a ta, .int b tb] 0) ∈ R9 := hR9 ▸ .head _
      refine mb_spec (k := k) (res := [mbv a b]) (R := R9) B' F9 X' T' C' (Around.frames_deeper B'.stack) rfl rfl hh (by k_room) (by k_room) SA SP (hR3 _ hafo) (hR3 _ hpfo) (fun q hq => hR3 _ (hled q hq)) N10 (TO2.mono hR2) h7 hD2 (hdom a ham) (hdom b hbm) hab hk G ?_
      intro h3 tk3 gens3 r vs3 n3' cs3 ps3 F3 N3 TO3 hi3 hcs3 hr3 hg3
      clear N9 N10 F9
      have N4 : News g' L' h3 ((e2, oe2) :: (it2, oit2) :: (e, oe) :: (it, oit) :: (ic, listOf ws.toArray n3) :: (87, tabObj ps3) :: (r, listOf vs3 n3') :: ((cs3 ++ cs2) ++ R)) := fun q hq => N3 q (by
        subst hR9
        simp only [List.mem_cons, List.mem_append] at hq ⊢
        rcases hq with e | e | e | e | e | e | e | (e | e) | e
        · exact .inr (.inr (.inr (.inr (.inl e))))
        · exact .inr (.inr (.inr (.inr (.inr (.inl e)))))
        · exact .inr (.inr (.inr (.inr (.inr (.inr (.inl e))))))
        · exact .inr (.inr (.inr (.inr (.inr (.inr (.inr (.inl e)))))))
        · exact .inr (.inr (.inr (.inr (.inr (.inr (.inr (.inr (.inl e))))))))
        · exact .inl e
        · exact .inr (.inl e)
        · exact .inr (.inr (.inl e))
        · exact .inr (.inr (.inr (.inr (.inr (.inr (.inr (.inr (.inr (.inl e)))))))))
        · exact .inr (.inr (.inr (.inr (.inr (.inr (.inr (.inr (.inr (.inr e))))))))))
      have mR9 : ∀ q ∈ R9, q ∈ (87, tabObj ps2) :: R9 := fun q hq => .tail _ hq
      have oic : (ic, listOf ws.toArray n3) ∈ R9 := hR9 ▸ .tail _ (.tail _ (.tail _ (.tail _ (.tail _ (.head _)))))
      have oe_ : (e, oe) ∈ R9 := hR9 ▸ .tail _ (.tail _ (.tail _ (.head _)))
      have oit_ : (it, oit) ∈ R9 := hR9 ▸ .tail _ (.tail _ (.tail _ (.tail _ (.head _))))
      have oe2_ : (e2, oe2) ∈ R9 := hR9 ▸ .tail _ (.head _)
      have oit2_ : (it2, oit2) ∈ R9 := hR9 ▸ .tail _ (.tail _ (.head _))
      have TO4 : TabOk nmL ((cs3 ++ cs2) ++ R) ps3 := by
        refine TO3.keep fun q hq => ?_
        subst hR9
        simp only [List.mem_cons, List.mem_append] at hq ⊢
        have nl_ : ∀ (l : Addr) (xs : Array Value) (k : Nat), q = (l, listOf xs k) → ∀ vs x t, q.2.data = .fields vs → vs[1]? ≠ some (.str x t) := fun l xs k e vs x t h => by rw [e] at h; cases h
        have ni_ : ∀ (l : Addr) (o : Obj), (∃ (l' : Addr) (i : Int), o.data = .fields #[.ref l', .int i 0]) → q = (l, o) → ∀ vs x t, q.2.data = .fields vs → vs[1]? ≠ some (.str x t) := fun l o ⟨l', i, hd⟩ e vs x t h h2 => by
          rw [e] at h
          have h : o.data = .fields vs := h
          rw [hd] at h; cases h; simp at h2
        have ne_ : ∀ (l : Addr) (o : Obj), (∃ (a b c d : Value), o.data = .fields #[.none, .bool false, a, b, c, d]) → q = (l, o) → ∀ vs x t, q.2.data = .fields vs → vs[1]? ≠ some (.str x t) := fun l o ⟨a, b, c, d, hd⟩ e vs x t h h2 => by
          rw [e] at h
          have h : o.data = .fields vs := h
          rw [hd] at h; cases h; simp at h2
        rcases hq with e | e | e | e | e | e | e | e | e
        · exact .inl (.inl (.inl e))
        · exact .inr (nl_ _ _ _ e)
        · exact .inr (ne_ _ _ hoe2 e)
        · exact .inr (ni_ _ _ hoit2 e)
        · exact .inr (ne_ _ _ hoe e)
        · exact .inr (ni_ _ _ hoit e)
        · exact .inr (nl_ _ _ _ e)
        · exact .inl (.inl (.inr e))
        · exact .inl (.inr e)
      have hcs8 : ∀ q ∈ cs3 ++ cs2, ∀ q' ∈ (87, tabObj ps) :: R, q'.1 < q.1 := fun q hq q' hq' => by
        rcases List.mem_append.mp hq with h | h
        · rcases List.mem_cons.mp hq' with e | h'
          · have h8 := hcs3 q h (87, tabObj ps2) (.head _)
            rw [e]; exact h8
          · exact hcs3 q h _ (mR9 _ (hR3 _ h'))
        · exact hcs5 q h q' hq'
      have hcs9 : ∀ q ∈ cs3 ++ cs2, q.1 ≠ ic ∧ q.1 ≠ it ∧ q.1 ≠ e := fun q hq => by
        rcases List.mem_append.mp hq with h | h
        · exact ⟨Nat.ne_of_gt (hcs3 q h _ (mR9 _ oic)), Nat.ne_of_gt (hcs3 q h _ (mR9 _ oit_)), Nat.ne_of_gt (hcs3 q h _ (mR9 _ oe_))⟩
        · exact hcs6 q h
      obtain ⟨more3, rfl, hmore3⟩ := hg3
      have hmm : ∃ more : Array GenState, s.gens ++ more2 ++ more3 = s.gens ++ more ∧ ∀ x ∈ more, x.bare = true := ⟨more2 ++ more3, Array.append_assoc, fun x hx => (Array.mem_append.mp hx).elim (hmore2 x) (hmore3 x)⟩
      clear N3
      k_steps
      · rename [mbv a b] = [a] => hmb
        have hmb : mbv a b = a := by simpa using hmb
        have hind : indep mbv ns a = false := by
          rw [indep, List.all_eq_false]
          exact ⟨b, hbm, by simp [Ne.symm hab, hmb]⟩
        rename News g' _ _ _ => N9
        rename Fr g' _ _ _ => F9
        refine ⟨_, _, _, _, (ic, listOf ws.toArray n3) :: (87, tabObj ps3) :: ((cs3 ++ cs2) ++ R), rfl, ⟨hmm, by exact m_pf2, by exact m_af2, by exact m_sh2, by exact m_ci2, by exact m_ic2, ws, n3, cs3 ++ cs2, ps3, rfl, TO4, hcs8, fun q hq => (hcs9 q hq).1, ?_, Nat.le_succ_of_le hwl⟩, F9, fun q hq => N9 q ?_, fun q hq => ?_⟩
        · rw [List.take_add_one, hax, List.filter_append]
          have : List.filter (indep mbv ns) (some a).toList = [] := by simp [hind]
          rw [this, List.append_nil]
          exact hws
        · simp only [List.mem_cons] at hq ⊢
          rcases hq with e | e | e | e | e
          · exact .inr (.inr (.inr (.inl e)))
          · exact .inr (.inr (.inr (.inr (.inl e))))
          · exact .inr (.inr (.inr (.inr (.inr (.inl e)))))
          · exact .inr (.inr (.inr (.inr (.inr (.inr (.inl e))))))
          · exact .inr (.inr (.inr (.inr (.inr (.inr (.inr (.inr e)))))))
        · rcases List.mem_cons.mp hq with e | hq
          · exact e ▸ hq1
          rcases List.mem_cons.mp hq with e | hq
          · exact e ▸ hq2
          rcases List.mem_append.mp hq with h | h
          · exact ⟨(hcs9 q h).2.1, (hcs9 q h).2.2⟩
          · exact hq3 q (List.mem_append_right _ h)
      · rename ¬ ([mbv a b] = [a]) => hmb
        have hmb : mbv a b ≠ a := by simpa using hmb
        rename News g' _ _ _ => N9
        rename Fr g' _ _ _ => F9
        refine ⟨_, _, _, _, (e, oe) :: (it, oit) :: (ic, listOf ws.toArray n3) :: (87, tabObj ps3) :: ((cs3 ++ cs2) ++ R), rfl, ⟨hmm, by exact m_pf2, by exact m_af2, by exact m_sh2, by exact m_ci2, by exact m_ic2, by exact m_i2, by exact m_co2, by exact m_is2, cs3 ++ cs2, ps3, rfl, TO4, hcs8, hcs9, fun y hy => ?_⟩, F9, fun q hq => N9 q ?_, fun q hq => ?_⟩
        · rw [List.take_add_one, hbx] at hy
          rcases List.mem_append.mp hy with h | h
          · exact hall y h
          · simp at h; exact .inr (h ▸ hmb)
        · simp only [List.mem_cons] at hq ⊢
          rcases hq with e | e | e | e | e | e | e
          · exact .inr (.inl e)
          · exact .inr (.inr (.inl e))
          · exact .inr (.inr (.inr (.inl e)))
          · exact .inr (.inr (.inr (.inr (.inl e))))
          · exact .inr (.inr (.inr (.inr (.inr (.inl e)))))
          · exact .inr (.inr (.inr (.inr (.inr (.inr (.inl e))))))
          · exact .inr (.inr (.inr (.inr (.inr (.inr (.inr (.inr e)))))))
        · rcases List.mem_cons.mp hq with e | hq
          · exact e ▸ hr8
          rcases List.mem_cons.mp hq with e | hq
          · exact e ▸ hr9
          rcases List.mem_cons.mp hq with e | hq
          · exact e ▸ hr5
          rcases List.mem_cons.mp hq with e | hq
          · exact e ▸ hr6
          rcases List.mem_append.mp hq with h | h
          · rcases List.mem_append.mp h with h | h
            · exact ⟨Nat.ne_of_gt (hcs3 q h _ (mR9 _ oit2_)), Nat.ne_of_gt (hcs3 q h _ (mR9 _ oe2_))⟩
            · exact hr7 q (List.mem_append_left _ h)
          · exact hr7 q (List.mem_append_right _ h)
end
end Mine

/-! ## M5 -/
namespace Mine
open PySem PySem.W PySem.Calls PyProof.Rows
open Sem (wp)
set_option maxRecDepth 100000

theorem fillK17 : ∀ w : World, PySem.Challenge.rw_bh0019_01.Holds → hd.heap_39 w.params = hd.heap_39 w.params := by
  w_top off
  first | (walk1; fail) | skip
  k_fill
  intro _ _; rfl

local macro_rules | `(tactic| k_mem) => `(tactic| assumption)
local macro_rules | `(tactic| k_room) => `(tactic| ((simp only [depth_under_make, depth_under_kw, depth_in1, depth_deeper, depth_caller, Around.in1_units, Around.deeper_units]); omega))
local macro_rules | `(tactic| k_all) => `(tactic| first | assumption | exact allNe_of (by assumption) (by omega))
local macro_rules | `(tactic| walk_at "assign Tuple") => `(tactic| (k_here; (with_reducible show wpAny _ _ (assign (Expr.Tuple _ _ _) _ (Value.ref _)) _ _ _); k_dflt (refine' unpackN_ ?k1 ?k2 ?k3 ?k4 ?k5 ?k6 ?_; (case k1 => k_asm); (case k2 => k_asm); (case k3 => (exact News.isTup (by k_asm) (by k_mem))); (case k4 => assumption); (case k5 => exact rfl); (case k6 => exact rfl); k_whole); intro h' F' N'; (try k_sweep)))
local macro_rules | `(tactic| walk_at "eval Name") => `(tactic| (k_here; kc_free; k_dflt (refine' nameX_F ?N ?c ?m ?d ?_ ?a ?b; (case a => rfl); (case b => rfl); (case N => k_asm); (case c => rfl); (case m => k_mem); (case d => k_asm); k_whole)))
local macro_rules | `(tactic| walk_at "eval Name") => `(tactic| (k_here; k_dflt (refine' nameX_L ?k1 ?k2 ?_ ?k3 ?k4 ?k5; (case k3 => rfl); (case k4 => rfl); (case k5 => decide); (case k1 => k_asm); (case k2 => assumption); k_whole)))
local macro_rules | `(tactic| walk_at "compareOp In int ref") => `(tactic| (refine d_in (by k_asm) (by k_mem) (by k_asm) (by k_asm) ?_))

local macro_rules | `(tactic| walk_at "binaryOp BitOr int int") => `(tactic| (k_here; first | with_reducible refine or12 ?_ | with_reducible refine or34 ?_))
local macro_rules | `(tactic| walk_at "eval Name") => `(tactic| (k_here; k_dflt (refine' nameX_C ?N ?c ?m ?d ?_ ?a ?b; (case b => rfl); (case c => rfl); (case N => k_asm); (case m => k_mem); (case d => k_asm); (case a => rfl); k_whole)))
local macro_rules | `(tactic| walk_at "exec Try") => `(tactic| (k_here; refine wpAny_Try_except ?_))
local macro_rules | `(tactic| walk_at "callWith ref") => `(tactic| (k_here; k_dflt (first
  | (refine' callWith_F ?k1 ?_; (case k1 => exact FnAt.of (by k_asm) (by k_mem)); k_whole)
  | (refine' callWith_F0 ?k1 ?_; (case k1 => exact FnAt.of (by k_asm) (by k_mem)); k_whole; try dsimp only [List.nil_append, List.cons_append]))))

local macro_rules | `(tactic| walk_at "truthy ref") => `(tactic| (k_here; k_dflt (refine' truthyL ?N ?m ?z ?_; (case N => k_asm); (case m => k_mem); (case z => first | assumption | exact Nat.le_of_ble_eq_true rfl))))

section
variable {prog : Program} {w : World} {A₀ A : Around} {base h₀ : Heap} {outer : List Env} {env : Env} {L : Addr} {m mg mb : Str → Option Value} {s : Shared}
  {p : Program} {loose : List Str} {mean : ExcName → Option Value} {E : Value → Shared → Prop} {Q : Value → Shared → Prop}

set_option maxHeartbeats 4000000 in
theorem ind_spec1 (B : Below A₀ base outer h₀) (F : Fr h₀ L s.heap m) (X : (hd.heap_39 w.params).In h₀) (T : Top p loose mean mg mb h₀)
   (hA : A.frames = some (env :: outer)) (hf : env.frame = some L) (hke : env.scope.kind = .function) (hh : A.handled = none) (hd : A.depth + 110 < recursionLimit) (hu : A.units + 330 < cLine)
   {pf af cl : Addr} {x : Int} {t : Tok} {n2 : Nat} {R : List (Addr × Obj)} (N : News h₀ L s.heap R) (hcl : (cl, listOf #[.int x t] n2) ∈ R)
   (h : ∀ h' tk r vs' n', Fr h₀ L h' m → News h₀ L h' ((r, listOf vs' n') :: R) → IntsAre vs'.toList [x] → (∀ q ∈ R, q.1 < r) → Q (.ref r) { s with heap := h', toks := tk }) :
   wpAny (model prog w) A (call (.ref 118) [.ref pf, .ref af, .none, .ref cl]) Q E s := by
  refine wpAny_call ?_
  refine code_def B F X N T hA hf hke (by k_is) (by k_is) (by omega) (by first | exact BindsTo.of_eq rfl | exact binds_K (by k_in) rfl (by k_is) rfl rfl rfl) (locs rfl) ?_ rfl rfl rfl (by decide)
  intro g' L' h' FG' F' N' B' X' T'
  (try dsimp only)
  (try k_lift B')
  (try k_fold)
  have hints : IntsAre [Value.int x t] [x] := .cons _ _ .nil
  k_steps
  rename News h₀ _ _ _ => N9
  rename Fr h₀ _ _ _ => F9
  rename ∀ q ∈ R, _ => l9
  exact h _ _ _ _ _ F9 N9 (.cons _ _ .nil) l9
end
end Mine

/-! ## W4 -/
namespace Mine
open PySem PySem.W PySem.Calls PyProof.Rows
open Sem (wp)
set_option maxRecDepth 100000

theorem fillK18 : ∀ w : World, PySem.Challenge.rw_bh0019_01.Holds → hd.heap_39 w.params = hd.heap_39 w.params := by
  w_top off
  first | (walk1; fail) | skip
  k_fill
  intro _ _; rfl

local macro_rules | `(tactic| k_mem) => `(tactic| assumption)
local macro_rules | `(tactic| k_room) => `(tactic| ((simp only [depth_under_make, depth_under_kw, depth_in1, depth_deeper, depth_caller, Around.in1_units, Around.deeper_units]); omega))
local macro_rules | `(tactic| k_all) => `(tactic| first | assumption | exact allNe_of (by assumption) (by omega))
local macro_rules | `(tactic| walk_at "assign Tuple") => `(tactic| (k_here; (with_reducible show wpAny _ _ (assign (Expr.Tuple _ _ _) _ (Value.ref _)) _ _ _); k_dflt (refine' unpackN_ ?k1 ?k2 ?k3 ?k4 ?k5 ?k6 ?_; (case k1 => k_asm); (case k2 => k_asm); (case k3 => (exact News.isTup (by k_asm) (by k_mem))); (case k4 => assumption); (case k5 => exact rfl); (case k6 => exact rfl); k_whole); intro h' F' N'; (try k_sweep)))
local macro_rules | `(tactic| walk_at "eval Name") => `(tactic| (k_here; kc_free; k_dflt (refine' nameX_F ?N ?c ?m ?d ?_ ?a ?b; (case a => rfl); (case b => rfl); (case N => k_asm); (case c => rfl); (case m => k_mem); (case d => k_asm); k_whole)))
local macro_rules | `(tactic| walk_at "eval Name") => `(tactic| (k_here; k_dflt (refine' nameX_L ?k1 ?k2 ?_ ?k3 ?k4 ?k5; (case k3 => rfl); (case k4 => rfl); (case k5 => decide); (case k1 => k_asm); (case k2 => assumption); k_whole)))
local macro_rules | `(tactic| walk_at "compareOp In int ref") => `(tactic| (refine d_in (by k_asm) (by k_mem) (by k_asm) (by k_asm) ?_))

local macro_rules | `(tactic| walk_at "binaryOp BitOr int int") => `(tactic| (k_here; first | with_reducible refine or12 ?_ | with_reducible refine or34 ?_))
local macro_rules | `(tactic| walk_at "eval Name") => `(tactic| (k_here; k_dflt (refine' nameX_C ?N ?c ?m ?d ?_ ?a ?b; (case b => rfl); (case c => rfl); (case N => k_asm); (case m => k_mem); (case d => k_asm); (case a => rfl); k_whole)))
local macro_rules | `(tactic| walk_at "exec Try") => `(tactic| (k_here; refine wpAny_Try_except ?_))
local macro_rules | `(tactic| walk_at "callWith ref") => `(tactic| (k_here; k_dflt (first
  | (refine' callWith_F ?k1 ?_; (case k1 => exact FnAt.of (by k_asm) (by k_mem)); k_whole)
  | (refine' callWith_F0 ?k1 ?_; (case k1 => exact FnAt.of (by k_asm) (by k_mem)); k_whole; try dsimp only [List.nil_append, List.cons_append]))))

local macro_rules | `(tactic| walk_at "truthy ref") => `(tactic| (k_here; k_dflt (refine' truthyL ?N ?m ?z ?_; (case N => k_asm); (case m => k_mem); (case z => first | assumption | exact Nat.le_of_ble_eq_true rfl))))

def lawAt (sc : List Int) (k other : Int) : Int := if k < sc.length then sc.getD k.toNat 0 else other
section
variable {prog : Program} {w : World} {A₀ A : Around} {base h₀ : Heap} {outer : List Env} {env : Env} {L : Addr} {m mg mb : Str → Option Value} {s : Shared}
  {p : Program} {loose : List Str} {mean : ExcName → Option Value} {E : Value → Shared → Prop} {Q : Value → Shared → Prop}

set_option maxHeartbeats 4000000 in
theorem lawat_spec (B : Below A₀ base outer h₀) (F : Fr h₀ L s.heap m) (X : (hd.heap_39 w.params).In h₀) (T : Top p loose mean mg mb h₀)
   (hA : A.frames = some (env :: outer)) (hf : env.frame = some L) (hke : env.scope.kind = .function) (hh : A.handled = none) (hd : A.depth + 20 < recursionLimit) (hu : A.units + 60 < cLine)
   {sl : Addr} {vs : List Value} {sc : List Int} {k other : Int} {t u : Tok} {R : List (Addr × Obj)} (N : News h₀ L s.heap R) (hl : h₀.IsList sl vs.toArray) (hi : IntsAre vs sc) (hk : 0 ≤ k) (hk2 : k < 1000) (hlen : vs.length < 2 ^ 60)
   (h : ∀ h' tk u', Fr h₀ L h' m → News h₀ L h' R → Q (.int (lawAt sc k other) u') { s with heap := h', toks := tk }) :
   wpAny (model prog w) A (call (.ref 125) [.ref sl, .int k t, .int other u]) Q E s := by
  refine wpAny_call ?_
  refine code_def B F X N T hA hf hke (by k_is) (by k_is) (by omega) (by first | exact BindsTo.of_eq rfl | exact binds_K (by k_in) rfl (by k_is) rfl rfl rfl) (locs rfl) ?_ rfl rfl rfl (by decide)
  intro g' L' h' FG' F' N' B' X' T'
  (try dsimp only)
  (try k_lift B')
  (try k_fold)
  have hlg : g'.IsList sl vs.toArray := hl.at fun o e => FG'.keep _ _ e
  k_steps
  refine call_len_list (items := vs.toArray) (hlg.at fun o e => F'.keep _ _ e) (by rw [List.size_toArray]; omega) ?_
  have hvl := hi.length
  k_steps
  · rename (k < _) => hlt
    rw [List.size_toArray] at hlt
    rename News h₀ _ _ _ => N9
    rename Fr h₀ _ _ _ => F9
    have e : lawAt sc k other = sc.getD k.toNat 0 := if_pos (by omega)
    rw [e] at h
    exact h _ _ _ F9 N9
  · rename ¬ (k < _) => hlt
    rw [List.size_toArray] at hlt
    rename News h₀ _ _ _ => N9
    rename Fr h₀ _ _ _ => F9
    have e : lawAt sc k other = other := if_neg (by omega)
    rw [e] at h
    exact h _ _ u F9 N9
end
end Mine

/-! ## B1 -/
namespace Mine
open PySem PySem.W
set_option maxRecDepth 100000

/-- facts on flags, all below 16 -/
abbrev Fl (f : Int) : Prop := 0 ≤ f ∧ f < 16
theorem fl_fin {f : Int} (h : Fl f) : ∃ n : Fin 16, f = ((n.val : Nat) : Int) := ⟨⟨f.toNat, by have := h.1; have := h.2; omega⟩, by have := h.1; show f = ((f.toNat : Nat) : Int); omega⟩
def b1 (f : Int) : Bool := Builtin.bitAnd f 1 == 1
def b2 (f : Int) : Bool := Builtin.bitAnd f 2 == 2
def b4 (f : Int) : Bool := Builtin.bitAnd f 4 == 4
def b8 (f : Int) : Bool := Builtin.bitAnd f 8 == 8

theorem fl_or' : ∀ g c : Fin 16, (0 ≤ Builtin.bitOr (g.val : Int) (c.val : Int) ∧ Builtin.bitOr (g.val : Int) (c.val : Int) < 16) ∧ (b1 (Builtin.bitOr (g.val : Int) (c.val : Int)) = (b1 g.val || b1 c.val)) ∧ (b2 (Builtin.bitOr (g.val : Int) (c.val : Int)) = (b2 g.val || b2 c.val)) ∧
   (b4 (Builtin.bitOr (g.val : Int) (c.val : Int)) = (b4 g.val || b4 c.val)) ∧ (b8 (Builtin.bitOr (g.val : Int) (c.val : Int)) = (b8 g.val || b8 c.val)) := by decide +kernel
theorem fl_or {g c : Int} (hg : Fl g) (hc : Fl c) : Fl (Builtin.bitOr g c) ∧ b1 (Builtin.bitOr g c) = (b1 g || b1 c) ∧ b2 (Builtin.bitOr g c) = (b2 g || b2 c) ∧ b4 (Builtin.bitOr g c) = (b4 g || b4 c) ∧ b8 (Builtin.bitOr g c) = (b8 g || b8 c) := by
  obtain ⟨n, rfl⟩ := fl_fin hg
  obtain ⟨k, rfl⟩ := fl_fin hc
  exact fl_or' n k
/-- the sub-flags test on the three low bits -/
theorem fl_sub' : ∀ g c : Fin 16, c.val < 8 → ((Builtin.bitAnd (g.val : Int) (c.val : Int) = (c.val : Int)) ↔ ((b1 c.val → b1 g.val) ∧ (b2 c.val → b2 g.val) ∧ (b4 c.val → b4 g.val))) := by decide +kernel
theorem fl_sub {g c : Int} (hg : Fl g) (hc : Fl c) (h8 : c < 8) : (Builtin.bitAnd g c = c) ↔ ((b1 c → b1 g) ∧ (b2 c → b2 g) ∧ (b4 c → b4 g)) := by
  obtain ⟨n, rfl⟩ := fl_fin hg
  obtain ⟨k, rfl⟩ := fl_fin hc
  exact fl_sub' n k (by omega)
theorem fl_tcf' : ∀ g : Fin 16, (0 ≤ tcf (g.val : Int) ∧ tcf (g.val : Int) < 8) ∧ b1 (tcf g.val) = b1 g.val ∧ b2 (tcf g.val) = b2 g.val ∧ b4 (tcf g.val) = (b4 g.val || (b1 g.val && b2 g.val)) := by decide +kernel
theorem fl_tcf {g : Int} (hg : Fl g) : (0 ≤ tcf g ∧ tcf g < 8) ∧ b1 (tcf g) = b1 g ∧ b2 (tcf g) = b2 g ∧ b4 (tcf g) = (b4 g || (b1 g && b2 g)) := by
  obtain ⟨n, rfl⟩ := fl_fin hg
  exact fl_tcf' n
theorem fl_new' : ∀ g : Fin 16, (isNew (g.val : Int) ↔ (b1 g.val ∧ b2 g.val ∧ ¬ b4 g.val ∧ ¬ b8 g.val)) := by
  unfold isNew b1 b2 b4 b8
  decide +kernel
theorem fl_new {g : Int} (hg : Fl g) : isNew g ↔ (b1 g ∧ b2 g ∧ ¬ b4 g ∧ ¬ b8 g) := by
  obtain ⟨n, rfl⟩ := fl_fin hg
  exact fl_new' n
end Mine

/-! ## B2 -/
namespace Mine
open PySem PySem.W
set_option maxRecDepth 100000

/-- has the low bits -/
def Sub (g cf : Int) : Prop := (b1 cf → b1 g) ∧ (b2 cf → b2 g) ∧ (b4 cf → b4 g)

structure CfOk (cf : Int) : Prop where
  lo : 0 ≤ cf
  hi : cf < 8
  nz : b1 cf ∨ b2 cf ∨ b4 cf
theorem CfOk.fl {cf : Int} (h : CfOk cf) : Fl cf := ⟨h.lo, Int.lt_trans h.hi (by decide)⟩

/-- the flags are all below 16 -/
def FlC (c : Cst) : Prop := ∀ x f, c x = some f → Fl f
theorem FlC.getD {c : Cst} (h : FlC c) (x : Int) : Fl ((c x).getD 0) := by
  cases hc : c x with
  | none => exact ⟨by decide, by decide⟩
  | some f => exact h x f hc

theorem b_zero : b1 0 = false ∧ b2 0 = false ∧ b4 0 = false ∧ b8 0 = false := by decide +kernel

theorem sub_or {g cf : Int} (hg : Fl g) (hc : Fl cf) : Sub (Builtin.bitOr g cf) cf := by
  obtain ⟨_, h1, h2, h4, _⟩ := fl_or hg hc
  exact ⟨fun h => by rw [h1, h]; simp, fun h => by rw [h2, h]; simp, fun h => by rw [h4, h]; simp⟩

theorem pushPar_spec {age : Int → Int} {mn cf : Int} (hcf : CfOk cf) : ∀ (ps : List Int) (c : Cst) (q : List Key), FlC c →
    FlC (pushPar age mn cf ps (c, q)).1 ∧
    (∀ y, ((pushPar age mn cf ps (c, q)).1 y = c y ∧ (y ∈ ps → mn ≤ age y → Sub ((c y).getD 0) cf ∧ (c y).isSome)) ∨
      (y ∈ ps ∧ mn ≤ age y ∧ ¬ Sub ((c y).getD 0) cf ∧ (pushPar age mn cf ps (c, q)).1 y = some (Builtin.bitOr ((c y).getD 0) cf) ∧ (-(age y), y) ∈ (pushPar age mn cf ps (c, q)).2)) ∧
    (∀ k ∈ q, k ∈ (pushPar age mn cf ps (c, q)).2) ∧
    (∀ k ∈ (pushPar age mn cf ps (c, q)).2, k ∈ q ∨ (k.2 ∈ ps ∧ k.1 = -(age k.2) ∧ ((pushPar age mn cf ps (c, q)).1 k.2).isSome)) := by
  intro ps
  induction ps with
  | nil => intro c q hc; exact ⟨hc, fun y => .inl ⟨rfl, fun h => nomatch h⟩, fun k hk => hk, fun k hk => .inl hk⟩
  | cons p r ih =>
    intro c q hc
    have hg := hc.getD p
    have hsub := fl_sub hg hcf.fl hcf.hi
    have some_of : Sub ((c p).getD 0) cf → (c p).isSome := fun h => by
      cases hx : c p with
      | some _ => rfl
      | none =>
        rw [hx] at h
        obtain ⟨z1, z2, z4, _⟩ := b_zero
        obtain ⟨h1, h2, h4⟩ := h
        simp only [Option.getD_none, z1, z2, z4] at h1 h2 h4
        rcases hcf.nz with h | h | h
        · exact absurd (h1 h) (by decide)
        · exact absurd (h2 h) (by decide)
        · exact absurd (h4 h) (by decide)
    by_cases h1 : Builtin.bitAnd ((c p).getD 0) cf = cf
    · have e : pushPar age mn cf (p :: r) (c, q) = pushPar age mn cf r (c, q) := by rw [pushPar]; simp only [if_pos h1]
      rw [e]
      obtain ⟨i1, i2, i3, i4⟩ := ih c q hc
      refine ⟨i1, fun y => ?_, i3, fun k hk => (i4 k hk).imp id fun h => ⟨.tail _ h.1, h.2⟩⟩
      rcases i2 y with ⟨a, b⟩ | ⟨a, b⟩
      · refine .inl ⟨a, fun hy hm => ?_⟩
        rcases List.mem_cons.mp hy with rfl | hy
        · exact ⟨hsub.mp h1, some_of (hsub.mp h1)⟩
        · exact b hy hm
      · exact .inr ⟨.tail _ a, b⟩
    · by_cases h2 : age p < mn
      · have e : pushPar age mn cf (p :: r) (c, q) = pushPar age mn cf r (c, q) := by rw [pushPar]; simp only [if_neg h1, if_pos h2]
        rw [e]
        obtain ⟨i1, i2, i3, i4⟩ := ih c q hc
        refine ⟨i1, fun y => ?_, i3, fun k hk => (i4 k hk).imp id fun h => ⟨.tail _ h.1, h.2⟩⟩
        rcases i2 y with ⟨a, b⟩ | ⟨a, b⟩
        · refine .inl ⟨a, fun hy hm => ?_⟩
          rcases List.mem_cons.mp hy with rfl | hy
          · omega
          · exact b hy hm
        · exact .inr ⟨.tail _ a, b⟩
      · have e : pushPar age mn cf (p :: r) (c, q) = pushPar age mn cf r (upd c p (Builtin.bitOr ((c p).getD 0) cf), (-(age p), p) :: q) := by rw [pushPar]; simp only [if_neg h1, if_neg h2]
        rw [e]
        have hc' : FlC (upd c p (Builtin.bitOr ((c p).getD 0) cf)) := fun x f hx => by
          unfold upd at hx
          by_cases hp : x = p
          · rw [if_pos hp] at hx; cases hx; exact (fl_or hg hcf.fl).1
          · rw [if_neg hp] at hx; exact hc x f hx
        obtain ⟨i1, i2, i3, i4⟩ := ih _ ((-(age p), p) :: q) hc'
        refine ⟨i1, fun y => ?_, fun k hk => i3 k (.tail _ hk), fun k hk => ?_⟩
        · by_cases hyp : y = p
          · subst hyp
            have hu : upd c y (Builtin.bitOr ((c y).getD 0) cf) y = some (Builtin.bitOr ((c y).getD 0) cf) := by unfold upd; rw [if_pos rfl]
            rcases i2 y with ⟨a, _⟩ | ⟨_, _, b, _⟩
            · exact .inr ⟨.head _, by omega, fun h => h1 (hsub.mpr h), by rw [a, hu], i3 _ (.head _)⟩
            · rw [hu] at b
              exact absurd (sub_or hg hcf.fl) b
          · have hu : upd c p (Builtin.bitOr ((c p).getD 0) cf) y = c y := by unfold upd; rw [if_neg hyp]
            rcases i2 y with ⟨a, b⟩ | ⟨a, b, d, e⟩
            · rw [hu] at a b
              refine .inl ⟨a, fun hy hm => ?_⟩
              rcases List.mem_cons.mp hy with h | hy
              · exact absurd h hyp
              · exact b hy hm
            · rw [hu] at d e
              exact .inr ⟨.tail _ a, b, d, e⟩
        · rcases i4 k hk with h | h
          · rcases List.mem_cons.mp h with rfl | h
            · refine .inr ⟨.head _, rfl, ?_⟩
              have hu : upd c p (Builtin.bitOr ((c p).getD 0) cf) p = some (Builtin.bitOr ((c p).getD 0) cf) := by unfold upd; rw [if_pos rfl]
              rcases i2 p with ⟨a, _⟩ | ⟨_, _, _, a, _⟩
              · show ((pushPar age mn cf r _).1 p).isSome
                rw [a, hu]; rfl
              · show ((pushPar age mn cf r _).1 p).isSome
                rw [a]; rfl
            · exact .inl h
          · exact .inr ⟨.tail _ h.1, h.2⟩
end Mine

/-! ## B3 -/
namespace Mine
open PySem PySem.W
set_option maxRecDepth 100000

def wt (o : Option Int) : Nat := match o with
  | none => 0
  | some f => (b1 f).toNat + (b2 f).toNat + (b4 f).toNat
def rest (c : Cst) : Nat := ((List.range 16).map fun i => 3 - wt (c (i : Nat))).sum
def mu (c : Cst) (pq : List Key) : Nat := pq.length + rest c

theorem sum_le {f g : Nat → Nat} : ∀ {l : List Nat}, (∀ i ∈ l, f i ≤ g i) → (l.map f).sum ≤ (l.map g).sum
  | [], _ => Nat.le_refl _
  | a :: r, h => by
    have h1 := h a (.head _)
    have h2 := sum_le (l := r) fun i hi => h i (.tail _ hi)
    simp only [List.map_cons, List.sum_cons]; omega
theorem sum_lt {f g : Nat → Nat} {j : Nat} : ∀ {l : List Nat}, (∀ i ∈ l, f i ≤ g i) → j ∈ l → f j < g j → (l.map f).sum < (l.map g).sum
  | a :: r, h, hj, hl => by
    have h1 := h a (.head _)
    simp only [List.map_cons, List.sum_cons]
    rcases List.mem_cons.mp hj with rfl | hj
    · have h2 := sum_le (l := r) fun i hi => h i (.tail _ hi)
      omega
    · have h2 := sum_lt (l := r) (fun i hi => h i (.tail _ hi)) hj hl
      omega

theorem wt_le (o : Option Int) : wt o ≤ 3 := by
  cases o with
  | none => exact Nat.zero_le _
  | some f =>
    have e : ∀ b : Bool, b.toNat ≤ 1 := by decide
    have h1 := e (b1 f)
    have h2 := e (b2 f)
    have h4 := e (b4 f)
    show (b1 f).toNat + (b2 f).toNat + (b4 f).toNat ≤ 3
    omega

theorem wt_lt {g cf : Int} (hg : Fl g) (hc : Fl cf) (h : ¬ Sub g cf) : wt (some g) < wt (some (Builtin.bitOr g cf)) := by
  obtain ⟨_, h1, h2, h4, _⟩ := fl_or hg hc
  unfold wt
  simp only [h1, h2, h4]
  unfold Sub at h
  revert h
  cases b1 g <;> cases b2 g <;> cases b4 g <;> cases b1 cf <;> cases b2 cf <;> cases b4 cf <;> simp

theorem wt_getD (o : Option Int) : wt (some (o.getD 0)) = wt o := by
  cases o with
  | none => obtain ⟨z1, z2, z4, _⟩ := b_zero; simp [wt, z1, z2, z4]
  | some _ => rfl

theorem rest_upd {c : Cst} {p cf : Int} (hp : 0 ≤ p ∧ p < 16) (hc : FlC c) (hcf : Fl cf) (h : ¬ Sub ((c p).getD 0) cf) : rest (upd c p (Builtin.bitOr ((c p).getD 0) cf)) < rest c := by
  unfold rest
  have hw := wt_lt (hc.getD p) hcf h
  rw [wt_getD] at hw
  refine sum_lt (j := p.toNat) (fun i _ => ?_) (List.mem_range.mpr (by omega)) ?_
  · unfold upd
    by_cases hi : ((i : Nat) : Int) = p
    · rw [if_pos hi, hi]; omega
    · rw [if_neg hi]; exact Nat.le_refl _
  · have e : ((p.toNat : Nat) : Int) = p := by omega
    rw [e]
    unfold upd
    rw [if_pos rfl]
    have := wt_le (some (Builtin.bitOr ((c p).getD 0) cf))
    omega

theorem pushPar_mu {age : Int → Int} {mn cf : Int} (hcf : CfOk cf) : ∀ (ps : List Int) (c : Cst) (q : List Key), FlC c → (∀ p ∈ ps, 0 ≤ p ∧ p < 16) →
    mu (pushPar age mn cf ps (c, q)).1 (pushPar age mn cf ps (c, q)).2 ≤ mu c q := by
  intro ps
  induction ps with
  | nil => intro c q _ _; exact Nat.le_refl _
  | cons p r ih =>
    intro c q hc hp
    have hr : ∀ p ∈ r, 0 ≤ p ∧ p < 16 := fun p h => hp p (.tail _ h)
    by_cases h1 : Builtin.bitAnd ((c p).getD 0) cf = cf
    · have e : pushPar age mn cf (p :: r) (c, q) = pushPar age mn cf r (c, q) := by rw [pushPar]; simp only [if_pos h1]
      rw [e]; exact ih c q hc hr
    · by_cases h2 : age p < mn
      · have e : pushPar age mn cf (p :: r) (c, q) = pushPar age mn cf r (c, q) := by rw [pushPar]; simp only [if_neg h1, if_pos h2]
        rw [e]; exact ih c q hc hr
      · have e : pushPar age mn cf (p :: r) (c, q) = pushPar age mn cf r (upd c p (Builtin.bitOr ((c p).getD 0) cf), (-(age p), p) :: q) := by rw [pushPar]; simp only [if_neg h1, if_neg h2]
        rw [e]
        have hg := hc.getD p
        have hc' : FlC (upd c p (Builtin.bitOr ((c p).getD 0) cf)) := fun x f hx => by
          unfold upd at hx
          by_cases hp : x = p
          · rw [if_pos hp] at hx; cases hx; exact (fl_or hg hcf.fl).1
          · rw [if_neg hp] at hx; exact hc x f hx
        refine Nat.le_trans (ih _ _ hc' hr) ?_
        have := rest_upd (hp p (.head _)) hc hcf.fl (fun h => h1 ((fl_sub hg hcf.fl hcf.hi).mpr h))
        unfold mu
        rw [List.length_cons]
        omega
theorem rest_le (c : Cst) : rest c ≤ 48 := by
  unfold rest
  exact Nat.le_trans (sum_le (g := fun _ => 3) fun i _ => Nat.sub_le _ _) (by decide)
end Mine

/-! ## B4 -/
namespace Mine
open PySem PySem.W
set_option maxRecDepth 100000

structure PosA (age : Int → Int) (par : Int → List Int) (dom : Int → Prop) (le : Int → Int → Prop) (c1 c2 m mn : Int) : Prop where
  hd1 : dom c1
  hd2 : dom c2
  hdm : dom m
  pd : ∀ x, dom x → ∀ p ∈ par x, dom p
  pl : ∀ x, dom x → (par x).length ≤ 4
  pa : ∀ x, dom x → ∀ p ∈ par x, age p < age x
  ple : ∀ x, dom x → ∀ p ∈ par x, le p x
  tr : ∀ x y z, le x y → le y z → le x z
  la : ∀ x y, dom x → dom y → le x y → x ≠ y → age x < age y
  ip : ∀ z w, dom z → dom w → le w z → w ≠ z → ∃ p ∈ par z, le w p
  m1 : le m c1
  m2 : le m c2
  mg : ∀ x, dom x → le x c1 → le x c2 → le x m
  fin : ∀ x, dom x → 0 ≤ x ∧ x < 16
  hmn : mn ≤ age c1
  r1 : le c1 c1
  r2 : le c2 c2

structure Inv (age : Int → Int) (par : Int → List Int) (dom : Int → Prop) (le : Int → Int → Prop) (c1 c2 m mn : Int) (Dn : Int → Prop) (c : Cst) (pq cs : List Key) : Prop where
  fl : ∀ x f, c x = some f → dom x ∧ Fl f ∧ (b1 f = true ∨ b2 f = true) ∧ (b1 f = true → le x c1 ∧ (x = c1 ∨ mn ≤ age x)) ∧ (b2 f = true → le x c2) ∧ (b4 f = true → le x m ∧ x ≠ m)
  q : ∀ k ∈ pq, k.1 = -age k.2 ∧ (c k.2).isSome
  fd : ∀ x, (c x).isSome → Dn x ∨ ∃ k ∈ pq, k.2 = x
  dn : ∀ x, Dn x → (c x).isSome
  ord : ∀ x, Dn x → ∀ k ∈ pq, age k.2 ≤ age x
  cl : ∀ x f, Dn x → c x = some f → ∀ p ∈ par x, mn ≤ age p → ∃ g, c p = some g ∧ Sub g (tcf f)
  l8 : ∀ x f, c x = some f → b8 f = true → x = m ∧ Dn m ∧ mn ≤ age m
  m8 : ∀ f, c m = some f → Dn m → mn ≤ age m → b8 f = true
  cs0 : ¬ (Dn m ∧ mn ≤ age m) → cs = []
  cs1 : Dn m → mn ≤ age m → cs = [(age m, m)]
  s1 : ∃ f, c c1 = some f ∧ b1 f = true
  s2 : ∃ f, c c2 = some f ∧ b2 f = true

section
variable {age : Int → Int} {par : Int → List Int} {dom : Int → Prop} {le : Int → Int → Prop} {c1 c2 m mn : Int} {Dn : Int → Prop} {c : Cst} {pq cs : List Key}

theorem reach {P : Int → Bool} (hP : ∀ f g, Fl f → P f = true → Sub g (tcf f) → P g = true) (A : PosA age par dom le c1 c2 m mn) (I : Inv age par dom le c1 c2 m mn Dn c pq cs) {a : Int} (H : ∀ z, (c z).isSome → a < age z → Dn z)
    {w : Int} (hw : dom w) (haw : a ≤ age w) (hmw : mn ≤ age w) : ∀ (n : Nat) (z f : Int), (age z - age w).toNat ≤ n → le w z → c z = some f → P f = true → ∃ g, c w = some g ∧ P g = true := by
  intro n
  induction n with
  | zero =>
    intro z f hn hwz hz hp
    by_cases e : w = z
    · exact ⟨f, e ▸ hz, hp⟩
    · have := A.la w z hw (I.fl z f hz).1 hwz e
      omega
  | succ n ih =>
    intro z f hn hwz hz hp
    by_cases e : w = z
    · exact ⟨f, e ▸ hz, hp⟩
    · have hdz := (I.fl z f hz).1
      have hlt := A.la w z hw hdz hwz e
      have hDz := H z (by rw [hz]; rfl) (by omega)
      obtain ⟨p, hpz, hwp⟩ := A.ip z w hdz hw hwz e
      have hpa := A.pa z hdz p hpz
      have hmp : mn ≤ age p := by
        by_cases e2 : w = p
        · rw [← e2]; exact hmw
        · have := A.la w p hw (A.pd z hdz p hpz) hwp e2
          omega
      obtain ⟨g, hg, hs⟩ := I.cl z f hDz hz p hpz hmp
      exact ih p g (by omega) hwp hg (hP f g (I.fl z f hz).2.1 hp hs)

theorem hP1 : ∀ f g, Fl f → b1 f = true → Sub g (tcf f) → b1 g = true := fun f g hf h hs => hs.1 (by rw [(fl_tcf hf).2.1]; exact h)
theorem hP2 : ∀ f g, Fl f → b2 f = true → Sub g (tcf f) → b2 g = true := fun f g hf h hs => hs.2.1 (by rw [(fl_tcf hf).2.2.1]; exact h)
theorem hP4 : ∀ f g, Fl f → b4 f = true → Sub g (tcf f) → b4 g = true := fun f g hf h hs => hs.2.2 (by rw [(fl_tcf hf).2.2.2, h]; rfl)

/-- the popped node's flags: a node of both is the meet, or marked -/
theorem pop_both (A : PosA age par dom le c1 c2 m mn) (I : Inv age par dom le c1 c2 m mn Dn c pq cs) {x f : Int} (H : ∀ z, (c z).isSome → age x < age z → Dn z) (hx : c x = some f) (h1 : b1 f = true) (h2 : b2 f = true) : mn ≤ age x ∧ (x = m ∨ b4 f = true) := by
  obtain ⟨hd, hF, _, k1, k2, _⟩ := I.fl x f hx
  have hl1 := (k1 h1).1
  have hl2 := k2 h2
  have hxm := A.mg x hd hl1 hl2
  have hmx : mn ≤ age x := by
    rcases (k1 h1).2 with h | h
    · rw [h]; exact A.hmn
    · exact h
  refine ⟨hmx, ?_⟩
  by_cases e : x = m
  · exact .inl e
  · refine .inr ?_
    have hlt := A.la x m hd A.hdm hxm e
    obtain ⟨f1, hf1, hb1⟩ := I.s1
    obtain ⟨f2, hf2, hb2⟩ := I.s2
    obtain ⟨g1, hg1, hbg1⟩ := reach hP1 A I H A.hdm (by omega) (by omega) _ c1 f1 (Nat.le_refl _) A.m1 hf1 hb1
    obtain ⟨g2, hg2, hbg2⟩ := reach hP2 A I H A.hdm (by omega) (by omega) _ c2 f2 (Nat.le_refl _) A.m2 hf2 hb2
    rw [hg1] at hg2; cases hg2
    have hDm := H m (by rw [hg1]; rfl) hlt
    obtain ⟨p, hp, hxp⟩ := A.ip m x A.hdm hd hxm e
    have hmp : mn ≤ age p := by
      by_cases e2 : x = p
      · rw [← e2]; exact hmx
      · have := A.la x p hd (A.pd m A.hdm p hp) hxp e2
        omega
    obtain ⟨g, hg, hs⟩ := I.cl m g1 hDm hg1 p hp hmp
    have hb4 : b4 g = true := hs.2.2 (by rw [(fl_tcf (I.fl m g1 hg1).2.1).2.2.2, hbg1, hbg2]; simp)
    obtain ⟨g', hg', hb'⟩ := reach hP4 A I H hd (Int.le_refl _) hmx _ p g (Nat.le_refl _) hxp hg hb4
    rw [hx] at hg'; cases hg'
    exact hb'

theorem pop_meet (A : PosA age par dom le c1 c2 m mn) (I : Inv age par dom le c1 c2 m mn Dn c pq cs) {f : Int} (H : ∀ z, (c z).isSome → age m < age z → Dn z) (hx : c m = some f) (hmn : mn ≤ age m) : b1 f = true ∧ b2 f = true ∧ b4 f = false := by
  obtain ⟨f1, hf1, hb1⟩ := I.s1
  obtain ⟨f2, hf2, hb2⟩ := I.s2
  obtain ⟨g1, hg1, hbg1⟩ := reach hP1 A I H A.hdm (Int.le_refl _) hmn _ c1 f1 (Nat.le_refl _) A.m1 hf1 hb1
  obtain ⟨g2, hg2, hbg2⟩ := reach hP2 A I H A.hdm (Int.le_refl _) hmn _ c2 f2 (Nat.le_refl _) A.m2 hf2 hb2
  rw [hx] at hg1 hg2; cases hg1; cases hg2
  refine ⟨hbg1, hbg2, ?_⟩
  cases h : b4 f with
  | false => rfl
  | true => exact absurd rfl ((I.fl m f hx).2.2.2.2.2 h).2
end
end Mine

/-! ## B5 -/
namespace Mine
open PySem PySem.W
set_option maxRecDepth 100000

theorem sub_mono {g g' cf : Int} (h1 : b1 g = true → b1 g' = true) (h2 : b2 g = true → b2 g' = true) (h4 : b4 g = true → b4 g' = true) (h : Sub g cf) : Sub g' cf :=
  ⟨fun x => h1 (h.1 x), fun x => h2 (h.2.1 x), fun x => h4 (h.2.2 x)⟩

def nf (f : Int) : Int := if isNew f then Builtin.bitOr f 8 else f
theorem b_eight : b1 8 = false ∧ b2 8 = false ∧ b4 8 = false ∧ b8 8 = true ∧ Fl 8 := ⟨by decide +kernel, by decide +kernel, by decide +kernel, by decide +kernel, by decide⟩
theorem nf_bits {f : Int} (h : Fl f) : Fl (nf f) ∧ b1 (nf f) = b1 f ∧ b2 (nf f) = b2 f ∧ b4 (nf f) = b4 f ∧ (b8 (nf f) = true ↔ b8 f = true ∨ isNew f) := by
  unfold nf
  by_cases hn : isNew f
  · rw [if_pos hn]
    obtain ⟨e1, e2, e4, e8, e⟩ := b_eight
    obtain ⟨a, b, d, g, i⟩ := fl_or h e
    refine ⟨a, by rw [b, e1, Bool.or_false], by rw [d, e2, Bool.or_false], by rw [g, e4, Bool.or_false], ?_⟩
    rw [i, e8]
    exact ⟨fun _ => .inr hn, fun _ => Bool.or_true _⟩
  · rw [if_neg hn]
    exact ⟨h, rfl, rfl, rfl, ⟨fun h => .inl h, fun h => h.elim id fun h => absurd h hn⟩⟩
theorem tc_at {c : Cst} {x f : Int} (hx : c x = some f) (y : Int) : tc c x f y = if y = x then some (nf f) else c y := by
  unfold tc nf
  by_cases hn : isNew f
  · rw [if_pos hn, if_pos hn]; unfold upd; rfl
  · rw [if_neg hn, if_neg hn]
    by_cases h : y = x
    · rw [if_pos h, h, hx]
    · rw [if_neg h]

section
variable {age : Int → Int} {par : Int → List Int} {dom : Int → Prop} {le : Int → Int → Prop} {c1 c2 m mn : Int} {Dn : Int → Prop} {c : Cst} {pq cs rst : List Key} {k : Key} {f : Int}

theorem kle_age (I : Inv age par dom le c1 c2 m mn Dn c pq cs) (hk : k ∈ pq) {k' : Key} (hk' : k' ∈ pq) (h : kle k k') : age k'.2 ≤ age k.2 := by
  have h1 := (I.q k hk).1
  have h2 := (I.q k' hk').1
  unfold kle klt at h
  omega

theorem Inv.step (A : PosA age par dom le c1 c2 m mn) (I : Inv age par dom le c1 c2 m mn Dn c pq cs) (hp : (k :: rst).Perm pq) (hmin : ∀ k' ∈ pq, kle k k') (hf : c k.2 = some f) :
    Inv age par dom le c1 c2 m mn (fun y => Dn y ∨ y = k.2) (pushPar age mn (tcf f) (par k.2) (tc c k.2 f, rst)).1 (pushPar age mn (tcf f) (par k.2) (tc c k.2 f, rst)).2 (tcs cs k f) ∧
    mu (pushPar age mn (tcf f) (par k.2) (tc c k.2 f, rst)).1 (pushPar age mn (tcf f) (par k.2) (tc c k.2 f, rst)).2 + 1 ≤ mu c pq := by
  obtain ⟨x, hx⟩ : ∃ x, x = k.2 := ⟨_, rfl⟩
  rw [← hx] at hf ⊢
  have hkm : k ∈ pq := hp.mem_iff.mp (.head _)
  have hrm : ∀ k' ∈ rst, k' ∈ pq := fun k' h => hp.mem_iff.mp (.tail _ h)
  have hk1 : k.1 = -age x := by rw [hx]; exact (I.q k hkm).1
  have hle : ∀ k' ∈ pq, age k'.2 ≤ age x := fun k' h => by rw [hx]; exact kle_age I hkm h (hmin k' h)
  have H : ∀ z, (c z).isSome → age x < age z → Dn z := fun z hz hl => by
    rcases I.fd z hz with h | ⟨k', hk', rfl⟩
    · exact h
    · have := hle k' hk'; omega
  obtain ⟨hdx, hF, h12, k1, k2, k4⟩ := I.fl x f hf
  obtain ⟨nF, n1, n2, n4, n8⟩ := nf_bits hF
  obtain ⟨⟨cf0, cf8⟩, t1, t2, t4⟩ := fl_tcf hF
  have hcf : CfOk (tcf f) := ⟨cf0, cf8, by rcases h12 with h | h <;> simp [t1, t2, h]⟩
  have hc'f : FlC (tc c x f) := fun y g hy => by
    rw [tc_at hf] at hy
    by_cases e : y = x
    · rw [if_pos e] at hy; cases hy; exact nF
    · rw [if_neg e] at hy; exact (I.fl y g hy).2.1
  have hpx : ∀ p ∈ par x, p ≠ x := fun p h e => by have := A.pa x hdx p h; rw [e] at this; omega
  have both := fun h1 h2 => pop_both A I H hf h1 h2
  have new_m : isNew f → x = m ∧ mn ≤ age m := fun h => by
    obtain ⟨h1, h2, h4, _⟩ := (fl_new hF).mp h
    obtain ⟨a, b⟩ := both h1 h2
    rcases b with b | b
    · exact ⟨b, b ▸ a⟩
    · exact absurd b h4
  have dn_ne : ∀ y, Dn y → age x ≤ age y := fun y hy => by rw [hx]; exact I.ord y hy k hkm
  obtain ⟨q1, q2, q3, q4⟩ := pushPar_spec (age := age) (mn := mn) hcf (par x) (tc c x f) rst hc'f
  have hmu := pushPar_mu (age := age) (mn := mn) hcf (par x) (tc c x f) rst hc'f (fun p h => A.fin p (A.pd x hdx p h))
  generalize pushPar age mn (tcf f) (par x) (tc c x f, rst) = r at q1 q2 q3 q4 hmu ⊢
  -- values after the step
  have at_x : r.1 x = some (nf f) := by
    rcases q2 x with ⟨a, _⟩ | ⟨a, _⟩
    · rw [a, tc_at hf, if_pos rfl]
    · exact absurd rfl (hpx x a)
  have at_o : ∀ y, y ≠ x → (r.1 y = c y ∧ (y ∈ par x → mn ≤ age y → ∃ g, c y = some g ∧ Sub g (tcf f))) ∨ (y ∈ par x ∧ mn ≤ age y ∧ r.1 y = some (Builtin.bitOr ((c y).getD 0) (tcf f)) ∧ (-(age y), y) ∈ r.2) := fun y hy => by
    have e : tc c x f y = c y := by rw [tc_at hf, if_neg hy]
    rcases q2 y with ⟨a, b⟩ | ⟨a, b, _, d, e'⟩
    · rw [e] at a b
      refine .inl ⟨a, fun h1 h2 => ?_⟩
      obtain ⟨b, s⟩ := b h1 h2
      obtain ⟨g, hg⟩ := Option.isSome_iff_exists.mp s
      rw [hg] at b
      exact ⟨g, hg, b⟩
    · rw [e] at d
      exact .inr ⟨a, b, d, e'⟩
  have dn_same : ∀ y, Dn y → y ≠ x → r.1 y = c y := fun y hy hne => by
    rcases at_o y hne with ⟨a, _⟩ | ⟨a, _⟩
    · exact a
    · have := A.pa x hdx y a
      have := dn_ne y hy
      omega
  have some_old : ∀ y, (c y).isSome → (r.1 y).isSome := fun y hy => by
    by_cases e : y = x
    · rw [e, at_x]; rfl
    · rcases at_o y e with ⟨a, _⟩ | ⟨_, _, a, _⟩
      · rw [a]; exact hy
      · rw [a]; rfl
  have flC : FlC c := fun y g h => (I.fl y g h).2.1
  have grow : ∀ y g, c y = some g → ∃ g', r.1 y = some g' ∧ (b1 g = true → b1 g' = true) ∧ (b2 g = true → b2 g' = true) ∧ (b4 g = true → b4 g' = true) := fun y g hy => by
    by_cases e : y = x
    · subst e
      rw [hf] at hy; cases hy
      exact ⟨_, at_x, by rw [n1]; exact id, by rw [n2]; exact id, by rw [n4]; exact id⟩
    · rcases at_o y e with ⟨a, _⟩ | ⟨_, _, a, _⟩
      · exact ⟨g, by rw [a, hy], id, id, id⟩
      · obtain ⟨_, o1, o2, o4, _⟩ := fl_or (flC.getD y) hcf.fl
        rw [hy] at a o1 o2 o4
        simp only [Option.getD_some] at a o1 o2 o4
        exact ⟨_, a, fun h => by rw [o1, h]; rfl, fun h => by rw [o2, h]; rfl, fun h => by rw [o4, h]; rfl⟩
  refine ⟨⟨?fl, ?q, ?fd, ?dn, ?ord, ?cl, ?l8, ?m8, ?cs0, ?cs1, ?s1, ?s2⟩, ?mu⟩
  case s1 => obtain ⟨g, hg, hb⟩ := I.s1; obtain ⟨g', h1, h2, _⟩ := grow _ _ hg; exact ⟨g', h1, h2 hb⟩
  case s2 => obtain ⟨g, hg, hb⟩ := I.s2; obtain ⟨g', h1, _, h2, _⟩ := grow _ _ hg; exact ⟨g', h1, h2 hb⟩
  case dn =>
    rintro y (hy | rfl)
    · exact some_old y (I.dn y hy)
    · rw [at_x]; rfl
  case q =>
    intro k' hk'
    rcases q4 k' hk' with h | ⟨h1, h2, h3⟩
    · exact ⟨(I.q k' (hrm k' h)).1, some_old _ (I.q k' (hrm k' h)).2⟩
    · exact ⟨h2, h3⟩
  case ord =>
    intro y hy k' hk'
    have hxy : age x ≤ age y := by
      rcases hy with hy | rfl
      · exact dn_ne y hy
      · exact Int.le_refl _
    rcases q4 k' hk' with h | ⟨h1, _, _⟩
    · have := hle k' (hrm k' h); omega
    · have := A.pa x hdx _ h1; omega
  case fd =>
    intro y hy
    by_cases e : y = x
    · exact .inl (.inr e)
    · rcases at_o y e with ⟨a, _⟩ | ⟨_, _, _, a⟩
      · rw [a] at hy
        rcases I.fd y hy with h | ⟨k', hk', rfl⟩
        · exact .inl (.inl h)
        · rcases List.mem_cons.mp (hp.mem_iff.mpr hk') with h | h
          · exact absurd (by rw [h, hx]) e
          · exact .inr ⟨k', q3 k' h, rfl⟩
      · exact .inr ⟨_, a, rfl⟩
  case cl =>
    intro y g hy hg p hpy hmp
    have hpne : p ≠ y := fun e => by
      have hdy : dom y := by
        rcases hy with hy | rfl
        · obtain ⟨g0, h0⟩ := Option.isSome_iff_exists.mp (I.dn y hy); exact (I.fl y g0 h0).1
        · exact hdx
      have := A.pa y hdy p hpy
      rw [e] at this; omega
    by_cases e : y = x
    · subst e
      rw [at_x] at hg; cases hg
      have tt : ∀ g, Sub g (tcf f) → Sub g (tcf (nf f)) := fun g h => by
        obtain ⟨_, u1, u2, u4⟩ := fl_tcf nF
        refine ⟨fun h1 => h.1 ?_, fun h1 => h.2.1 ?_, fun h1 => h.2.2 ?_⟩
        · rw [t1]; rw [u1, n1] at h1; exact h1
        · rw [t2]; rw [u2, n2] at h1; exact h1
        · rw [t4]; rw [u4, n4, n1, n2] at h1; exact h1
      rcases at_o p hpne with ⟨a, b⟩ | ⟨_, _, a, _⟩
      · obtain ⟨g, h1, h2⟩ := b hpy hmp
        exact ⟨g, by rw [a, h1], tt g h2⟩
      · exact ⟨_, a, tt _ (sub_or (flC.getD p) hcf.fl)⟩
    · have hDy : Dn y := hy.resolve_right e
      rw [dn_same y hDy e] at hg
      obtain ⟨g', h1, h2⟩ := I.cl y g hDy hg p hpy hmp
      obtain ⟨g'', h3, h4, h5, h6⟩ := grow p g' h1
      exact ⟨g'', h3, sub_mono h4 h5 h6 h2⟩
  case fl =>
    intro y g hy
    by_cases e : y = x
    · subst e
      rw [at_x] at hy; cases hy
      refine ⟨hdx, nF, by rw [n1, n2]; exact h12, by rw [n1]; exact k1, by rw [n2]; exact k2, by rw [n4]; exact k4⟩
    · rcases at_o y e with ⟨a, _⟩ | ⟨hyp, hmy, a, _⟩
      · rw [a] at hy; exact I.fl y g hy
      · rw [a] at hy; cases hy
        obtain ⟨o, o1, o2, o4, _⟩ := fl_or (flC.getD y) hcf.fl
        have hyx := A.ple x hdx y hyp
        have hya := A.pa x hdx y hyp
        have hdy := A.pd x hdx y hyp
        obtain ⟨z1, z2, z4, _⟩ := b_zero
        have old : ∀ (P : Int → Bool), P 0 = false → P ((c y).getD 0) = true → ∃ g, c y = some g ∧ P g = true := fun P hz h => by
          cases hc : c y with
          | none => rw [hc] at h; simp only [Option.getD_none, hz] at h; cases h
          | some g => rw [hc] at h; exact ⟨g, rfl, h⟩
        have meet : le x m → le y m ∧ y ≠ m := fun h => ⟨A.tr y x m hyx h, fun e2 => by
          by_cases e3 : x = m
          · rw [e2, e3] at hya; omega
          · have := A.la x m hdx A.hdm h e3
            rw [e2] at hya; omega⟩
        refine ⟨hdy, o, ?_, fun h => ?_, fun h => ?_, fun h => ?_⟩
        · rw [o1, o2, t1, t2]
          rcases h12 with h | h <;> simp [h]
        · rw [o1, t1] at h
          rcases Bool.or_eq_true _ _ ▸ h with h | h
          · obtain ⟨g, hg, hb⟩ := old b1 z1 h
            exact (I.fl y g hg).2.2.2.1 hb
          · exact ⟨A.tr y x c1 hyx (k1 h).1, .inr hmy⟩
        · rw [o2, t2] at h
          rcases Bool.or_eq_true _ _ ▸ h with h | h
          · obtain ⟨g, hg, hb⟩ := old b2 z2 h
            exact (I.fl y g hg).2.2.2.2.1 hb
          · exact A.tr y x c2 hyx (k2 h)
        · rw [o4, t4] at h
          rcases Bool.or_eq_true _ _ ▸ h with h | h
          · obtain ⟨g, hg, hb⟩ := old b4 z4 h
            exact (I.fl y g hg).2.2.2.2.2 hb
          · rcases Bool.or_eq_true _ _ ▸ h with h | h
            · exact meet (k4 h).1
            · have h := Bool.and_eq_true_iff.mp h
              exact meet (A.mg x hdx (k1 h.1).1 (k2 h.2))
  case l8 =>
    intro y g hy hb
    by_cases e : y = x
    · subst e
      rw [at_x] at hy; cases hy
      rcases n8.mp hb with h | h
      · obtain ⟨a, b, d⟩ := I.l8 y f hf h
        exact ⟨a, .inl b, d⟩
      · obtain ⟨a, b⟩ := new_m h
        exact ⟨a, .inr a.symm, b⟩
    · have old : ∀ g0, c y = some g0 → b8 g0 = true → y = m ∧ (Dn m ∨ m = x) ∧ mn ≤ age m := fun g0 h1 h2 => by
        obtain ⟨a, b, d⟩ := I.l8 y g0 h1 h2
        exact ⟨a, .inl b, d⟩
      rcases at_o y e with ⟨a, _⟩ | ⟨_, _, a, _⟩
      · rw [a] at hy; exact old g hy hb
      · rw [a] at hy; cases hy
        obtain ⟨_, _, _, _, o8⟩ := fl_or (flC.getD y) hcf.fl
        have c8 : b8 (tcf f) = false := by
          have : ∀ n : Fin 16, n.val < 8 → b8 (n.val : Int) = false := by decide +kernel
          obtain ⟨n, hn⟩ := fl_fin hcf.fl
          rw [hn]; exact this n (by omega)
        rw [o8, c8, Bool.or_false] at hb
        cases hc : c y with
        | none => rw [hc] at hb; simp only [Option.getD_none, b_zero.2.2.2] at hb; cases hb
        | some g0 => rw [hc] at hb; exact old g0 hc hb
  case m8 =>
    intro g hy hD hmn
    by_cases e : m = x
    · rw [e, at_x] at hy; cases hy
      have hfm : c m = some f := by rw [e]; exact hf
      obtain ⟨p1, p2, p4⟩ := pop_meet A I (fun z hz hl => H z hz (by rw [← e]; exact hl)) hfm hmn
      rw [n8]
      by_cases h8 : b8 f = true
      · exact .inl h8
      · exact .inr ((fl_new hF).mpr ⟨p1, p2, by rw [p4]; decide, h8⟩)
    · have hDm := hD.resolve_right e
      rw [dn_same m hDm e] at hy
      exact I.m8 g hy hDm hmn
  case cs0 =>
    intro h
    have hn : ¬ isNew f := fun hn => by
      obtain ⟨a, b⟩ := new_m hn
      exact h ⟨.inr a.symm, b⟩
    unfold tcs
    rw [if_neg hn]
    exact I.cs0 fun hh => h ⟨.inl hh.1, hh.2⟩
  case cs1 =>
    intro hD hmn
    unfold tcs
    by_cases hn : isNew f
    · obtain ⟨a, b⟩ := new_m hn
      have hnD : ¬ Dn m := fun hDm => by
        have := I.m8 f (by rw [← a]; exact hf) hDm hmn
        exact ((fl_new hF).mp hn).2.2.2 this
      rw [if_pos hn, I.cs0 (fun hh => hnD hh.1), List.nil_append, hk1, ← hx, a, Int.neg_neg]
    · rw [if_neg hn]
      refine I.cs1 ?_ hmn
      rcases hD with h | h
      · exact h
      · have hfm : c m = some f := by rw [h]; exact hf
        obtain ⟨p1, p2, p4⟩ := pop_meet A I (fun z hz hl => H z hz (by rw [← h]; exact hl)) hfm hmn
        by_cases h8 : b8 f = true
        · exact (I.l8 m f hfm h8).2.1
        · exact absurd ((fl_new hF).mpr ⟨p1, p2, by rw [p4]; decide, h8⟩) hn
  case mu =>
    have hl : rst.length + 1 = pq.length := by have := hp.length_eq; simpa using this
    have hr : Mine.rest (tc c x f) = Mine.rest c := by
      unfold Mine.rest
      congr 1
      apply List.map_congr_left
      intro i _
      rw [tc_at hf]
      by_cases e : (i : Int) = x
      · rw [if_pos e, e, hf]
        unfold wt
        simp only [n1, n2, n4]
      · rw [if_neg e]
    unfold mu at hmu ⊢
    rw [hr] at hmu
    omega
end
end Mine

/-! ## B6 -/
namespace Mine
open PySem PySem.W
set_option maxRecDepth 100000
section
variable {age : Int → Int} {par : Int → List Int} {dom : Int → Prop} {le : Int → Int → Prop} {c1 c2 m mn : Int}

def resOf (age : Int → Int) (m mn : Int) : List Int := if mn ≤ age m then [m] else []

theorem Inv.fin {Dn : Int → Prop} {c : Cst} {pq cs : List Key} (A : PosA age par dom le c1 c2 m mn) (I : Inv age par dom le c1 c2 m mn Dn c pq cs) (h : pq.any (cand c) = false) : FinR (resOf age m mn) c cs := by
  unfold resOf
  by_cases hm : mn ≤ age m
  · rw [if_pos hm]
    have hD : Dn m := Classical.byContradiction fun hn => by
      have key : ∀ (n : Nat) (z f : Int), (age z - age m).toNat ≤ n → le m z → c z = some f → False := by
        intro n
        induction n with
        | zero =>
          intro z f hz hle hc
          have hdz := (I.fl z f hc).1
          have hzm : m = z := Classical.byContradiction fun e => by have := A.la m z A.hdm hdz hle e; omega
          subst hzm
          rcases I.fd m (by rw [hc]; rfl) with hd | ⟨k, hk, e⟩
          · exact hn hd
          · have h1 := List.any_eq_false.mp h k hk
            unfold cand at h1
            rw [e, hc] at h1
            have h4 : b4 f = true := by simpa [b4] using h1
            exact ((I.fl m f hc).2.2.2.2.2 h4).2 rfl
        | succ n ih =>
          intro z f hz hle hc
          have hdz := (I.fl z f hc).1
          rcases I.fd z (by rw [hc]; rfl) with hd | ⟨k, hk, e⟩
          · by_cases e : m = z
            · exact hn (e ▸ hd)
            · obtain ⟨p, hp, hmp⟩ := A.ip z m hdz A.hdm hle e
              have hdp := A.pd z hdz p hp
              have hpa := A.pa z hdz p hp
              have hmm : mn ≤ age p := by
                by_cases e2 : m = p
                · rw [← e2]; exact hm
                · have := A.la m p A.hdm hdp hmp e2
                  omega
              obtain ⟨g, hg, _⟩ := I.cl z f hd hc p hp hmm
              have hlt := A.la m z A.hdm hdz hle e
              exact ih p g (by omega) hmp hg
          · have h1 := List.any_eq_false.mp h k hk
            unfold cand at h1
            rw [e, hc] at h1
            have h4 : b4 f = true := by simpa [b4] using h1
            obtain ⟨a, b⟩ := (I.fl z f hc).2.2.2.2.2 h4
            have x1 := A.la z m hdz A.hdm a b
            have x2 := A.la m z A.hdm hdz hle (Ne.symm b)
            omega
      obtain ⟨f, hf, _⟩ := I.s1
      exact key _ c1 f (Nat.le_refl _) A.m1 hf
    obtain ⟨f, hf⟩ := Option.isSome_iff_exists.mp (I.dn m hD)
    refine .inr ⟨age m, m, f, I.cs1 hD hm, hf, fun h4 => ?_, rfl⟩
    exact ((I.fl m f hf).2.2.2.2.2 (by simp [b4, h4])).2 rfl
  · rw [if_neg hm]
    exact .inl ⟨I.cs0 fun h => hm h.2, rfl⟩

theorem Inv.good (A : PosA age par dom le c1 c2 m mn) : ∀ (n : Nat) (Dn : Int → Prop) (c : Cst) (pq cs : List Key), Inv age par dom le c1 c2 m mn Dn c pq cs → mu c pq ≤ n → LGood par age mn dom (FinR (resOf age m mn)) n c pq cs := by
  intro n
  induction n with
  | zero =>
    intro Dn c pq cs I hmu
    have : pq = [] := by
      unfold mu at hmu
      exact List.length_eq_zero_iff.mp (by omega)
    subst this
    exact ⟨rfl, I.fin A rfl⟩
  | succ n ih =>
    intro Dn c pq cs I hmu
    by_cases h : pq.any (cand c) = true
    · refine .inr ⟨h, fun k rst hp hmin => ?_⟩
      have hkm : k ∈ pq := hp.mem_iff.mp (.head _)
      obtain ⟨f, hf⟩ := Option.isSome_iff_exists.mp (I.q k hkm).2
      have hd := (I.fl k.2 f hf).1
      obtain ⟨I', hm'⟩ := I.step A hp hmin hf
      exact ⟨f, hf, hd, A.pd k.2 hd, A.pl k.2 hd, ih _ _ _ _ I' (by omega)⟩
    · have h : pq.any (cand c) = false := by simpa using h
      exact .inl ⟨h, I.fin A h⟩

theorem start_vals : b1 1 = true ∧ b2 1 = false ∧ b4 1 = false ∧ b8 1 = false ∧ b1 2 = false ∧ b2 2 = true ∧ b4 2 = false ∧ b8 2 = false ∧ b1 3 = true ∧ b2 3 = true ∧ b4 3 = false ∧ b8 3 = false ∧ Builtin.bitOr 0 2 = 2 ∧ Builtin.bitOr 1 2 = 3 := by decide +kernel

theorem Inv.start (A : PosA age par dom le c1 c2 m mn) : Inv age par dom le c1 c2 m mn (fun _ => False) (cst0 c1 c2) (pq0 age c1 c2) [] := by
  obtain ⟨a1, a2, a4, a8, d1, d2, d4, d8, e1, e2, e4, e8, o1, o2⟩ := start_vals
  have val : ∀ x f, cst0 c1 c2 x = some f → (x = c1 ∧ x = c2 ∧ f = 3) ∨ (x = c1 ∧ x ≠ c2 ∧ f = 1) ∨ (x = c2 ∧ x ≠ c1 ∧ f = 2) := fun x f h => by
    unfold cst0 upd at h
    by_cases h2 : x = c2
    · rw [if_pos h2] at h
      by_cases h1 : c2 = c1
      · rw [if_pos h1] at h
        simp only [Option.getD_some, o2] at h
        cases h
        exact .inl ⟨h2.trans h1, h2, rfl⟩
      · rw [if_neg h1] at h
        simp only [Option.getD_none, o1] at h
        cases h
        exact .inr (.inr ⟨h2, fun e => h1 (h2.symm.trans e), rfl⟩)
    · rw [if_neg h2] at h
      by_cases h1 : x = c1
      · rw [if_pos h1] at h; cases h; exact .inr (.inl ⟨h1, h2, rfl⟩)
      · rw [if_neg h1] at h; cases h
  have v2 : (cst0 c1 c2 c2).isSome := by unfold cst0 upd; rw [if_pos rfl]; rfl
  have v1 : (cst0 c1 c2 c1).isSome := by
    by_cases h : c1 = c2
    · rw [h] at v2 ⊢; exact v2
    · unfold cst0 upd; rw [if_neg h, if_pos rfl]; rfl
  refine ⟨fun x f h => ?_, fun k hk => ?_, fun x hx => ?_, fun x h => h.elim, fun x h => h.elim, fun x f h => h.elim, fun x f h hb => ?_, fun f _ h => h.elim, fun _ => rfl, fun h => h.elim, ?_, ?_⟩
  · rcases val x f h with ⟨h1, h2, rfl⟩ | ⟨h1, h2, rfl⟩ | ⟨h1, h2, rfl⟩
    · refine ⟨h1 ▸ A.hd1, by decide, .inl e1, fun _ => ⟨h1 ▸ A.r1, .inl h1⟩, fun _ => h2 ▸ A.r2, fun h => by rw [e4] at h; cases h⟩
    · refine ⟨h1 ▸ A.hd1, by decide, .inl a1, fun _ => ⟨h1 ▸ A.r1, .inl h1⟩, (fun h => by rw [a2] at h; cases h), (fun h => by rw [a4] at h; cases h)⟩
    · refine ⟨h1 ▸ A.hd2, by decide, .inr d2, (fun h => by rw [d1] at h; cases h), fun _ => h1 ▸ A.r2, (fun h => by rw [d4] at h; cases h)⟩
  · rcases List.mem_cons.mp hk with rfl | hk
    · exact ⟨rfl, v2⟩
    · rcases List.mem_cons.mp hk with rfl | hk
      · exact ⟨rfl, v1⟩
      · cases hk
  · obtain ⟨f, hf⟩ := Option.isSome_iff_exists.mp hx
    refine .inr ?_
    rcases val x f hf with ⟨h1, _, _⟩ | ⟨h1, _, _⟩ | ⟨h1, _, _⟩
    · exact ⟨_, .tail _ (.head _), h1.symm⟩
    · exact ⟨_, .tail _ (.head _), h1.symm⟩
    · exact ⟨_, .head _, h1.symm⟩
  · rcases val x f h with ⟨_, _, rfl⟩ | ⟨_, _, rfl⟩ | ⟨_, _, rfl⟩
    · rw [e8] at hb; cases hb
    · rw [a8] at hb; cases hb
    · rw [d8] at hb; cases hb
  · obtain ⟨f, hf⟩ := Option.isSome_iff_exists.mp v1
    refine ⟨f, hf, ?_⟩
    rcases val c1 f hf with ⟨_, _, rfl⟩ | ⟨_, _, rfl⟩ | ⟨_, h, _⟩
    · exact e1
    · exact a1
    · exact absurd rfl h
  · obtain ⟨f, hf⟩ := Option.isSome_iff_exists.mp v2
    refine ⟨f, hf, ?_⟩
    rcases val c2 f hf with ⟨_, _, rfl⟩ | ⟨_, h, _⟩ | ⟨_, _, rfl⟩
    · exact e2
    · exact absurd rfl h
    · exact d2

/-- the plain law of `_find_lcas` over a lattice -/
theorem lcas_good (A : PosA age par dom le c1 c2 m mn) : LGood par age mn dom (FinR (resOf age m mn)) 50 (cst0 c1 c2) (pq0 age c1 c2) [] :=
  Inv.good A 50 _ _ _ _ (Inv.start A) (by have := rest_le (cst0 c1 c2); unfold mu; simp only [List.length_cons, List.length_nil]; omega)
end
end Mine

/-! ## B7 -/
namespace Mine
open PySem PySem.W
set_option maxRecDepth 100000

def bit (n : Int) (t : Nat) : Bool := decide (n / 2 ^ t % 2 = 1)
abbrev four : List Nat := [0, 1, 2, 3]
def things (n : Int) : List Nat := four.filter (bit n)
def parO (o : Nat → Nat → Bool) (n : Int) : List Int := ((things n).filter fun t => (things n).all fun a => !o t a).map fun t => n - 2 ^ t
def domO (o : Nat → Nat → Bool) (n : Int) : Prop := (0 ≤ n ∧ n < 16) ∧ ∀ a ∈ four, ∀ b ∈ four, bit n a = true → o b a = true → bit n b = true
def leO (x y : Int) : Prop := ∀ t ∈ four, bit x t = true → bit y t = true
def ageO (wt : Nat → Int) (n : Int) : Int := 1 + ((things n).map wt).sum

theorem bit_sub' : ∀ n : Fin 16, ∀ t : Fin 4, bit (n.val : Int) t.val = true → (0 ≤ (n.val : Int) - 2 ^ t.val ∧ (n.val : Int) - 2 ^ t.val < 16) ∧ ∀ s : Fin 4, bit ((n.val : Int) - 2 ^ t.val) s.val = (bit (n.val : Int) s.val && decide (s ≠ t)) := by decide +kernel
theorem bit_ext' : ∀ x y : Fin 16, (∀ t : Fin 4, bit (x.val : Int) t.val = bit (y.val : Int) t.val) → x = y := by decide +kernel
theorem bit_and' : ∀ x y : Fin 16, (0 ≤ Builtin.bitAnd (x.val : Int) (y.val : Int) ∧ Builtin.bitAnd (x.val : Int) (y.val : Int) < 16) ∧ ∀ t : Fin 4, bit (Builtin.bitAnd (x.val : Int) (y.val : Int)) t.val = (bit (x.val : Int) t.val && bit (y.val : Int) t.val) := by decide +kernel

theorem four_lt {t : Nat} (h : t ∈ four) : t < 4 := by simp at h; omega
theorem fin16 {n : Int} (h : 0 ≤ n ∧ n < 16) : ∃ k : Fin 16, n = ((k.val : Nat) : Int) := fl_fin h
theorem bit_sub {n : Int} (h : 0 ≤ n ∧ n < 16) {t : Nat} (ht : t ∈ four) (hb : bit n t = true) : (0 ≤ n - 2 ^ t ∧ n - 2 ^ t < 16) ∧ ∀ s ∈ four, bit (n - 2 ^ t) s = (bit n s && decide (s ≠ t)) := by
  obtain ⟨k, rfl⟩ := fin16 h
  obtain ⟨a, b⟩ := bit_sub' k ⟨t, four_lt ht⟩ hb
  refine ⟨a, fun s hs => ?_⟩
  have := b ⟨s, four_lt hs⟩
  simpa [Fin.ext_iff] using this
theorem bit_ext {x y : Int} (hx : 0 ≤ x ∧ x < 16) (hy : 0 ≤ y ∧ y < 16) (h : ∀ t ∈ four, bit x t = bit y t) : x = y := by
  obtain ⟨k, rfl⟩ := fin16 hx
  obtain ⟨l, rfl⟩ := fin16 hy
  rw [bit_ext' k l fun t => h t.val (by have := t.isLt; simp; omega)]
theorem bit_and {x y : Int} (hx : 0 ≤ x ∧ x < 16) (hy : 0 ≤ y ∧ y < 16) : (0 ≤ Builtin.bitAnd x y ∧ Builtin.bitAnd x y < 16) ∧ ∀ t ∈ four, bit (Builtin.bitAnd x y) t = (bit x t && bit y t) := by
  obtain ⟨k, rfl⟩ := fin16 hx
  obtain ⟨l, rfl⟩ := fin16 hy
  obtain ⟨a, b⟩ := bit_and' k l
  exact ⟨a, fun t ht => b ⟨t, four_lt ht⟩⟩

def term (wt : Nat → Int) (n : Int) (t : Nat) : Int := if bit n t then wt t else 0
theorem ageO_eq (wt : Nat → Int) (n : Int) : ageO wt n = 1 + (term wt n 0 + (term wt n 1 + (term wt n 2 + term wt n 3))) := by
  unfold ageO things term
  cases h0 : bit n 0 <;> cases h1 : bit n 1 <;> cases h2 : bit n 2 <;> cases h3 : bit n 3 <;> simp [List.filter_cons, h0, h1, h2, h3] <;> omega

theorem la_O {wt : Nat → Int} (hw : ∀ t ∈ four, 1 ≤ wt t) {x y : Int} (hx : 0 ≤ x ∧ x < 16) (hy : 0 ≤ y ∧ y < 16) (hl : leO x y) (hne : x ≠ y) : ageO wt x < ageO wt y := by
  rw [ageO_eq, ageO_eq]
  have ht : ∀ t ∈ four, term wt x t ≤ term wt y t ∧ (bit x t ≠ bit y t → term wt x t < term wt y t) := fun t h => by
    have h1 := hl t h
    have h2 := hw t h
    unfold term
    cases hbx : bit x t <;> cases hby : bit y t <;> simp_all <;> omega
  have t0 := ht 0 (by simp)
  have t1 := ht 1 (by simp)
  have t2 := ht 2 (by simp)
  have t3 := ht 3 (by simp)
  by_cases e0 : bit x 0 = bit y 0
  · by_cases e1 : bit x 1 = bit y 1
    · by_cases e2 : bit x 2 = bit y 2
      · by_cases e3 : bit x 3 = bit y 3
        · exact absurd (bit_ext hx hy fun t h => by
            simp at h
            rcases h with rfl | rfl | rfl | rfl <;> assumption) hne
        · have := t3.2 e3; omega
      · have := t2.2 e2; omega
    · have := t1.2 e1; omega
  · have := t0.2 e0; omega
end Mine

/-! ## B8 -/
namespace Mine
open PySem PySem.W
set_option maxRecDepth 100000

theorem mem_parO {o : Nat → Nat → Bool} {x p : Int} : p ∈ parO o x ↔ ∃ t ∈ four, bit x t = true ∧ (∀ a ∈ four, bit x a = true → o t a = false) ∧ p = x - 2 ^ t := by
  unfold parO things
  simp only [List.mem_map, List.mem_filter, List.all_eq_true, Bool.not_eq_true']
  constructor
  · rintro ⟨t, ⟨⟨h1, h2⟩, h3⟩, rfl⟩
    exact ⟨t, h1, h2, fun a ha hb => h3 a ⟨ha, hb⟩, rfl⟩
  · rintro ⟨t, h1, h2, h3, rfl⟩
    exact ⟨t, ⟨⟨h1, h2⟩, fun a ha => h3 a ha.1 ha.2⟩, rfl⟩

theorem parO_len (o : Nat → Nat → Bool) (x : Int) : (parO o x).length ≤ 4 := by
  unfold parO things
  rw [List.length_map]
  exact Nat.le_trans (List.length_filter_le _ _) (List.length_filter_le _ _)

theorem posA_O {o : Nat → Nat → Bool} (ho : ∀ b a, o b a = true → b < a) {wt : Nat → Int} (hw : ∀ t ∈ four, 1 ≤ wt t) {c1 c2 mn : Int} (h1 : domO o c1) (h2 : domO o c2) (hmn : mn ≤ ageO wt c1) :
    PosA (ageO wt) (parO o) (domO o) leO c1 c2 (Builtin.bitAnd c1 c2) mn := by
  obtain ⟨mr, mb⟩ := bit_and h1.1 h2.1
  have dm : domO o (Builtin.bitAnd c1 c2) := ⟨mr, fun a ha b hb hba hob => by
    rw [mb a ha, Bool.and_eq_true] at hba
    rw [mb b hb, h1.2 a ha b hb hba.1 hob, h2.2 a ha b hb hba.2 hob]; rfl⟩
  have pd : ∀ x, domO o x → ∀ p ∈ parO o x, domO o p := fun x hx p hp => by
    obtain ⟨t, ht, hb, hmax, rfl⟩ := mem_parO.mp hp
    obtain ⟨r, bs⟩ := bit_sub hx.1 ht hb
    refine ⟨r, fun a ha b hbm hba hob => ?_⟩
    rw [bs a ha, Bool.and_eq_true] at hba
    rw [bs b hbm, hx.2 a ha b hbm hba.1 hob, Bool.true_and, decide_eq_true_eq]
    intro e
    rw [e, hmax a ha hba.1] at hob
    cases hob
  have ple : ∀ x, domO o x → ∀ p ∈ parO o x, leO p x := fun x hx p hp t' ht' hb' => by
    obtain ⟨t, ht, hb, _, rfl⟩ := mem_parO.mp hp
    rw [(bit_sub hx.1 ht hb).2 t' ht', Bool.and_eq_true] at hb'
    exact hb'.1
  have pne : ∀ x, domO o x → ∀ p ∈ parO o x, p ≠ x := fun x hx p hp e => by
    obtain ⟨t, ht, hb, _, rfl⟩ := mem_parO.mp hp
    have h := (bit_sub hx.1 ht hb).2 t ht
    rw [e, hb] at h
    simp at h
  exact {
    hd1 := h1
    hd2 := h2
    hdm := dm
    pd := pd
    pl := fun x _ => parO_len o x
    pa := fun x hx p hp => la_O hw (pd x hx p hp).1 hx.1 (ple x hx p hp) (pne x hx p hp)
    ple := ple
    tr := fun x y z a b t ht hb => b t ht (a t ht hb)
    la := fun x y hx hy hl hne => la_O hw hx.1 hy.1 hl hne
    ip := fun z w hz hwd hl hne => by
      have key : ∀ t ∈ four, bit z t = true → bit w t = false → (∀ a ∈ four, t < a → bit z a = true → bit w a = true) → ∃ p ∈ parO o z, leO w p := fun t ht hzt hwt hgt => by
        refine ⟨z - 2 ^ t, mem_parO.mpr ⟨t, ht, hzt, fun a ha hza => ?_, rfl⟩, fun s hs hws => ?_⟩
        · cases hob : o t a with
          | false => rfl
          | true =>
            have := hwd.2 a ha t ht (hgt a ha (ho t a hob) hza) hob
            rw [hwt] at this; cases this
        · rw [(bit_sub hz.1 ht hzt).2 s hs, hl s hs hws, Bool.true_and, decide_eq_true_eq]
          intro e
          rw [e, hwt] at hws; cases hws
      have eqb : ∀ t ∈ four, ¬ (bit z t = true ∧ bit w t = false) → bit w t = bit z t := fun t ht h => by
        have := hl t ht
        cases hz' : bit z t <;> cases hw' : bit w t <;> simp_all
      by_cases e3 : bit z 3 = true ∧ bit w 3 = false
      · exact key 3 (by simp) e3.1 e3.2 fun a ha hlt => by have := four_lt ha; omega
      by_cases e2 : bit z 2 = true ∧ bit w 2 = false
      · refine key 2 (by simp) e2.1 e2.2 fun a ha hlt hza => ?_
        have := four_lt ha
        obtain rfl : a = 3 := by omega
        rw [eqb 3 (by simp) e3]; exact hza
      by_cases e1 : bit z 1 = true ∧ bit w 1 = false
      · refine key 1 (by simp) e1.1 e1.2 fun a ha hlt hza => ?_
        have := four_lt ha
        rcases (by omega : a = 2 ∨ a = 3) with rfl | rfl
        · rw [eqb 2 (by simp) e2]; exact hza
        · rw [eqb 3 (by simp) e3]; exact hza
      by_cases e0 : bit z 0 = true ∧ bit w 0 = false
      · refine key 0 (by simp) e0.1 e0.2 fun a ha hlt hza => ?_
        have := four_lt ha
        rcases (by omega : a = 1 ∨ a = 2 ∨ a = 3) with rfl | rfl | rfl
        · rw [eqb 1 (by simp) e1]; exact hza
        · rw [eqb 2 (by simp) e2]; exact hza
        · rw [eqb 3 (by simp) e3]; exact hza
      exact absurd (bit_ext hwd.1 hz.1 fun t ht => by
        simp at ht
        rcases ht with rfl | rfl | rfl | rfl
        · exact eqb 0 (by simp) e0
        · exact eqb 1 (by simp) e1
        · exact eqb 2 (by simp) e2
        · exact eqb 3 (by simp) e3) hne
    m1 := fun t ht hb => by rw [mb t ht, Bool.and_eq_true] at hb; exact hb.1
    m2 := fun t ht hb => by rw [mb t ht, Bool.and_eq_true] at hb; exact hb.2
    mg := fun x _ a b t ht hb => by rw [mb t ht, a t ht hb, b t ht hb]; rfl
    fin := fun x hx => hx.1
    hmn := hmn
    r1 := fun _ _ h => h
    r2 := fun _ _ h => h }
end Mine

/-! ## B9 -/
namespace Mine
open PySem PySem.W
set_option maxRecDepth 100000
section
variable {o : Nat → Nat → Bool} {wt : Nat → Int} {c1 c2 : Int}
theorem age_pos (hw : ∀ t ∈ four, 1 ≤ wt t) (n : Int) : 1 ≤ ageO wt n := by
  rw [ageO_eq]
  have ht : ∀ t ∈ four, 0 ≤ term wt n t := fun t h => by
    have := hw t h
    unfold term
    split <;> omega
  have t0 := ht 0 (by simp)
  have t1 := ht 1 (by simp)
  have t2 := ht 2 (by simp)
  have t3 := ht 3 (by simp)
  omega
theorem dom_and (ho : ∀ b a, o b a = true → b < a) (hw : ∀ t ∈ four, 1 ≤ wt t) (h1 : domO o c1) (h2 : domO o c2) : domO o (Builtin.bitAnd c1 c2) :=
  (posA_O (mn := 0) ho hw h1 h2 (by have := age_pos hw c1; omega)).hdm
theorem good_mb (ho : ∀ b a, o b a = true → b < a) (hw : ∀ t ∈ four, 1 ≤ wt t) (h1 : domO o c1) (h2 : domO o c2) :
    LGood (parO o) (ageO wt) 0 (domO o) (FinR [Builtin.bitAnd c1 c2]) 50 (cst0 c1 c2) (pq0 (ageO wt) c1 c2) [] := by
  have h := lcas_good (posA_O (mn := 0) ho hw h1 h2 (by have := age_pos hw c1; omega))
  unfold resOf at h
  rw [if_pos (by have := age_pos hw (Builtin.bitAnd c1 c2); omega)] at h
  exact h
theorem good_ff (ho : ∀ b a, o b a = true → b < a) (hw : ∀ t ∈ four, 1 ≤ wt t) (h1 : domO o c1) (h2 : domO o c2) :
    ∃ res, LGood (parO o) (ageO wt) (ageO wt c1) (domO o) (FinR res) 50 (cst0 c1 c2) (pq0 (ageO wt) c1 c2) [] ∧ (res = [c1] ↔ Builtin.bitAnd c1 c2 = c1) := by
  have A := posA_O (mn := ageO wt c1) ho hw h1 h2 (Int.le_refl _)
  refine ⟨_, lcas_good A, ?_⟩
  unfold resOf
  by_cases e : Builtin.bitAnd c1 c2 = c1
  · rw [e, if_pos (Int.le_refl _)]; simp
  · have := A.la _ _ A.hdm h1 A.m1 e
    rw [if_neg (by omega)]
    simp [e]
end
end Mine

/-! ## D4 -/
namespace Mine
open PySem PySem.W PySem.Calls PyProof.Rows
open Sem (wp)
set_option maxRecDepth 100000

theorem fillK30 : ∀ w : World, PySem.Challenge.rw_bh0019_01.Holds → hd.heap_39 w.params = hd.heap_39 w.params := by
  w_top off
  first | (walk1; fail) | skip
  k_fill
  intro _ _; rfl

local macro_rules | `(tactic| k_mem) => `(tactic| assumption)
local macro_rules | `(tactic| k_room) => `(tactic| ((simp only [depth_under_make, depth_under_kw, depth_in1, depth_deeper, depth_caller, Around.in1_units, Around.deeper_units]); omega))
local macro_rules | `(tactic| k_all) => `(tactic| first | assumption | exact allNe_of (by assumption) (by omega))
local macro_rules | `(tactic| walk_at "assign Tuple") => `(tactic| (k_here; (with_reducible show wpAny _ _ (assign (Expr.Tuple _ _ _) _ (Value.ref _)) _ _ _); k_dflt (refine' unpackN_ ?k1 ?k2 ?k3 ?k4 ?k5 ?k6 ?_; (case k1 => k_asm); (case k2 => k_asm); (case k3 => (exact News.isTup (by k_asm) (by k_mem))); (case k4 => assumption); (case k5 => exact rfl); (case k6 => exact rfl); k_whole); intro h' F' N'; (try k_sweep)))
local macro_rules | `(tactic| walk_at "eval Name") => `(tactic| (k_here; kc_free; k_dflt (refine' nameX_F ?N ?c ?m ?d ?_ ?a ?b; (case a => rfl); (case b => rfl); (case N => k_asm); (case c => rfl); (case m => k_mem); (case d => k_asm); k_whole)))
local macro_rules | `(tactic| walk_at "eval Name") => `(tactic| (k_here; k_dflt (refine' nameX_L ?k1 ?k2 ?_ ?k3 ?k4 ?k5; (case k3 => rfl); (case k4 => rfl); (case k5 => decide); (case k1 => k_asm); (case k2 => assumption); k_whole)))
local macro_rules | `(tactic| walk_at "compareOp In int ref") => `(tactic| (refine d_in (by k_asm) (by k_mem) (by k_asm) (by k_asm) ?_))

local macro_rules | `(tactic| walk_at "binaryOp BitOr int int") => `(tactic| (k_here; first | with_reducible refine or12 ?_ | with_reducible refine or34 ?_))
local macro_rules | `(tactic| walk_at "eval Name") => `(tactic| (k_here; k_dflt (refine' nameX_C ?N ?c ?m ?d ?_ ?a ?b; (case b => rfl); (case c => rfl); (case N => k_asm); (case m => k_mem); (case d => k_asm); (case a => rfl); k_whole)))
local macro_rules | `(tactic| walk_at "exec Try") => `(tactic| (k_here; refine wpAny_Try_except ?_))
local macro_rules | `(tactic| walk_at "callWith ref") => `(tactic| (k_here; k_dflt (first
  | (refine' callWith_F ?k1 ?_; (case k1 => exact FnAt.of (by k_asm) (by k_mem)); k_whole)
  | (refine' callWith_F0 ?k1 ?_; (case k1 => exact FnAt.of (by k_asm) (by k_mem)); k_whole; try dsimp only [List.nil_append, List.cons_append]))))

local macro_rules | `(tactic| walk_at "truthy ref") => `(tactic| (k_here; k_dflt (refine' truthyL ?N ?m ?z ?_; (case N => k_asm); (case m => k_mem); (case z => first | assumption | exact Nat.le_of_ble_eq_true rfl))))

theorem bit_f (x : Int) (t : Nat) : bit x t = decide ((x.fdiv (2 ^ t)).fmod 2 = 1) := by
  unfold bit
  have e : (0 : Int) ≤ 2 ^ t := by
    have : (0 : Int) < 2 ^ t := Int.pow_pos (by decide)
    omega
  rw [Int.fdiv_eq_ediv_of_nonneg _ e, Int.fmod_eq_emod_of_nonneg _ (by decide)]
theorem bit_yes {x : Int} {t : Nat} (h : (x.fdiv (2 ^ t)).fmod 2 = 1) : bit x t = true := by rw [bit_f]; exact decide_eq_true h
theorem bit_no {x : Int} {t : Nat} (h : ¬ (x.fdiv (2 ^ t)).fmod 2 = 1) : ¬ bit x t = true := by rw [bit_f]; simpa using h
theorem range4 : ((List.range 4).map fun i : Nat => (i : Int)) = [0, 1, 2, 3] := by decide
theorem fm_if {α β : Type} (p : α → Bool) (g : α → β) : ∀ l : List α, (l.filterMap fun i => if p i then some (g i) else none) = (l.filter p).map g
  | [] => rfl
  | a :: l => by
    rw [List.filterMap_cons, List.filter_cons]
    cases h : p a <;> simp [fm_if p g l]
theorem fm_bits {β : Type} (x : Int) (g : Nat → β) : ((((List.range 4).map fun i : Nat => (i : Int))).filterMap fun i => if bit x i.toNat then some (g i.toNat) else none) = (things x).map g := by
  rw [List.filterMap_map]
  exact fm_if (bit x) g [0, 1, 2, 3]
section
variable {prog : Program} {w : World}
set_option maxHeartbeats 4000000 in
theorem age_spec {fd130 : FuncData} {oc130 : Value} {od130 : Option Addr} {osl130 : Array (Option Value)} {stmts : List Stmt} {aname : Str} {aparams : Arguments} {abody : List Stmt} {ascope : Scope} {apos : Pos}
   (hK : (hd.heap_39 w.params).lookup 130 = some ⟨oc130, od130, .func fd130, osl130⟩) (hst : fd130.body = .stmts stmts) (h7 : stmts[7]? = some (.FunctionDef aname aparams abody [] none [] ascope none aname apos))
   {af c' cw wl : Addr} {qual : Str} {doc pm ctv : Value} {led : List (Addr × Obj)} {oc' ocw : Obj} {cvs : Array Value} {t0 : Tok} {wvs : List Value} {wn : Nat} {wt : Nat → Int} {dom : Int → Prop}
   (hfo : (af, fnMade aname qual aparams abody ascope [("weights", cw)] doc pm c' ctv) ∈ led) (hco : (c', oc') ∈ led) (hcd : oc'.data = .fields cvs) (hcv : cvs[1]? = some (.str qual t0))
   (hcw : (cw, ocw) ∈ led) (hcwd : ocw.data = .cell (some (.ref wl))) (hwl : (wl, listOf wvs.toArray wn) ∈ led) (hwi : IntsAre wvs [wt 0, wt 1, wt 2, wt 3]) (hdom : ∀ n, dom n → 0 ≤ n ∧ n < 16) :
   AgeSpec prog w af led (ageO wt) dom := by
  intro A₀ A base h₀ outer env L m mg mb news s p loose mean E Q x t B F X T hA hf hke hh hdep hu N hled hdx h
  obtain ⟨w0, w1, w2, w3, rfl⟩ : ∃ w0 w1 w2 w3, wvs = [.int (wt 0) w0, .int (wt 1) w1, .int (wt 2) w2, .int (wt 3) w3] := by
    cases hwi with
    | cons _ w0 h1 => cases h1 with
      | cons _ w1 h2 => cases h2 with
        | cons _ w2 h3 => cases h3 with
          | cons _ w3 h4 => cases h4; exact ⟨w0, w1, w2, w3, rfl⟩
  have e130 := lk hK (by k_is)
  cases e130
  cases hst
  cases h7
  refine wpAny_call ?_
  refine code_own B F X N T hA hf hke (hled _ hfo) ⟨c', oc', cvs, t0, rfl, (N _ (hled _ hco)).1, hcd, hcv⟩ (by omega) (BindsTo.of_eq rfl) (fun _ _ => rfl) (fun n => ⟨_, rfl⟩) (by decide +kernel) ?_ rfl rfl rfl
  intro g' L' h' tk' cells' FG' F' N' Y' B' X' T' l1
  k_cells Y'
  (try simp only [List.cons_append, List.nil_append] at N')
  (try dsimp only)
  (try k_lift B')
  (try k_fold)
  rename Obj => oN
  rename oN.data = _ => hoN
  have hoN : oN.data = .cell (some (.int x t)) := hoN
  k_steps
  refine compEval (cl := [("weights", cw), ("number", L' + 1)]) (by with_unfolding_all rfl) rfl (by decide) (fun _ => rfl) ?_
  k_steps
  rename IsRange _ _ _ _ _ _ _ _ => hR9
  rename News g' _ _ _ => N9
  rename Fr g' _ _ _ => F9
  refine compR (n := 4) hh F9 N9 hR9 (by decide) (fun i => if bit x i.toNat then some (wt i.toNat) else none) (by decide) rfl rfl ?_ ?_
  · intro i hi ti I oI C oC D oD m₂ h1 tk1 E' hoC hm2 F1 N1
    clear F9 N9
    unfold TurnI
    refine tests_one ?_
    have hcw' := hled _ hcw
    have hwl' := hled _ hwl
    match i, hi with
    | 0, _ =>
      k_steps
      all_goals first | exact ⟨_, _, rfl, F1, N1⟩ | exact if_pos (bit_yes ‹_›) | exact if_neg (bit_no ‹_›)
    | 1, _ =>
      k_steps
      all_goals first | exact ⟨_, _, rfl, F1, N1⟩ | exact if_pos (bit_yes ‹_›) | exact if_neg (bit_no ‹_›)
    | 2, _ =>
      k_steps
      all_goals first | exact ⟨_, _, rfl, F1, N1⟩ | exact if_pos (bit_yes ‹_›) | exact if_neg (bit_no ‹_›)
    | 3, _ =>
      k_steps
      all_goals first | exact ⟨_, _, rfl, F1, N1⟩ | exact if_pos (bit_yes ‹_›) | exact if_neg (bit_no ‹_›)
  · intro D h2 tk2 ys F2 N2 hi2 hlt2 C m' hn hCL hDL hC₀ hCD offC
    refine post_eval F2 N2 hn hCL hC₀ hCD offC ?_
    intro h3 F3 N3
    clear F9 N9
    k_steps
    refine sumK hh F3 N3 ⟨_, (N3 _ (.head _)).1, rfl, _, rfl⟩ hi2 ?_
    intro h4 tk4 t4 F4 N4
    clear F3 N3
    rw [fm_bits]
    k_steps
    rename News h₀ _ _ _ => N9
    rename Fr h₀ _ _ _ => F9
    exact h _ _ _ F9 (fun q hq => N9 q (.tail _ (.tail _ hq)))
end
end Mine

/-! ## D8 -/
namespace Mine
open PySem PySem.W PySem.Calls PyProof.Rows
open Sem (wp)
set_option maxRecDepth 100000

theorem fillK31 : ∀ w : World, PySem.Challenge.rw_bh0019_01.Holds → hd.heap_39 w.params = hd.heap_39 w.params := by
  w_top off
  first | (walk1; fail) | skip
  k_fill
  intro _ _; rfl

local macro_rules | `(tactic| k_mem) => `(tactic| assumption)
local macro_rules | `(tactic| k_room) => `(tactic| ((simp only [depth_under_make, depth_under_kw, depth_in1, depth_deeper, depth_caller, Around.in1_units, Around.deeper_units]); omega))
local macro_rules | `(tactic| k_all) => `(tactic| first | assumption | exact allNe_of (by assumption) (by omega))
local macro_rules | `(tactic| walk_at "assign Tuple") => `(tactic| (k_here; (with_reducible show wpAny _ _ (assign (Expr.Tuple _ _ _) _ (Value.ref _)) _ _ _); k_dflt (refine' unpackN_ ?k1 ?k2 ?k3 ?k4 ?k5 ?k6 ?_; (case k1 => k_asm); (case k2 => k_asm); (case k3 => (exact News.isTup (by k_asm) (by k_mem))); (case k4 => assumption); (case k5 => exact rfl); (case k6 => exact rfl); k_whole); intro h' F' N'; (try k_sweep)))
local macro_rules | `(tactic| walk_at "eval Name") => `(tactic| (k_here; kc_free; k_dflt (refine' nameX_F ?N ?c ?m ?d ?_ ?a ?b; (case a => rfl); (case b => rfl); (case N => k_asm); (case c => rfl); (case m => k_mem); (case d => k_asm); k_whole)))
local macro_rules | `(tactic| walk_at "eval Name") => `(tactic| (k_here; k_dflt (refine' nameX_L ?k1 ?k2 ?_ ?k3 ?k4 ?k5; (case k3 => rfl); (case k4 => rfl); (case k5 => decide); (case k1 => k_asm); (case k2 => assumption); k_whole)))
local macro_rules | `(tactic| walk_at "compareOp In int ref") => `(tactic| (refine d_in (by k_asm) (by k_mem) (by k_asm) (by k_asm) ?_))

local macro_rules | `(tactic| walk_at "binaryOp BitOr int int") => `(tactic| (k_here; first | with_reducible refine or12 ?_ | with_reducible refine or34 ?_))
local macro_rules | `(tactic| walk_at "eval Name") => `(tactic| (k_here; k_dflt (refine' nameX_C ?N ?c ?m ?d ?_ ?a ?b; (case b => rfl); (case c => rfl); (case N => k_asm); (case m => k_mem); (case d => k_asm); (case a => rfl); k_whole)))
local macro_rules | `(tactic| walk_at "exec Try") => `(tactic| (k_here; refine wpAny_Try_except ?_))
local macro_rules | `(tactic| walk_at "callWith ref") => `(tactic| (k_here; k_dflt (first
  | (refine' callWith_F ?k1 ?_; (case k1 => exact FnAt.of (by k_asm) (by k_mem)); k_whole)
  | (refine' callWith_F0 ?k1 ?_; (case k1 => exact FnAt.of (by k_asm) (by k_mem)); k_whole; try dsimp only [List.nil_append, List.cons_append]))))

local macro_rules | `(tactic| walk_at "truthy ref") => `(tactic| (k_here; k_dflt (refine' truthyL ?N ?m ?z ?_; (case N => k_asm); (case m => k_mem); (case z => first | assumption | exact Nat.le_of_ble_eq_true rfl))))

theorem any_mem {l : List Int} {z : Int} (h : (l.any fun x => x == z) = true) : z ∈ l := by
  obtain ⟨y, hy, e⟩ := List.any_eq_true.mp h
  have e : y = z := by simpa using e
  exact e ▸ hy
theorem any_no {l : List Int} {z : Int} (h : (l.any fun x => x == z) = false) : ¬ z ∈ l := fun hz => by
  have : (l.any fun x => x == z) = true := List.any_eq_true.mpr ⟨z, hz, by simp⟩
  rw [h] at this; cases this
def oOf (qs : List (Int × Int)) (b a : Nat) : Bool := decide (((b : Int), (a : Int)) ∈ qs)
theorem inner_nil (qs : List (Int × Int)) (t : Nat) (l : List Nat) : (qs.filterMap fun q => if q.1 = (t : Int) ∧ q.2 ∈ l.map (fun i : Nat => (i : Int)) then some (1 : Int) else none) = [] ↔ (l.all fun a => !(oOf qs t a)) = true := by
  rw [List.filterMap_eq_nil_iff, List.all_eq_true]
  constructor
  · intro h a ha
    have : ¬ ((t : Int), (a : Int)) ∈ qs := fun hm => by
      have := h _ hm
      rw [if_pos ⟨rfl, List.mem_map.mpr ⟨a, ha, rfl⟩⟩] at this
      cases this
    unfold oOf
    simpa using this
  · intro h q hq
    refine if_neg fun ⟨h1, h2⟩ => ?_
    obtain ⟨a, ha, e⟩ := List.mem_map.mp h2
    have := h a ha
    unfold oOf at this
    have hm : ((t : Int), (a : Int)) ∈ qs := by rw [← h1, e]; exact hq
    simp [hm] at this
section
variable {prog : Program} {w : World}
set_option maxHeartbeats 4000000 in
theorem par_spec {fd130 : FuncData} {oc130 : Value} {od130 : Option Addr} {osl130 : Array (Option Value)} {stmts : List Stmt} {aname : Str} {aparams : Arguments} {abody : List Stmt} {ascope : Scope} {apos : Pos}
   (hK : (hd.heap_39 w.params).lookup 130 = some ⟨oc130, od130, .func fd130, osl130⟩) (hst : fd130.body = .stmts stmts) (h7 : stmts[6]? = some (.FunctionDef aname aparams abody [] none [] ascope none aname apos))
   {pf c' co ol : Addr} {qual : Str} {doc pm ctv : Value} {led : List (Addr × Obj)} {oc' oco : Obj} {cvs : Array Value} {t0 : Tok} {ovs : List Value} {on : Nat} {qs : List (Int × Int)} {dom : Int → Prop}
   (hfo : (pf, fnMade aname qual aparams abody ascope [("order", co)] doc pm c' ctv) ∈ led) (hco : (c', oc') ∈ led) (hcd : oc'.data = .fields cvs) (hcv : cvs[1]? = some (.str qual t0))
   (hcw : (co, oco) ∈ led) (hcwd : oco.data = .cell (some (.ref ol))) (hol : (ol, listOf ovs.toArray on) ∈ led) (hoi : PairsIn led ovs qs) (hol2 : ovs.length ≤ 10) (hdom : ∀ n, dom n → 0 ≤ n ∧ n < 16) :
   ParSpec prog w pf led (parO (oOf qs)) dom := by
  intro A₀ A base h₀ outer env L m mg mb news s p loose mean E Q x t B F X T hA hf hke hh hdep hu N hled hdx h
  have e130 := lk hK (by k_is)
  cases e130
  cases hst
  cases h7
  refine wpAny_call ?_
  refine code_own B F X N T hA hf hke (hled _ hfo) ⟨c', oc', cvs, t0, rfl, (N _ (hled _ hco)).1, hcd, hcv⟩ (by omega) (BindsTo.of_eq rfl) (fun _ _ => rfl) (fun n => ⟨_, rfl⟩) (by decide +kernel) ?_ rfl rfl rfl
  intro g' L' h' tk' cells' FG' F' N' Y' B' X' T' l1
  k_cells Y'
  (try simp only [List.cons_append, List.nil_append] at N')
  (try dsimp only)
  (try k_lift B')
  (try k_fold)
  have hcw' := hled _ hcw
  have hol' := hled _ hol
  have hoi' := hoi.mono hled
  rename_i oT oN d1 d2
  have hoN : oN.data = .cell (some (.int x t)) := by assumption
  have hoT : oT.data = .cell none := by assumption
  k_steps
  refine compEval (cl := [("number", L' + 1)]) (by with_unfolding_all rfl) rfl (by decide) (fun _ => rfl) ?_
  k_steps
  rename IsRange _ _ _ _ _ _ _ _ => hR9
  rename News g' _ _ _ => N9
  rename Fr g' _ _ _ => F9
  refine compR (n := 4) hh F9 N9 hR9 (by decide) (fun i => if bit x i.toNat then some ((i.toNat : Nat) : Int) else none) (by decide) rfl rfl ?_ ?_
  · intro i hi ti I oI C oC D oD m₂ h1 tk1 E' hoC hm2 F1 N1
    clear F9 N9
    unfold TurnI
    refine tests_one ?_
    match i, hi with
    | 0, _ =>
      k_steps
      all_goals first | exact ⟨_, _, rfl, F1, N1⟩ | exact if_pos (bit_yes ‹_›) | exact if_neg (bit_no ‹_›)
    | 1, _ =>
      k_steps
      all_goals first | exact ⟨_, _, rfl, F1, N1⟩ | exact if_pos (bit_yes ‹_›) | exact if_neg (bit_no ‹_›)
    | 2, _ =>
      k_steps
      all_goals first | exact ⟨_, _, rfl, F1, N1⟩ | exact if_pos (bit_yes ‹_›) | exact if_neg (bit_no ‹_›)
    | 3, _ =>
      k_steps
      all_goals first | exact ⟨_, _, rfl, F1, N1⟩ | exact if_pos (bit_yes ‹_›) | exact if_neg (bit_no ‹_›)
  · intro D h2 tk2 ys F2 N2 hi2 hlt2 C m' hn hCL hDL hC₀ hCD offC
    refine post_eval F2 N2 hn hCL hC₀ hCD offC ?_
    intro h3 F3 N3
    clear F9 N9
    rw [fm_bits x fun i : Nat => (i : Int)] at hi2
    k_steps
    refine storeX_C (g := fun o' => (D, LCg.lst ys) :: (L' + 1 + 1, o') :: (L' + 1, oN) :: news) F3 N3 rfl (UpdF.tail (Nat.ne_of_gt (hlt2 _ (.head _))) (UpdF.head ?u1)) hoT ?_
    case u1 =>
      intro q hq
      rcases List.mem_cons.mp hq with e | hq
      · exact e ▸ Nat.ne_of_lt (Nat.lt_succ_self _)
      · exact Nat.ne_of_lt (Nat.lt_trans (l1 q hq) (Nat.lt_trans (Nat.lt_succ_self _) (Nat.lt_succ_self _)))
    intro h4 oT4 F4 N4 hoT4
    clear F3 N3
    k_steps
    refine compEval (cl := [("things", L' + 1 + 1), ("order", co), ("number", L' + 1)]) (by with_unfolding_all rfl) rfl (by decide) (fun _ => rfl) ?_
    k_steps
    rename News g' _ _ _ => N9
    rename Fr g' _ _ _ => F9
    refine compC (vs := ys) (cap := ys.length) hh F9 N9 (.head _) hi2 ?_ (fun z => if ((things x).all fun a => !(oOf qs z.toNat a)) then some (x - 2 ^ z.toNat) else none) (fun _ => rfl) (fun _ => rfl) (fun _ _ => rfl) (fun _ _ => rfl) ?_ ?_
    · rw [hi2.length, List.length_map]
      exact Nat.le_trans (List.length_filter_le _ _) (by decide)
    · intro z hz tz I oI C5 oC5 D5 oD5 K oK h5 tk5 E5 hoK F5 N5
      clear F9 N9
      obtain ⟨t9, ht9, rfl⟩ := List.mem_map.mp hz
      have ht4 : (t9 : Int) < 4 := by
        have h4 : t9 < 4 := four_lt (List.mem_filter.mp ht9).1
        omega
      unfold TurnI
      refine tests_one (wpAny_isTrue_Compare1 ?_)
      refine compEval (cl := [("things", L' + 1 + 1), ("thing", K)]) (by with_unfolding_all rfl) rfl (by decide) (fun _ => rfl) ?_
      k_steps
      rename News g' _ _ _ => N9
      rename Fr g' _ _ _ => F9
      refine compP (l := ol) (vs := ovs) (cap := on) hh F9 N9 (List.mem_cons_of_mem _ (List.mem_cons_of_mem _ (List.mem_cons_of_mem _ (List.mem_cons_of_mem _ (List.mem_cons_of_mem _ (List.mem_cons_of_mem _ (List.mem_cons_of_mem _ hol'))))))) (hoi'.mono fun q hq => List.mem_cons_of_mem _ (List.mem_cons_of_mem _ (List.mem_cons_of_mem _ (List.mem_cons_of_mem _ (List.mem_cons_of_mem _ (List.mem_cons_of_mem _ (List.mem_cons_of_mem _ hq))))))) (by omega)
        (fun q => if q.1 = (t9 : Int) ∧ q.2 ∈ (things x).map (fun i : Nat => (i : Int)) then some 1 else none) (by decide) rfl rfl rfl (by decide) ?_ ?_
      · intro q hq ta tb I6 oI6 C6 oC6 D6 oD6 m6 h6 tk6 E6 hoC6 hma hmb F6 N6
        clear F9 N9
        unfold TurnI
        refine tests_one ?_
        k_steps
        all_goals first | exact ⟨_, _, rfl, F6, N6⟩ | exact if_pos ⟨‹_›, any_mem ‹_›⟩ | exact if_neg (fun h => any_no ‹_› h.2) | exact if_neg (fun h => absurd h.1 ‹_›)
      · intro D7 h7 tk7 ys7 F7 N7 hi7 hlt7 C7 m7 hn7 hCL7 hDL7 hC₀7 hCD7 offC7
        refine post_eval F7 N7 hn7 hCL7 hC₀7 hCD7 offC7 ?_
        intro h8 F8 N8
        clear F7 N7
        have hu8 : (A.deeper (envX qual default L' pf (.ref c') [])).units + 64 < cLine := by k_room
        k_steps
        all_goals first
          | (rename News g' _ _ _ => N9; rename Fr g' _ _ _ => F9; exact ⟨_, _, rfl, F9, fun q hq => N9 q (.tail _ (.tail _ hq))⟩)
          | exact if_pos ((inner_nil qs t9 (things x)).mp (of_decide_eq_true ‹_›))
          | exact if_neg (fun h => of_decide_eq_false ‹_› ((inner_nil qs t9 (things x)).mpr h))
    · intro D7 h7 tk7 ys7 F7 N7 hi7 hlt7 C7 m7 hn7 hCL7 hDL7 hC₀7 hCD7 offC7
      refine post_eval F7 N7 hn7 hCL7 hC₀7 hCD7 offC7 ?_
      intro h8 F8 N8
      clear F9 N9 F7 N7
      have hi8 : IntsAre ys7.toArray.toList (parO (oOf qs) x) := by
        have e : ((things x).map fun i : Nat => (i : Int)).filterMap (fun z => if ((things x).all fun a => !(oOf qs z.toNat a)) then some (x - 2 ^ z.toNat) else none) = parO (oOf qs) x := by
          rw [List.filterMap_map]
          exact fm_if (fun t => (things x).all fun a => !(oOf qs t a)) (fun t => x - 2 ^ t) (things x)
        rw [← e]
        exact hi7
      k_steps
      rename News h₀ _ _ _ => N9
      rename Fr h₀ _ _ _ => F9
      refine h _ _ D7 ys7.toArray ys7.length F9 (fun q hq => N9 q ?_) hi8 (fun q hq => hlt7 q (.tail _ (.tail _ (.tail _ hq))))
      rcases List.mem_cons.mp hq with e | hq
      · exact e ▸ .head _
      · exact .tail _ (.tail _ (.tail _ (.tail _ hq)))
end
end Mine

/-! ## LA -/
namespace Mine
open PySem PySem.W PySem.Calls PyProof.Rows
open Sem (wp)
set_option maxRecDepth 100000

theorem fillK40 : ∀ w : World, PySem.Challenge.rw_bh0019_01.Holds → hd.heap_39 w.params = hd.heap_39 w.params := by
  w_top off
  first | (walk1; fail) | skip
  k_fill
  intro _ _; rfl

local macro_rules | `(tactic| k_mem) => `(tactic| assumption)
local macro_rules | `(tactic| k_room) => `(tactic| ((simp only [depth_under_make, depth_under_kw, depth_in1, depth_deeper, depth_caller, Around.in1_units, Around.deeper_units]); omega))
local macro_rules | `(tactic| k_all) => `(tactic| first | assumption | exact allNe_of (by assumption) (by omega))
local macro_rules | `(tactic| walk_at "assign Tuple") => `(tactic| (k_here; (with_reducible show wpAny _ _ (assign (Expr.Tuple _ _ _) _ (Value.ref _)) _ _ _); k_dflt (refine' unpackN_ ?k1 ?k2 ?k3 ?k4 ?k5 ?k6 ?_; (case k1 => k_asm); (case k2 => k_asm); (case k3 => (exact News.isTup (by k_asm) (by k_mem))); (case k4 => assumption); (case k5 => exact rfl); (case k6 => exact rfl); k_whole); intro h' F' N'; (try k_sweep)))
local macro_rules | `(tactic| walk_at "eval Name") => `(tactic| (k_here; kc_free; k_dflt (refine' nameX_F ?N ?c ?m ?d ?_ ?a ?b; (case a => rfl); (case b => rfl); (case N => k_asm); (case c => rfl); (case m => k_mem); (case d => k_asm); k_whole)))
local macro_rules | `(tactic| walk_at "eval Name") => `(tactic| (k_here; k_dflt (refine' nameX_L ?k1 ?k2 ?_ ?k3 ?k4 ?k5; (case k3 => rfl); (case k4 => rfl); (case k5 => decide); (case k1 => k_asm); (case k2 => assumption); k_whole)))
local macro_rules | `(tactic| walk_at "compareOp In int ref") => `(tactic| (refine d_in (by k_asm) (by k_mem) (by k_asm) (by k_asm) ?_))

local macro_rules | `(tactic| walk_at "binaryOp BitOr int int") => `(tactic| (k_here; first | with_reducible refine or12 ?_ | with_reducible refine or34 ?_))
local macro_rules | `(tactic| walk_at "eval Name") => `(tactic| (k_here; k_dflt (refine' nameX_C ?N ?c ?m ?d ?_ ?a ?b; (case b => rfl); (case c => rfl); (case N => k_asm); (case m => k_mem); (case d => k_asm); (case a => rfl); k_whole)))
local macro_rules | `(tactic| walk_at "exec Try") => `(tactic| (k_here; refine wpAny_Try_except ?_))
local macro_rules | `(tactic| walk_at "callWith ref") => `(tactic| (k_here; k_dflt (first
  | (refine' callWith_F ?k1 ?_; (case k1 => exact FnAt.of (by k_asm) (by k_mem)); k_whole)
  | (refine' callWith_F0 ?k1 ?_; (case k1 => exact FnAt.of (by k_asm) (by k_mem)); k_whole; try dsimp only [List.nil_append, List.cons_append]))))

local macro_rules | `(tactic| walk_at "truthy ref") => `(tactic| (k_here; k_dflt (refine' truthyL ?N ?m ?z ?_; (case N => k_asm); (case m => k_mem); (case z => first | assumption | exact Nat.le_of_ble_eq_true rfl))))

section
variable {prog : Program} {w : World} {A₀ A : Around} {base h₀ : Heap} {outer : List Env} {L fa : Addr} {m mg mb : Str → Option Value} {s : Shared} {news : List (Addr × Obj)}
  {p : Program} {loose : List Str} {mean : ExcName → Option Value} {E : Value → Shared → Prop} {Q : Flow → Shared → Prop}
  {fd130 : FuncData} {oc130 : Value} {od130 : Option Addr} {osl130 : Array (Option Value)} {stmts : List Stmt}

set_option maxHeartbeats 4000000 in
theorem law_pairs (hK : (hd.heap_39 w.params).lookup 130 = some ⟨oc130, od130, .func fd130, osl130⟩) (hst : fd130.body = .stmts stmts)
   (B : Below A₀ base outer h₀) (X : (hd.heap_39 w.params).In h₀) (T : Top p loose mean mg mb h₀)
   (hA : A.frames = some (envOfC fd130.qualname fd130.scope L fa (.ref 129) :: outer)) (hh : A.handled = none) (hdep : A.depth + 130 < recursionLimit) (hu : A.units + 400 < cLine)
   (F : Fr h₀ L s.heap m) (N : News h₀ L s.heap news)
   (h : ∀ D h' tk ys tups, Fr h₀ L h' (fun z => if z = Str.ofString "pairs" then some (.ref D) else m z) → News h₀ L h' ((D, LCg.lst ys) :: (tups ++ news)) → PairsIn tups ys (preP 4) → (∀ q ∈ news, q.1 < D) → (∀ p ∈ tups, ∀ q ∈ news, q.1 < p.1) → (∀ p ∈ tups, p.1 ≠ D) →
      wpAny (model prog w) A (execs (stmts.drop 1) (envOfC fd130.qualname fd130.scope L fa (.ref 129))) Q E { s with heap := h', toks := tk }) :
   wpAny (model prog w) A (execs stmts (envOfC fd130.qualname fd130.scope L fa (.ref 129))) Q E s := by
  have e130 := lk hK (by k_is)
  cases e130
  cases hst
  simp only [List.drop_succ_cons, List.drop_zero] at h
  (try dsimp only at hA h ⊢)
  refine wpAny_execs_cons ?_
  refine compAssign2 (cl := []) (by rfl) (by with_unfolding_all rfl) rfl (by decide) (fun _ => rfl) ?_
  k_steps
  rename IsRange _ _ _ _ _ _ _ _ => hR9
  rename News h₀ _ _ _ => N9
  rename Fr h₀ _ _ _ => F9
  refine comp2 (n := 4) hh F9 N9 hR9 (by decide) (by decide) (by decide) rfl rfl rfl (by decide) (fun _ _ => rfl) ?_ ?_ ?_
  · intro i hi t I oI C oC D oD m₂ h1 tk1 nw E' hoC hm1 F1 N1
    clear F9 N9
    k_steps
    all_goals assumption
  · intro i hi j hj ti tj I2 I C D oI2 oI oC oD m₃ h1 tk1 nw E' hoC hm1 hm2 F1 N1
    clear F9 N9
    k_steps
    rename News h₀ _ _ _ => N9
    rename Fr h₀ _ _ _ => F9
    rename _ ∧ _ ∧ _ ∧ _ ∧ AllLt _ _ => l9
    refine ⟨_, _, _, _, _, _, _, rfl, rfl, rfl, rfl, F9, N9, ?_⟩
    exact allLt_mem (by exact l9)
  · intro D h1 tk1 ys tups F1 N1 hP hDn hD hab C m' hn hCL hDL hC₀ hCD offC
    refine post_assign (L := L) ?a1 ?a2 ?a3 F1 N1 hn hCL hC₀ hCD offC ?_
    case a1 => rfl
    case a2 => rfl
    case a3 => rfl
    intro h2 tk2 F2 N2
    exact h D h2 tk2 ys tups F2 N2 hP hD hab (fun p hp => hDn p (List.mem_append_left _ hp))
end
end Mine

/-! ## LB -/
namespace Mine
open PySem PySem.W PySem.Calls PyProof.Rows
open Sem (wp)
set_option maxRecDepth 100000

theorem fillK41 : ∀ w : World, PySem.Challenge.rw_bh0019_01.Holds → hd.heap_39 w.params = hd.heap_39 w.params := by
  w_top off
  first | (walk1; fail) | skip
  k_fill
  intro _ _; rfl

local macro_rules | `(tactic| k_mem) => `(tactic| assumption)
local macro_rules | `(tactic| k_room) => `(tactic| ((simp only [depth_under_make, depth_under_kw, depth_in1, depth_deeper, depth_caller, Around.in1_units, Around.deeper_units]); omega))
local macro_rules | `(tactic| k_all) => `(tactic| first | assumption | exact allNe_of (by assumption) (by omega))
local macro_rules | `(tactic| walk_at "assign Tuple") => `(tactic| (k_here; (with_reducible show wpAny _ _ (assign (Expr.Tuple _ _ _) _ (Value.ref _)) _ _ _); k_dflt (refine' unpackN_ ?k1 ?k2 ?k3 ?k4 ?k5 ?k6 ?_; (case k1 => k_asm); (case k2 => k_asm); (case k3 => (exact News.isTup (by k_asm) (by k_mem))); (case k4 => assumption); (case k5 => exact rfl); (case k6 => exact rfl); k_whole); intro h' F' N'; (try k_sweep)))
local macro_rules | `(tactic| walk_at "eval Name") => `(tactic| (k_here; kc_free; k_dflt (refine' nameX_F ?N ?c ?m ?d ?_ ?a ?b; (case a => rfl); (case b => rfl); (case N => k_asm); (case c => rfl); (case m => k_mem); (case d => k_asm); k_whole)))
local macro_rules | `(tactic| walk_at "eval Name") => `(tactic| (k_here; k_dflt (refine' nameX_L ?k1 ?k2 ?_ ?k3 ?k4 ?k5; (case k3 => rfl); (case k4 => rfl); (case k5 => decide); (case k1 => k_asm); (case k2 => assumption); k_whole)))
local macro_rules | `(tactic| walk_at "compareOp In int ref") => `(tactic| (refine d_in (by k_asm) (by k_mem) (by k_asm) (by k_asm) ?_))

local macro_rules | `(tactic| walk_at "binaryOp BitOr int int") => `(tactic| (k_here; first | with_reducible refine or12 ?_ | with_reducible refine or34 ?_))
local macro_rules | `(tactic| walk_at "eval Name") => `(tactic| (k_here; k_dflt (refine' nameX_C ?N ?c ?m ?d ?_ ?a ?b; (case b => rfl); (case c => rfl); (case N => k_asm); (case m => k_mem); (case d => k_asm); (case a => rfl); k_whole)))
local macro_rules | `(tactic| walk_at "exec Try") => `(tactic| (k_here; refine wpAny_Try_except ?_))
local macro_rules | `(tactic| walk_at "callWith ref") => `(tactic| (k_here; k_dflt (first
  | (refine' callWith_F ?k1 ?_; (case k1 => exact FnAt.of (by k_asm) (by k_mem)); k_whole)
  | (refine' callWith_F0 ?k1 ?_; (case k1 => exact FnAt.of (by k_asm) (by k_mem)); k_whole; try dsimp only [List.nil_append, List.cons_append]))))

local macro_rules | `(tactic| walk_at "truthy ref") => `(tactic| (k_here; k_dflt (refine' truthyL ?N ?m ?z ?_; (case N => k_asm); (case m => k_mem); (case z => first | assumption | exact Nat.le_of_ble_eq_true rfl))))

theorem stopComp {M : Model} {A : Around} {E : Value → Shared → Prop} {s : Shared} {e : PySem.Expr} {g : List Comprehension} {sc : Scope} {ps : Pos} {env : Env} {Q : Value → Shared → Prop} (h : Stop (wpAny M A (eval (.ListComp e g sc ps) env) Q E s)) : wpAny M A (eval (.ListComp e g sc ps) env) Q E s := h
local macro_rules | `(tactic| walk_at "eval ListComp") => `(tactic| (refine stopComp ?_))
def wtS (sc : List Int) (t : Nat) : Int := 1 + (lawAt sc (4 + (t : Int)) (t : Int)).fmod 50
theorem store_cell {M : Model} {A : Around} {E : Value → Shared → Prop} {s : Shared} {h₀ : Heap} {L a c : Addr} {m : Str → Option Value} {led : List (Addr × Obj)} {cn x : Str} {cs : Scope} {ccd v : Value} {cl : List (Str × Addr)} {o : Obj} {v₀ : Option Value} {Q : Unit → Shared → Prop}
    (F : Fr h₀ L s.heap m) (N : News h₀ L s.heap led) (hc : cl.lookup x = some c) (hm : (c, o) ∈ led) (hd : o.data = .cell v₀)
    (h : ∀ h' o', Fr h₀ L h' m → (∀ led', (∀ q ∈ led', q ∈ led ∧ q.1 ≠ c) → News h₀ L h' ((c, o') :: led')) → o'.data = .cell (some v) → Q () { s with heap := h' })
    (hk : cs.kind = .function := by rfl) (hx : (envX cn cs L a ccd cl).kindOf x = some .cell := by rfl) : wpAny M A (storeName (envX cn cs L a ccd cl) x v) Q E s := by
  have z := N _ hm
  refine wpAny_storeName_cell hk hx hc ⟨o, z.1, hd⟩ fun h' hv hs => ?_
  obtain ⟨o', ho', hd'⟩ := hv
  refine h h' o' (F.change hs z.2.1 z.2.2) (fun led' hled q hq => ?_) hd'
  rcases List.mem_cons.mp hq with rfl | hq
  · exact ⟨ho', z.2⟩
  · have y := hled q hq
    have zz := N q y.1
    exact ⟨hs.extBut _ _ y.2 zz.1, zz.2⟩
section
variable {prog : Program} {w : World} {A₀ A : Around} {base h₀ : Heap} {outer : List Env} {L fa : Addr} {m mg mb : Str → Option Value} {s : Shared} {news : List (Addr × Obj)}
  {p : Program} {loose : List Str} {mean : ExcName → Option Value} {E : Value → Shared → Prop} {Q : Flow → Shared → Prop}
  {fd130 : FuncData} {oc130 : Value} {od130 : Option Addr} {osl130 : Array (Option Value)} {stmts : List Stmt}

set_option maxHeartbeats 4000000 in
theorem law_weights (hK : (hd.heap_39 w.params).lookup 130 = some ⟨oc130, od130, .func fd130, osl130⟩) (hst : fd130.body = .stmts stmts)
   (B : Below A₀ base outer h₀) (X : (hd.heap_39 w.params).In h₀) (T : Top p loose mean mg mb h₀)
   (hA : A.frames = some (envOfC fd130.qualname fd130.scope L fa (.ref 129) :: outer)) (hh : A.handled = none) (hdep : A.depth + 130 < recursionLimit) (hu : A.units + 400 < cLine)
   {led : List (Addr × Obj)} {oSc oW : Obj} {sl : Addr} {vs : List Value} {sc : List Int}
   (hsc : (L + 1, oSc) ∈ led) (hscd : oSc.data = .cell (some (.ref sl))) (hl : h₀.IsList sl vs.toArray) (hi : IntsAre vs sc) (hlen : vs.length ≤ 63) (hW : (L + 1 + 1 + 1 + 1 + 1 + 1 + 1 + 1, oW) ∈ led) (hWd : oW.data = .cell none)
   (F : Fr h₀ L s.heap m) (N : News h₀ L s.heap led)
   (h : ∀ D h' tk ys oW', Fr h₀ L h' m → (∀ led', (∀ q ∈ led', q ∈ led ∧ q.1 ≠ L + 1 + 1 + 1 + 1 + 1 + 1 + 1 + 1) → News h₀ L h' ((D, LCg.lst ys) :: (L + 1 + 1 + 1 + 1 + 1 + 1 + 1 + 1, oW') :: led')) → oW'.data = .cell (some (.ref D)) → IntsAre ys [wtS sc 0, wtS sc 1, wtS sc 2, wtS sc 3] → (∀ q ∈ led, q.1 < D) →
      wpAny (model prog w) A (execs (stmts.drop 2) (envOfC fd130.qualname fd130.scope L fa (.ref 129))) Q E { s with heap := h', toks := tk }) :
   wpAny (model prog w) A (execs (stmts.drop 1) (envOfC fd130.qualname fd130.scope L fa (.ref 129))) Q E s := by
  have e130 := lk hK (by k_is)
  cases e130
  cases hst
  simp only [List.drop_succ_cons, List.drop_zero] at h ⊢
  (try dsimp only at hA h ⊢)
  refine execs_split (xs := [_]) ?_
  k_steps
  show wpAny _ _ _ _ _ _
  refine compEval (cl := [("script", L + 1)]) (by with_unfolding_all rfl) rfl (by decide) (fun _ => rfl) ?_
  k_steps
  rename IsRange _ _ _ _ _ _ _ _ => hR9
  rename News h₀ _ _ _ => N9
  rename Fr h₀ _ _ _ => F9
  refine compR (n := 4) hh F9 N9 hR9 (by decide) (fun i => some (1 + (lawAt sc (4 + i) i).fmod 50)) (by decide) rfl rfl ?_ ?_
  · intro i hi2 ti I oI C oC D oD m₂ h1 tk1 E' hoC hm2 F1 N1
    clear F9 N9
    unfold TurnI
    refine tests_nil ?_
    rw [if_pos rfl]
    k_steps
    refine lawat_spec B F1 X T hA rfl rfl hh (by omega) (by omega) N1 hl hi (by omega) (by omega) (by omega) ?_
    intro h3 tk3 u3 F3 N3
    clear F1 N1
    k_steps
    exact ⟨_, _, rfl, F3, N3⟩
  · intro D h1 tk1 ys F1 N1 hy hD C m' hn hCL hDL hC₀ hCD offC
    refine post_eval F1 N1 hn hCL hC₀ hCD offC ?_
    intro h2 F2 N2
    clear F9 N9 F1 N1
    k_steps
    refine store_cell F2 N2 rfl (.tail _ hW) hWd ?_
    intro h4 oW4 F4 N4 hoW4
    clear F2 N2
    k_steps
    show wpAny _ _ _ _ _ _
    refine h D h4 _ ys oW4 F4 (fun led' hled => ?_) hoW4 hy hD
    refine fun q hq => N4 ((D, LCg.lst ys) :: led') (fun q hq => ?_) q (by grind)
    rcases List.mem_cons.mp hq with e | hq
    · subst e; exact ⟨.head _, Nat.ne_of_gt (hD _ hW)⟩
    · exact ⟨.tail _ (hled q hq).1, (hled q hq).2⟩
end
end Mine

/-! ## LC -/
namespace Mine
open PySem PySem.W PySem.Calls PyProof.Rows
open Sem (wp)
set_option maxRecDepth 100000

theorem fillK42 : ∀ w : World, PySem.Challenge.rw_bh0019_01.Holds → hd.heap_39 w.params = hd.heap_39 w.params := by
  w_top off
  first | (walk1; fail) | skip
  k_fill
  intro _ _; rfl

local macro_rules | `(tactic| k_mem) => `(tactic| assumption)
local macro_rules | `(tactic| k_room) => `(tactic| ((simp only [depth_under_make, depth_under_kw, depth_in1, depth_deeper, depth_caller, Around.in1_units, Around.deeper_units]); omega))
local macro_rules | `(tactic| k_all) => `(tactic| first | assumption | exact allNe_of (by assumption) (by omega))
local macro_rules | `(tactic| walk_at "assign Tuple") => `(tactic| (k_here; (with_reducible show wpAny _ _ (assign (Expr.Tuple _ _ _) _ (Value.ref _)) _ _ _); k_dflt (refine' unpackN_ ?k1 ?k2 ?k3 ?k4 ?k5 ?k6 ?_; (case k1 => k_asm); (case k2 => k_asm); (case k3 => (exact News.isTup (by k_asm) (by k_mem))); (case k4 => assumption); (case k5 => exact rfl); (case k6 => exact rfl); k_whole); intro h' F' N'; (try k_sweep)))
local macro_rules | `(tactic| walk_at "eval Name") => `(tactic| (k_here; kc_free; k_dflt (refine' nameX_F ?N ?c ?m ?d ?_ ?a ?b; (case a => rfl); (case b => rfl); (case N => k_asm); (case c => rfl); (case m => k_mem); (case d => k_asm); k_whole)))
local macro_rules | `(tactic| walk_at "eval Name") => `(tactic| (k_here; k_dflt (refine' nameX_L ?k1 ?k2 ?_ ?k3 ?k4 ?k5; (case k3 => rfl); (case k4 => rfl); (case k5 => decide); (case k1 => k_asm); (case k2 => assumption); k_whole)))
local macro_rules | `(tactic| walk_at "compareOp In int ref") => `(tactic| (refine d_in (by k_asm) (by k_mem) (by k_asm) (by k_asm) ?_))

local macro_rules | `(tactic| walk_at "binaryOp BitOr int int") => `(tactic| (k_here; first | with_reducible refine or12 ?_ | with_reducible refine or34 ?_))
local macro_rules | `(tactic| walk_at "eval Name") => `(tactic| (k_here; k_dflt (refine' nameX_C ?N ?c ?m ?d ?_ ?a ?b; (case b => rfl); (case c => rfl); (case N => k_asm); (case m => k_mem); (case d => k_asm); (case a => rfl); k_whole)))
local macro_rules | `(tactic| walk_at "exec Try") => `(tactic| (k_here; refine wpAny_Try_except ?_))
local macro_rules | `(tactic| walk_at "callWith ref") => `(tactic| (k_here; k_dflt (first
  | (refine' callWith_F ?k1 ?_; (case k1 => exact FnAt.of (by k_asm) (by k_mem)); k_whole)
  | (refine' callWith_F0 ?k1 ?_; (case k1 => exact FnAt.of (by k_asm) (by k_mem)); k_whole; try dsimp only [List.nil_append, List.cons_append]))))

local macro_rules | `(tactic| walk_at "truthy ref") => `(tactic| (k_here; k_dflt (refine' truthyL ?N ?m ?z ?_; (case N => k_asm); (case m => k_mem); (case z => first | assumption | exact Nat.le_of_ble_eq_true rfl))))

local macro_rules | `(tactic| walk_at "eval ListComp") => `(tactic| (refine stopComp ?_))
local macro_rules | `(tactic| walk_at "exec Assign cons ListComp") => `(tactic| (refine wpAny_Assign_Name ?_))
theorem PairsIn.sel {nw : List (Addr × Obj)} {vs : List Value} {qs : List (Int × Int)} (p : Nat → Bool) (P : PairsIn nw vs qs) : ∀ n, PairsIn nw (selI p vs n) (selI p qs n)
  | 0 => PairsIn.nil
  | n + 1 => by
    have ih := PairsIn.sel p P n
    by_cases h : n < qs.length
    · obtain ⟨a, o, t, u, nt, h1, h2, h3, h4⟩ := P.2 n qs[n] (List.getElem?_eq_getElem h)
      rw [selI_succ p vs n h1, selI_succ p qs n (List.getElem?_eq_getElem h)]
      cases hp : p n
      · simpa using ih
      · simpa using ih.snoc h2 h3 h4
    · have e1 : qs[n]? = none := List.getElem?_eq_none (by omega)
      have e2 : vs[n]? = none := List.getElem?_eq_none (by rw [P.1]; omega)
      have f1 : selI p vs (n + 1) = selI p vs n := by
        unfold selI; rw [List.range_succ, List.filterMap_append]; cases hp : p n <;> simp [hp, e2]
      have f2 : selI p qs (n + 1) = selI p qs n := by
        unfold selI; rw [List.range_succ, List.filterMap_append]; cases hp : p n <;> simp [hp, e1]
      rw [f1, f2]; exact ih
def drBit (dr : Int) (k : Nat) : Bool := decide ((dr.fdiv (2 ^ k)).fmod 2 = 1)
def ordL (dr : Int) : List (Int × Int) := selI (drBit dr) (preP 4) 6
section
variable {prog : Program} {w : World} {A₀ A : Around} {base h₀ : Heap} {outer : List Env} {L fa : Addr} {m mg mb : Str → Option Value} {s : Shared} {news : List (Addr × Obj)}
  {p : Program} {loose : List Str} {mean : ExcName → Option Value} {E : Value → Shared → Prop} {Q : Flow → Shared → Prop}
  {fd130 : FuncData} {oc130 : Value} {od130 : Option Addr} {osl130 : Array (Option Value)} {stmts : List Stmt}

set_option maxHeartbeats 4000000 in
theorem law_order (hK : (hd.heap_39 w.params).lookup 130 = some ⟨oc130, od130, .func fd130, osl130⟩) (hst : fd130.body = .stmts stmts)
   (B : Below A₀ base outer h₀) (X : (hd.heap_39 w.params).In h₀) (T : Top p loose mean mg mb h₀)
   (hA : A.frames = some (envOfC fd130.qualname fd130.scope L fa (.ref 129) :: outer)) (hh : A.handled = none) (hdep : A.depth + 130 < recursionLimit) (hu : A.units + 400 < cLine)
   {led : List (Addr × Obj)} {oSc oDr oO : Obj} {sl pl : Addr} {vs ys : List Value} {sc : List Int}
   (hsc : (L + 1, oSc) ∈ led) (hscd : oSc.data = .cell (some (.ref sl))) (hl : h₀.IsList sl vs.toArray) (hi : IntsAre vs sc) (hlen : vs.length ≤ 63) (hDr : (L + 1 + 1 + 1, oDr) ∈ led) (hDrd : oDr.data = .cell none) (hO : (L + 1 + 1 + 1 + 1 + 1 + 1 + 1, oO) ∈ led) (hOd : oO.data = .cell none)
   (hpl : (pl, LCg.lst ys) ∈ led) (hP : PairsIn led ys (preP 4)) (m_p : m (Str.ofString "pairs") = some (.ref pl)) (htup : ∀ q ∈ led, (∃ its n, q.2.data = .seq its n) → q.1 ≠ L + 1 + 1 + 1)  (hpl3 : pl ≠ L + 1 + 1 + 1) (h13 : L + 1 ≠ L + 1 + 1 + 1) (h73 : L + 1 + 1 + 1 + 1 + 1 + 1 + 1 ≠ L + 1 + 1 + 1)
   (F : Fr h₀ L s.heap m) (N : News h₀ L s.heap led)
   (h : ∀ D h' tk td oDr' oO', Fr h₀ L h' m → (∀ led', (∀ q ∈ led', q ∈ led ∧ q.1 ≠ L + 1 + 1 + 1 ∧ q.1 ≠ L + 1 + 1 + 1 + 1 + 1 + 1 + 1) → News h₀ L h' ((D, LCg.lst (selI (drBit (lawAt sc 0 2)) ys 6)) :: (L + 1 + 1 + 1 + 1 + 1 + 1 + 1, oO') :: (L + 1 + 1 + 1, oDr') :: led')) → oO'.data = .cell (some (.ref D)) → oDr'.data = .cell (some (.int (lawAt sc 0 2) td)) → (∀ q ∈ led, q.1 ≠ L + 1 + 1 + 1 → q.1 < D) →
      wpAny (model prog w) A (execs (stmts.drop 4) (envOfC fd130.qualname fd130.scope L fa (.ref 129))) Q E { s with heap := h', toks := tk }) :
   wpAny (model prog w) A (execs (stmts.drop 2) (envOfC fd130.qualname fd130.scope L fa (.ref 129))) Q E s := by
  have e130 := lk hK (by k_is)
  cases e130
  cases hst
  simp only [List.drop_succ_cons, List.drop_zero] at h ⊢
  (try dsimp only at hA h ⊢)
  refine execs_split (xs := [_, _]) ?_
  k_steps
  refine lawat_spec (s := { s with toks := s.toks + 1 + 1 }) B F X T hA rfl rfl hh (by omega) (by omega) N hl hi (by omega) (by omega) (by omega) ?_
  intro h1 tk1 u1 F1 N1
  k_steps
  refine store_cell F1 N1 rfl hDr hDrd ?_
  intro h2 oD2 F2 N2 hoD2
  clear F1 N1
  classical
  have N3 := N2 (led.filter fun q => q.1 ≠ L + 1 + 1 + 1) (fun q hq => by simpa using List.mem_filter.mp hq)
  have hsub : ∀ q, q ∈ led → q.1 ≠ L + 1 + 1 + 1 → q ∈ led.filter fun q => q.1 ≠ L + 1 + 1 + 1 := fun q h1 h2 => List.mem_filter.mpr ⟨h1, by simpa using h2⟩
  generalize hL1 : (led.filter fun q => q.1 ≠ L + 1 + 1 + 1) = led1 at N3 hsub
  have hP3 : PairsIn ((L + 1 + 1 + 1, oD2) :: led1) ys (preP 4) := ⟨hP.1, fun i q e => by
    obtain ⟨a, o, t, u, nt, h1, h2, h3, h4⟩ := hP.2 i q e
    exact ⟨a, o, t, u, nt, h1, .tail _ (hsub _ h2 (htup _ h2 ⟨_, _, h4⟩)), h3, h4⟩⟩
  have hpl2 := hsub _ hpl hpl3
  clear N2 hL1
  refine wpAny_execs_cons ?_
  refine wpAny_Assign_Name ?_
  refine compEval (cl := [("drawn", L + 1 + 1 + 1)]) (by with_unfolding_all rfl) rfl (by decide) (fun _ => rfl) ?_
  k_steps
  rename News h₀ _ _ _ => N9
  rename Fr h₀ _ _ _ => F9
  refine compE (l := pl) (vs := ys) (cap := ys.length) hh F9 N9 (.tail _ hpl2) (by rw [hP.1]; decide) (drBit (lawAt sc 0 2)) (by decide) rfl rfl rfl (by decide) ?_ ?_
  · intro j v hv t e oe it oit C oC D oD m₂ h3 tk3 E' hoC hk1 hk2 F3 N3
    clear F9 N9
    have hj6 : (j : Int) < 6 := by
      have h1 := (List.getElem?_eq_some_iff.mp hv).1
      have h2 : (preP 4).length = 6 := by decide
      rw [hP.1, h2] at h1
      omega
    refine tests_one ?_
    k_steps
    all_goals first | exact ⟨_, _, rfl, F3, N3⟩ | exact decide_eq_true ‹_› | exact decide_eq_false ‹_›
  · intro D h3 tk3 F3 N3 hD C m' hn hCL hDL hC₀ hCD offC
    refine post_eval F3 N3 hn hCL hC₀ hCD offC ?_
    intro h4 F4 N4
    clear F9 N9 F3 N3
    have hO1 := hsub _ hO h73
    refine store_cell F4 N4 rfl (.tail _ (.tail _ hO1)) hOd ?_
    intro h5 oO5 F5 N5 hoO5
    clear F4 N4
    k_steps
    show wpAny _ _ _ _ _ _
    rw [show ys.length = 6 by rw [hP.1]; decide] at N5
    refine h D h5 _ u1 oD2 oO5 F5 (fun led' hled => ?_) hoO5 hoD2 (fun q hq hne => hD q (.tail _ (hsub q hq hne)))
    refine fun q hq => N5 ((D, LCg.lst (selI (drBit (lawAt sc 0 2)) ys 6)) :: (L + 1 + 1 + 1, oD2) :: led') (fun q hq => ?_) q (by grind)
    rcases List.mem_cons.mp hq with e | hq
    · subst e; exact ⟨.head _, Nat.ne_of_gt (hD _ (.tail _ hO1))⟩
    rcases List.mem_cons.mp hq with e | hq
    · subst e; exact ⟨.tail _ (.head _), Ne.symm h73⟩
    · have z := hled q hq
      exact ⟨.tail _ (.tail _ (hsub q z.1 z.2.1)), z.2.2⟩
end
end Mine

/-! ## LD -/
namespace Mine
open PySem PySem.W PySem.Calls PyProof.Rows
open Sem (wp)
set_option maxRecDepth 100000

theorem fillK43 : ∀ w : World, PySem.Challenge.rw_bh0019_01.Holds → hd.heap_39 w.params = hd.heap_39 w.params := by
  w_top off
  first | (walk1; fail) | skip
  k_fill
  intro _ _; rfl

local macro_rules | `(tactic| k_mem) => `(tactic| assumption)
local macro_rules | `(tactic| k_room) => `(tactic| ((simp only [depth_under_make, depth_under_kw, depth_in1, depth_deeper, depth_caller, Around.in1_units, Around.deeper_units]); omega))
local macro_rules | `(tactic| k_all) => `(tactic| first | assumption | exact allNe_of (by assumption) (by omega))
local macro_rules | `(tactic| walk_at "assign Tuple") => `(tactic| (k_here; (with_reducible show wpAny _ _ (assign (Expr.Tuple _ _ _) _ (Value.ref _)) _ _ _); k_dflt (refine' unpackN_ ?k1 ?k2 ?k3 ?k4 ?k5 ?k6 ?_; (case k1 => k_asm); (case k2 => k_asm); (case k3 => (exact News.isTup (by k_asm) (by k_mem))); (case k4 => assumption); (case k5 => exact rfl); (case k6 => exact rfl); k_whole); intro h' F' N'; (try k_sweep)))
local macro_rules | `(tactic| walk_at "eval Name") => `(tactic| (k_here; kc_free; k_dflt (refine' nameX_F ?N ?c ?m ?d ?_ ?a ?b; (case a => rfl); (case b => rfl); (case N => k_asm); (case c => rfl); (case m => k_mem); (case d => k_asm); k_whole)))
local macro_rules | `(tactic| walk_at "eval Name") => `(tactic| (k_here; k_dflt (refine' nameX_L ?k1 ?k2 ?_ ?k3 ?k4 ?k5; (case k3 => rfl); (case k4 => rfl); (case k5 => decide); (case k1 => k_asm); (case k2 => assumption); k_whole)))
local macro_rules | `(tactic| walk_at "compareOp In int ref") => `(tactic| (refine d_in (by k_asm) (by k_mem) (by k_asm) (by k_asm) ?_))

local macro_rules | `(tactic| walk_at "binaryOp BitOr int int") => `(tactic| (k_here; first | with_reducible refine or12 ?_ | with_reducible refine or34 ?_))
local macro_rules | `(tactic| walk_at "eval Name") => `(tactic| (k_here; k_dflt (refine' nameX_C ?N ?c ?m ?d ?_ ?a ?b; (case b => rfl); (case c => rfl); (case N => k_asm); (case m => k_mem); (case d => k_asm); (case a => rfl); k_whole)))
local macro_rules | `(tactic| walk_at "exec Try") => `(tactic| (k_here; refine wpAny_Try_except ?_))
local macro_rules | `(tactic| walk_at "callWith ref") => `(tactic| (k_here; k_dflt (first
  | (refine' callWith_F ?k1 ?_; (case k1 => exact FnAt.of (by k_asm) (by k_mem)); k_whole)
  | (refine' callWith_F0 ?k1 ?_; (case k1 => exact FnAt.of (by k_asm) (by k_mem)); k_whole; try dsimp only [List.nil_append, List.cons_append]))))

local macro_rules | `(tactic| walk_at "truthy ref") => `(tactic| (k_here; k_dflt (refine' truthyL ?N ?m ?z ?_; (case N => k_asm); (case m => k_mem); (case z => first | assumption | exact Nat.le_of_ble_eq_true rfl))))

local macro_rules | `(tactic| walk_at "eval ListComp") => `(tactic| (refine stopComp ?_))
local macro_rules | `(tactic| walk_at "exec Assign cons ListComp") => `(tactic| (refine wpAny_Assign_Name ?_))
def dflt (k : Nat) : Int := ([9, 4, 10] : List Int).getD k 0
def ds0 (v : Int) : List Int := (things v).map fun i : Nat => (i : Int)
def closeI (qs : List (Int × Int)) (t : Int) (ds : List Int) : List Int := if t ∈ ds then ds ++ qs.filterMap (fun q => if q.2 = t ∧ ¬ q.1 ∈ ds then some q.1 else none) else ds
def dsJ (qs : List (Int × Int)) (ds : List Int) : Nat → List Int
  | 0 => ds
  | j + 1 => closeI qs (([3, 2, 1] : List Int).getD j 0) (dsJ qs ds j)
def numI (ds : List Int) : Int := (ds.map fun t => (2 : Int) ^ t.toNat).sum
def numK (sc : List Int) (qs : List (Int × Int)) (k : Nat) : Int := numI (dsJ qs (ds0 (lawAt sc (1 + (k : Int)) (dflt k))) 3)
def setsN (sc : List Int) (qs : List (Int × Int)) : Nat → List Int
  | 0 => []
  | k + 1 => if numK sc qs k ∈ setsN sc qs k then setsN sc qs k else setsN sc qs k ++ [numK sc qs k]
theorem headObj {h₀ h : Heap} {L a : Addr} {o : Obj} {rest : List (Addr × Obj)} (N : News h₀ L h ((a, o) :: rest)) {c : Value} {d : Data} (hc : o.cls = c) (hd : o.data = d) : ∃ oa : Obj, oa.cls = c ∧ oa.data = d ∧ News h₀ L h ((a, oa) :: rest) := ⟨o, hc, hd, N⟩
section
variable {prog : Program} {w : World} {A₀ A : Around} {base h₀ : Heap} {outer : List Env} {L fa : Addr} {m mg mb : Str → Option Value} {s : Shared} {news : List (Addr × Obj)}
  {p : Program} {loose : List Str} {mean : ExcName → Option Value} {E : Value → Shared → Prop} {Q : Flow → Shared → Prop}
  {fd130 : FuncData} {oc130 : Value} {od130 : Option Addr} {osl130 : Array (Option Value)} {stmts : List Stmt}

set_option maxHeartbeats 4000000 in
theorem law_thing (hK : (hd.heap_39 w.params).lookup 130 = some ⟨oc130, od130, .func fd130, osl130⟩) (hst : fd130.body = .stmts stmts)
   (B : Below A₀ base outer h₀) (X : (hd.heap_39 w.params).In h₀) (T : Top p loose mean mg mb h₀)
   (hA : A.frames = some (envOfC fd130.qualname fd130.scope L fa (.ref 129) :: outer)) (hh : A.handled = none) (hdep : A.depth + 130 < recursionLimit) (hu : A.units + 400 < cLine)
   {env : Env} (henv : env = envOfC fd130.qualname fd130.scope L fa (.ref 129)) {kt it2 : PySem.Expr} {kbody : List Stmt} {ko : List Stmt} {kp : Pos} {tt ti2 : PySem.Expr} {tbody to' : List Stmt} {tp' : Pos} (h5 : stmts[5]? = some (.For kt it2 kbody ko kp)) (h51 : kbody[1]? = some (.For tt ti2 tbody to' tp'))
   {led : List (Addr × Obj)} {oO oT oD : Obj} {ovT : Option Value} {ol dl : Addr} {ovs dvs : List Value} {on nD : Nat} {qs : List (Int × Int)} {ds : List Int}
   (hO : (L + 1 + 1 + 1 + 1 + 1 + 1 + 1, oO) ∈ led) (hOd : oO.data = .cell (some (.ref ol))) (hol : (ol, listOf ovs.toArray on) ∈ led) (hP : PairsIn led ovs qs) (hol2 : ovs.length ≤ 10) (hds : IntsAre dvs ds) (hdl : dvs.length ≤ 4)
   (oTd : oT.data = .cell ovT) (oDd : oD.data = .cell (some (.ref dl))) (hled : ∀ q ∈ led, q.1 ≠ L + 1 + 1 ∧ q.1 ≠ L + 1 + 1 + 1 + 1 + 1 + 1) (hdl8 : @LT.lt Nat _ (L + 1 + 1 + 1 + 1 + 1 + 1 + 1 + 1) dl)
   (F : Fr h₀ L s.heap m) (N : News h₀ L s.heap ((L + 1 + 1, oT) :: (L + 1 + 1 + 1 + 1 + 1 + 1, oD) :: (dl, listOf dvs.toArray nD) :: led))
   (h : ∀ h' tk oT' ovT' oD' dl' dvs' nD', Fr h₀ L h' m → News h₀ L h' ((L + 1 + 1, oT') :: (L + 1 + 1 + 1 + 1 + 1 + 1, oD') :: (dl', listOf dvs'.toArray nD') :: led) → oT'.data = .cell ovT' → oD'.data = .cell (some (.ref dl')) → IntsAre dvs' (dsJ qs ds 3) → @LT.lt Nat _ (L + 1 + 1 + 1 + 1 + 1 + 1 + 1 + 1) dl' → Q .next { s with heap := h', toks := tk }) :
   wpAny (model prog w) A (exec (.For tt ti2 tbody to' tp') env) Q E s := by
  subst henv
  have e130 := lk hK (by k_is)
  cases e130
  cases hst
  cases h5
  cases h51
  (try dsimp only at hA h ⊢)
  refine wpAny_For ?_
  k_steps
  rename News h₀ _ _ _ => N9
  rename Fr h₀ _ _ _ => F9
  rename_i Dt h9_ l9
  obtain ⟨oa, hoc, hod, N9⟩ := headObj N9 rfl rfl
  replace N9 : News h₀ L _ ((L + 1 + 1, oT) :: (L + 1 + 1 + 1 + 1 + 1 + 1, oD) :: (dl, listOf dvs.toArray nD) :: (Dt, oa) :: led) := fun q hq => N9 q (by grind)
  have hDt : @LT.lt Nat _ (L + 1 + 1) Dt := l9.1
  have hDt6 : @LT.lt Nat _ (L + 1 + 1 + 1 + 1 + 1 + 1) Dt := l9.2.1
  have hDtl : @LT.lt Nat _ dl Dt := l9.2.2.1
  have hDtL : ∀ q ∈ led, q.1 < Dt := fun q hq => allLt_mem l9.2.2.2 q hq
  refine forT hh F9 N9 hoc hod (fun j m' nw => m' = m ∧ ∃ oT ovT oD dl dvs nD, nw = (L + 1 + 1, oT) :: (L + 1 + 1 + 1 + 1 + 1 + 1, oD) :: (dl, listOf dvs.toArray nD) :: (Dt, oa) :: led ∧ oT.data = .cell ovT ∧ oD.data = .cell (some (.ref dl)) ∧ IntsAre dvs (dsJ qs ds j) ∧ dvs.length ≤ 4 + 10 * j ∧ @LT.lt Nat _ (L + 1 + 1 + 1 + 1 + 1 + 1 + 1 + 1) dl ∧ dl ≠ Dt) ?h0 ?hJ ?turn ?done
  case h0 => exact ⟨rfl, oT, ovT, oD, dl, dvs, nD, rfl, oTd, oDd, hds, by omega, hdl8, Nat.ne_of_lt hDtl⟩
  case hJ => rintro j m1 nw ⟨rfl, oT1, ov1, oD1, dl1, dvs1, nD1, rfl, _⟩; exact .tail _ (.tail _ (.tail _ (.head _)))
  case done =>
    rintro h1 tk1 m1 nw1 ⟨rfl, oT1, ov1, oD1, dl1, dvs1, nD1, rfl, oTd1, oDd1, hds1, hdl1, hdl81, hdD⟩ F1 N1
    exact h h1 tk1 oT1 ov1 oD1 dl1 dvs1 nD1 F1 (fun q hq => N1 q (by grind)) oTd1 oDd1 hds1 hdl81
  case turn =>
    rintro j v h1 tk1 m1 nw1 I oit hv ⟨rfl, oT1, ov1, oD1, dl1, dvs1, nD1, rfl, oTd1, oDd1, hds1, hdl1, hdl81, hdD⟩ F1 N1 off1 hI
    obtain ⟨z, tz, rfl, hz⟩ : ∃ z tz, v = .int z tz ∧ ([3, 2, 1] : List Int).getD j 0 = z := by
      match j, hv with
      | 0, hv => exact ⟨3, _, (Option.some.inj hv).symm, rfl⟩
      | 1, hv => exact ⟨2, _, (Option.some.inj hv).symm, rfl⟩
      | 2, hv => exact ⟨1, _, (Option.some.inj hv).symm, rfl⟩
    refine wpAny_assign_Name (store_cell F1 N1 rfl (.tail _ (.head _)) oTd1 ?_)
    intro h2 oT2 F2 N2 hoT2
    have N3 := N2 ((I, oit) :: (L + 1 + 1 + 1 + 1 + 1 + 1, oD1) :: (dl1, listOf dvs1.toArray nD1) :: (Dt, oa) :: led) (fun q hq => by
      refine ⟨by grind, ?_⟩
      rcases List.mem_cons.mp hq with rfl | hq
      · exact Ne.symm (off1 _ (.head _))
      rcases List.mem_cons.mp hq with rfl | hq
      · exact Nat.ne_of_gt (by omega)
      rcases List.mem_cons.mp hq with rfl | hq
      · exact Nat.ne_of_gt (by omega)
      rcases List.mem_cons.mp hq with rfl | hq
      · exact Nat.ne_of_gt hDt
      · exact (hled q hq).1)
    clear N2 F1 N1 F9 N9
    have hol3 : (ol, listOf ovs.toArray on) ∈ (L + 1 + 1, oT2) :: (I, oit) :: (L + 1 + 1 + 1 + 1 + 1 + 1, oD1) :: (dl1, listOf dvs1.toArray nD1) :: (Dt, oa) :: led := .tail _ (.tail _ (.tail _ (.tail _ (.tail _ hol))))
    have hP3 : PairsIn ((L + 1 + 1, oT2) :: (I, oit) :: (L + 1 + 1 + 1 + 1 + 1 + 1, oD1) :: (dl1, listOf dvs1.toArray nD1) :: (Dt, oa) :: led) ovs qs := hP.mono fun q hq => .tail _ (.tail _ (.tail _ (.tail _ (.tail _ hq))))
    k_steps
    · show wpAny _ _ _ _ _ _
      rename (_ = true) => hin
      refine compEval (cl := [("thing", L + 1 + 1), ("downset", L + 1 + 1 + 1 + 1 + 1 + 1)]) (by with_unfolding_all rfl) rfl (by decide) (fun _ => rfl) ?_
      k_steps
      rename News h₀ _ _ _ => N9
      rename Fr h₀ _ _ _ => F9
      refine compP (l := ol) (vs := ovs) (cap := on) hh F9 N9 hol3 hP3 (by omega) (fun q => if q.2 = z ∧ ¬ q.1 ∈ dsJ qs ds j then some q.1 else none) (by decide) rfl rfl rfl (by decide) ?_ ?_
      · intro q hq ta tb I6 oI6 C6 oC6 D6 oD6 m6 h6 tk6 E6 hoC6 hma hmb F6 N6
        clear F9 N9
        unfold TurnI
        refine tests_one ?_
        k_steps
        all_goals first | exact ⟨_, _, rfl, F6, N6⟩ | exact if_pos ⟨‹_›, any_no ‹_›⟩ | exact if_neg (fun h => h.2 (any_mem ‹_›)) | exact if_neg (fun h => absurd h.1 ‹_›)
      · intro D7 h7 tk7 ys7 F7 N7 hi7 hlt7 C7 m7 hn7 hCL7 hDL7 hC₀7 hCD7 offC7
        refine post_eval F7 N7 hn7 hCL7 hC₀7 hCD7 offC7 ?_
        intro h8 F8 N8
        clear F7 N7 F9 N9
        have hl7 : ys7.length ≤ 10 := by
          rw [hi7.length]
          exact Nat.le_trans (List.length_filterMap_le _ _) (by rw [← hP.1]; exact hol2)
        have hj3 : j < 3 := by
          have := (Array.getElem?_eq_some_iff.mp hv).1
          simpa using this
        have hd1 := hds1.length
        have hd7 := hi7.length
        refine kmk_add_ints F8 N8 ⟨_, (N8 (dl1, listOf dvs1.toArray nD1) (.tail _ (.tail _ (.tail _ (.tail _ (.head _)))))).1, rfl, _, rfl⟩ ⟨_, (N8 _ (.head _)).1, rfl, _, rfl⟩ hds1 hi7 ?_ (by rw [sizeLine_eq]; omega)
        intro D9 us h9 F9 N9 hlt9 hus
        refine store_cell F9 N9 rfl (.tail _ (.tail _ (.tail _ (.tail _ (.head _))))) oDd1 ?_
        intro h10 oD10 F10 N10 hoD10
        clear F8 N8
        have hD9 : @LT.lt Nat _ dl1 D9 := hlt9 _ (.tail _ (.tail _ (.tail _ (.tail _ (.head _)))))
        have hD9I : @LT.lt Nat _ I D9 := hlt9 _ (.tail _ (.tail _ (.head _)))
        have hDtD9 : @LT.lt Nat _ Dt D9 := hlt9 _ (.tail _ (.tail _ (.tail _ (.tail _ (.tail _ (.head _))))))
        have N11 := N10 ((I, oit) :: (L + 1 + 1, oT2) :: (D9, listOf us.toArray 0) :: (Dt, oa) :: led) (fun q hq => by
          refine ⟨by grind, ?_⟩
          rcases List.mem_cons.mp hq with rfl | hq
          · exact Ne.symm (off1 _ (.tail _ (.head _)))
          rcases List.mem_cons.mp hq with rfl | hq
          · exact Nat.ne_of_lt (by omega)
          rcases List.mem_cons.mp hq with rfl | hq
          · exact Nat.ne_of_gt (by omega)
          rcases List.mem_cons.mp hq with rfl | hq
          · exact Nat.ne_of_gt hDt6
          · exact (hled q hq).2)
        clear N10 F9 N9
        have hzin : z ∈ dsJ qs ds j := any_mem hin
        have hdn : IntsAre us (dsJ qs ds (j + 1)) := by
          show IntsAre us (closeI qs (([3, 2, 1] : List Int).getD j 0) (dsJ qs ds j))
          rw [hz]; unfold closeI; rw [if_pos hzin]; exact hus
        have hul := hus.length
        rw [List.length_append] at hul
        k_steps
        refine ⟨_, _, m1, (L + 1 + 1, oT2) :: (L + 1 + 1 + 1 + 1 + 1 + 1, oD10) :: (D9, listOf us.toArray 0) :: (Dt, oa) :: led, rfl, ⟨rfl, oT2, _, oD10, D9, us, 0, rfl, hoT2, hoD10, hdn, by omega, by omega, Nat.ne_of_gt hDtD9⟩, F10, fun q hq => N11 q (by grind), fun q hq => ?_⟩
        rcases List.mem_cons.mp hq with rfl | hq
        · exact off1 (_, oT1) (.head _)
        rcases List.mem_cons.mp hq with rfl | hq
        · exact off1 (_, oD1) (.tail _ (.head _))
        rcases List.mem_cons.mp hq with rfl | hq
        · exact Nat.ne_of_gt hD9I
        · exact off1 q (.tail _ (.tail _ (.tail _ hq)))
    · rename (_ = false) => hin
      have hdn : IntsAre dvs1 (dsJ qs ds (j + 1)) := by
        show IntsAre dvs1 (closeI qs (([3, 2, 1] : List Int).getD j 0) (dsJ qs ds j))
        rw [hz]; unfold closeI; rw [if_neg (any_no hin)]; exact hds1
      refine ⟨_, _, m1, (L + 1 + 1, oT2) :: (L + 1 + 1 + 1 + 1 + 1 + 1, oD1) :: (dl1, listOf dvs1.toArray nD1) :: (Dt, oa) :: led, rfl, ⟨rfl, oT2, _, oD1, dl1, dvs1, nD1, rfl, hoT2, oDd1, hdn, by omega, hdl81, hdD⟩, F2, fun q hq => N3 q (by grind), fun q hq => ?_⟩
      rcases List.mem_cons.mp hq with rfl | hq
      · exact off1 (_, oT1) (.head _)
      · exact off1 q (.tail _ hq)
end
end Mine

/-! ## LE -/
namespace Mine
open PySem PySem.W PySem.Calls PyProof.Rows
open Sem (wp)
set_option maxRecDepth 100000

theorem fillK44 : ∀ w : World, PySem.Challenge.rw_bh0019_01.Holds → hd.heap_39 w.params = hd.heap_39 w.params := by
  w_top off
  first | (walk1; fail) | skip
  k_fill
  intro _ _; rfl

local macro_rules | `(tactic| k_mem) => `(tactic| assumption)
local macro_rules | `(tactic| k_room) => `(tactic| ((simp only [depth_under_make, depth_under_kw, depth_in1, depth_deeper, depth_caller, Around.in1_units, Around.deeper_units]); omega))
local macro_rules | `(tactic| k_all) => `(tactic| first | assumption | exact allNe_of (by assumption) (by omega))
local macro_rules | `(tactic| walk_at "assign Tuple") => `(tactic| (k_here; (with_reducible show wpAny _ _ (assign (Expr.Tuple _ _ _) _ (Value.ref _)) _ _ _); k_dflt (refine' unpackN_ ?k1 ?k2 ?k3 ?k4 ?k5 ?k6 ?_; (case k1 => k_asm); (case k2 => k_asm); (case k3 => (exact News.isTup (by k_asm) (by k_mem))); (case k4 => assumption); (case k5 => exact rfl); (case k6 => exact rfl); k_whole); intro h' F' N'; (try k_sweep)))
local macro_rules | `(tactic| walk_at "eval Name") => `(tactic| (k_here; kc_free; k_dflt (refine' nameX_F ?N ?c ?m ?d ?_ ?a ?b; (case a => rfl); (case b => rfl); (case N => k_asm); (case c => rfl); (case m => k_mem); (case d => k_asm); k_whole)))
local macro_rules | `(tactic| walk_at "eval Name") => `(tactic| (k_here; k_dflt (refine' nameX_L ?k1 ?k2 ?_ ?k3 ?k4 ?k5; (case k3 => rfl); (case k4 => rfl); (case k5 => decide); (case k1 => k_asm); (case k2 => assumption); k_whole)))
local macro_rules | `(tactic| walk_at "compareOp In int ref") => `(tactic| (refine d_in (by k_asm) (by k_mem) (by k_asm) (by k_asm) ?_))

local macro_rules | `(tactic| walk_at "binaryOp BitOr int int") => `(tactic| (k_here; first | with_reducible refine or12 ?_ | with_reducible refine or34 ?_))
local macro_rules | `(tactic| walk_at "eval Name") => `(tactic| (k_here; k_dflt (refine' nameX_C ?N ?c ?m ?d ?_ ?a ?b; (case b => rfl); (case c => rfl); (case N => k_asm); (case m => k_mem); (case d => k_asm); (case a => rfl); k_whole)))
local macro_rules | `(tactic| walk_at "exec Try") => `(tactic| (k_here; refine wpAny_Try_except ?_))
local macro_rules | `(tactic| walk_at "callWith ref") => `(tactic| (k_here; k_dflt (first
  | (refine' callWith_F ?k1 ?_; (case k1 => exact FnAt.of (by k_asm) (by k_mem)); k_whole)
  | (refine' callWith_F0 ?k1 ?_; (case k1 => exact FnAt.of (by k_asm) (by k_mem)); k_whole; try dsimp only [List.nil_append, List.cons_append]))))

local macro_rules | `(tactic| walk_at "truthy ref") => `(tactic| (k_here; k_dflt (refine' truthyL ?N ?m ?z ?_; (case N => k_asm); (case m => k_mem); (case z => first | assumption | exact Nat.le_of_ble_eq_true rfl))))

local macro_rules | `(tactic| walk_at "eval ListComp") => `(tactic| (refine stopComp ?_))
local macro_rules | `(tactic| walk_at "exec Assign cons ListComp") => `(tactic| (refine wpAny_Assign_Name ?_))
theorem append_any {prog : Program} {w : World} {A : Around} {E : Value → Shared → Prop} {s : Shared} {h₀ : Heap} {L D : Addr} {m : Str → Option Value} {led : List (Addr × Obj)} {its : Array Value} {n : Nat} {x : Value} {Q : Value → Shared → Prop} (F : Fr h₀ L s.heap m) (N : News h₀ L s.heap led) (hm : (D, listOf its n) ∈ led)
    (h : ∀ h', Fr h₀ L h' m → (∀ led', (∀ q ∈ led', q ∈ led ∧ q.1 ≠ D) → News h₀ L h' ((D, listOf (its.push x) (n + 1)) :: led')) → Q .none { s with heap := h' }) (hsz : its.size ≤ sizeLine) : wpAny (model prog w) A (call (.builtin "list.append") [.ref D, x]) Q E s := by
  have z := N _ hm
  refine append_at (hsz := hsz) z.1 fun h' hs ho' => h h' (F.change hs z.2.1 z.2.2) fun led' hled q hq => ?_
  rcases List.mem_cons.mp hq with rfl | hq
  · exact ⟨ho', z.2⟩
  · have y := hled q hq
    have zz := N q y.1
    exact ⟨hs.extBut _ _ y.2 zz.1, zz.2⟩
theorem closeI_mem {qs : List (Int × Int)} {t : Int} {ds : List Int} (hq : ∀ q ∈ qs, 0 ≤ q.1 ∧ q.1 < 4) (hd : ∀ z ∈ ds, 0 ≤ z ∧ z < 4) : ∀ z ∈ closeI qs t ds, 0 ≤ z ∧ z < 4 := by
  intro z hz
  unfold closeI at hz
  split at hz
  · rcases List.mem_append.mp hz with hz | hz
    · exact hd z hz
    · obtain ⟨q, hqm, e⟩ := List.mem_filterMap.mp hz
      split at e
      · cases e; exact hq q hqm
      · cases e
  · exact hd z hz
theorem dsJ_mem {qs : List (Int × Int)} {ds : List Int} (hq : ∀ q ∈ qs, 0 ≤ q.1 ∧ q.1 < 4) (hd : ∀ z ∈ ds, 0 ≤ z ∧ z < 4) : ∀ j, ∀ z ∈ dsJ qs ds j, 0 ≤ z ∧ z < 4
  | 0 => hd
  | j + 1 => closeI_mem hq (dsJ_mem hq hd j)
theorem ds0_mem (v : Int) : ∀ z ∈ ds0 v, 0 ≤ z ∧ z < 4 := by
  intro z hz
  obtain ⟨t, ht, rfl⟩ := List.mem_map.mp hz
  have := four_lt (List.mem_filter.mp ht).1
  omega
theorem dsJ_len {qs : List (Int × Int)} {ds : List Int} : ∀ j, (dsJ qs ds j).length ≤ ds.length + j * qs.length
  | 0 => by simp [dsJ]
  | j + 1 => by
    have ih := dsJ_len (qs := qs) (ds := ds) j
    show (closeI _ _ _).length ≤ _
    unfold closeI
    split
    · rw [List.length_append]
      have := List.length_filterMap_le (fun q : Int × Int => if q.2 = ([3, 2, 1] : List Int).getD j 0 ∧ ¬ q.1 ∈ dsJ qs ds j then some q.1 else none) qs
      rw [Nat.succ_mul]; omega
    · rw [Nat.succ_mul]; omega
section
variable {prog : Program} {w : World} {A₀ A : Around} {base h₀ : Heap} {outer : List Env} {L fa : Addr} {m mg mb : Str → Option Value} {s : Shared} {news : List (Addr × Obj)}
  {p : Program} {loose : List Str} {mean : ExcName → Option Value} {E : Value → Shared → Prop} {Q : Flow → Shared → Prop}
  {fd130 : FuncData} {oc130 : Value} {od130 : Option Addr} {osl130 : Array (Option Value)} {stmts : List Stmt}

set_option maxHeartbeats 4000000 in
theorem law_sets (hK : (hd.heap_39 w.params).lookup 130 = some ⟨oc130, od130, .func fd130, osl130⟩) (hst : fd130.body = .stmts stmts)
   (B : Below A₀ base outer h₀) (X : (hd.heap_39 w.params).In h₀) (T : Top p loose mean mg mb h₀)
   (hA : A.frames = some (envOfC fd130.qualname fd130.scope L fa (.ref 129) :: outer)) (hh : A.handled = none) (hdep : A.depth + 130 < recursionLimit) (hu : A.units + 400 < cLine)
   {led : List (Addr × Obj)} {oSc oO oT oK oS oD : Obj} {sl ol : Addr} {vs ovs : List Value} {sc : List Int} {on : Nat} {qs : List (Int × Int)}
   (hsc : (L + 1, oSc) ∈ led) (hscd : oSc.data = .cell (some (.ref sl))) (hl : h₀.IsList sl vs.toArray) (hi : IntsAre vs sc) (hlen : vs.length ≤ 63)
   (hO : (L + 1 + 1 + 1 + 1 + 1 + 1 + 1, oO) ∈ led) (hOd : oO.data = .cell (some (.ref ol))) (hol : (ol, listOf ovs.toArray on) ∈ led) (hP : PairsIn led ovs qs) (hol2 : ovs.length ≤ 10) (hqs : ∀ q ∈ qs, 0 ≤ q.1 ∧ q.1 < 4)
   (oTd : oT.data = .cell none) (oKd : oK.data = .cell none) (oSd : oS.data = .cell none) (oDd : oD.data = .cell none) (hled : ∀ q ∈ led, q.1 ≠ L + 1 + 1 ∧ q.1 ≠ L + 1 + 1 + 1 + 1 ∧ q.1 ≠ L + 1 + 1 + 1 + 1 + 1 ∧ q.1 ≠ L + 1 + 1 + 1 + 1 + 1 + 1) (hW : ∃ o, (L + 1 + 1 + 1 + 1 + 1 + 1 + 1 + 1, o) ∈ led)
   (F : Fr h₀ L s.heap m) (N : News h₀ L s.heap ((L + 1 + 1, oT) :: (L + 1 + 1 + 1 + 1, oK) :: (L + 1 + 1 + 1 + 1 + 1, oS) :: (L + 1 + 1 + 1 + 1 + 1 + 1, oD) :: led))
   (h : ∀ h' tk m' oT' oK' oS' oD' stl ss nS, Fr h₀ L h' m' → News h₀ L h' ((L + 1 + 1, oT') :: (L + 1 + 1 + 1 + 1, oK') :: (L + 1 + 1 + 1 + 1 + 1, oS') :: (L + 1 + 1 + 1 + 1 + 1 + 1, oD') :: (stl, listOf (List.toArray ss) nS) :: led) → oS'.data = .cell (some (.ref stl)) → IntsAre ss (setsN sc qs 3) → @LT.lt Nat _ (L + 1 + 1 + 1 + 1 + 1 + 1 + 1 + 1) stl → (∀ q ∈ led, q.1 < stl) →
      wpAny (model prog w) A (execs (stmts.drop 6) (envOfC fd130.qualname fd130.scope L fa (.ref 129))) Q E { s with heap := h', toks := tk }) :
   wpAny (model prog w) A (execs (stmts.drop 4) (envOfC fd130.qualname fd130.scope L fa (.ref 129))) Q E s := by
  have e130 := lk hK (by k_is)
  cases e130
  cases hst
  simp only [List.drop_succ_cons, List.drop_zero] at h ⊢
  (try dsimp only at hA h ⊢)
  refine execs_split (xs := [_, _]) ?_
  k_steps
  rename News h₀ _ _ _ => N9
  rename Fr h₀ _ _ _ => F9
  rename_i stl h9_ l9
  have hst8 : @LT.lt Nat _ (L + 1 + 1 + 1 + 1 + 1 + 1 + 1 + 1) stl := by
    obtain ⟨o, ho⟩ := hW
    exact allLt_mem l9.2.2.2.2 _ ho
  have hstL : ∀ q ∈ led, q.1 < stl := fun q hq => allLt_mem l9.2.2.2.2 q hq
  refine store_cell F9 N9 rfl (.tail _ (.tail _ (.tail _ (.head _)))) oSd ?_
  intro h1 oS1 F1 N1 hoS1
  have N2 := N1 ((L + 1 + 1, oT) :: (L + 1 + 1 + 1 + 1, oK) :: (L + 1 + 1 + 1 + 1 + 1 + 1, oD) :: (stl, listOf #[] 0) :: led) (fun q hq => by
    refine ⟨by grind, ?_⟩
    rcases List.mem_cons.mp hq with rfl | hq
    · exact Nat.ne_of_lt (by omega)
    rcases List.mem_cons.mp hq with rfl | hq
    · exact Nat.ne_of_lt (by omega)
    rcases List.mem_cons.mp hq with rfl | hq
    · exact Nat.ne_of_gt (by omega)
    rcases List.mem_cons.mp hq with rfl | hq
    · exact Nat.ne_of_gt (by omega)
    · exact (hled q hq).2.2.1)
  clear N1 F9 N9
  refine wpAny_execs_cons ?_
  refine wpAny_For ?_
  k_steps
  rename IsRange _ _ _ _ _ _ _ _ => hR9
  rename News h₀ _ _ _ => N9
  rename Fr h₀ _ _ _ => F9
  replace N9 : News h₀ L _ ((L + 1 + 1, oT) :: (L + 1 + 1 + 1 + 1, oK) :: (L + 1 + 1 + 1 + 1 + 1 + 1, oD) :: (stl, listOf (List.toArray []) 0) :: (L + 1 + 1 + 1 + 1 + 1, oS1) :: led) := fun q hq => N9 q (by grind)
  refine forR (n := 3) hh F9 N9 hR9 (by decide) (fun i m' nw => ∃ oT ovT oK ovK oD ovD ss nS, nw = (L + 1 + 1, oT) :: (L + 1 + 1 + 1 + 1, oK) :: (L + 1 + 1 + 1 + 1 + 1 + 1, oD) :: (stl, listOf (List.toArray ss) nS) :: (L + 1 + 1 + 1 + 1 + 1, oS1) :: led ∧ oT.data = .cell ovT ∧ oK.data = .cell ovK ∧ oD.data = .cell ovD ∧ IntsAre ss (setsN sc qs i) ∧ ss.length ≤ i) ?h0 ?turn ?done
  case h0 => exact ⟨oT, _, oK, _, oD, _, [], 0, rfl, oTd, oKd, oDd, .nil, Nat.le_refl _⟩
  case done =>
    rintro h2 tk2 m2 nw2 ⟨oT2, ovT2, oK2, ovK2, oD2, ovD2, ss, nS, rfl, hT2, hK2, hD2, hss, hsl⟩ F2 N2
    clear F9 N9
    k_steps
    show wpAny _ _ _ _ _ _
    exact h _ _ m2 oT2 oK2 oS1 oD2 stl ss nS F2 (fun q hq => N2 q (by grind)) hoS1 hss hst8 hstL
  case turn =>
    rintro j tj h1 tk1 m1 nw1 I oit hj ⟨oT1, ovT1, oK1, ovK1, oD1, ovD1, ss, nS, rfl, hT1, hK1, hD1, hss, hsl⟩ F1 N1 off1 hI
    have hj3 : (j : Int) < 3 := by omega
    refine wpAny_assign_Name (store_cell F1 N1 rfl (.tail _ (.tail _ (.head _))) hK1 ?_)
    intro h2 oK2 F2 N2 hoK2
    have hI2 := off1 _ (.tail _ (.head _))
    have N3 := N2 ((I, oit) :: (L + 1 + 1, oT1) :: (L + 1 + 1 + 1 + 1 + 1 + 1, oD1) :: (stl, listOf (List.toArray ss) nS) :: (L + 1 + 1 + 1 + 1 + 1, oS1) :: led) (fun q hq => by
      refine ⟨by grind, ?_⟩
      rcases List.mem_cons.mp hq with rfl | hq
      · exact Ne.symm hI2
      rcases List.mem_cons.mp hq with rfl | hq
      · exact Nat.ne_of_lt (by omega)
      rcases List.mem_cons.mp hq with rfl | hq
      · exact Nat.ne_of_gt (by omega)
      rcases List.mem_cons.mp hq with rfl | hq
      · exact Nat.ne_of_gt (by omega)
      rcases List.mem_cons.mp hq with rfl | hq
      · exact Nat.ne_of_gt (by omega)
      · exact (hled q hq).2.1)
    clear N2 F1 N1 F9 N9
    refine execs_split (xs := [_]) ?_
    refine wpAny_execs_cons ?_
    refine wpAny_Assign_Name ?_
    refine compEval (cl := [("script", L + 1), ("k", L + 1 + 1 + 1 + 1)]) (by with_unfolding_all rfl) rfl (by decide) (fun _ => rfl) ?_
    have hsc3 : (L + 1, oSc) ∈ (L + 1 + 1 + 1 + 1, oK2) :: (I, oit) :: (L + 1 + 1, oT1) :: (L + 1 + 1 + 1 + 1 + 1 + 1, oD1) :: (stl, listOf (List.toArray ss) nS) :: (L + 1 + 1 + 1 + 1 + 1, oS1) :: led := by grind
    k_steps
    rename IsRange _ _ _ _ _ _ _ _ => hR9
    rename News h₀ _ _ _ => N9
    rename Fr h₀ _ _ _ => F9
    refine compR (n := 4) hh F9 N9 hR9 (by decide) (fun i => if bit (lawAt sc (1 + (j : Int)) (([9, 4, 10] : List Int).getD ((j : Int)).toNat 0)) i.toNat then some ((i.toNat : Nat) : Int) else none) (by decide) rfl rfl ?_ ?_
    · intro i hi4 ti I5 oI5 C5 oC5 D5 oD5 m5 h5 tk5 E5 hoC5 hm5 F5 N5
      clear F9 N9
      have hi4' : (i : Int) < 4 := by omega
      unfold TurnI
      refine tests_one ?_
      k_steps
      rename News h₀ _ _ _ => N9
      rename Fr h₀ _ _ _ => F9
      refine lawat_spec B F9 X T hA rfl rfl hh (by omega) (by omega) N9 hl hi (by omega) (by omega) (by omega) ?_
      intro h6 tk6 u6 F6 N6
      clear F9 N9
      k_steps
      all_goals first | exact ⟨_, _, rfl, F6, fun q hq => N6 q (.tail _ hq)⟩ | exact if_pos (bit_yes ‹_›) | exact if_neg (bit_no ‹_›)
    · intro D h5 tk5 ys F5 N5 hy hlt5 C m' hn hCL hDL hC₀ hCD offC
      refine post_eval F5 N5 hn hCL hC₀ hCD offC ?_
      intro h6 F6 N6
      clear F5 N5 F9 N9
      rw [fm_bits (lawAt sc (1 + (j : Int)) (([9, 4, 10] : List Int).getD ((j : Int)).toNat 0)) fun i : Nat => (i : Int)] at hy
      have hyl : ys.length ≤ 4 := by
        rw [hy.length, List.length_map]
        exact Nat.le_trans (List.length_filter_le _ _) (by decide)
      have hD8 : @LT.lt Nat _ (L + 1 + 1 + 1 + 1 + 1 + 1 + 1 + 1) D := Nat.lt_trans hst8 (hlt5 (stl, listOf (List.toArray ss) nS) (by simp))
      have hDI : @LT.lt Nat _ I D := hlt5 (I, oit) (by simp)
      have hDst : @LT.lt Nat _ stl D := hlt5 (stl, listOf (List.toArray ss) nS) (by simp)
      refine store_cell F6 N6 rfl (show (L + 1 + 1 + 1 + 1 + 1 + 1, oD1) ∈ _ by grind) hD1 ?_
      intro h7 oD7 F7 N7 hoD7
      have N8 := N7 ((L + 1 + 1, oT1) :: (D, listOf ys.toArray ys.length) :: (I, oit) :: (L + 1 + 1 + 1 + 1, oK2) :: (stl, listOf (List.toArray ss) nS) :: (L + 1 + 1 + 1 + 1 + 1, oS1) :: led) (fun q hq => by
        refine ⟨?_, ?_⟩
        · simp only [List.mem_cons] at hq ⊢
          rcases hq with e | e | e | e | e | e | e
          · simp [e]
          · exact .inl e
          · simp [e]
          · simp [e]
          · simp [e]
          · simp [e]
          · simp [e]
        rcases List.mem_cons.mp hq with rfl | hq
        · exact Nat.ne_of_lt (by omega)
        rcases List.mem_cons.mp hq with rfl | hq
        · exact Nat.ne_of_gt (by omega)
        rcases List.mem_cons.mp hq with rfl | hq
        · exact Ne.symm (off1 (_, oD1) (.tail _ (.tail _ (.head _))))
        rcases List.mem_cons.mp hq with rfl | hq
        · exact Nat.ne_of_lt (by omega)
        rcases List.mem_cons.mp hq with rfl | hq
        · exact Nat.ne_of_gt (by omega)
        rcases List.mem_cons.mp hq with rfl | hq
        · exact Nat.ne_of_lt (by omega)
        · exact (hled q hq).2.2.2)
      clear N7 F6 N6
      k_steps
      show wpAny _ _ _ _ _ _
      refine wpAny_execs_cons ?_
      refine' law_thing (s := { heap := h7, gens := _, drawn := _, toks := _, os := _ }) (led := (I, oit) :: (L + 1 + 1 + 1 + 1, oK2) :: (stl, listOf (List.toArray ss) nS) :: (L + 1 + 1 + 1 + 1 + 1, oS1) :: led) (dl := D) (dvs := ys) (nD := ys.length) (ds := ds0 (lawAt sc (1 + (j : Int)) (dflt j))) ?hK ?hst B X T ?hA hh hdep hu ?henv ?h5 ?h51 (.tail _ (.tail _ (.tail _ (.tail _ hO)))) hOd (.tail _ (.tail _ (.tail _ (.tail _ hol)))) (hP.mono fun q hq => .tail _ (.tail _ (.tail _ (.tail _ hq)))) hol2 hy hyl hT1 hoD7 (fun q hq => ?hl9) hD8 F7 (fun q hq => N8 q (by grind)) ?_
      case hK => k_is
      case hst => rfl
      case h5 => rfl
      case h51 => rfl
      case hA => exact hA
      case henv => rfl
      case hl9 =>
        rcases List.mem_cons.mp hq with rfl | hq
        · exact ⟨Ne.symm (off1 (_, oT1) (.head _)), Ne.symm (off1 (_, oD1) (.tail _ (.tail _ (.head _))))⟩
        rcases List.mem_cons.mp hq with rfl | hq
        · exact ⟨Nat.ne_of_gt (by omega), Nat.ne_of_lt (by omega)⟩
        rcases List.mem_cons.mp hq with rfl | hq
        · exact ⟨Nat.ne_of_gt (by omega), Nat.ne_of_gt (by omega)⟩
        rcases List.mem_cons.mp hq with rfl | hq
        · exact ⟨Nat.ne_of_gt (by omega), Nat.ne_of_lt (by omega)⟩
        · exact ⟨(hled q hq).1, (hled q hq).2.2.2⟩
      intro h8 tk8 oT8 ovT8 oD8 dl8 dvs8 nD8 F8 N9' hT8 hD8' hds8 hdl8
      clear F7 N8
      k_steps
      show wpAny _ _ _ _ _ _
      refine compEval (cl := []) (by with_unfolding_all rfl) rfl (by decide) (fun _ => rfl) ?_
      k_steps
      rename News h₀ _ _ _ => N9
      rename Fr h₀ _ _ _ => F9
      refine compL (l := dl8) (vs := dvs8) (cap := nD8) hh F9 N9 (.tail _ (.tail _ (.head _))) hds8 ?_ (fun z => some ((2 : Int) ^ z.toNat)) (by decide) rfl rfl ?_ ?_
      · have h1 := dsJ_len (qs := qs) (ds := ds0 (lawAt sc (1 + (j : Int)) (dflt j))) 3
        have h2 := hds8.length
        have h3 := hP.1
        have h4 : (ds0 (lawAt sc (1 + (j : Int)) (dflt j))).length ≤ 4 := by
          unfold ds0; rw [List.length_map]
          exact Nat.le_trans (List.length_filter_le _ _) (by decide)
        omega
      · intro z hz tz I6 oI6 C6 oC6 D6 oD6 m6 h6 tk6 E6 hoC6 hm6 F6 N6
        clear F9 N9
        have hzb := dsJ_mem hqs (ds0_mem _) 3 z hz
        have hz0 := hzb.1
        have hz4 := hzb.2
        unfold TurnI
        refine tests_nil ?_
        rw [if_pos rfl]
        k_steps
        exact ⟨_, _, rfl, F6, N6⟩
      · intro D7 h7 tk7 ys7 F7 N7 hi7 hlt7 C7 m7 hn7 hCL7 hDL7 hC₀7 hCD7 offC7
        refine post_eval F7 N7 hn7 hCL7 hC₀7 hCD7 offC7 ?_
        intro h9 F9' N9'
        clear F7 N7 F9 N9
        have hnum : (List.filterMap (fun z : Int => some ((2 : Int) ^ z.toNat)) (dsJ qs (ds0 (lawAt sc (1 + (j : Int)) (dflt j))) 3)).sum = numK sc qs j := by
          have e : (fun z : Int => some ((2 : Int) ^ z.toNat)) = some ∘ fun z : Int => (2 : Int) ^ z.toNat := rfl
          rw [e, List.filterMap_eq_map]
          rfl
        k_steps
        refine sumK hh F9' N9' ⟨_, (N9' _ (.head _)).1, rfl, _, rfl⟩ hi7 ?_
        intro h10 tk10 t10 F10 N10
        rw [hnum]
        clear F9' N9'
        have offI : ∀ (o1 o2 o3 o4 : Obj), ∀ q ∈ (L + 1 + 1, o1) :: (L + 1 + 1 + 1 + 1, o2) :: (L + 1 + 1 + 1 + 1 + 1 + 1, o3) :: (stl, o4) :: (L + 1 + 1 + 1 + 1 + 1, oS1) :: led, q.1 ≠ I := fun o1 o2 o3 o4 q hq => by
          rcases List.mem_cons.mp hq with rfl | hq
          · exact off1 (_, oT1) (.head _)
          rcases List.mem_cons.mp hq with rfl | hq
          · exact off1 (_, oK1) (.tail _ (.head _))
          rcases List.mem_cons.mp hq with rfl | hq
          · exact off1 (_, oD1) (.tail _ (.tail _ (.head _)))
          rcases List.mem_cons.mp hq with rfl | hq
          · exact off1 (_, listOf (List.toArray ss) nS) (.tail _ (.tail _ (.tail _ (.head _))))
          · exact off1 q (.tail _ (.tail _ (.tail _ (.tail _ hq))))
        k_steps
        · rename (_ = true) => hin
          rename News h₀ _ _ _ => N9
          rename Fr h₀ _ _ _ => F9
          refine ⟨_, _, _, (L + 1 + 1, oT8) :: (L + 1 + 1 + 1 + 1, oK2) :: (L + 1 + 1 + 1 + 1 + 1 + 1, oD8) :: (stl, listOf (List.toArray ss) nS) :: (L + 1 + 1 + 1 + 1 + 1, oS1) :: led, rfl, ⟨oT8, _, oK2, _, oD8, _, ss, nS, rfl, hT8, hoK2, hD8', ?_, by omega⟩, F9, fun q hq => N9 q (by grind), offI _ _ _ _⟩
          show IntsAre ss (if numK sc qs j ∈ setsN sc qs j then setsN sc qs j else setsN sc qs j ++ [numK sc qs j])
          rw [if_pos (any_mem hin)]; exact hss
        · rename (_ = false) => hin
          rename News h₀ _ _ _ => N9
          rename Fr h₀ _ _ _ => F9
          refine append_any (its := List.toArray ss) (n := nS) F9 N9 (by simp) ?_ (by rw [List.size_toArray, sizeLine_eq]; omega)
          intro h11 F11 N11
          have N12 := N11 ((L + 1 + 1, oT8) :: (L + 1 + 1 + 1 + 1 + 1 + 1, oD8) :: (I, oit) :: (L + 1 + 1 + 1 + 1, oK2) :: (L + 1 + 1 + 1 + 1 + 1, oS1) :: led) (fun q hq => by
            refine ⟨by grind, ?_⟩
            rcases List.mem_cons.mp hq with rfl | hq
            · exact Nat.ne_of_lt (by omega)
            rcases List.mem_cons.mp hq with rfl | hq
            · exact Nat.ne_of_lt (by omega)
            rcases List.mem_cons.mp hq with rfl | hq
            · exact Ne.symm (off1 (stl, listOf (List.toArray ss) nS) (.tail _ (.tail _ (.tail _ (.head _)))))
            rcases List.mem_cons.mp hq with rfl | hq
            · exact Nat.ne_of_lt (by omega)
            rcases List.mem_cons.mp hq with rfl | hq
            · exact Nat.ne_of_lt (by omega)
            · exact Nat.ne_of_lt (hstL q hq))
          clear N11 F9 N9
          k_steps
          have epush : (List.toArray ss).push (Value.int (numK sc qs j) t10) = List.toArray (ss ++ [Value.int (numK sc qs j) t10]) := by simp
          rw [epush] at N12
          refine ⟨_, _, _, (L + 1 + 1, oT8) :: (L + 1 + 1 + 1 + 1, oK2) :: (L + 1 + 1 + 1 + 1 + 1 + 1, oD8) :: (stl, listOf (List.toArray (ss ++ [Value.int (numK sc qs j) t10])) (nS + 1)) :: (L + 1 + 1 + 1 + 1 + 1, oS1) :: led, rfl, ⟨oT8, _, oK2, _, oD8, _, _, _, rfl, hT8, hoK2, hD8', ?_, by rw [List.length_append]; exact Nat.succ_le_succ hsl⟩, F11, fun q hq => N12 q (by grind), offI _ _ _ _⟩
          show IntsAre _ (if numK sc qs j ∈ setsN sc qs j then setsN sc qs j else setsN sc qs j ++ [numK sc qs j])
          rw [if_neg (any_no hin)]; exact hss.append (.cons _ _ .nil)
end
end Mine

/-! ## LF -/
namespace Mine
open PySem PySem.W PySem.Calls PyProof.Rows
open Sem (wp)
set_option maxRecDepth 100000

theorem fillK45 : ∀ w : World, PySem.Challenge.rw_bh0019_01.Holds → hd.heap_39 w.params = hd.heap_39 w.params := by
  w_top off
  first | (walk1; fail) | skip
  k_fill
  intro _ _; rfl

local macro_rules | `(tactic| k_mem) => `(tactic| assumption)
local macro_rules | `(tactic| k_room) => `(tactic| ((simp only [depth_under_make, depth_under_kw, depth_in1, depth_deeper, depth_caller, Around.in1_units, Around.deeper_units]); omega))
local macro_rules | `(tactic| k_all) => `(tactic| first | assumption | exact allNe_of (by assumption) (by omega))
local macro_rules | `(tactic| walk_at "assign Tuple") => `(tactic| (k_here; (with_reducible show wpAny _ _ (assign (Expr.Tuple _ _ _) _ (Value.ref _)) _ _ _); k_dflt (refine' unpackN_ ?k1 ?k2 ?k3 ?k4 ?k5 ?k6 ?_; (case k1 => k_asm); (case k2 => k_asm); (case k3 => (exact News.isTup (by k_asm) (by k_mem))); (case k4 => assumption); (case k5 => exact rfl); (case k6 => exact rfl); k_whole); intro h' F' N'; (try k_sweep)))
local macro_rules | `(tactic| walk_at "eval Name") => `(tactic| (k_here; kc_free; k_dflt (refine' nameX_F ?N ?c ?m ?d ?_ ?a ?b; (case a => rfl); (case b => rfl); (case N => k_asm); (case c => rfl); (case m => k_mem); (case d => k_asm); k_whole)))
local macro_rules | `(tactic| walk_at "eval Name") => `(tactic| (k_here; k_dflt (refine' nameX_L ?k1 ?k2 ?_ ?k3 ?k4 ?k5; (case k3 => rfl); (case k4 => rfl); (case k5 => decide); (case k1 => k_asm); (case k2 => assumption); k_whole)))
local macro_rules | `(tactic| walk_at "compareOp In int ref") => `(tactic| (refine d_in (by k_asm) (by k_mem) (by k_asm) (by k_asm) ?_))

local macro_rules | `(tactic| walk_at "binaryOp BitOr int int") => `(tactic| (k_here; first | with_reducible refine or12 ?_ | with_reducible refine or34 ?_))
local macro_rules | `(tactic| walk_at "eval Name") => `(tactic| (k_here; k_dflt (refine' nameX_C ?N ?c ?m ?d ?_ ?a ?b; (case b => rfl); (case c => rfl); (case N => k_asm); (case m => k_mem); (case d => k_asm); (case a => rfl); k_whole)))
local macro_rules | `(tactic| walk_at "exec Try") => `(tactic| (k_here; refine wpAny_Try_except ?_))
local macro_rules | `(tactic| walk_at "callWith ref") => `(tactic| (k_here; k_dflt (first
  | (refine' callWith_F ?k1 ?_; (case k1 => exact FnAt.of (by k_asm) (by k_mem)); k_whole)
  | (refine' callWith_F0 ?k1 ?_; (case k1 => exact FnAt.of (by k_asm) (by k_mem)); k_whole; try dsimp only [List.nil_append, List.cons_append]))))

local macro_rules | `(tactic| walk_at "truthy ref") => `(tactic| (k_here; k_dflt (refine' truthyL ?N ?m ?z ?_; (case N => k_asm); (case m => k_mem); (case z => first | assumption | exact Nat.le_of_ble_eq_true rfl))))

def nmV (n : Nat) : Str := if n = 164 then Str.ofString "law.<locals>.parents" else Str.ofString "law.<locals>.age"
theorem TabOk.empty {nm : Nat → Str} {tups : List (Addr × Obj)} : TabOk nm tups #[] := ⟨trivial, fun pos cv e => by simp [codeAmong] at e⟩
theorem nameLed {h₀ h : Heap} {L : Addr} {led : List (Addr × Obj)} (N : News h₀ L h led) : ∃ R, R = led ∧ News h₀ L h R := ⟨_, rfl, N⟩
theorem memHead {α : Type} {R l : List α} {a : α} (h : R = a :: l) : a ∈ R := h ▸ .head _
theorem pick87 {h₀ h : Heap} {L : Addr} {x a b d : Addr × Obj} {e1 e2 R : List (Addr × Obj)} (N : News h₀ L h (x :: (e2 ++ (a :: b :: (e1 ++ d :: R))))) : ∃ R2, R2 = x :: (e2 ++ (a :: b :: (e1 ++ R))) ∧ News h₀ L h (d :: R2) :=
  ⟨_, rfl, fun q hq => N q (by grind)⟩
theorem memThird {α : Type} {R e2 l : List α} {x a b : α} (h : R = x :: (e2 ++ (a :: b :: l))) : b ∈ R := h ▸ .tail _ (List.mem_append_right _ (.tail _ (.head _)))
theorem pickD {h₀ h : Heap} {L : Addr} {x a : Addr × Obj} {extra R : List (Addr × Obj)} (N : News h₀ L h (x :: (extra ++ (a :: R)))) : ∃ R1, R1 = x :: (extra ++ R) ∧ News h₀ L h (a :: R1) :=
  ⟨_, rfl, fun q hq => N q (by grind)⟩
section
variable {prog : Program} {w : World} {A₀ A : Around} {base h₀ : Heap} {outer : List Env} {L fa : Addr} {m mg mb : Str → Option Value} {s : Shared} {news : List (Addr × Obj)}
  {p : Program} {loose : List Str} {mean : ExcName → Option Value} {E : Value → Shared → Prop} {Q : Flow → Shared → Prop}
  {fd130 : FuncData} {oc130 : Value} {od130 : Option Addr} {osl130 : Array (Option Value)} {stmts : List Stmt}

set_option maxHeartbeats 4000000 in
theorem law_defs (hK : (hd.heap_39 w.params).lookup 130 = some ⟨oc130, od130, .func fd130, osl130⟩) (hst : fd130.body = .stmts stmts)
   (B : Below A₀ base outer h₀) (X : (hd.heap_39 w.params).In h₀) (T : Top p loose mean mg mb h₀)
   (hA : A.frames = some (envOfC fd130.qualname fd130.scope L fa (.ref 129) :: outer)) (hh : A.handled = none) (hdep : A.depth + 130 < recursionLimit) (hu : A.units + 400 < cLine) (C : Stop (CodeHd h₀ 129 127))
   {led : List (Addr × Obj)} {oO oW : Obj} {ol wl : Addr} {ovs wvs : List Value} {on wn : Nat} {qs : List (Int × Int)} {wt : Nat → Int} {dom : Int → Prop}
   (hO : (L + 1 + 1 + 1 + 1 + 1 + 1 + 1, oO) ∈ led) (hOd : oO.data = .cell (some (.ref ol))) (hol : (ol, listOf ovs.toArray on) ∈ led) (hP : PairsIn led ovs qs) (hol2 : ovs.length ≤ 10)
   (hW : (L + 1 + 1 + 1 + 1 + 1 + 1 + 1 + 1, oW) ∈ led) (hWd : oW.data = .cell (some (.ref wl))) (hwl : (wl, listOf wvs.toArray wn) ∈ led) (hwi : IntsAre wvs [wt 0, wt 1, wt 2, wt 3]) (hdom : ∀ n, dom n → 0 ≤ n ∧ n < 16)
   (h127 : ∀ q ∈ led, q.1 ≠ 127) (h127L : @LT.lt Nat _ 127 L)
   (F : Fr h₀ L s.heap m) {t87 : Obj} (N : News h₀ L s.heap ((127, tabObj #[]) :: (87, t87) :: led))
   (h : ∀ h' tk m' R pf af fdp fda ocp oca odp oda slp sla ps', Fr h₀ L h' m' → News h₀ L h' ((87, t87) :: R) → m' (Str.ofString "parents") = some (.ref pf) → m' (Str.ofString "age") = some (.ref af) → (∀ q ∈ led, q ∈ R) → (127, tabObj ps') ∈ R → (∀ q ∈ R, q ∈ led ∨ q.1 = 127 ∨ @LT.lt Nat _ (L + 1 + 1 + 1 + 1 + 1 + 1 + 1 + 1) q.1) →
      AgeSpec prog w af R (ageO wt) dom → ParSpec prog w pf R (parO (oOf qs)) dom → (pf, (⟨ocp, odp, .func fdp, slp⟩ : Obj)) ∈ R → (af, (⟨oca, oda, .func fda, sla⟩ : Obj)) ∈ R →
      wpAny (model prog w) A (execs (stmts.drop 8) (envOfC fd130.qualname fd130.scope L fa (.ref 129))) Q E { s with heap := h', toks := tk }) :
   wpAny (model prog w) A (execs (stmts.drop 6) (envOfC fd130.qualname fd130.scope L fa (.ref 129))) Q E s := by
  have hK0 := hK
  have hst0 := hst
  have e130 := lk hK (by k_is)
  cases e130
  cases hst
  simp only [List.drop_succ_cons, List.drop_zero] at h ⊢
  (try dsimp only at hA h ⊢)
  have h127' : ∀ q ∈ (87, t87) :: led, q.1 ≠ 127 := fun q hq => by
    rcases List.mem_cons.mp hq with rfl | hq
    · exact Nat.ne_of_lt (show (87 : Nat) < 127 by decide)
    · exact h127 q hq
  refine execs_split (xs := [_, _]) ?_
  k_steps
  refine nestDef_K rfl rfl rfl ?_
  refine nest_any (nm := nmV) (tups := []) (clos := [("order", L + 1 + 1 + 1 + 1 + 1 + 1 + 1)]) (g := fun o' => (127, o') :: (87, t87) :: led) F N T C rfl (UpdF.head h127') TabOk.empty rfl rfl ?_
  intro pf c1 oc1 vs1 t1 ctv1 doc1 h1 tk1 ex1 ps1 F1 N1 TO1 hc1 ho1 hv1 hlt1 hex1 hexf1
  k_steps
  rename News h₀ _ _ _ => N9
  rename Fr h₀ _ _ _ => F9
  obtain ⟨R1, hR1, N10⟩ := pickD N9
  have hp127 : @LT.lt Nat _ 127 pf := hlt1 _ (.head _)
  have hR127 : ∀ q ∈ R1, q.1 ≠ 127 := fun q hq => by
    subst hR1
    rcases List.mem_cons.mp hq with rfl | hq
    · exact Nat.ne_of_gt hp127
    rcases List.mem_append.mp hq with hq | hq
    · exact Nat.ne_of_gt (hex1 q hq _ (.head _))
    · exact h127' q hq
  refine nestDef_K rfl rfl rfl ?_
  refine nest_any (nm := nmV) (tups := ex1 ++ []) (clos := [("weights", L + 1 + 1 + 1 + 1 + 1 + 1 + 1 + 1)]) (g := fun o' => (127, o') :: R1) F9 N10 T C rfl (UpdF.head hR127) TO1 rfl rfl ?_
  intro af c2 oc2 vs2 t2 ctv2 doc2 h2 tk2 ex2 ps2 F2 N2 TO2 hc2 ho2 hv2 hlt2 hex2 hexf2
  clear F9 N9 N10
  k_steps
  rename News h₀ _ _ _ => N9
  rename Fr h₀ _ _ _ => F9
  rw [hR1] at N9
  obtain ⟨R2, hR2, N11⟩ := pick87 N9
  have hinL2 : ∀ q ∈ led, q ∈ R2 := fun q hq => by rw [hR2]; exact .tail _ (List.mem_append_right _ (.tail _ (.tail _ (List.mem_append_right _ hq))))
  have hinL1 : ∀ q ∈ led, q ∈ R1 := fun q hq => by rw [hR1]; exact .tail _ (List.mem_append_right _ (.tail _ hq))
  have ham := memHead hR2
  have hpm := memThird hR2
  have hx1 : ∀ q ∈ ex1, q ∈ R2 := fun q hq => by rw [hR2]; exact .tail _ (List.mem_append_right _ (.tail _ (.tail _ (List.mem_append_left _ hq))))
  have hc1m : (c1, oc1) ∈ R2 := hx1 _ (by simpa using hc1)
  have hc2m : (c2, oc2) ∈ R2 := by
    rcases List.mem_append.mp hc2 with hc2 | hc2
    · rw [hR2]; exact .tail _ (List.mem_append_left _ hc2)
    · exact hx1 _ (by simpa using hc2)
  have SA : AgeSpec prog w af R2 (ageO wt) dom := age_spec (prog := prog) hK0 hst0 rfl ham hc2m ho2 hv2 (hinL2 _ hW) hWd (hinL2 _ hwl) hwi hdom
  have SP : ParSpec prog w pf R2 (parO (oOf qs)) dom := par_spec (prog := prog) hK0 hst0 rfl hpm hc1m ho1 hv1 (hinL2 _ hO) hOd (hinL2 _ hol) (hP.mono hinL2) hol2 hdom
  show wpAny _ _ _ _ _ _
  refine h _ _ _ R2 pf af _ _ _ _ _ _ _ _ ps2 F9 N11 rfl rfl hinL2 (by rw [hR2]; exact .tail _ (List.mem_append_right _ (.head _))) (fun q hq => ?_) SA SP hpm ham
  rw [hR2] at hq
  rcases List.mem_cons.mp hq with rfl | hq
  · exact .inr (.inr (hlt2 _ (.tail _ (hinL1 _ hW))))
  rcases List.mem_append.mp hq with hq | hq
  · exact .inr (.inr (hex2 q hq _ (.tail _ (hinL1 _ hW))))
  rcases List.mem_cons.mp hq with rfl | hq
  · exact .inr (.inl rfl)
  rcases List.mem_cons.mp hq with rfl | hq
  · exact .inr (.inr (hlt1 _ (.tail _ (.tail _ hW))))
  rcases List.mem_append.mp hq with hq | hq
  · exact .inr (.inr (hex1 q hq _ (.tail _ (.tail _ hW))))
  · exact .inl hq
end
end Mine

/-! ## LG -/
namespace Mine
open PySem PySem.W PySem.Calls PyProof.Rows
open Sem (wp)
set_option maxRecDepth 100000

theorem fillK46 : ∀ w : World, PySem.Challenge.rw_bh0019_01.Holds → hd.heap_39 w.params = hd.heap_39 w.params := by
  w_top off
  first | (walk1; fail) | skip
  k_fill
  intro _ _; rfl

local macro_rules | `(tactic| k_mem) => `(tactic| assumption)
local macro_rules | `(tactic| k_room) => `(tactic| ((simp only [depth_under_make, depth_under_kw, depth_in1, depth_deeper, depth_caller, Around.in1_units, Around.deeper_units]); omega))
local macro_rules | `(tactic| k_all) => `(tactic| first | assumption | exact allNe_of (by assumption) (by omega))
local macro_rules | `(tactic| walk_at "assign Tuple") => `(tactic| (k_here; (with_reducible show wpAny _ _ (assign (Expr.Tuple _ _ _) _ (Value.ref _)) _ _ _); k_dflt (refine' unpackN_ ?k1 ?k2 ?k3 ?k4 ?k5 ?k6 ?_; (case k1 => k_asm); (case k2 => k_asm); (case k3 => (exact News.isTup (by k_asm) (by k_mem))); (case k4 => assumption); (case k5 => exact rfl); (case k6 => exact rfl); k_whole); intro h' F' N'; (try k_sweep)))
local macro_rules | `(tactic| walk_at "eval Name") => `(tactic| (k_here; kc_free; k_dflt (refine' nameX_F ?N ?c ?m ?d ?_ ?a ?b; (case a => rfl); (case b => rfl); (case N => k_asm); (case c => rfl); (case m => k_mem); (case d => k_asm); k_whole)))
local macro_rules | `(tactic| walk_at "eval Name") => `(tactic| (k_here; k_dflt (refine' nameX_L ?k1 ?k2 ?_ ?k3 ?k4 ?k5; (case k3 => rfl); (case k4 => rfl); (case k5 => decide); (case k1 => k_asm); (case k2 => assumption); k_whole)))
local macro_rules | `(tactic| walk_at "compareOp In int ref") => `(tactic| (refine d_in (by k_asm) (by k_mem) (by k_asm) (by k_asm) ?_))

local macro_rules | `(tactic| walk_at "binaryOp BitOr int int") => `(tactic| (k_here; first | with_reducible refine or12 ?_ | with_reducible refine or34 ?_))
local macro_rules | `(tactic| walk_at "eval Name") => `(tactic| (k_here; k_dflt (refine' nameX_C ?N ?c ?m ?d ?_ ?a ?b; (case b => rfl); (case c => rfl); (case N => k_asm); (case m => k_mem); (case d => k_asm); (case a => rfl); k_whole)))
local macro_rules | `(tactic| walk_at "exec Try") => `(tactic| (k_here; refine wpAny_Try_except ?_))
local macro_rules | `(tactic| walk_at "callWith ref") => `(tactic| (k_here; k_dflt (first
  | (refine' callWith_F ?k1 ?_; (case k1 => exact FnAt.of (by k_asm) (by k_mem)); k_whole)
  | (refine' callWith_F0 ?k1 ?_; (case k1 => exact FnAt.of (by k_asm) (by k_mem)); k_whole; try dsimp only [List.nil_append, List.cons_append]))))

local macro_rules | `(tactic| walk_at "truthy ref") => `(tactic| (k_here; k_dflt (refine' truthyL ?N ?m ?z ?_; (case N => k_asm); (case m => k_mem); (case z => first | assumption | exact Nat.le_of_ble_eq_true rfl))))

local macro_rules | `(tactic| walk_at "eval ListComp") => `(tactic| (refine stopComp ?_))
local macro_rules | `(tactic| walk_at "exec Assign cons ListComp") => `(tactic| (refine wpAny_Assign_Name ?_))
section
variable {prog : Program} {w : World} {A₀ A : Around} {base h₀ : Heap} {outer : List Env} {env : Env} {L : Addr} {m mg mb : Str → Option Value} {s : Shared}
  {p : Program} {loose : List Str} {mean : ExcName → Option Value} {E : Value → Shared → Prop} {Q : Value → Shared → Prop}
theorem ind_all (B : Below A₀ base outer h₀) (F : Fr h₀ L s.heap m) (X : (hd.heap_39 w.params).In h₀) (T : Top p loose mean mg mb h₀) (C : Stop (CodeHd h₀ 89 87))
   (hA : A.frames = some (env :: outer)) (hf : env.frame = some L) (hke : env.scope.kind = .function) (hh : A.handled = none) (hd : A.depth + 110 < recursionLimit) (hu : A.units + 330 < cLine)
   {pf af cl : Addr} {ss : List Value} {ns : List Int} {mbv : Int → Int → Int} {age : Int → Int} {par : Int → List Int} {dom : Int → Prop} {led : List (Addr × Obj)} {ps : Array Value} {n2 : Nat}
   (SA : AgeSpec prog w af led age dom) (SP : ParSpec prog w pf led par dom)
   {R : List (Addr × Obj)} {fda fdp : FuncData} {oca ocp : Value} {oda odp : Option Addr} {sla slp : Array (Option Value)} (hafo : (af, (⟨oca, oda, .func fda, sla⟩ : Obj)) ∈ R) (hpfo : (pf, (⟨ocp, odp, .func fdp, slp⟩ : Obj)) ∈ R) (hled : ∀ q ∈ led, q ∈ R)
   (N : News h₀ L s.heap ((87, tabObj ps) :: R)) (TO : TabOk nmL R ps) (hR87 : ∀ q ∈ R, q.1 ≠ 87)
   (hcl : (cl, listOf (List.toArray ss) n2) ∈ R) (hi : IntsAre ss ns) (hn1 : 1 ≤ ns.length) (hlen : ns.length ≤ 3) (hnd : ns.Nodup) (hdom : ∀ x ∈ ns, dom x)
   (hG : ∀ x ∈ ns, ∀ y ∈ ns, x ≠ y → ∃ k, k ≤ 150 ∧ LGood par age 0 dom (FinR [mbv x y]) k (cst0 x y) (pq0 age x y) [])
   (h : ∀ h' tk gens' r vs' n' cs ps', Fr h₀ L h' m → News h₀ L h' ((87, tabObj ps') :: (r, listOf vs' n') :: (cs ++ R)) → TabOk nmL (cs ++ R) ps' → IntsAre vs'.toList (ns.filter (indep mbv ns)) → (∀ q ∈ cs, ∀ q' ∈ (87, tabObj ps) :: R, q'.1 < q.1) → (∀ q ∈ (87, tabObj ps) :: R, q.1 < r) →
      (∃ more : Array GenState, gens' = s.gens ++ more ∧ ∀ x ∈ more, x.bare = true) → Q (.ref r) { s with heap := h', toks := tk, gens := gens' }) :
   wpAny (model prog w) A (call (.ref 118) [.ref pf, .ref af, .none, .ref cl]) Q E s := by
  match ss, hi with
  | [], hi => exact absurd hn1 (by rw [← hi.length]; simp)
  | [v], hi =>
    obtain ⟨x, t, rfl, rfl⟩ : ∃ x t, v = Value.int x t ∧ ns = [x] := by
      cases hi with
      | cons x t r => cases r; exact ⟨x, t, rfl, rfl⟩
    refine ind_spec1 B F X T hA hf hke hh hd hu (N := N) (.tail _ hcl) ?_
    intro h' tk r vs' n' F' N' hi' hlt
    have e : [x].filter (indep mbv [x]) = [x] := by simp [indep]
    refine h h' tk s.gens r vs' n' [] ps F' (fun q hq => N' q ?_) TO (by rw [e]; exact hi') (fun q hq => nomatch hq) hlt ⟨#[], by simp, by simp⟩
    rcases List.mem_cons.mp hq with e | hq
    · exact e ▸ .tail _ (.head _)
    rcases List.mem_cons.mp hq with e | hq
    · exact e ▸ .head _
    · exact .tail _ (.tail _ hq)
  | v1 :: v2 :: vr, hi =>
    refine ind_spec B F X T C hA hf hke hh hd hu SA SP hafo hpfo hled N TO hR87 hcl hi hlen hnd hdom hG ?_
    intro h' tk gens' r vs' n' cs ps' F' N' TO' hi' hcs hlt hne hmore
    exact h h' tk gens' r vs' n' cs ps' F' N' TO' hi' hcs hlt hmore
end
theorem indep_nil (x : Int) (ns : List Int) : (ns.filterMap fun z => if z ≠ x ∧ Builtin.bitAnd x z = x then some (1 : Int) else none) = [] ↔ indep Builtin.bitAnd ns x = true := by
  rw [List.filterMap_eq_nil_iff]
  unfold indep
  rw [List.all_eq_true]
  constructor
  · intro h y hy
    have := h y hy
    by_cases e : y = x
    · simp [e]
    · by_cases e2 : Builtin.bitAnd x y = x
      · rw [if_pos ⟨e, e2⟩] at this; cases this
      · simp [e2]
  · intro h y hy
    refine if_neg fun ⟨h1, h2⟩ => ?_
    have := h y hy
    simp [h1, h2] at this
section
variable {prog : Program} {w : World} {A₀ A : Around} {base h₀ : Heap} {outer : List Env} {L fa : Addr} {m mg mb : Str → Option Value} {s : Shared} {news : List (Addr × Obj)}
  {p : Program} {loose : List Str} {mean : ExcName → Option Value} {E : Value → Shared → Prop} {Q : Flow → Shared → Prop}
  {fd130 : FuncData} {oc130 : Value} {od130 : Option Addr} {osl130 : Array (Option Value)} {stmts : List Stmt}

set_option maxHeartbeats 4000000 in
theorem law_ind (hK : (hd.heap_39 w.params).lookup 130 = some ⟨oc130, od130, .func fd130, osl130⟩) (hst : fd130.body = .stmts stmts)
   (B : Below A₀ base outer h₀) (X : (hd.heap_39 w.params).In h₀) (T : Top p loose mean mg mb h₀)
   (hA : A.frames = some (envOfC fd130.qualname fd130.scope L fa (.ref 129) :: outer)) (hh : A.handled = none) (hdep : A.depth + 130 < recursionLimit) (hu : A.units + 400 < cLine) (C : Stop (CodeHd h₀ 89 87))
   {R : List (Addr × Obj)} {oS : Obj} {stl pf af : Addr} {ss : List Value} {nS : Nat} {ns : List Int} {age : Int → Int} {par : Int → List Int} {dom : Int → Prop} {ps : Array Value}
   (hS : (L + 1 + 1 + 1 + 1 + 1, oS) ∈ R) (oSd : oS.data = .cell (some (.ref stl))) (hss : (stl, listOf (List.toArray ss) nS) ∈ R) (hi : IntsAre ss ns) (hn1 : 1 ≤ ns.length) (hlen : ns.length ≤ 3) (hnd : ns.Nodup) (hdom : ∀ x ∈ ns, dom x)
   (SA : AgeSpec prog w af R age dom) (SP : ParSpec prog w pf R par dom)
   {fda fdp : FuncData} {oca ocp : Value} {oda odp : Option Addr} {sla slp : Array (Option Value)} (hafo : (af, (⟨oca, oda, .func fda, sla⟩ : Obj)) ∈ R) (hpfo : (pf, (⟨ocp, odp, .func fdp, slp⟩ : Obj)) ∈ R)
   (hG : ∀ x ∈ ns, ∀ y ∈ ns, x ≠ y → ∃ k, k ≤ 150 ∧ LGood par age 0 dom (FinR [Builtin.bitAnd x y]) k (cst0 x y) (pq0 age x y) [])
   (m_p : m (Str.ofString "parents") = some (.ref pf)) (m_a : m (Str.ofString "age") = some (.ref af)) (TO : TabOk nmL R ps) (hR87 : ∀ q ∈ R, q.1 ≠ 87)
   (F : Fr h₀ L s.heap m) (N : News h₀ L s.heap ((87, tabObj ps) :: R))
   (h : ∀ h' tk gens' cs ps', Fr h₀ L h' m → News h₀ L h' ((87, tabObj ps') :: (cs ++ R)) → TabOk nmL (cs ++ R) ps' → (∀ q ∈ cs, q.1 ≠ 87) → (∃ more : Array GenState, gens' = s.gens ++ more ∧ ∀ x ∈ more, x.bare = true) →
      wpAny (model prog w) A (execs (stmts.drop 9) (envOfC fd130.qualname fd130.scope L fa (.ref 129))) Q E { s with heap := h', toks := tk, gens := gens' }) :
   wpAny (model prog w) A (execs (stmts.drop 8) (envOfC fd130.qualname fd130.scope L fa (.ref 129))) Q E s := by
  have e130 := lk hK (by k_is)
  cases e130
  cases hst
  simp only [List.drop_succ_cons, List.drop_zero] at h ⊢
  (try dsimp only at hA h ⊢)
  refine execs_split (xs := [_]) ?_
  k_steps
  refine ind_all B F X T C hA rfl rfl hh (by omega) (by omega) SA SP hafo hpfo (fun q hq => hq) N TO hR87 hss hi hn1 hlen hnd hdom hG ?_
  intro h1 tk1 gens1 r vs1 n1 cs ps1 F1 N1 TO1 hi1 hcs hlt1 hmore
  have hS1 : (L + 1 + 1 + 1 + 1 + 1, oS) ∈ (87, tabObj ps1) :: (r, listOf vs1 n1) :: (cs ++ R) := .tail _ (.tail _ (List.mem_append_right _ hS))
  k_steps
  show wpAny _ _ _ _ _ _
  refine compEval (cl := [("sets", L + 1 + 1 + 1 + 1 + 1)]) (by with_unfolding_all rfl) rfl (by decide) (fun _ => rfl) ?_
  k_steps
  rename News h₀ _ _ _ => N9
  rename Fr h₀ _ _ _ => F9
  have hssl : ss.length ≤ 1000 := by rw [hi.length]; omega
  have hss1 : (stl, listOf (List.toArray ss) nS) ∈ (87, tabObj ps1) :: (r, listOf vs1 n1) :: (cs ++ R) := .tail _ (.tail _ (List.mem_append_right _ hss))
  refine compC (vs := ss) (ns := ns) (cap := nS) hh F9 N9 hss1 hi hssl (fun z => if indep Builtin.bitAnd ns z then some z else none) (fun _ => rfl) (fun _ => rfl) (fun _ _ => rfl) (fun _ _ => rfl) ?_ ?_
  · intro z hz tz I oI C5 oC5 D5 oD5 K oK h5 tk5 E5 hoK F5 N5
    clear F9 N9
    have hS5 : (L + 1 + 1 + 1 + 1 + 1, oS) ∈ (I, oI) :: (C5, oC5) :: (D5, oD5) :: (K, oK) :: (87, tabObj ps1) :: (r, listOf vs1 n1) :: (cs ++ R) := .tail _ (.tail _ (.tail _ (.tail _ hS1)))
    unfold TurnI
    refine tests_one (wpAny_isTrue_Compare1 ?_)
    refine compEval (cl := [("one", K)]) (by with_unfolding_all rfl) rfl (by decide) (fun _ => rfl) ?_
    k_steps
    rename News h₀ _ _ _ => N9
    rename Fr h₀ _ _ _ => F9
    refine compL (l := stl) (vs := ss) (ns := ns) (cap := nS) hh F9 N9 (.tail _ (.tail _ (.tail _ (.tail _ hss1)))) hi hssl (fun y => if y ≠ z ∧ Builtin.bitAnd z y = z then some 1 else none) (by decide) rfl rfl ?_ ?_
    · intro y hy ty I6 oI6 C6 oC6 D6 oD6 m6 h6 tk6 E6 hoC6 hm6 F6 N6
      clear F9 N9
      unfold TurnI
      refine tests_one ?_
      k_steps
      all_goals first | exact ⟨_, _, rfl, F6, N6⟩ | exact if_pos ⟨‹_›, ‹_›⟩ | exact if_neg (fun h => absurd h.2 ‹_›) | exact if_neg (fun h => h.1 ‹_›)
    · intro D7 h7 tk7 ys7 F7 N7 hi7 hlt7 C7 m7 hn7 hCL7 hDL7 hC₀7 hCD7 offC7
      refine post_eval F7 N7 hn7 hCL7 hC₀7 hCD7 offC7 ?_
      intro h8 F8 N8
      clear F7 N7 F9 N9
      k_steps
      all_goals first
        | (rename News h₀ _ _ _ => N9; rename Fr h₀ _ _ _ => F9; exact ⟨_, _, rfl, F9, fun q hq => N9 q (.tail _ (.tail _ hq))⟩)
        | exact if_pos ((indep_nil z ns).mp (of_decide_eq_true ‹_›))
        | exact if_neg (fun h => of_decide_eq_false ‹_› ((indep_nil z ns).mpr h))
  · intro D7 h7 tk7 ys7 F7 N7 hi7 hlt7 C7 m7 hn7 hCL7 hDL7 hC₀7 hCD7 offC7
    refine post_eval F7 N7 hn7 hCL7 hC₀7 hCD7 offC7 ?_
    intro h8 F8 N8
    clear F7 N7 F9 N9
    rw [fm_if (indep Builtin.bitAnd ns) (fun z => z) ns, List.map_id'] at hi7
    have hi1' : IntsAre vs1.toList (ns.filter (indep Builtin.bitAnd ns)) := hi1
    k_steps
    show wpAny _ _ _ _ _ _
    refine h _ _ gens1 cs ps1 F8 (fun q hq => N8 q ?_) TO1 (fun q hq => Nat.ne_of_gt (hcs q hq _ (.head _))) hmore
    rcases List.mem_cons.mp hq with e | hq
    · exact e ▸ .tail _ (.head _)
    · exact .tail _ (.tail _ (.tail _ hq))
end
end Mine

/-! ## LH -/
namespace Mine
open PySem PySem.W PySem.Calls PyProof.Rows
open Sem (wp)
set_option maxRecDepth 100000

theorem fillK47 : ∀ w : World, PySem.Challenge.rw_bh0019_01.Holds → hd.heap_39 w.params = hd.heap_39 w.params := by
  w_top off
  first | (walk1; fail) | skip
  k_fill
  intro _ _; rfl

local macro_rules | `(tactic| k_mem) => `(tactic| assumption)
local macro_rules | `(tactic| k_room) => `(tactic| ((simp only [depth_under_make, depth_under_kw, depth_in1, depth_deeper, depth_caller, Around.in1_units, Around.deeper_units]); omega))
local macro_rules | `(tactic| k_all) => `(tactic| first | assumption | exact allNe_of (by assumption) (by omega))
local macro_rules | `(tactic| walk_at "assign Tuple") => `(tactic| (k_here; (with_reducible show wpAny _ _ (assign (Expr.Tuple _ _ _) _ (Value.ref _)) _ _ _); k_dflt (refine' unpackN_ ?k1 ?k2 ?k3 ?k4 ?k5 ?k6 ?_; (case k1 => k_asm); (case k2 => k_asm); (case k3 => (exact News.isTup (by k_asm) (by k_mem))); (case k4 => assumption); (case k5 => exact rfl); (case k6 => exact rfl); k_whole); intro h' F' N'; (try k_sweep)))
local macro_rules | `(tactic| walk_at "eval Name") => `(tactic| (k_here; kc_free; k_dflt (refine' nameX_F ?N ?c ?m ?d ?_ ?a ?b; (case a => rfl); (case b => rfl); (case N => k_asm); (case c => rfl); (case m => k_mem); (case d => k_asm); k_whole)))
local macro_rules | `(tactic| walk_at "eval Name") => `(tactic| (k_here; k_dflt (refine' nameX_L ?k1 ?k2 ?_ ?k3 ?k4 ?k5; (case k3 => rfl); (case k4 => rfl); (case k5 => decide); (case k1 => k_asm); (case k2 => assumption); k_whole)))
local macro_rules | `(tactic| walk_at "compareOp In int ref") => `(tactic| (refine d_in (by k_asm) (by k_mem) (by k_asm) (by k_asm) ?_))

local macro_rules | `(tactic| walk_at "binaryOp BitOr int int") => `(tactic| (k_here; first | with_reducible refine or12 ?_ | with_reducible refine or34 ?_))
local macro_rules | `(tactic| walk_at "eval Name") => `(tactic| (k_here; k_dflt (refine' nameX_C ?N ?c ?m ?d ?_ ?a ?b; (case b => rfl); (case c => rfl); (case N => k_asm); (case m => k_mem); (case d => k_asm); (case a => rfl); k_whole)))
local macro_rules | `(tactic| walk_at "exec Try") => `(tactic| (k_here; refine wpAny_Try_except ?_))
local macro_rules | `(tactic| walk_at "callWith ref") => `(tactic| (k_here; k_dflt (first
  | (refine' callWith_F ?k1 ?_; (case k1 => exact FnAt.of (by k_asm) (by k_mem)); k_whole)
  | (refine' callWith_F0 ?k1 ?_; (case k1 => exact FnAt.of (by k_asm) (by k_mem)); k_whole; try dsimp only [List.nil_append, List.cons_append]))))

local macro_rules | `(tactic| walk_at "truthy ref") => `(tactic| (k_here; k_dflt (refine' truthyL ?N ?m ?z ?_; (case N => k_asm); (case m => k_mem); (case z => first | assumption | exact Nat.le_of_ble_eq_true rfl))))

local macro_rules | `(tactic| walk_at "subscriptTail") => `(tactic| (k_here; first
  | (refine' kim_list ?N ?m ?c ?d ?h0 ?hf ?hx ?_ ?hs ?hg; (case N => k_asm); (case m => first | assumption | exact List.Mem.tail _ (by assumption) | k_mem); (case c => rfl); (case d => rfl); (case h0 => decide); (case hf => decide); (case hx => rfl); (case hs => with_unfolding_all rfl); (case hg => (intro _; with_unfolding_all rfl)); k_whole)
  | (refine' kim_back ?N ?m ?c ?d ?h0 ?h1 ?hf ?hx ?_ ?hs ?hg; (case N => k_asm); (case m => first | assumption | exact List.Mem.tail _ (by assumption) | k_mem); (case c => rfl); (case d => rfl); (case h0 => decide); (case h1 => simp only [List.length_cons, List.length_nil]; decide); (case hf => decide); (case hx => rfl); (case hs => with_unfolding_all rfl); (case hg => (intro _; with_unfolding_all rfl)); k_whole)))
local macro_rules | `(tactic| walk_at "eval ListComp") => `(tactic| (refine stopComp ?_))
local macro_rules | `(tactic| walk_at "exec Assign cons ListComp") => `(tactic| (refine wpAny_Assign_Name ?_))
section
variable {prog : Program} {w : World} {A₀ A : Around} {base h₀ : Heap} {outer : List Env} {L fa : Addr} {m mg mb : Str → Option Value} {s : Shared} {news : List (Addr × Obj)}
  {p : Program} {loose : List Str} {mean : ExcName → Option Value} {E : Value → Shared → Prop} {Q : Flow → Shared → Prop}
  {fd130 : FuncData} {oc130 : Value} {od130 : Option Addr} {osl130 : Array (Option Value)} {stmts : List Stmt}

set_option maxHeartbeats 4000000 in
theorem law_two1 (hK : (hd.heap_39 w.params).lookup 130 = some ⟨oc130, od130, .func fd130, osl130⟩) (hst : fd130.body = .stmts stmts)
   (B : Below A₀ base outer h₀) (X : (hd.heap_39 w.params).In h₀) (T : Top p loose mean mg mb h₀)
   (hA : A.frames = some (envOfC fd130.qualname fd130.scope L fa (.ref 129) :: outer)) (hh : A.handled = none) (hdep : A.depth + 130 < recursionLimit) (hu : A.units + 400 < cLine) (C : Stop (CodeHd h₀ 89 87))
   {R Rc : List (Addr × Obj)} {oS : Obj} {stl pf af : Addr} {nS : Nat} {age : Int → Int} {par : Int → List Int} {dom : Int → Prop} {ps : Array Value} (hsub : ∀ q ∈ R, q ∈ Rc)
   (hS : (L + 1 + 1 + 1 + 1 + 1, oS) ∈ Rc) (oSd : oS.data = .cell (some (.ref stl)))
   (SA : AgeSpec prog w af R age dom) (SP : ParSpec prog w pf R par dom)
   {fda fdp : FuncData} {oca ocp : Value} {oda odp : Option Addr} {sla slp : Array (Option Value)} (hafo : (af, (⟨oca, oda, .func fda, sla⟩ : Obj)) ∈ Rc) (hpfo : (pf, (⟨ocp, odp, .func fdp, slp⟩ : Obj)) ∈ Rc)
   (m_p : m (Str.ofString "parents") = some (.ref pf)) (m_a : m (Str.ofString "age") = some (.ref af)) (TO : TabOk nmL Rc ps) (hR87 : ∀ q ∈ Rc, q.1 ≠ 87) (h87L : ∃ q ∈ Rc, @LT.lt Nat _ 87 q.1)
   (F : Fr h₀ L s.heap m) (N : News h₀ L s.heap ((87, tabObj ps) :: Rc)) {a : Int} {ta : Tok} (hss : (stl, listOf #[.int a ta] nS) ∈ Rc)
   (h : ∀ h' tk gens' cs ps', Fr h₀ L h' m → News h₀ L h' ((87, tabObj ps') :: (cs ++ Rc)) → TabOk nmL (cs ++ Rc) ps' → (∀ q ∈ cs, q.1 ≠ 87) → (∃ more : Array GenState, gens' = s.gens ++ more ∧ ∀ x ∈ more, x.bare = true) →
      wpAny (model prog w) A (execs (stmts.drop 10) (envOfC fd130.qualname fd130.scope L fa (.ref 129))) Q E { s with heap := h', toks := tk, gens := gens' }) :
   wpAny (model prog w) A (execs (stmts.drop 9) (envOfC fd130.qualname fd130.scope L fa (.ref 129))) Q E s := by
  have e130 := lk hK (by k_is)
  cases e130
  cases hst
  simp only [List.drop_succ_cons, List.drop_zero] at h ⊢
  (try dsimp only at hA h ⊢)
  refine execs_split (xs := [_]) ?_
  k_steps
  show wpAny _ _ _ _ _ _
  rename News h₀ _ _ _ => N9
  rename Fr h₀ _ _ _ => F9
  exact h _ _ s.gens [] ps F9 N9 TO (fun q hq => nomatch hq) ⟨#[], by simp, by simp⟩

set_option maxHeartbeats 4000000 in
theorem law_two2 (hK : (hd.heap_39 w.params).lookup 130 = some ⟨oc130, od130, .func fd130, osl130⟩) (hst : fd130.body = .stmts stmts)
   (B : Below A₀ base outer h₀) (X : (hd.heap_39 w.params).In h₀) (T : Top p loose mean mg mb h₀)
   (hA : A.frames = some (envOfC fd130.qualname fd130.scope L fa (.ref 129) :: outer)) (hh : A.handled = none) (hdep : A.depth + 130 < recursionLimit) (hu : A.units + 400 < cLine) (C : Stop (CodeHd h₀ 89 87))
   {R Rc : List (Addr × Obj)} {oS : Obj} {stl pf af : Addr} {nS : Nat} {age : Int → Int} {par : Int → List Int} {dom : Int → Prop} {ps : Array Value} (hsub : ∀ q ∈ R, q ∈ Rc)
   (hS : (L + 1 + 1 + 1 + 1 + 1, oS) ∈ Rc) (oSd : oS.data = .cell (some (.ref stl)))
   (SA : AgeSpec prog w af R age dom) (SP : ParSpec prog w pf R par dom)
   {fda fdp : FuncData} {oca ocp : Value} {oda odp : Option Addr} {sla slp : Array (Option Value)} (hafo : (af, (⟨oca, oda, .func fda, sla⟩ : Obj)) ∈ Rc) (hpfo : (pf, (⟨ocp, odp, .func fdp, slp⟩ : Obj)) ∈ Rc)
   (m_p : m (Str.ofString "parents") = some (.ref pf)) (m_a : m (Str.ofString "age") = some (.ref af)) (TO : TabOk nmL Rc ps) (hR87 : ∀ q ∈ Rc, q.1 ≠ 87) (h87L : ∃ q ∈ Rc, @LT.lt Nat _ 87 q.1)
   (F : Fr h₀ L s.heap m) (N : News h₀ L s.heap ((87, tabObj ps) :: Rc)) {a b : Int} {ta tb : Tok} (hss : (stl, listOf #[.int a ta, .int b tb] nS) ∈ Rc) {k1 k2 : Nat} {res : List Int}
   (hda : dom a) (hdb : dom b) (hdl : dom b) (hne : a ≠ b) (hnl : b ≠ a) (hk1 : k1 ≤ 150) (hk2 : k2 ≤ 150)
   (G1 : LGood par age 0 dom (FinR [Builtin.bitAnd a b]) k1 (cst0 a b) (pq0 age a b) []) (G2 : LGood par age (age b) dom (FinR res) k2 (cst0 b a) (pq0 age b a) []) (hres : res = [b] ↔ Builtin.bitAnd b a = b)
   (h : ∀ h' tk gens' cs ps', Fr h₀ L h' m → News h₀ L h' ((87, tabObj ps') :: (cs ++ Rc)) → TabOk nmL (cs ++ Rc) ps' → (∀ q ∈ cs, q.1 ≠ 87) → (∃ more : Array GenState, gens' = s.gens ++ more ∧ ∀ x ∈ more, x.bare = true) →
      wpAny (model prog w) A (execs (stmts.drop 10) (envOfC fd130.qualname fd130.scope L fa (.ref 129))) Q E { s with heap := h', toks := tk, gens := gens' }) :
   wpAny (model prog w) A (execs (stmts.drop 9) (envOfC fd130.qualname fd130.scope L fa (.ref 129))) Q E s := by
  have e130 := lk hK (by k_is)
  cases e130
  cases hst
  simp only [List.drop_succ_cons, List.drop_zero] at h ⊢
  (try dsimp only at hA h ⊢)
  refine execs_split (xs := [_]) ?_
  k_steps
  rename News h₀ _ _ _ => N9
  rename Fr h₀ _ _ _ => F9
  rename _ ∧ AllLt _ _ => l9
  rename Addr => D9
  have N10 : News h₀ L _ ((87, tabObj ps) :: (D9, listOf #[.int a ta, .int b tb] 0) :: Rc) := fun q hq => N9 q (by grind)
  have hR87' : ∀ q ∈ (D9, listOf #[.int a ta, .int b tb] 0) :: Rc, q.1 ≠ 87 := fun q hq => by
    rcases List.mem_cons.mp hq with rfl | hq
    · exact Nat.ne_of_gt l9.1
    · exact hR87 q hq
  refine mb_spec (s := { s with heap := _, toks := _ }) B F9 X T C hA rfl rfl hh (by omega) (by omega) SA SP (.tail _ hafo) (.tail _ hpfo) (fun q hq => .tail _ (hsub q hq)) N10 (TO.mono fun q hq => .tail _ hq) hR87' (.head _) hda hdb hne hk1 G1 ?_
  intro h1 tk1 gens1 r vs1 n1 cs1 ps1 F1 N1 TO1 hi1 hcs1 hlt1 hmore1
  clear F9 N9 N10
  have hS1 : (L + 1 + 1 + 1 + 1 + 1, oS) ∈ (87, tabObj ps1) :: (r, listOf vs1 n1) :: (cs1 ++ (D9, listOf #[.int a ta, .int b tb] 0) :: Rc) := .tail _ (.tail _ (List.mem_append_right _ (.tail _ hS)))
  have hss1 : (stl, listOf #[.int a ta, .int b tb] nS) ∈ (87, tabObj ps1) :: (r, listOf vs1 n1) :: (cs1 ++ (D9, listOf #[.int a ta, .int b tb] 0) :: Rc) := .tail _ (.tail _ (List.mem_append_right _ (.tail _ hss)))
  k_steps
  rename News h₀ _ _ _ => N9
  rename Fr h₀ _ _ _ => F9
  rename _ ∧ _ ∧ AllLt _ _ => l8
  obtain ⟨R2, hR2⟩ : ∃ R2, R2 = cs1 ++ (D9, listOf #[.int a ta, .int b tb] 0) :: Rc := ⟨_, rfl⟩
  rw [← hR2] at N9 TO1
  have hin2 : ∀ q ∈ Rc, q ∈ R2 := fun q hq => by rw [hR2]; exact List.mem_append_right _ (.tail _ hq)
  have hR872 : ∀ q ∈ R2, q.1 ≠ 87 := fun q hq => by
    rw [hR2] at hq
    rcases List.mem_append.mp hq with hq | hq
    · exact Nat.ne_of_gt (hcs1 q hq _ (.head _))
    · exact hR87' q hq
  have N11 : News h₀ L _ ((87, tabObj ps1) :: R2) := fun q hq => N9 q (by grind)
  refine ff_spec (s := { heap := _, gens := _, drawn := _, toks := _, os := _ }) B F9 X T C hA rfl rfl hh (by omega) (by omega) SA SP (hin2 _ hafo) (hin2 _ hpfo) (fun q hq => hin2 q (hsub q hq)) N11 TO1 hR872 hdl hda hnl hk2 G2 ?_
  intro h2 tk2 gens2 cs2 ps2 F2 N2 TO2 hcs2 hmore2
  clear F9 N9 N11
  have hS2 : (L + 1 + 1 + 1 + 1 + 1, oS) ∈ (87, tabObj ps2) :: (cs2 ++ R2) := .tail _ (List.mem_append_right _ (hin2 _ hS))
  have hss2 : (stl, listOf #[.int a ta, .int b tb] nS) ∈ (87, tabObj ps2) :: (cs2 ++ R2) := .tail _ (List.mem_append_right _ (hin2 _ hss))
  rw [show decide (res = [b]) = decide (Builtin.bitAnd b a = b) from decide_eq_decide.mpr hres]
  k_steps
  · exfalso
    rename ((_ != _) = true) => hbad
    simp at hbad
    exact hbad (by rw [Bool.eq_iff_iff, decide_eq_true_iff, beq_iff_eq])
  · show wpAny _ _ _ _ _ _
    have ecs : cs2 ++ R2 = (cs2 ++ (cs1 ++ [(D9, listOf #[.int a ta, .int b tb] 0)])) ++ Rc := by rw [hR2]; simp
    rw [ecs] at N2 TO2
    obtain ⟨more1, e1, hm1⟩ := hmore1
    obtain ⟨more2, e2, hm2⟩ := hmore2
    refine h _ _ gens2 _ ps2 F2 N2 TO2 (fun q hq => ?_) ⟨more1 ++ more2, ?_, fun x hx => (Array.mem_append.mp hx).elim (hm1 x) (hm2 x)⟩
    · rcases List.mem_append.mp hq with hq | hq
      · exact Nat.ne_of_gt (hcs2 q hq _ (.head _))
      rcases List.mem_append.mp hq with hq | hq
      · exact Nat.ne_of_gt (hcs1 q hq _ (.head _))
      · exact hR87' q (by simp at hq; exact hq ▸ .head _)
    · rw [← Array.append_assoc]
      exact e2.trans (congrArg (· ++ more2) e1)

set_option maxHeartbeats 4000000 in
theorem law_two3 (hK : (hd.heap_39 w.params).lookup 130 = some ⟨oc130, od130, .func fd130, osl130⟩) (hst : fd130.body = .stmts stmts)
   (B : Below A₀ base outer h₀) (X : (hd.heap_39 w.params).In h₀) (T : Top p loose mean mg mb h₀)
   (hA : A.frames = some (envOfC fd130.qualname fd130.scope L fa (.ref 129) :: outer)) (hh : A.handled = none) (hdep : A.depth + 130 < recursionLimit) (hu : A.units + 400 < cLine) (C : Stop (CodeHd h₀ 89 87))
   {R Rc : List (Addr × Obj)} {oS : Obj} {stl pf af : Addr} {nS : Nat} {age : Int → Int} {par : Int → List Int} {dom : Int → Prop} {ps : Array Value} (hsub : ∀ q ∈ R, q ∈ Rc)
   (hS : (L + 1 + 1 + 1 + 1 + 1, oS) ∈ Rc) (oSd : oS.data = .cell (some (.ref stl)))
   (SA : AgeSpec prog w af R age dom) (SP : ParSpec prog w pf R par dom)
   {fda fdp : FuncData} {oca ocp : Value} {oda odp : Option Addr} {sla slp : Array (Option Value)} (hafo : (af, (⟨oca, oda, .func fda, sla⟩ : Obj)) ∈ Rc) (hpfo : (pf, (⟨ocp, odp, .func fdp, slp⟩ : Obj)) ∈ Rc)
   (m_p : m (Str.ofString "parents") = some (.ref pf)) (m_a : m (Str.ofString "age") = some (.ref af)) (TO : TabOk nmL Rc ps) (hR87 : ∀ q ∈ Rc, q.1 ≠ 87) (h87L : ∃ q ∈ Rc, @LT.lt Nat _ 87 q.1)
   (F : Fr h₀ L s.heap m) (N : News h₀ L s.heap ((87, tabObj ps) :: Rc)) {a b c : Int} {ta tb tc : Tok} (hss : (stl, listOf #[.int a ta, .int b tb, .int c tc] nS) ∈ Rc) {k1 k2 : Nat} {res : List Int}
   (hda : dom a) (hdb : dom b) (hdl : dom c) (hne : a ≠ b) (hnl : c ≠ a) (hk1 : k1 ≤ 150) (hk2 : k2 ≤ 150)
   (G1 : LGood par age 0 dom (FinR [Builtin.bitAnd a b]) k1 (cst0 a b) (pq0 age a b) []) (G2 : LGood par age (age c) dom (FinR res) k2 (cst0 c a) (pq0 age c a) []) (hres : res = [c] ↔ Builtin.bitAnd c a = c)
   (h : ∀ h' tk gens' cs ps', Fr h₀ L h' m → News h₀ L h' ((87, tabObj ps') :: (cs ++ Rc)) → TabOk nmL (cs ++ Rc) ps' → (∀ q ∈ cs, q.1 ≠ 87) → (∃ more : Array GenState, gens' = s.gens ++ more ∧ ∀ x ∈ more, x.bare = true) →
      wpAny (model prog w) A (execs (stmts.drop 10) (envOfC fd130.qualname fd130.scope L fa (.ref 129))) Q E { s with heap := h', toks := tk, gens := gens' }) :
   wpAny (model prog w) A (execs (stmts.drop 9) (envOfC fd130.qualname fd130.scope L fa (.ref 129))) Q E s := by
  have e130 := lk hK (by k_is)
  cases e130
  cases hst
  simp only [List.drop_succ_cons, List.drop_zero] at h ⊢
  (try dsimp only at hA h ⊢)
  refine execs_split (xs := [_]) ?_
  k_steps
  rename News h₀ _ _ _ => N9
  rename Fr h₀ _ _ _ => F9
  rename _ ∧ AllLt _ _ => l9
  rename Addr => D9
  have N10 : News h₀ L _ ((87, tabObj ps) :: (D9, listOf #[.int a ta, .int b tb] 0) :: Rc) := fun q hq => N9 q (by grind)
  have hR87' : ∀ q ∈ (D9, listOf #[.int a ta, .int b tb] 0) :: Rc, q.1 ≠ 87 := fun q hq => by
    rcases List.mem_cons.mp hq with rfl | hq
    · exact Nat.ne_of_gt l9.1
    · exact hR87 q hq
  refine mb_spec (s := { s with heap := _, toks := _ }) B F9 X T C hA rfl rfl hh (by omega) (by omega) SA SP (.tail _ hafo) (.tail _ hpfo) (fun q hq => .tail _ (hsub q hq)) N10 (TO.mono fun q hq => .tail _ hq) hR87' (.head _) hda hdb hne hk1 G1 ?_
  intro h1 tk1 gens1 r vs1 n1 cs1 ps1 F1 N1 TO1 hi1 hcs1 hlt1 hmore1
  clear F9 N9 N10
  have hS1 : (L + 1 + 1 + 1 + 1 + 1, oS) ∈ (87, tabObj ps1) :: (r, listOf vs1 n1) :: (cs1 ++ (D9, listOf #[.int a ta, .int b tb] 0) :: Rc) := .tail _ (.tail _ (List.mem_append_right _ (.tail _ hS)))
  have hss1 : (stl, listOf #[.int a ta, .int b tb, .int c tc] nS) ∈ (87, tabObj ps1) :: (r, listOf vs1 n1) :: (cs1 ++ (D9, listOf #[.int a ta, .int b tb] 0) :: Rc) := .tail _ (.tail _ (List.mem_append_right _ (.tail _ hss)))
  k_steps
  rename News h₀ _ _ _ => N9
  rename Fr h₀ _ _ _ => F9
  rename _ ∧ _ ∧ AllLt _ _ => l8
  obtain ⟨R2, hR2⟩ : ∃ R2, R2 = cs1 ++ (D9, listOf #[.int a ta, .int b tb] 0) :: Rc := ⟨_, rfl⟩
  rw [← hR2] at N9 TO1
  have hin2 : ∀ q ∈ Rc, q ∈ R2 := fun q hq => by rw [hR2]; exact List.mem_append_right _ (.tail _ hq)
  have hR872 : ∀ q ∈ R2, q.1 ≠ 87 := fun q hq => by
    rw [hR2] at hq
    rcases List.mem_append.mp hq with hq | hq
    · exact Nat.ne_of_gt (hcs1 q hq _ (.head _))
    · exact hR87' q hq
  have N11 : News h₀ L _ ((87, tabObj ps1) :: R2) := fun q hq => N9 q (by grind)
  refine ff_spec (s := { heap := _, gens := _, drawn := _, toks := _, os := _ }) B F9 X T C hA rfl rfl hh (by omega) (by omega) SA SP (hin2 _ hafo) (hin2 _ hpfo) (fun q hq => hin2 q (hsub q hq)) N11 TO1 hR872 hdl hda hnl hk2 G2 ?_
  intro h2 tk2 gens2 cs2 ps2 F2 N2 TO2 hcs2 hmore2
  clear F9 N9 N11
  have hS2 : (L + 1 + 1 + 1 + 1 + 1, oS) ∈ (87, tabObj ps2) :: (cs2 ++ R2) := .tail _ (List.mem_append_right _ (hin2 _ hS))
  have hss2 : (stl, listOf #[.int a ta, .int b tb, .int c tc] nS) ∈ (87, tabObj ps2) :: (cs2 ++ R2) := .tail _ (List.mem_append_right _ (hin2 _ hss))
  rw [show decide (res = [c]) = decide (Builtin.bitAnd c a = c) from decide_eq_decide.mpr hres]
  k_steps
  · exfalso
    rename ((_ != _) = true) => hbad
    simp at hbad
    exact hbad (by rw [Bool.eq_iff_iff, decide_eq_true_iff, beq_iff_eq])
  · show wpAny _ _ _ _ _ _
    have ecs : cs2 ++ R2 = (cs2 ++ (cs1 ++ [(D9, listOf #[.int a ta, .int b tb] 0)])) ++ Rc := by rw [hR2]; simp
    rw [ecs] at N2 TO2
    obtain ⟨more1, e1, hm1⟩ := hmore1
    obtain ⟨more2, e2, hm2⟩ := hmore2
    refine h _ _ gens2 _ ps2 F2 N2 TO2 (fun q hq => ?_) ⟨more1 ++ more2, ?_, fun x hx => (Array.mem_append.mp hx).elim (hm1 x) (hm2 x)⟩
    · rcases List.mem_append.mp hq with hq | hq
      · exact Nat.ne_of_gt (hcs2 q hq _ (.head _))
      rcases List.mem_append.mp hq with hq | hq
      · exact Nat.ne_of_gt (hcs1 q hq _ (.head _))
      · exact hR87' q (by simp at hq; exact hq ▸ .head _)
    · rw [← Array.append_assoc]
      exact e2.trans (congrArg (· ++ more2) e1)

end
end Mine

/-! ## LI -/
namespace Mine
open PySem PySem.W PySem.Calls PyProof.Rows
open Sem (wp)
set_option maxRecDepth 100000

theorem fillK48 : ∀ w : World, PySem.Challenge.rw_bh0019_01.Holds → hd.heap_39 w.params = hd.heap_39 w.params := by
  w_top off
  first | (walk1; fail) | skip
  k_fill
  intro _ _; rfl

local macro_rules | `(tactic| k_mem) => `(tactic| assumption)
local macro_rules | `(tactic| k_room) => `(tactic| ((simp only [depth_under_make, depth_under_kw, depth_in1, depth_deeper, depth_caller, Around.in1_units, Around.deeper_units]); omega))
local macro_rules | `(tactic| k_all) => `(tactic| first | assumption | exact allNe_of (by assumption) (by omega))
local macro_rules | `(tactic| walk_at "assign Tuple") => `(tactic| (k_here; (with_reducible show wpAny _ _ (assign (Expr.Tuple _ _ _) _ (Value.ref _)) _ _ _); k_dflt (refine' unpackN_ ?k1 ?k2 ?k3 ?k4 ?k5 ?k6 ?_; (case k1 => k_asm); (case k2 => k_asm); (case k3 => (exact News.isTup (by k_asm) (by k_mem))); (case k4 => assumption); (case k5 => exact rfl); (case k6 => exact rfl); k_whole); intro h' F' N'; (try k_sweep)))
local macro_rules | `(tactic| walk_at "eval Name") => `(tactic| (k_here; kc_free; k_dflt (refine' nameX_F ?N ?c ?m ?d ?_ ?a ?b; (case a => rfl); (case b => rfl); (case N => k_asm); (case c => rfl); (case m => k_mem); (case d => k_asm); k_whole)))
local macro_rules | `(tactic| walk_at "eval Name") => `(tactic| (k_here; k_dflt (refine' nameX_L ?k1 ?k2 ?_ ?k3 ?k4 ?k5; (case k3 => rfl); (case k4 => rfl); (case k5 => decide); (case k1 => k_asm); (case k2 => assumption); k_whole)))
local macro_rules | `(tactic| walk_at "compareOp In int ref") => `(tactic| (refine d_in (by k_asm) (by k_mem) (by k_asm) (by k_asm) ?_))

local macro_rules | `(tactic| walk_at "binaryOp BitOr int int") => `(tactic| (k_here; first | with_reducible refine or12 ?_ | with_reducible refine or34 ?_))
local macro_rules | `(tactic| walk_at "eval Name") => `(tactic| (k_here; k_dflt (refine' nameX_C ?N ?c ?m ?d ?_ ?a ?b; (case b => rfl); (case c => rfl); (case N => k_asm); (case m => k_mem); (case d => k_asm); (case a => rfl); k_whole)))
local macro_rules | `(tactic| walk_at "exec Try") => `(tactic| (k_here; refine wpAny_Try_except ?_))
local macro_rules | `(tactic| walk_at "callWith ref") => `(tactic| (k_here; k_dflt (first
  | (refine' callWith_F ?k1 ?_; (case k1 => exact FnAt.of (by k_asm) (by k_mem)); k_whole)
  | (refine' callWith_F0 ?k1 ?_; (case k1 => exact FnAt.of (by k_asm) (by k_mem)); k_whole; try dsimp only [List.nil_append, List.cons_append]))))

local macro_rules | `(tactic| walk_at "truthy ref") => `(tactic| (k_here; k_dflt (refine' truthyL ?N ?m ?z ?_; (case N => k_asm); (case m => k_mem); (case z => first | assumption | exact Nat.le_of_ble_eq_true rfl))))

local macro_rules | `(tactic| walk_at "subscriptTail") => `(tactic| (k_here; first
  | (refine' kim_list ?N ?m ?c ?d ?h0 ?hf ?hx ?_ ?hs ?hg; (case N => k_asm); (case m => first | assumption | exact List.Mem.tail _ (by assumption) | k_mem); (case c => rfl); (case d => rfl); (case h0 => decide); (case hf => decide); (case hx => rfl); (case hs => with_unfolding_all rfl); (case hg => (intro _; with_unfolding_all rfl)); k_whole)
  | (refine' kim_back ?N ?m ?c ?d ?h0 ?h1 ?hf ?hx ?_ ?hs ?hg; (case N => k_asm); (case m => first | assumption | exact List.Mem.tail _ (by assumption) | k_mem); (case c => rfl); (case d => rfl); (case h0 => decide); (case h1 => simp only [List.length_cons, List.length_nil]; decide); (case hf => decide); (case hx => rfl); (case hs => with_unfolding_all rfl); (case hg => (intro _; with_unfolding_all rfl)); k_whole)))
local macro_rules | `(tactic| walk_at "eval ListComp") => `(tactic| (refine stopComp ?_))
local macro_rules | `(tactic| walk_at "exec Assign cons ListComp") => `(tactic| (refine wpAny_Assign_Name ?_))
section
variable {prog : Program} {w : World} {A₀ A : Around} {base h₀ : Heap} {outer : List Env} {L fa : Addr} {m mg mb : Str → Option Value} {s : Shared} {news : List (Addr × Obj)}
  {p : Program} {loose : List Str} {mean : ExcName → Option Value} {E : Value → Shared → Prop} {Q : Flow → Shared → Prop}
  {fd130 : FuncData} {oc130 : Value} {od130 : Option Addr} {osl130 : Array (Option Value)} {stmts : List Stmt}

set_option maxHeartbeats 4000000 in
theorem law_ret1 (hK : (hd.heap_39 w.params).lookup 130 = some ⟨oc130, od130, .func fd130, osl130⟩) (hst : fd130.body = .stmts stmts)
   (B : Below A₀ base outer h₀) (X : (hd.heap_39 w.params).In h₀) (T : Top p loose mean mg mb h₀)
   (hA : A.frames = some (envOfC fd130.qualname fd130.scope L fa (.ref 129) :: outer)) (hh : A.handled = none) (hdep : A.depth + 130 < recursionLimit) (hu : A.units + 400 < cLine) (C : Stop (CodeHd h₀ 89 87))
   {R Rc : List (Addr × Obj)} {oS : Obj} {stl pf af : Addr} {nS : Nat} {age : Int → Int} {par : Int → List Int} {dom : Int → Prop} {ps : Array Value} (hsub : ∀ q ∈ R, q ∈ Rc)
   (hS : (L + 1 + 1 + 1 + 1 + 1, oS) ∈ Rc) (oSd : oS.data = .cell (some (.ref stl)))
   (SA : AgeSpec prog w af R age dom) (SP : ParSpec prog w pf R par dom)
   {fda fdp : FuncData} {oca ocp : Value} {oda odp : Option Addr} {sla slp : Array (Option Value)} (hafo : (af, (⟨oca, oda, .func fda, sla⟩ : Obj)) ∈ Rc) (hpfo : (pf, (⟨ocp, odp, .func fdp, slp⟩ : Obj)) ∈ Rc)
   (m_p : m (Str.ofString "parents") = some (.ref pf)) (m_a : m (Str.ofString "age") = some (.ref af)) (TO : TabOk nmL Rc ps) (hR87 : ∀ q ∈ Rc, q.1 ≠ 87) (h87L : ∃ q ∈ Rc, @LT.lt Nat _ 87 q.1)
   (F : Fr h₀ L s.heap m) (N : News h₀ L s.heap ((87, tabObj ps) :: Rc)) {a : Int} {ta : Tok} (hss : (stl, listOf #[.int a ta] nS) ∈ Rc)
   (h : ∀ h' tk gens' ps', Fr h₀ L h' m → News h₀ L h' ((87, tabObj ps') :: Rc) → (∃ more : Array GenState, gens' = s.gens ++ more ∧ ∀ x ∈ more, x.bare = true) → Q (.ret (.bool true)) { s with heap := h', toks := tk, gens := gens' }) :
   wpAny (model prog w) A (execs (stmts.drop 10) (envOfC fd130.qualname fd130.scope L fa (.ref 129))) Q E s := by
  have e130 := lk hK (by k_is)
  cases e130
  cases hst
  simp only [List.drop_succ_cons, List.drop_zero] at h ⊢
  (try dsimp only at hA h ⊢)
  k_steps
  rename News h₀ _ _ _ => N9
  rename Fr h₀ _ _ _ => F9
  exact h _ _ s.gens ps F9 N9 ⟨#[], by simp, by simp⟩

set_option maxHeartbeats 4000000 in
theorem law_ret2 (hK : (hd.heap_39 w.params).lookup 130 = some ⟨oc130, od130, .func fd130, osl130⟩) (hst : fd130.body = .stmts stmts)
   (B : Below A₀ base outer h₀) (X : (hd.heap_39 w.params).In h₀) (T : Top p loose mean mg mb h₀)
   (hA : A.frames = some (envOfC fd130.qualname fd130.scope L fa (.ref 129) :: outer)) (hh : A.handled = none) (hdep : A.depth + 130 < recursionLimit) (hu : A.units + 400 < cLine) (C : Stop (CodeHd h₀ 89 87))
   {R Rc : List (Addr × Obj)} {oS : Obj} {stl pf af : Addr} {nS : Nat} {age : Int → Int} {par : Int → List Int} {dom : Int → Prop} {ps : Array Value} (hsub : ∀ q ∈ R, q ∈ Rc)
   (hS : (L + 1 + 1 + 1 + 1 + 1, oS) ∈ Rc) (oSd : oS.data = .cell (some (.ref stl)))
   (SA : AgeSpec prog w af R age dom) (SP : ParSpec prog w pf R par dom)
   {fda fdp : FuncData} {oca ocp : Value} {oda odp : Option Addr} {sla slp : Array (Option Value)} (hafo : (af, (⟨oca, oda, .func fda, sla⟩ : Obj)) ∈ Rc) (hpfo : (pf, (⟨ocp, odp, .func fdp, slp⟩ : Obj)) ∈ Rc)
   (m_p : m (Str.ofString "parents") = some (.ref pf)) (m_a : m (Str.ofString "age") = some (.ref af)) (TO : TabOk nmL Rc ps) (hR87 : ∀ q ∈ Rc, q.1 ≠ 87) (h87L : ∃ q ∈ Rc, @LT.lt Nat _ 87 q.1)
   (F : Fr h₀ L s.heap m) (N : News h₀ L s.heap ((87, tabObj ps) :: Rc)) {a b : Int} {ta tb : Tok} (hss : (stl, listOf #[.int a ta, .int b tb] nS) ∈ Rc)
   (h : ∀ h' tk gens' ps', Fr h₀ L h' m → News h₀ L h' ((87, tabObj ps') :: Rc) → (∃ more : Array GenState, gens' = s.gens ++ more ∧ ∀ x ∈ more, x.bare = true) → Q (.ret (.bool true)) { s with heap := h', toks := tk, gens := gens' }) :
   wpAny (model prog w) A (execs (stmts.drop 10) (envOfC fd130.qualname fd130.scope L fa (.ref 129))) Q E s := by
  have e130 := lk hK (by k_is)
  cases e130
  cases hst
  simp only [List.drop_succ_cons, List.drop_zero] at h ⊢
  (try dsimp only at hA h ⊢)
  k_steps
  rename News h₀ _ _ _ => N9
  rename Fr h₀ _ _ _ => F9
  exact h _ _ s.gens ps F9 N9 ⟨#[], by simp, by simp⟩

set_option maxHeartbeats 4000000 in
theorem law_ret3 (hK : (hd.heap_39 w.params).lookup 130 = some ⟨oc130, od130, .func fd130, osl130⟩) (hst : fd130.body = .stmts stmts)
   (B : Below A₀ base outer h₀) (X : (hd.heap_39 w.params).In h₀) (T : Top p loose mean mg mb h₀)
   (hA : A.frames = some (envOfC fd130.qualname fd130.scope L fa (.ref 129) :: outer)) (hh : A.handled = none) (hdep : A.depth + 130 < recursionLimit) (hu : A.units + 400 < cLine) (C : Stop (CodeHd h₀ 89 87))
   {R Rc : List (Addr × Obj)} {oS : Obj} {stl pf af : Addr} {nS : Nat} {age : Int → Int} {par : Int → List Int} {dom : Int → Prop} {ps : Array Value} (hsub : ∀ q ∈ R, q ∈ Rc)
   (hS : (L + 1 + 1 + 1 + 1 + 1, oS) ∈ Rc) (oSd : oS.data = .cell (some (.ref stl)))
   (SA : AgeSpec prog w af R age dom) (SP : ParSpec prog w pf R par dom)
   {fda fdp : FuncData} {oca ocp : Value} {oda odp : Option Addr} {sla slp : Array (Option Value)} (hafo : (af, (⟨oca, oda, .func fda, sla⟩ : Obj)) ∈ Rc) (hpfo : (pf, (⟨ocp, odp, .func fdp, slp⟩ : Obj)) ∈ Rc)
   (m_p : m (Str.ofString "parents") = some (.ref pf)) (m_a : m (Str.ofString "age") = some (.ref af)) (TO : TabOk nmL Rc ps) (hR87 : ∀ q ∈ Rc, q.1 ≠ 87) (h87L : ∃ q ∈ Rc, @LT.lt Nat _ 87 q.1)
   (F : Fr h₀ L s.heap m) (N : News h₀ L s.heap ((87, tabObj ps) :: Rc)) {a b c x y : Int} {ta tb tc : Tok} (hss : (stl, listOf #[.int a ta, .int b tb, .int c tc] nS) ∈ Rc) {k1 k2 : Nat}
   (hda : dom a) (hdb : dom b) (hdc : dom c) (hdx : dom x) (hk1 : k1 ≤ 150) (hk2 : k2 ≤ 150)
   (G1 : LGood par age 0 dom (FinR [x]) k1 (cst0 b a) (pq0 age b a) []) (G2 : LGood par age 0 dom (FinR [y]) k2 (cst0 c x) (pq0 age c x) []) (hy : y = Builtin.bitAnd (Builtin.bitAnd a b) c)
   (h : ∀ h' tk gens' ps', Fr h₀ L h' m → News h₀ L h' ((87, tabObj ps') :: Rc) → (∃ more : Array GenState, gens' = s.gens ++ more ∧ ∀ x ∈ more, x.bare = true) → Q (.ret (.bool true)) { s with heap := h', toks := tk, gens := gens' }) :
   wpAny (model prog w) A (execs (stmts.drop 10) (envOfC fd130.qualname fd130.scope L fa (.ref 129))) Q E s := by
  have e130 := lk hK (by k_is)
  cases e130
  cases hst
  simp only [List.drop_succ_cons, List.drop_zero] at h ⊢
  (try dsimp only at hA h ⊢)
  k_steps
  refine oct_spec (s := { s with toks := s.toks + 1 + 1 + 1 }) B F X T C hA rfl rfl hh (by omega) (by omega) SA SP hafo hpfo hsub N TO hR87 hss hda hdb hdc hdx hk1 hk2 G1 G2 ?_
  intro h1 tk1 gens1 r vs1 n1 cs1 ps1 F1 N1 TO1 hi1 hcs1 hlt1 hmore1
  have hS1 : (L + 1 + 1 + 1 + 1 + 1, oS) ∈ (87, tabObj ps1) :: (r, listOf vs1 n1) :: (cs1 ++ Rc) := .tail _ (.tail _ (List.mem_append_right _ hS))
  have hss1 : (stl, listOf #[.int a ta, .int b tb, .int c tc] nS) ∈ (87, tabObj ps1) :: (r, listOf vs1 n1) :: (cs1 ++ Rc) := .tail _ (.tail _ (List.mem_append_right _ hss))
  k_steps
  rename News h₀ _ _ _ => N9
  rename Fr h₀ _ _ _ => F9
  rw [decide_eq_true (show [y] = [Builtin.bitAnd (Builtin.bitAnd a b) c] by rw [hy])]
  exact h _ _ gens1 ps1 F9 (fun q hq => N9 q (by
    rcases List.mem_cons.mp hq with e | hq
    · exact e ▸ .tail _ (.head _)
    · exact .tail _ (.tail _ (.tail _ (List.mem_append_right _ hq))))) hmore1

end
end Mine

/-! ## BC -/
namespace Mine
open PySem PySem.W PySem.Calls PyProof.Rows
set_option maxRecDepth 100000
set_option maxHeartbeats 4000000
theorem selI_sub {α : Type} {p : Nat → Bool} {items : List α} {n : Nat} {x : α} (h : x ∈ selI p items n) : x ∈ items := by
  obtain ⟨k, _, e⟩ := List.mem_filterMap.mp h
  split at e
  · exact List.mem_of_getElem? e
  · cases e
theorem selI_nodup {α : Type} {p : Nat → Bool} {items : List α} (hn : items.Nodup) : ∀ n, (selI p items n).Nodup ∧ ∀ x ∈ selI p items n, ∃ k, k < n ∧ items[k]? = some x
  | 0 => ⟨List.nodup_nil, fun x hx => nomatch hx⟩
  | n + 1 => by
    have ih := selI_nodup (p := p) hn n
    have e : selI p items (n + 1) = selI p items n ++ (if p n then items[n]? else none).toList := by
      unfold selI
      rw [List.range_succ, List.filterMap_append]
      congr 1
      try rw [List.filterMap_cons, List.filterMap_nil]
      all_goals try (cases (if p n then items[n]? else none) <;> rfl)
    rw [e]
    cases h : (if p n then items[n]? else none) with
    | none => exact ⟨by simpa using ih.1, fun x hx => by
        obtain ⟨k, hk, e⟩ := ih.2 x (by simpa using hx)
        exact ⟨k, Nat.lt_succ_of_lt hk, e⟩⟩
    | some v =>
      have hv : items[n]? = some v := by
        split at h
        · exact h
        · cases h
      refine ⟨List.nodup_append.mpr ⟨ih.1, by simp, fun a ha b hb => ?_⟩, fun x hx => ?_⟩
      · have hb : b = v := by simpa using hb
        subst hb
        rintro rfl
        obtain ⟨k, hk, e⟩ := ih.2 a ha
        obtain ⟨h1, e1⟩ := List.getElem?_eq_some_iff.mp e
        obtain ⟨h2, e2⟩ := List.getElem?_eq_some_iff.mp hv
        exact List.pairwise_iff_getElem.mp hn k n h1 h2 hk (e1.trans e2.symm)
      · rcases List.mem_append.mp hx with hx | hx
        · obtain ⟨k, hk, e⟩ := ih.2 x hx
          exact ⟨k, Nat.lt_succ_of_lt hk, e⟩
        · have hx : x = v := by simpa using hx
          exact ⟨n, Nat.lt_succ_self n, hx ▸ hv⟩
theorem mem_close {qs : List (Int × Int)} {t x : Int} {ds : List Int} : x ∈ closeI qs t ds ↔ x ∈ ds ∨ (t ∈ ds ∧ (x, t) ∈ qs) := by
  unfold closeI
  by_cases ht : t ∈ ds
  · rw [if_pos ht, List.mem_append, List.mem_filterMap]
    constructor
    · rintro (h | ⟨q, hq, e⟩)
      · exact .inl h
      · split at e
        · rename_i hc
          cases e
          exact .inr ⟨ht, by rw [← hc.1]; exact hq⟩
        · cases e
    · rintro (h | ⟨_, h⟩)
      · exact .inl h
      · by_cases hx : x ∈ ds
        · exact .inl hx
        · exact .inr ⟨(x, t), h, if_pos ⟨rfl, hx⟩⟩
  · rw [if_neg ht]
    exact ⟨.inl, fun h => h.elim id fun h => absurd h.1 ht⟩
theorem close_nodup {qs : List (Int × Int)} {t : Int} {ds : List Int} (hq : qs.Nodup) (hd : ds.Nodup) : (closeI qs t ds).Nodup := by
  unfold closeI
  split
  · refine List.nodup_append.mpr ⟨hd, ?_, fun a ha b hb => ?_⟩
    · clear hd
      induction qs with
      | nil => exact List.nodup_nil
      | cons q qs ih =>
        have hq' := List.nodup_cons.mp hq
        rw [List.filterMap_cons]
        split
        · exact ih hq'.2
        · rename_i b hb
          refine List.nodup_cons.mpr ⟨fun hm => ?_, ih hq'.2⟩
          obtain ⟨q', hq1, e⟩ := List.mem_filterMap.mp hm
          split at e
          · rename_i hc
            cases e
            split at hb
            · rename_i hc2
              have h1 : q.1 = q'.1 := Option.some.inj hb
              exact hq'.1 (by rw [Prod.ext h1 (hc2.1.trans hc.1.symm)]; exact hq1)
            · cases hb
          · cases e
    · obtain ⟨q, _, e⟩ := List.mem_filterMap.mp hb
      split at e
      · rename_i hc
        cases e
        rintro rfl
        exact hc.2 ha
      · cases e
  · exact hd
def four4 (p : Int → Bool) : Int := (if p 0 then 1 else 0) + ((if p 1 then 2 else 0) + ((if p 2 then 4 else 0) + (if p 3 then 8 else 0)))
theorem num_four : ∀ ds : List Int, ds.Nodup → (∀ z ∈ ds, 0 ≤ z ∧ z < 4) → numI ds = four4 fun t => decide (t ∈ ds)
  | [], _, _ => rfl
  | z :: ds, hn, hb => by
    have hn' := List.nodup_cons.mp hn
    have ih := num_four ds hn'.2 fun y hy => hb y (.tail _ hy)
    have e : numI (z :: ds) = (2 : Int) ^ z.toNat + numI ds := by simp [numI]
    rw [e, ih]
    have hz := hb z (.head _)
    have hzn := hn'.1
    have hc : z = 0 ∨ z = 1 ∨ z = 2 ∨ z = 3 := by omega
    unfold four4
    rcases hc with rfl | rfl | rfl | rfl <;> simp [hzn] <;> omega
theorem four4_bits (p : Int → Bool) : (0 ≤ four4 p ∧ four4 p < 16) ∧ ∀ t ∈ four, bit (four4 p) t = p (t : Int) := by
  have key : ∀ b0 b1 b2 b3 : Bool, ∀ n : Int, n = (if b0 then 1 else 0) + ((if b1 then 2 else 0) + ((if b2 then 4 else 0) + (if b3 then 8 else 0))) → (0 ≤ n ∧ n < 16) ∧ bit n 0 = b0 ∧ bit n 1 = b1 ∧ bit n 2 = b2 ∧ bit n 3 = b3 := by
    rintro b0 b1 b2 b3 n rfl
    revert b0 b1 b2 b3
    decide
  obtain ⟨h1, h2, h3, h4, h5⟩ := key (p 0) (p 1) (p 2) (p 3) _ rfl
  refine ⟨h1, fun t ht => ?_⟩
  have ht4 := four_lt ht
  match t, ht4 with
  | 0, _ => exact h2
  | 1, _ => exact h3
  | 2, _ => exact h4
  | 3, _ => exact h5
theorem preP_facts : (preP 4).Nodup ∧ ∀ q ∈ preP 4, 0 ≤ q.1 ∧ q.1 < q.2 ∧ q.2 < 4 := by decide
theorem ord_sub {dr : Int} : ∀ q ∈ ordL dr, 0 ≤ q.1 ∧ q.1 < q.2 ∧ q.2 < 4 := fun q hq => preP_facts.2 q (selI_sub hq)
theorem ord_nodup (dr : Int) : (ordL dr).Nodup := (selI_nodup preP_facts.1 6).1
theorem dsJ_nodup {qs : List (Int × Int)} {ds : List Int} (hq : qs.Nodup) (hd : ds.Nodup) : ∀ j, (dsJ qs ds j).Nodup
  | 0 => hd
  | j + 1 => close_nodup hq (dsJ_nodup hq hd j)
theorem ds0_nodup (v : Int) : (ds0 v).Nodup := by
  unfold ds0 things
  have h : (four.filter (bit v)).Nodup := List.Pairwise.filter _ (by decide)
  exact List.Pairwise.map _ (fun a b hab => by omega) h
theorem num_dom (dr v : Int) : domO (oOf (ordL dr)) (numI (dsJ (ordL dr) (ds0 v) 3)) := by
  have hb := dsJ_mem (qs := ordL dr) (ds := ds0 v) (fun q hq => by have := ord_sub q hq; omega) (ds0_mem v) 3
  have hn := dsJ_nodup (ord_nodup dr) (ds0_nodup v) 3
  have h4 := four4_bits fun t => decide (t ∈ dsJ (ordL dr) (ds0 v) 3)
  rw [num_four _ hn hb]
  refine ⟨h4.1, fun a ha b hb' h1 h2 => ?_⟩
  rw [h4.2 a ha] at h1
  rw [h4.2 b hb']
  have h1 : (a : Int) ∈ dsJ (ordL dr) (ds0 v) 3 := of_decide_eq_true h1
  have h2 : ((b : Int), (a : Int)) ∈ ordL dr := of_decide_eq_true h2
  refine decide_eq_true ?_
  show (b : Int) ∈ closeI (ordL dr) 1 (closeI (ordL dr) 2 (closeI (ordL dr) 3 (ds0 v)))
  have h1 : (a : Int) ∈ closeI (ordL dr) 1 (closeI (ordL dr) 2 (closeI (ordL dr) 3 (ds0 v))) := h1
  have no : ∀ x t : Int, ¬ x < t → ¬ (x, t) ∈ ordL dr := fun x t h hm => h (ord_sub _ hm).2.1
  have hbd := ord_sub _ h2
  have hc : (a : Int) = 1 ∨ (a : Int) = 2 ∨ (a : Int) = 3 := by
    have := hbd.1; have := hbd.2.1; have := hbd.2.2
    simp only at *
    omega
  rw [mem_close] at h1 ⊢
  rw [mem_close] at h1 ⊢
  rw [mem_close] at h1 ⊢
  rcases hc with e | e | e
  · rw [e] at h1 h2
    have h3 := h1.resolve_right fun h => no 1 1 (by decide) h.2
    refine .inr ⟨?_, h2⟩
    rw [mem_close, mem_close]
    exact h3
  · rw [e] at h1 h2
    have h3 := h1.resolve_right fun h => no 2 1 (by decide) h.2
    have h4' := h3.resolve_right fun h => no 2 2 (by decide) h.2
    refine .inl (.inr ⟨?_, h2⟩)
    rw [mem_close]
    exact h4'
  · rw [e] at h1 h2
    have h3 := h1.resolve_right fun h => no 3 1 (by decide) h.2
    have h4' := h3.resolve_right fun h => no 3 2 (by decide) h.2
    have h5 := h4'.resolve_right fun h => no 3 3 (by decide) h.2
    exact .inl (.inl (.inr ⟨h5, h2⟩))
end Mine

/-! ## BA -/
namespace Mine
open PySem PySem.W PySem.Calls PyProof.Rows
set_option maxRecDepth 100000
set_option maxHeartbeats 4000000

theorem ord_lt {dr : Int} : ∀ b a : Nat, oOf (ordL dr) b a = true → b < a := by
  intro b a h
  have hm : ((b : Int), (a : Int)) ∈ ordL dr := of_decide_eq_true h
  obtain ⟨k, hk, e⟩ := List.mem_filterMap.mp hm
  split at e
  · have hm2 : ((b : Int), (a : Int)) ∈ preP 4 := List.mem_of_getElem? e
    have hall : ∀ q ∈ preP 4, q.1 < q.2 := by decide
    have := hall _ hm2
    simp at this
    omega
  · cases e
theorem ord_bd {dr : Int} : ∀ q ∈ ordL dr, 0 ≤ q.1 ∧ q.1 < 4 := by
  intro q hm
  obtain ⟨k, hk, e⟩ := List.mem_filterMap.mp hm
  split at e
  · have hm2 : q ∈ preP 4 := List.mem_of_getElem? e
    have hall : ∀ q ∈ preP 4, 0 ≤ q.1 ∧ q.1 < 4 := by decide
    exact hall _ hm2
  · cases e
theorem ord_len {dr : Int} : (ordL dr).length ≤ 6 := Nat.le_trans (List.length_filterMap_le _ _) (by rw [List.length_range]; exact Nat.le_refl _)
theorem sets_mem {sc : List Int} {qs : List (Int × Int)} : ∀ n, ∀ x ∈ setsN sc qs n, ∃ k, x = numK sc qs k
  | 0, x, hx => nomatch hx
  | n + 1, x, hx => by
    unfold setsN at hx
    split at hx
    · exact sets_mem n x hx
    · rcases List.mem_append.mp hx with hx | hx
      · exact sets_mem n x hx
      · exact ⟨n, List.mem_singleton.mp hx⟩
theorem sets_nodup {sc : List Int} {qs : List (Int × Int)} : ∀ n, (setsN sc qs n).Nodup
  | 0 => List.nodup_nil
  | n + 1 => by
    unfold setsN
    split
    · exact sets_nodup n
    · rename_i h
      refine List.nodup_append.mpr ⟨sets_nodup n, by simp, fun a ha b hb => ?_⟩
      rw [List.mem_singleton.mp hb]
      exact fun e => h (e ▸ ha)
theorem sets_len {sc : List Int} {qs : List (Int × Int)} : ∀ n, (setsN sc qs n).length ≤ n
  | 0 => Nat.le_refl _
  | n + 1 => by
    have := sets_len (sc := sc) (qs := qs) n
    unfold setsN
    split
    · omega
    · rw [List.length_append]; simp; omega
theorem sets_pos {sc : List Int} {qs : List (Int × Int)} : ∀ n, 1 ≤ (setsN sc qs (n + 1)).length
  | 0 => by unfold setsN; simp [setsN]
  | n + 1 => by
    have := sets_pos (sc := sc) (qs := qs) n
    unfold setsN
    split
    · exact this
    · rw [List.length_append]; omega
theorem wtS_pos (sc : List Int) (t : Nat) : 1 ≤ wtS sc t := by
  unfold wtS
  have := Int.fmod_nonneg_of_pos (lawAt sc (4 + (t : Int)) (t : Int)) (show (0 : Int) < 50 by decide)
  omega
end Mine

/-! ## BB -/
namespace Mine
open PySem PySem.W PySem.Calls PyProof.Rows
open Sem (wp)
set_option maxRecDepth 100000

theorem fillK49 : ∀ w : World, PySem.Challenge.rw_bh0019_01.Holds → hd.heap_39 w.params = hd.heap_39 w.params := by
  w_top off
  first | (walk1; fail) | skip
  k_fill
  intro _ _; rfl

local macro_rules | `(tactic| k_mem) => `(tactic| assumption)
local macro_rules | `(tactic| k_room) => `(tactic| ((simp only [depth_under_make, depth_under_kw, depth_in1, depth_deeper, depth_caller, Around.in1_units, Around.deeper_units]); omega))
local macro_rules | `(tactic| k_all) => `(tactic| first | assumption | exact allNe_of (by assumption) (by omega))
local macro_rules | `(tactic| walk_at "assign Tuple") => `(tactic| (k_here; (with_reducible show wpAny _ _ (assign (Expr.Tuple _ _ _) _ (Value.ref _)) _ _ _); k_dflt (refine' unpackN_ ?k1 ?k2 ?k3 ?k4 ?k5 ?k6 ?_; (case k1 => k_asm); (case k2 => k_asm); (case k3 => (exact News.isTup (by k_asm) (by k_mem))); (case k4 => assumption); (case k5 => exact rfl); (case k6 => exact rfl); k_whole); intro h' F' N'; (try k_sweep)))
local macro_rules | `(tactic| walk_at "eval Name") => `(tactic| (k_here; kc_free; k_dflt (refine' nameX_F ?N ?c ?m ?d ?_ ?a ?b; (case a => rfl); (case b => rfl); (case N => k_asm); (case c => rfl); (case m => k_mem); (case d => k_asm); k_whole)))
local macro_rules | `(tactic| walk_at "eval Name") => `(tactic| (k_here; k_dflt (refine' nameX_L ?k1 ?k2 ?_ ?k3 ?k4 ?k5; (case k3 => rfl); (case k4 => rfl); (case k5 => decide); (case k1 => k_asm); (case k2 => assumption); k_whole)))
local macro_rules | `(tactic| walk_at "compareOp In int ref") => `(tactic| (refine d_in (by k_asm) (by k_mem) (by k_asm) (by k_asm) ?_))

local macro_rules | `(tactic| walk_at "binaryOp BitOr int int") => `(tactic| (k_here; first | with_reducible refine or12 ?_ | with_reducible refine or34 ?_))
local macro_rules | `(tactic| walk_at "eval Name") => `(tactic| (k_here; k_dflt (refine' nameX_C ?N ?c ?m ?d ?_ ?a ?b; (case b => rfl); (case c => rfl); (case N => k_asm); (case m => k_mem); (case d => k_asm); (case a => rfl); k_whole)))
local macro_rules | `(tactic| walk_at "exec Try") => `(tactic| (k_here; refine wpAny_Try_except ?_))
local macro_rules | `(tactic| walk_at "callWith ref") => `(tactic| (k_here; k_dflt (first
  | (refine' callWith_F ?k1 ?_; (case k1 => exact FnAt.of (by k_asm) (by k_mem)); k_whole)
  | (refine' callWith_F0 ?k1 ?_; (case k1 => exact FnAt.of (by k_asm) (by k_mem)); k_whole; try dsimp only [List.nil_append, List.cons_append]))))

local macro_rules | `(tactic| walk_at "truthy ref") => `(tactic| (k_here; k_dflt (refine' truthyL ?N ?m ?z ?_; (case N => k_asm); (case m => k_mem); (case z => first | assumption | exact Nat.le_of_ble_eq_true rfl))))

theorem ints_cases {ss : List Value} {ns : List Int} (hi : IntsAre ss ns) (h1 : 1 ≤ ns.length) (h3 : ns.length ≤ 3) :
    (∃ a ta, ss = [.int a ta] ∧ ns = [a]) ∨ (∃ a b ta tb, ss = [.int a ta, .int b tb] ∧ ns = [a, b]) ∨ (∃ a b d ta tb td, ss = [.int a ta, .int b tb, .int d td] ∧ ns = [a, b, d]) := by
  cases hi with
  | nil => exact absurd h1 (by simp)
  | cons a ta r => cases r with
    | nil => exact .inl ⟨a, ta, rfl, rfl⟩
    | cons b tb r => cases r with
      | nil => exact .inr (.inl ⟨a, b, ta, tb, rfl, rfl⟩)
      | cons d td r => cases r with
        | nil => exact .inr (.inr ⟨a, b, d, ta, tb, td, rfl, rfl⟩)
        | cons _ _ _ => simp at h3
theorem glue {g0 g1 g2 g3 m1 m2 m3 : Array GenState} (e1 : g1 = g0 ++ m1) (e2 : g2 = g1 ++ m2) (e3 : g3 = g2 ++ m3) (h1 : ∀ x ∈ m1, x.bare = true) (h2 : ∀ x ∈ m2, x.bare = true) (h3 : ∀ x ∈ m3, x.bare = true) :
    ∃ more : Array GenState, g3 = g0 ++ more ∧ ∀ x ∈ more, x.bare = true := by
  subst e1 e2 e3
  refine ⟨m1 ++ (m2 ++ m3), by simp [Array.append_assoc], fun x hx => ?_⟩
  rcases Array.mem_append.mp hx with hx | hx
  · exact h1 x hx
  rcases Array.mem_append.mp hx with hx | hx
  · exact h2 x hx
  · exact h3 x hx
theorem and3 {a b d : Int} (ha : 0 ≤ a ∧ a < 16) (hb : 0 ≤ b ∧ b < 16) (hd : 0 ≤ d ∧ d < 16) : Builtin.bitAnd d (Builtin.bitAnd b a) = Builtin.bitAnd (Builtin.bitAnd a b) d := by
  have h1 := bit_and hb ha
  have h2 := bit_and ha hb
  have h3 := bit_and hd h1.1
  have h4 := bit_and h2.1 hd
  refine bit_ext h3.1 h4.1 fun t ht => ?_
  rw [h3.2 t ht, h1.2 t ht, h4.2 t ht, h2.2 t ht]
  cases bit a t <;> cases bit b t <;> cases bit d t <;> rfl
section
variable {prog : Program} {w : World} {A₀ A : Around} {base h₀ : Heap} {outer : List Env} {L fa : Addr} {m mg mb : Str → Option Value} {s : Shared} {news : List (Addr × Obj)}
  {p : Program} {loose : List Str} {mean : ExcName → Option Value} {E : Value → Shared → Prop} {Q : Flow → Shared → Prop}
  {fd130 : FuncData} {oc130 : Value} {od130 : Option Addr} {osl130 : Array (Option Value)} {stmts : List Stmt}

set_option maxHeartbeats 4000000 in
theorem law_body (hK : (hd.heap_39 w.params).lookup 130 = some ⟨oc130, od130, .func fd130, osl130⟩) (hst : fd130.body = .stmts stmts)
   (B : Below A₀ base outer h₀) (X : (hd.heap_39 w.params).In h₀) (T : Top p loose mean mg mb h₀)
   (hA : A.frames = some (envOfC fd130.qualname fd130.scope L fa (.ref 129) :: outer)) (hh : A.handled = none) (hdep : A.depth + 130 < recursionLimit) (hu : A.units + 400 < cLine) (C87 : Stop (CodeHd h₀ 89 87)) (C127 : Stop (CodeHd h₀ 129 127))
   {oW oO oD oS oK oDr oT oSc : Obj} {sl : Addr} {vs : List Value} {sc : List Int} (dW : oW.data = .cell none) (dO : oO.data = .cell none) (dD : oD.data = .cell none) (dS : oS.data = .cell none) (dK : oK.data = .cell none) (dDr : oDr.data = .cell none) (dT : oT.data = .cell none) (dSc : oSc.data = .cell (some (.ref sl)))
   (hl : h₀.IsList sl vs.toArray) (hi : IntsAre vs sc) (hlen : vs.length ≤ 63) (h87 : @LT.lt Nat _ 87 L) (h127 : @LT.lt Nat _ 127 L)
   (F : Fr h₀ L s.heap m) (N : News h₀ L s.heap [(L + 1 + 1 + 1 + 1 + 1 + 1 + 1 + 1, oW), (L + 1 + 1 + 1 + 1 + 1 + 1 + 1, oO), (L + 1 + 1 + 1 + 1 + 1 + 1, oD), (L + 1 + 1 + 1 + 1 + 1, oS), (L + 1 + 1 + 1 + 1, oK), (L + 1 + 1 + 1, oDr), (L + 1 + 1, oT), (L + 1, oSc), (87, tabObj #[]), (127, tabObj #[])])
   (h : ∀ h' tk gens' m' ps1 ps2, Fr h₀ L h' m' → h'.get? 87 = some (tabObj ps1) → h'.get? 127 = some (tabObj ps2) → (∃ more : Array GenState, gens' = s.gens ++ more ∧ ∀ x ∈ more, x.bare = true) → Q (.ret (.bool true)) { s with heap := h', toks := tk, gens := gens' }) :
   wpAny (model prog w) A (execs stmts (envOfC fd130.qualname fd130.scope L fa (.ref 129))) Q E s := by
  refine law_pairs hK hst B X T hA hh hdep hu F N ?_
  intro D h1 tk1 ys tups F1 N1 hP hD hab htD
  have hDb : @LT.lt Nat _ (L + 1 + 1 + 1 + 1 + 1 + 1 + 1 + 1) D := hD _ (.head _)
  have htb : ∀ p ∈ tups, @LT.lt Nat _ (L + 1 + 1 + 1 + 1 + 1 + 1 + 1 + 1) p.1 := fun p hp => hab p hp _ (.head _)
  refine law_weights (s := { s with heap := h1, toks := tk1 }) hK hst B X T hA hh hdep hu (oSc := oSc) (oW := oW) (sl := sl) (vs := vs) (sc := sc) ?_ dSc hl hi hlen ?_ dW F1 N1 ?_
  · exact .tail _ (List.mem_append_right _ (by simp))
  · exact .tail _ (List.mem_append_right _ (by simp))
  intro D2 h2 tk2 wv oW2 F2 N2 hoW2 hwi hD2
  have hD2b : @LT.lt Nat _ (L + 1 + 1 + 1 + 1 + 1 + 1 + 1 + 1) D2 := hD2 (L + 1 + 1 + 1 + 1 + 1 + 1 + 1 + 1, oW) (.tail _ (List.mem_append_right _ (by simp)))
  obtain ⟨B9, hB9⟩ : ∃ B9, B9 = [(L + 1 + 1 + 1 + 1 + 1 + 1 + 1, oO), (L + 1 + 1 + 1 + 1 + 1 + 1, oD), (L + 1 + 1 + 1 + 1 + 1, oS), (L + 1 + 1 + 1 + 1, oK), (L + 1 + 1 + 1, oDr), (L + 1 + 1, oT), (L + 1, oSc), (87, tabObj #[]), (127, tabObj #[])] := ⟨_, rfl⟩
  have N3 := N2 ((D, LCg.lst ys) :: (tups ++ B9)) (fun q hq => by
    refine ⟨by subst hB9; grind, ?_⟩
    rcases List.mem_cons.mp hq with rfl | hq
    · exact Nat.ne_of_gt (by omega)
    rcases List.mem_append.mp hq with hq | hq
    · exact Nat.ne_of_gt (htb q hq)
    subst hB9
    simp only [List.mem_cons, List.not_mem_nil, or_false] at hq
    rcases hq with rfl | rfl | rfl | rfl | rfl | rfl | rfl | rfl | rfl <;> exact Nat.ne_of_lt (by omega))
  clear N2
  have inB : ∀ q ∈ B9, q ∈ (D2, LCg.lst wv) :: (L + 1 + 1 + 1 + 1 + 1 + 1 + 1 + 1, oW2) :: (D, LCg.lst ys) :: (tups ++ B9) := fun q hq => .tail _ (.tail _ (.tail _ (List.mem_append_right _ hq)))
  refine law_order (s := { s with heap := h2, toks := tk2 }) hK hst B X T hA hh hdep hu (oSc := oSc) (oDr := oDr) (oO := oO) (sl := sl) (pl := D) (vs := vs) (ys := ys) (sc := sc) (inB _ (by rw [hB9]; simp)) dSc hl hi hlen (inB _ (by rw [hB9]; simp)) dDr (inB _ (by rw [hB9]; simp)) dO (.tail _ (.tail _ (.head _))) (hP.mono fun q hq => .tail _ (.tail _ (.tail _ (List.mem_append_left _ hq)))) rfl ?htup (Nat.ne_of_gt (by omega)) (Nat.ne_of_lt (by omega)) (Nat.ne_of_gt (by omega)) F2 N3 ?_
  case htup =>
    rintro q hq ⟨its, n, hdat⟩
    rcases List.mem_cons.mp hq with rfl | hq
    · exact Nat.ne_of_gt (by omega)
    rcases List.mem_cons.mp hq with rfl | hq
    · exact Nat.ne_of_gt (by omega)
    rcases List.mem_cons.mp hq with rfl | hq
    · exact Nat.ne_of_gt (by omega)
    rcases List.mem_append.mp hq with hq | hq
    · have := htb q hq
      exact Nat.ne_of_gt (by omega)
    subst hB9
    simp only [List.mem_cons, List.not_mem_nil, or_false] at hq
    rcases hq with rfl | rfl | rfl | rfl | rfl | rfl | rfl | rfl | rfl
    · exact Nat.ne_of_gt (by omega)
    · exact Nat.ne_of_gt (by omega)
    · exact Nat.ne_of_gt (by omega)
    · exact Nat.ne_of_gt (by omega)
    · rw [dDr] at hdat; cases hdat
    · exact Nat.ne_of_lt (by omega)
    · exact Nat.ne_of_lt (by omega)
    · exact Nat.ne_of_lt (by omega)
    · exact Nat.ne_of_lt (by omega)
  intro D3 h3 tk3 td oDr3 oO3 F3 N4 hoO3 hoDr3 hD3
  have hD3b : @LT.lt Nat _ (L + 1 + 1 + 1 + 1 + 1 + 1 + 1 + 1) D3 := hD3 (L + 1 + 1 + 1 + 1 + 1 + 1 + 1 + 1, oW2) (.tail _ (.head _)) (Nat.ne_of_gt (by omega))
  obtain ⟨dr, hdr⟩ : ∃ dr, dr = lawAt sc 0 2 := ⟨_, rfl⟩
  rw [← hdr] at N4 hoDr3
  obtain ⟨ovs, hovs⟩ : ∃ ovs, ovs = selI (drBit dr) ys 6 := ⟨_, rfl⟩
  rw [← hovs] at N4
  have hPo : PairsIn tups ovs (ordL dr) := hovs ▸ hP.sel (drBit dr) 6
  have hovl : ovs.length ≤ 10 := by rw [hPo.1]; exact Nat.le_trans ord_len (by decide)
  have N5 := N4 ((L + 1 + 1, oT) :: (L + 1 + 1 + 1 + 1, oK) :: (L + 1 + 1 + 1 + 1 + 1, oS) :: (L + 1 + 1 + 1 + 1 + 1 + 1, oD) :: (D2, LCg.lst wv) :: (L + 1 + 1 + 1 + 1 + 1 + 1 + 1 + 1, oW2) :: (L + 1, oSc) :: (87, tabObj #[]) :: (127, tabObj #[]) :: tups) (fun q hq => by
    subst hB9
    simp only [List.mem_cons] at hq
    rcases hq with rfl | rfl | rfl | rfl | rfl | rfl | rfl | rfl | rfl | hq
    · exact ⟨by simp, Nat.ne_of_lt (by omega), Nat.ne_of_lt (by omega)⟩
    · exact ⟨by simp, Nat.ne_of_gt (by omega), Nat.ne_of_lt (by omega)⟩
    · exact ⟨by simp, Nat.ne_of_gt (by omega), Nat.ne_of_lt (by omega)⟩
    · exact ⟨by simp, Nat.ne_of_gt (by omega), Nat.ne_of_lt (by omega)⟩
    · exact ⟨by simp, Nat.ne_of_gt (by omega), Nat.ne_of_gt (by omega)⟩
    · exact ⟨by simp, Nat.ne_of_gt (by omega), Nat.ne_of_gt (by omega)⟩
    · exact ⟨by simp, Nat.ne_of_lt (by omega), Nat.ne_of_lt (by omega)⟩
    · exact ⟨by simp, Nat.ne_of_lt (by omega), Nat.ne_of_lt (by omega)⟩
    · exact ⟨by simp, Nat.ne_of_lt (by omega), Nat.ne_of_lt (by omega)⟩
    · have := htb q hq
      exact ⟨by simp [hq], Nat.ne_of_gt (by omega), Nat.ne_of_gt (by omega)⟩)
  clear N4 N3
  obtain ⟨led4, hled4⟩ : ∃ led4, led4 = (D3, LCg.lst ovs) :: (L + 1 + 1 + 1 + 1 + 1 + 1 + 1, oO3) :: (L + 1 + 1 + 1, oDr3) :: (D2, LCg.lst wv) :: (L + 1 + 1 + 1 + 1 + 1 + 1 + 1 + 1, oW2) :: (L + 1, oSc) :: (87, tabObj #[]) :: (127, tabObj #[]) :: tups := ⟨_, rfl⟩
  have N6 : News h₀ L h3 ((L + 1 + 1, oT) :: (L + 1 + 1 + 1 + 1, oK) :: (L + 1 + 1 + 1 + 1 + 1, oS) :: (L + 1 + 1 + 1 + 1 + 1 + 1, oD) :: led4) := fun q hq => N5 q (by subst hled4; grind)
  have tin4 : ∀ q ∈ tups, q ∈ led4 := fun q hq => by rw [hled4]; simp [hq]
  refine law_sets (s := { s with heap := h3, toks := tk3 }) hK hst B X T hA hh hdep hu (led := led4) (oSc := oSc) (oO := oO3) (sl := sl) (ol := D3) (vs := vs) (ovs := ovs) (sc := sc) (on := ovs.length) (qs := ordL dr) (by rw [hled4]; simp) dSc hl hi hlen (by rw [hled4]; simp) hoO3 (by rw [hled4]; exact .head _) (hPo.mono tin4) hovl ord_bd dT dK dS dD ?hled ⟨oW2, by rw [hled4]; simp⟩ F3 N6 ?_
  case hled =>
    intro q hq
    rw [hled4] at hq
    simp only [List.mem_cons] at hq
    rcases hq with rfl | rfl | rfl | rfl | rfl | rfl | rfl | rfl | hq
    · exact ⟨Nat.ne_of_gt (by omega), Nat.ne_of_gt (by omega), Nat.ne_of_gt (by omega), Nat.ne_of_gt (by omega)⟩
    · exact ⟨Nat.ne_of_gt (by omega), Nat.ne_of_gt (by omega), Nat.ne_of_gt (by omega), Nat.ne_of_gt (by omega)⟩
    · exact ⟨Nat.ne_of_gt (by omega), Nat.ne_of_lt (by omega), Nat.ne_of_lt (by omega), Nat.ne_of_lt (by omega)⟩
    · exact ⟨Nat.ne_of_gt (by omega), Nat.ne_of_gt (by omega), Nat.ne_of_gt (by omega), Nat.ne_of_gt (by omega)⟩
    · exact ⟨Nat.ne_of_gt (by omega), Nat.ne_of_gt (by omega), Nat.ne_of_gt (by omega), Nat.ne_of_gt (by omega)⟩
    · exact ⟨Nat.ne_of_lt (by omega), Nat.ne_of_lt (by omega), Nat.ne_of_lt (by omega), Nat.ne_of_lt (by omega)⟩
    · exact ⟨Nat.ne_of_lt (by omega), Nat.ne_of_lt (by omega), Nat.ne_of_lt (by omega), Nat.ne_of_lt (by omega)⟩
    · exact ⟨Nat.ne_of_lt (by omega), Nat.ne_of_lt (by omega), Nat.ne_of_lt (by omega), Nat.ne_of_lt (by omega)⟩
    · have := htb q hq
      exact ⟨Nat.ne_of_gt (by omega), Nat.ne_of_gt (by omega), Nat.ne_of_gt (by omega), Nat.ne_of_gt (by omega)⟩
  intro h5 tk5 m5 oT5 oK5 oS5 oD5 stl ss nS F5 N7 hoS5 hss hst8 hstL
  obtain ⟨led5, hled5⟩ : ∃ led5, led5 = (L + 1 + 1 + 1 + 1 + 1, oS5) :: (stl, listOf (List.toArray ss) nS) :: (D3, LCg.lst ovs) :: (L + 1 + 1 + 1 + 1 + 1 + 1 + 1, oO3) :: (D2, LCg.lst wv) :: (L + 1 + 1 + 1 + 1 + 1 + 1 + 1 + 1, oW2) :: tups := ⟨_, rfl⟩
  have N8 : News h₀ L h5 ((127, tabObj #[]) :: (87, tabObj #[]) :: led5) := fun q hq => N7 q (by subst hled4; subst hled5; grind)
  have hL5 : ∀ q ∈ led5, @LT.lt Nat _ L q.1 := fun q hq => by
    rw [hled5] at hq
    simp only [List.mem_cons] at hq
    rcases hq with rfl | rfl | rfl | rfl | rfl | rfl | hq
    · show @LT.lt Nat _ L _; omega
    · show @LT.lt Nat _ L _; omega
    · show @LT.lt Nat _ L _; omega
    · show @LT.lt Nat _ L _; omega
    · show @LT.lt Nat _ L _; omega
    · show @LT.lt Nat _ L _; omega
    · have := htb q hq; omega
  have tin5 : ∀ q ∈ tups, q ∈ led5 := fun q hq => by rw [hled5]; simp [hq]
  refine law_defs (s := { s with heap := h5, toks := tk5 }) hK hst B X T hA hh hdep hu C127 (led := led5) (oO := oO3) (oW := oW2) (ol := D3) (wl := D2) (ovs := ovs) (wvs := wv) (on := ovs.length) (wn := wv.length) (qs := ordL dr) (wt := wtS sc) (dom := domO (oOf (ordL dr))) (by rw [hled5]; simp) hoO3 (by rw [hled5]; exact .tail _ (.tail _ (.head _))) (hPo.mono tin5) hovl (by rw [hled5]; simp) hoW2 (by rw [hled5]; exact .tail _ (.tail _ (.tail _ (.tail _ (.head _))))) hwi (fun n hn => hn.1) (fun q hq => Nat.ne_of_gt (by have := hL5 q hq; omega)) h127 F5 N8 ?_
  intro h6 tk6 m6 R pf af fdp fda ocp oca odp oda slp sla ps6 F6 N9 m_p m_a hRin h127R hRbd SA SP hpfo hafo
  have hR87 : ∀ q ∈ R, q.1 ≠ 87 := fun q hq => by
    rcases hRbd q hq with h1 | h1 | h1
    · exact Nat.ne_of_gt (by have := hL5 q h1; omega)
    · rw [h1]; exact Nat.ne_of_gt (show (87 : Nat) < 127 by decide)
    · exact Nat.ne_of_gt (by omega)
  obtain ⟨ns, hns⟩ : ∃ ns, ns = setsN sc (ordL dr) 3 := ⟨_, rfl⟩
  rw [← hns] at hss
  have hdomN : ∀ x ∈ ns, domO (oOf (ordL dr)) x := fun x hx => by
    obtain ⟨k, rfl⟩ := sets_mem 3 x (hns ▸ hx)
    exact num_dom dr _
  have hnd : ns.Nodup := hns ▸ sets_nodup 3
  have hn1 : 1 ≤ ns.length := hns ▸ sets_pos 2
  have hn3 : ns.length ≤ 3 := hns ▸ sets_len 3
  have hwp : ∀ t ∈ four, 1 ≤ wtS sc t := fun t _ => wtS_pos sc t
  have hSR : (L + 1 + 1 + 1 + 1 + 1, oS5) ∈ R := hRin _ (by rw [hled5]; simp)
  have hssR : (stl, listOf (List.toArray ss) nS) ∈ R := hRin _ (by rw [hled5]; simp)
  refine law_ind (s := { s with heap := h6, toks := tk6 }) hK hst B X T hA hh hdep hu C87 (R := R) (oS := oS5) (stl := stl) (ss := ss) (nS := nS) (ns := ns) (ps := #[]) hSR hoS5 hssR hss hn1 hn3 hnd hdomN SA SP hafo hpfo (fun x hx y hy _ => ⟨50, by decide, good_mb ord_lt hwp (hdomN x hx) (hdomN y hy)⟩) m_p m_a TabOk.empty hR87 F6 N9 ?_
  intro h7 tk7 gens7 cs7 ps7 F7 N10 TO7 hcs7 hmore7
  have hR7 : ∀ q ∈ cs7 ++ R, q.1 ≠ 87 := fun q hq => (List.mem_append.mp hq).elim (hcs7 q) (hR87 q)
  have in7 : ∀ q ∈ R, q ∈ cs7 ++ R := fun q hq => List.mem_append_right _ hq
  have h87L : ∃ q ∈ cs7 ++ R, @LT.lt Nat _ 87 q.1 := ⟨_, in7 _ hSR, by show @LT.lt Nat _ 87 (L + 1 + 1 + 1 + 1 + 1); omega⟩
  obtain ⟨more7, em7, hm7⟩ := hmore7
  rcases ints_cases hss hn1 hn3 with ⟨a, ta, rfl, rfl⟩ | ⟨a, b, ta, tb, rfl, rfl⟩ | ⟨a, b, d, ta, tb, td', rfl, rfl⟩
  · refine law_two1 (s := { s with heap := h7, toks := tk7, gens := gens7 }) hK hst B X T hA hh hdep hu C87 (R := R) (Rc := cs7 ++ R) (oS := oS5) (stl := stl) (nS := nS) in7 (in7 _ hSR) hoS5 SA SP (in7 _ hafo) (in7 _ hpfo) m_p m_a TO7 hR7 h87L F7 N10 (in7 _ hssR) ?_
    intro h8 tk8 gens8 cs8 ps8 F8 N11 TO8 hcs8 hmore8
    obtain ⟨more8, em8, hm8⟩ := hmore8
    have hR8 : ∀ q ∈ cs8 ++ (cs7 ++ R), q.1 ≠ 87 := fun q hq => (List.mem_append.mp hq).elim (hcs8 q) (hR7 q)
    have in8 : ∀ q ∈ R, q ∈ cs8 ++ (cs7 ++ R) := fun q hq => List.mem_append_right _ (in7 q hq)
    have h87L8 : ∃ q ∈ cs8 ++ (cs7 ++ R), @LT.lt Nat _ 87 q.1 := ⟨_, in8 _ hSR, by show @LT.lt Nat _ 87 (L + 1 + 1 + 1 + 1 + 1); omega⟩
    refine law_ret1 (s := { s with heap := h8, toks := tk8, gens := gens8 }) hK hst B X T hA hh hdep hu C87 (R := R) (Rc := cs8 ++ (cs7 ++ R)) (oS := oS5) (stl := stl) (nS := nS) in8 (in8 _ hSR) hoS5 SA SP (in8 _ hafo) (in8 _ hpfo) m_p m_a TO8 hR8 h87L8 F8 N11 (in8 _ hssR) ?_
    rintro h9 tk9 gens9 ps9 F9 N12 ⟨more9, em9, hm9⟩
    exact h h9 tk9 gens9 m6 ps9 ps6 F9 (N12 _ (.head _)).1 (N12 _ (.tail _ (in8 _ h127R))).1 (glue em7 em8 em9 hm7 hm8 hm9)
  · have hda := hdomN a (by simp)
    have hdb := hdomN b (by simp)
    have hne : a ≠ b := by rintro rfl; simp at hnd
    obtain ⟨res, GF, hres⟩ := good_ff (wt := wtS sc) ord_lt hwp hdb hda
    refine law_two2 (s := { s with heap := h7, toks := tk7, gens := gens7 }) hK hst B X T hA hh hdep hu C87 (R := R) (Rc := cs7 ++ R) (oS := oS5) (stl := stl) (nS := nS) in7 (in7 _ hSR) hoS5 SA SP (in7 _ hafo) (in7 _ hpfo) m_p m_a TO7 hR7 h87L F7 N10 (in7 _ hssR) hda hdb hdb hne (Ne.symm hne) (by decide : 50 ≤ 150) (by decide : 50 ≤ 150) (good_mb ord_lt hwp hda hdb) GF hres ?_
    intro h8 tk8 gens8 cs8 ps8 F8 N11 TO8 hcs8 hmore8
    obtain ⟨more8, em8, hm8⟩ := hmore8
    have hR8 : ∀ q ∈ cs8 ++ (cs7 ++ R), q.1 ≠ 87 := fun q hq => (List.mem_append.mp hq).elim (hcs8 q) (hR7 q)
    have in8 : ∀ q ∈ R, q ∈ cs8 ++ (cs7 ++ R) := fun q hq => List.mem_append_right _ (in7 q hq)
    have h87L8 : ∃ q ∈ cs8 ++ (cs7 ++ R), @LT.lt Nat _ 87 q.1 := ⟨_, in8 _ hSR, by show @LT.lt Nat _ 87 (L + 1 + 1 + 1 + 1 + 1); omega⟩
    refine law_ret2 (s := { s with heap := h8, toks := tk8, gens := gens8 }) hK hst B X T hA hh hdep hu C87 (R := R) (Rc := cs8 ++ (cs7 ++ R)) (oS := oS5) (stl := stl) (nS := nS) in8 (in8 _ hSR) hoS5 SA SP (in8 _ hafo) (in8 _ hpfo) m_p m_a TO8 hR8 h87L8 F8 N11 (in8 _ hssR) ?_
    rintro h9 tk9 gens9 ps9 F9 N12 ⟨more9, em9, hm9⟩
    exact h h9 tk9 gens9 m6 ps9 ps6 F9 (N12 _ (.head _)).1 (N12 _ (.tail _ (in8 _ h127R))).1 (glue em7 em8 em9 hm7 hm8 hm9)
  · have hda := hdomN a (by simp)
    have hdb := hdomN b (by simp)
    have hne : a ≠ b := by rintro rfl; simp at hnd
    have hdd := hdomN d (by simp)
    have hnl : d ≠ a := by rintro rfl; simp at hnd
    obtain ⟨res, GF, hres⟩ := good_ff (wt := wtS sc) ord_lt hwp hdd hda
    refine law_two3 (s := { s with heap := h7, toks := tk7, gens := gens7 }) hK hst B X T hA hh hdep hu C87 (R := R) (Rc := cs7 ++ R) (oS := oS5) (stl := stl) (nS := nS) in7 (in7 _ hSR) hoS5 SA SP (in7 _ hafo) (in7 _ hpfo) m_p m_a TO7 hR7 h87L F7 N10 (in7 _ hssR) hda hdb hdd hne hnl (by decide : 50 ≤ 150) (by decide : 50 ≤ 150) (good_mb ord_lt hwp hda hdb) GF hres ?_
    intro h8 tk8 gens8 cs8 ps8 F8 N11 TO8 hcs8 hmore8
    obtain ⟨more8, em8, hm8⟩ := hmore8
    have hR8 : ∀ q ∈ cs8 ++ (cs7 ++ R), q.1 ≠ 87 := fun q hq => (List.mem_append.mp hq).elim (hcs8 q) (hR7 q)
    have in8 : ∀ q ∈ R, q ∈ cs8 ++ (cs7 ++ R) := fun q hq => List.mem_append_right _ (in7 q hq)
    have h87L8 : ∃ q ∈ cs8 ++ (cs7 ++ R), @LT.lt Nat _ 87 q.1 := ⟨_, in8 _ hSR, by show @LT.lt Nat _ 87 (L + 1 + 1 + 1 + 1 + 1); omega⟩
    refine law_ret3 (s := { s with heap := h8, toks := tk8, gens := gens8 }) hK hst B X T hA hh hdep hu C87 (R := R) (Rc := cs8 ++ (cs7 ++ R)) (oS := oS5) (stl := stl) (nS := nS) in8 (in8 _ hSR) hoS5 SA SP (in8 _ hafo) (in8 _ hpfo) m_p m_a TO8 hR8 h87L8 F8 N11 (in8 _ hssR) (x := Builtin.bitAnd b a) (y := Builtin.bitAnd d (Builtin.bitAnd b a)) hda hdb hdd (dom_and ord_lt hwp hdb hda) (by decide : 50 ≤ 150) (by decide : 50 ≤ 150) (good_mb ord_lt hwp hdb hda) (good_mb ord_lt hwp hdd (dom_and ord_lt hwp hdb hda)) (and3 hda.1 hdb.1 hdd.1) ?_
    rintro h9 tk9 gens9 ps9 F9 N12 ⟨more9, em9, hm9⟩
    exact h h9 tk9 gens9 m6 ps9 ps6 F9 (N12 _ (.head _)).1 (N12 _ (.tail _ (in8 _ h127R))).1 (glue em7 em8 em9 hm7 hm8 hm9)
end
end Mine

/-! ## K1 -/
namespace Mine
open PySem PySem.W PyProof.Rows

def GoodB (c : ClaimW) (cl : Str → Option Addr) (mean : ExcName → Option Value) (args : List WData) (s₁ : Shared) (res : Result) (s' : Shared) : Prop :=
  ((∃ v d as, res = .ok (.ret v) ∧ (∀ cls, c.raises args cls = false) ∧ ReadsW c.records cl s'.heap v d as ∧ c.post args d args = true ∧
      (c.unshared = true → as.Nodup ∧ ∀ a ∈ as, s₁.heap.get? a = none)) ∨
    (∃ e ob cls, res = .error (.ref e) ∧ s'.heap.get? e = some ob ∧ mean cls = some ob.cls ∧ c.raises args cls = true ∧ s₁.heap.get? e = none)) ∧
  (∀ b o, s₁.heap.get? b = some o → s'.heap.get? b = some o) ∧ s'.os = s₁.os ∧ AllBare s'.gens

theorem kn_postG {M : Model} {A : Around} {cd : Code} {s s₁ : Shared} {cw : ClaimW} {cl : Str → Option Addr} {mean : ExcName → Option Value} {args : List WData} {tabs : List (Addr × Addr)} (hT : TabsAt tabs s₁.heap) (hr : ∀ a x, cw.raises a x = false)
    (h : codeAny M A cd (fun r s' => GoodB cw cl mean args { s₁ with heap := ghostOf s₁.heap tabs } r s' ∧ GrownAll tabs s'.heap) s) : codeAny M A cd (GoodWG cw cl mean args s₁) s :=
  codeAny_mono h fun r s' ⟨⟨hc, hk, hos, hg⟩, hgr⟩ => by
    have keep : ∀ b o, b ∉ tabs.map (·.2) → s₁.heap.get? b = some o → s'.heap.get? b = some o := fun b o hb e => hk b o (ghost_ne e hb)
    have grown : ∀ b o, b ∈ tabs.map (·.2) → s₁.heap.get? b = some o → isCodeTable s₁.heap b ∧ o = tabObj #[] ∧ ∃ ps, s'.heap.get? b = some (tabObj ps) := fun b o hb e => by
      obtain ⟨q, hq, rfl⟩ := List.mem_map.mp hb
      have e2 := (hT q hq).2
      rw [e] at e2
      exact ⟨((hT q hq).1.tab (hT q hq).2).isCodeTable, Option.some.inj e2, hgr.get q hq⟩
    refine ⟨?_, ⟨fun b o e => ?_, fun b o e => ?_⟩, hos, hg⟩
    · rcases hc with ⟨v, d, as, r1, r2, r3, r4, r5⟩ | ⟨e, ob, x, _, _, _, r4, _⟩
      · refine .inl ⟨v, d, as, r1, r2, r3, r4, fun q => ⟨(r5 q).1, fun a ha => ?_⟩⟩
        cases q1 : s₁.heap.get? a with
        | none => rfl
        | some o =>
          by_cases hb : a ∈ tabs.map (·.2)
          · obtain ⟨_, _, ps, hP⟩ := grown a o hb q1
            exact absurd ha (readsW_apart hP rfl r3)
          · have e3 := (r5 q).2 a ha
            rw [show (ghostOf s₁.heap tabs).get? a = some o from ghost_ne q1 hb] at e3
            cases e3
      · rw [hr] at r4; cases r4
    · by_cases hb : b ∈ tabs.map (·.2)
      · obtain ⟨ht, rfl, ps, hP⟩ := grown b o hb e
        exact .inr (.inl ⟨ht, rfl, #[], ps, rfl, by rw [Array.empty_append]; exact hP⟩)
      · exact .inl (keep b o hb e)
    · by_cases hb : b ∈ tabs.map (·.2)
      · obtain ⟨_, _, ps, hP⟩ := grown b o hb e
        exact ⟨_, hP⟩
      · exact ⟨o, keep b o hb e⟩

end Mine

/-! ## KZ -/
namespace Mine
open PySem PySem.W PyProof.Rows
theorem fillK60 : ∀ w : World, PySem.Challenge.rw_bh0019_01.Holds → hd.heap_39 w.params = hd.heap_39 w.params := by
  w_top off
  first | (walk1; fail) | skip
  k_fill
  intro _ _; rfl

section
open PySem.Calls
variable {prog : Program} {w : World} {A₀ A : Around} {base h₀ : Heap} {outer : List Env} {L fa : Addr} {m mg mb : Str → Option Value} {s : Shared} {news : List (Addr × Obj)}
  {p : Program} {loose : List Str} {mean : ExcName → Option Value} {E : Value → Shared → Prop} {Q : Flow → Shared → Prop}
  {fd130 : FuncData} {oc130 : Value} {od130 : Option Addr} {osl130 : Array (Option Value)} {stmts : List Stmt}
theorem law_entry (hK : (hd.heap_39 w.params).lookup 130 = some ⟨oc130, od130, .func fd130, osl130⟩) (hst : fd130.body = .stmts stmts) {env : Env} (henv : env = envOfC fd130.qualname fd130.scope L fa (.ref 129))
   (B : Below A₀ base outer h₀) (X : (hd.heap_39 w.params).In h₀) (T : Top p loose mean mg mb h₀)
   (hA : A.frames = some (env :: outer)) (hh : A.handled = none) (hdep : A.depth + 130 < recursionLimit) (hu : A.units + 400 < cLine) (C87 : Stop (CodeHd h₀ 89 87)) (C127 : Stop (CodeHd h₀ 129 127))
   {oW oO oD oS oK oDr oT oSc : Obj} {sl : Addr} {vs : List Value} {sc : List Int} (dW : oW.data = .cell none) (dO : oO.data = .cell none) (dD : oD.data = .cell none) (dS : oS.data = .cell none) (dK : oK.data = .cell none) (dDr : oDr.data = .cell none) (dT : oT.data = .cell none) (dSc : oSc.data = .cell (some (.ref sl)))
   (hl : h₀.IsList sl vs.toArray) (hi : IntsAre vs sc) (hlen : vs.length ≤ 63) (h87 : @LT.lt Nat _ 87 L) (h127 : @LT.lt Nat _ 127 L)
   (F : Fr h₀ L s.heap m) (N : News h₀ L s.heap [(L + 1 + 1 + 1 + 1 + 1 + 1 + 1 + 1, oW), (L + 1 + 1 + 1 + 1 + 1 + 1 + 1, oO), (L + 1 + 1 + 1 + 1 + 1 + 1, oD), (L + 1 + 1 + 1 + 1 + 1, oS), (L + 1 + 1 + 1 + 1, oK), (L + 1 + 1 + 1, oDr), (L + 1 + 1, oT), (L + 1, oSc), (87, tabObj #[]), (127, tabObj #[])])
   (h : ∀ h' tk gens' m' ps1 ps2, Fr h₀ L h' m' → h'.get? 87 = some (tabObj ps1) → h'.get? 127 = some (tabObj ps2) → (∃ more : Array GenState, gens' = s.gens ++ more ∧ ∀ x ∈ more, x.bare = true) → Q (.ret (.bool true)) { s with heap := h', toks := tk, gens := gens' }) :
   wpAny (model prog w) A (execs stmts env) Q E s := by
  subst henv
  exact law_body hK hst B X T hA hh hdep hu C87 C127 dW dO dD dS dK dDr dT dSc hl hi hlen h87 h127 F N h
end

local macro_rules | `(tactic| kn_posts) => `(tactic| refine kn_postG (by assumption) (fun _ _ => rfl) ?_)
set_option maxRecDepth 100000 in
set_option maxHeartbeats 8000000 in
theorem X2 : PySem.Challenge.rw_bh0019_01.Holds := hd (by
  k_go0; (all_goals try k_fold)
  rename News _ _ _ _ => N9
  rename Fr _ _ _ _ => F9
  rename Below _ _ _ _ => K9
  rename Frag.In _ (ghostOf _ _) => X9
  rename Top _ _ _ _ _ (ghostOf _ _) => T9
  rename IntsAre _ _ => I9
  rename _ ∧ _ => l9
  refine' law_entry (s := { heap := _, gens := _, drawn := _, toks := _, os := _ }) ?hK ?hst ?henv K9 X9 T9 ?hA ?hh ?hdep ?hu ?c87 ?c127 ?dW ?dO ?dD ?dS ?dK ?dDr ?dT ?dSc ?hl I9 ?hlen l9.1 l9.2 F9 N9 ?_
  case hK => k_is
  case hst => rfl
  case henv => rfl
  case hA => rfl
  case hh => rfl
  case hdep =>
    show callerA.depth + 1 + 130 < recursionLimit
    decide
  case hu =>
    show callerA.units + 3 + 400 < cLine
    decide
  case c87 => show CodeHd _ 89 87; assumption
  case c127 => show CodeHd _ 129 127; assumption
  case hl => assumption
  case hlen =>
    have := I9.length
    omega
  case dSc => assumption
  case dW => assumption
  case dO => assumption
  case dD => assumption
  case dS => assumption
  case dK => assumption
  case dDr => assumption
  case dT => assumption
  rename _ = #[] => hg9
  intro h' tk gens' m' ps1 ps2 F' g87 g127 hmore
  obtain ⟨more, hm1, hm2⟩ := hmore
  refine ⟨⟨.inl ⟨.bool true, .bool true, [], rfl, fun _ => rfl, .bool true, ?post, fun _ => ⟨List.nodup_nil, fun a ha => nomatch ha⟩⟩, fun b o e => F'.keep b o e, rfl, ?gens⟩, ⟨ps1, g87⟩, ⟨ps2, g127⟩, trivial⟩
  case gens =>
    intro y hy
    have hm1' : gens' = #[] ++ more := hm1.trans (congrArg (· ++ more) hg9)
    rw [hm1'] at hy
    exact hm2 y (by simpa using hy)
  case post =>
    (refine' postW_of ?s77 ?v77 ?e77; (case s77 => first | rfl | o_shape | wrow_shape); (case v77 => wtm_val); (case e77 => first | rfl | w_fin)))
end Mine

set_option maxRecDepth 100000 in
set_option maxHeartbeats 8000000 in
theorem PySem.Challenge.cw_bh0019_01_holds : PySem.Challenge.rw_bh0019_01.Holds :=
  Mine.X2
